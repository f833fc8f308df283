import PyProof.Rows.All
import Wide.All
import OpenK.AllK
import KE.KDictList
import KE.KEqDict
import KE.KTryMore
import Wide.FinOn
import PySem.Challenge.RW_ay0013_01
set_option Elab.async false
set_option maxRecDepth 100000
set_option linter.all false
section
open PySem PySem.W PyProof.Rows
set_option maxHeartbeats 1000000
namespace Mine
noncomputable def vw : Program := { Challenge.pw_ay0013_01 with main := { Challenge.pw_ay0013_01.main with body := ((((Challenge.pw_ay0013_01.main.body.eraseIdx 24).eraseIdx 11).eraseIdx 8).eraseIdx 3).eraseIdx 1 } }
theorem left_boot {p q : Program} {loose : List Str} {Xt : Shared → Bool} {α : Type} {Yf : Shared → α} {Ya : World → α} {N : Nat} {g0 : Bool} {H₀ : Params → Heap} {gs₀ : Array GenState} {d₀ : Drawn} {k₀ : Nat}
    (op : ∀ w : World, (fencedOpening treeTable p w N).map (fun s => (s.heap, s.gens, s.drawn, s.toks)) = some (H₀ w.params, gs₀, d₀, k₀))
    (h₁ : ∀ (w : World) (os : OsState), (topFrom treeTable p w N ⟨H₀ w.params, gs₀, d₀, k₀, os⟩).map (openSeen q loose (importedModules p.main.body) Xt g0) = some (openGood q loose))
    (h₂ : ∀ (w : World) (os : OsState), (topFrom treeTable p w N ⟨H₀ w.params, gs₀, d₀, k₀, os⟩).map Yf = some (Ya w)) : LeftO p q loose Xt Yf Ya N g0 := fun w => by
  obtain ⟨⟨h, gs, d, k, os⟩, e, e'⟩ := Option.map_eq_some_iff.mp (op w)
  obtain ⟨rfl, rfl, rfl, rfl⟩ : h = H₀ w.params ∧ gs = gs₀ ∧ d = d₀ ∧ k = k₀ := by simpa using e'
  unfold openEnds
  rw [e]
  obtain ⟨s, e1, e2⟩ := Option.map_eq_some_iff.mp (h₁ w os)
  have e3 := h₂ w os
  rw [e1] at e3
  show (topFrom treeTable p w N _).map _ = _
  rw [e1]
  exact congrArg some (Prod.ext e2 (Option.some_inj.mp e3))
theorem well : PySem.Challenge.rw_ay0013_01.wellSaid = true := by
  unfold OpenLaw.wellSaid
  repeat' first
    | with_reducible refine look_both ?_ ?_
    | unfold OpenRow.wellSaid
    | unfold OpenRow.partSaid
    | unfold looksOpen
  all_goals decide +kernel
theorem boot_pw : ∀ w : World, (fencedOpening treeTable PySem.Challenge.rw_ay0013_01.row.prog w 5480).map (fun s => (s.heap, s.gens, s.drawn, s.toks)) = some (boot_heap w.params, Array.mk [], boot_drawn, boot_toks) := boot_open (by kernel_rfl) (by decide) (fun s => by rfl)
theorem looks_pw (w : World) (os : OsState) : (topFrom treeTable PySem.Challenge.rw_ay0013_01.row.prog w 5480 ⟨boot_heap w.params, Array.mk [], boot_drawn, boot_toks, os⟩).map (openSeen vw [Str.ofString "binascii"] (importedModules PySem.Challenge.rw_ay0013_01.row.prog.main.body) (fun s => xlAt vw [] s && recOk (PySem.Challenge.rw_ay0013_01.row.records) s) true) = some (openGood vw [Str.ofString "binascii"]) := by
  unfold topFrom
  rw [PySem.W.Fast.te14082659384304107361, PySem.W.Fast.te14364793385576792824, PySem.W.Fast.te5923862056798008813, PySem.W.Fast.te4187177175401517315]
  kernel_rfl
noncomputable def headV (H : Hook) (k1 : PySem.Challenge.rw_ay0013_01.row.wellSaid = true) := fun hl => holds_open (r := PySem.Challenge.rw_ay0013_01.row) (q := vw) (loose := [Str.ofString "binascii"]) (Xt := fun s => xlAt vw [] s && recOk PySem.Challenge.rw_ay0013_01.row.records s) (XP := XL vw []) (Yf := Hook.obs H) (Ya := Hook.val H) (YP := Hook.says H) (N := 5480) hl (Hook.of H) (Hook.keeps H) (fun s e => xl_of s (Bool.and_eq_true_iff.mp e).1) XL.keeps (by rfl) (by rfl) (by rfl) (fun s e => recFacts_of (Bool.and_eq_true_iff.mp e).2) (by rfl) k1 (by decide +kernel) ⟨rfl, rfl, rfl, rfl, rfl, by decide +kernel⟩
local macro_rules
  | `(tactic| o_law) => `(tactic| refine holds_law well fun _ => ?_)
local macro_rules
  | `(tactic| o_head $H) => `(tactic| (refine headV $H (by assumption) (left_boot boot_pw looks_pw ?hl) ?hw ?hc; case hl => (intro w os; unfold topFrom; rw [PySem.W.Fast.te14082659384304107361, PySem.W.Fast.te14364793385576792824, PySem.W.Fast.te5923862056798008813]; kernel_rfl)))
open_top hd for PySem.Challenge.rw_ay0013_01
end Mine
end
section
open PySem PySem.W PyProof.Rows PySem.Calls
namespace Mine
def byRfl : Lean.Syntax := .node .none ``Lean.Parser.Tactic.tacticSeq #[.node .none ``Lean.Parser.Tactic.tacticSeq1Indented #[.node .none `null #[.node .none ``Lean.Parser.Tactic.tacticRfl #[.atom .none "rfl"]]]]
def byDecide : Lean.Syntax := .node .none ``Lean.Parser.Tactic.tacticSeq #[.node .none ``Lean.Parser.Tactic.tacticSeq1Indented #[.node .none `null #[.node .none ``Lean.Parser.Tactic.decide #[.atom .none "decide", .node .none ``Lean.Parser.Tactic.optConfig #[.node .none `null #[]]]]]]
def byUnf : Lean.Syntax := .node .none ``Lean.Parser.Tactic.tacticSeq #[.node .none ``Lean.Parser.Tactic.tacticSeq1Indented #[.node .none `null #[.node .none ``Lean.Parser.Tactic.withUnfoldingAll #[.atom .none "with_unfolding_all", byRfl]]]]
def byEx : Lean.Syntax := .node .none ``Lean.Parser.Tactic.tacticSeq #[.node .none ``Lean.Parser.Tactic.tacticSeq1Indented #[.node .none `null #[.node .none ``Lean.Parser.Tactic.exact #[.atom .none "exact", .node .none ``Lean.Parser.Term.fun #[.atom .none "fun", .node .none ``Lean.Parser.Term.basicFun #[.node .none `null #[.node .none ``Lean.Parser.Term.hole #[.atom .none "_"], .node .none ``Lean.Parser.Term.hole #[.atom .none "_"]], .node .none `null #[], .atom .none "=>", .node .none ``Lean.Parser.Term.anonymousCtor #[.atom .none "⟨", .node .none `null #[.node .none ``Lean.Parser.Term.hole #[.atom .none "_"], .atom .none ",", .ident .none "rfl".toRawSubstring `rfl []], .atom .none "⟩"]]]]]]]
def byIntro : Lean.Syntax := .node .none ``Lean.Parser.Tactic.tacticSeq #[.node .none ``Lean.Parser.Tactic.tacticSeq1Indented #[.node .none `null #[.node .none ``Lean.Parser.Tactic.intro #[.atom .none "intro", .node .none `null #[.node .none ``Lean.Parser.Term.hole #[.atom .none "_"]]], .atom .none ";", .node .none ``Lean.Parser.Tactic.tacticRfl #[.atom .none "rfl"]]]]
theorem leK {a b c : Nat} (h : a ≤ b) (k : Nat.ble b c = true) : a ≤ c := Nat.le_trans h (Nat.le_of_ble_eq_true k)
theorem leE {a b c d : Nat} (h : a = b) (l : b ≤ c) (k : Nat.ble c d = true) : a ≤ d := leK (h ▸ l) k
theorem leC {a b c d : Nat} (h : a ≤ b) (l : b ≤ c) (k : Nat.ble c d = true) : a ≤ d := leK (Nat.le_trans h l) k
theorem leS {a b c d e : Nat} (h : a ≤ b) (l : c ≤ d) (k : Nat.ble (b + d) e = true) : a + c ≤ e := leK (Nat.add_le_add h l) k
theorem leT {a b c d e i : Nat} (h : a ≤ b) (l : c ≤ d) (k : Nat.ble (b + i + d) e = true) : a + i + c ≤ e := leK (Nat.add_le_add (Nat.add_le_add_right h i) l) k
theorem leB {a b e i : Nat} (h : a ≤ b) (k : Nat.ble (i + b) e = true) : i + a ≤ e := leK (Nat.add_le_add_left h i) k
theorem ltK {a b c : Nat} (h : a < b) (k : Nat.ble b c = true) : a < c := Nat.lt_of_lt_of_le h (Nat.le_of_ble_eq_true k)
theorem ltE {a b c : Nat} (h : a < b) (k : Nat.ble b c = true) : a ≤ c := Nat.le_of_lt (ltK h k)
theorem ltL {a b c : Nat} (h : a ≤ b) (k : Nat.blt b c = true) : a < c := Nat.lt_of_le_of_lt h (Nat.le_of_ble_eq_true k)
theorem ltQ {a b c d : Nat} (h : a = b) (l : b ≤ c) (k : Nat.blt c d = true) : a < d := ltL (h ▸ l) k
theorem subL {N i : Nat} (h : i < N) : N + 1 - (i + 1) < N + 1 - i := by rw [Nat.add_sub_add_right, Nat.succ_sub (Nat.le_of_lt h)]; exact Nat.lt_succ_self _
theorem subS {a k : Nat} (h : k < a) : a - k = a - (k + 1) + 1 := by rw [Nat.sub_add_eq, Nat.sub_add_cancel (Nat.sub_pos_of_lt h)]
theorem eqN {a b : Nat} (h : a ≤ b) (k : ¬ a < b) : a = b := Nat.le_antisymm h (Nat.not_lt.mp k)
theorem orS {a b : Nat} (k : Nat) (h : a < b) : a < b + k ∨ b + k < a := .inl (Nat.lt_add_right k h)
theorem orA {s i j : Nat} (h : Nat.blt i j = true) : s + i < s + j ∨ s + j < s + i := .inl (Nat.add_lt_add_left (Nat.le_of_ble_eq_true h) s)
theorem orB {s i j : Nat} (h : Nat.blt j i = true) : s + i < s + j ∨ s + j < s + i := .inr (Nat.add_lt_add_left (Nat.le_of_ble_eq_true h) s)
theorem orC {s j : Nat} (h : Nat.blt 0 j = true) : s < s + j ∨ s + j < s := .inl (Nat.lt_add_of_pos_right (Nat.le_of_ble_eq_true h))
theorem orD {s i : Nat} (h : Nat.blt 0 i = true) : s + i < s ∨ s < s + i := .inr (Nat.lt_add_of_pos_right (Nat.le_of_ble_eq_true h))
theorem inK {a b c : Nat} (h : a ≤ b) (k : Nat.ble b c = true) : (a : Int) ≤ OfNat.ofNat c := Int.ofNat_le.mpr (leK h k)
abbrev prg : Program := PySem.Challenge.pw_ay0013_01
noncomputable abbrev KK (w : World) : Frag := hd.heap_1 w.params
noncomputable def NB : Nat := 418
noncomputable def solid (o : Obj) : Bool := match o.data with
  | .fields _ => o.cls != .none
  | _ => true
noncomputable def tabA : Addr := 126
noncomputable def UpBut (fr mu : List Addr) (h h' : Heap) : Prop :=
  ∀ b o, b ∉ mu → h.get? b = some o → (solid o = true ∨ b ≠ tabA) → ∃ sl, h'.get? b = some { o with slots := sl } ∧ (b ∉ fr → sl = o.slots)
noncomputable def genPos : Pos := ⟨80, 21, 80, 82⟩
structure WW (w : World) (h : Heap) : Prop where
  kin : (KK w).In h
  bi : ∃ mb, h.Ns builtinsNs mb ∧ ∀ x : Str, x ≠ "__name__" → mb x = bootBuiltins x
  lim : h.NoLimit
  tab : ∃ ps : Array Value, h.get? 126 = some { cls := .none, data := .fields ps } ∧ (ps = #[] ∨ ∃ v, ps = #[rawInt genPos.line, rawInt genPos.col, v])
  bm : ∃ ob, h.get? 4 = some ob ∧ ob.cls = .type "module" ∧ ob.dict = some builtinsNs ∧ ob.data = .plain
theorem WW.nb {w : World} {h : Heap} (W : WW w h) : NB ≤ h.objs.size := Heap.lt_size (W.kin 417 _ rfl)
theorem WW.keeps {w : World} {h h' : Heap} (W : WW w h) (k : ∀ b o, h.get? b = some o → h'.get? b = some o) : WW w h' :=
  ⟨W.kin.keeps k, let ⟨mb, a, b⟩ := W.bi; ⟨mb, a.keeps k, b⟩, W.lim.keeps k, let ⟨ps, a, b⟩ := W.tab; ⟨ps, k _ _ a, b⟩, let ⟨ob, a, b⟩ := W.bm; ⟨ob, k _ _ a, b⟩⟩
structure Eff (w : World) (fr mu : List Addr) (s s' : Shared) : Prop where
  keep : UpBut fr mu s.heap s'.heap
  alive : ∀ b o, b ∉ mu → s.heap.get? b = some o → ∃ o', s'.heap.get? b = some o'
  os : s'.os = s.os
  bare : AllBare s.gens → AllBare s'.gens
  old : ∀ h0 : Heap, (∀ b ∈ fr ++ mu, h0.get? b = none) → (∀ o, h0.get? tabA = some o → isCodeTable h0 tabA) → OldK h0 s.heap → OldK h0 s'.heap
  ww : WW w s.heap → WW w s'.heap
theorem UpBut.refl (fr mu : List Addr) (h : Heap) : UpBut fr mu h h := fun _ o _ e _ => ⟨o.slots, e, fun _ => rfl⟩
theorem UpBut.mono {fr mu fr' mu' : List Addr} {h h' : Heap} (x : UpBut fr mu h h') (hf : ∀ b ∈ fr, b ∈ fr') (hm : ∀ b ∈ mu, b ∈ mu') : UpBut fr' mu' h h' :=
  fun b o hb e hs => let ⟨sl, a, c⟩ := x b o (fun q => hb (hm b q)) e hs; ⟨sl, a, fun q => c fun r => q (hf b r)⟩
theorem UpBut.trans {fr mu : List Addr} {h₁ h₂ h₃ : Heap} (x : UpBut fr mu h₁ h₂) (y : UpBut fr mu h₂ h₃) : UpBut fr mu h₁ h₃ := by
  intro b o hb e hs
  obtain ⟨sl, a, c⟩ := x b o hb e hs
  obtain ⟨sl', a', c'⟩ := y b _ hb a (by obtain ⟨cl, d, dt, s0⟩ := o; exact hs)
  exact ⟨sl', a', fun q => (c' q).trans (c q)⟩
theorem Eff.refl (w : World) (fr mu : List Addr) (s : Shared) : Eff w fr mu s s := ⟨UpBut.refl fr mu _, fun _ o _ e => ⟨o, e⟩, rfl, id, fun _ _ _ x => x, id⟩
theorem Eff.mono {w : World} {fr mu fr' mu' : List Addr} {s s' : Shared} (x : Eff w fr mu s s') (hf : ∀ b ∈ fr, b ∈ fr') (hm : ∀ b ∈ mu, b ∈ mu') : Eff w fr' mu' s s' :=
  ⟨x.keep.mono hf hm, fun b o q => x.alive b o fun r => q (hm b r), x.os, x.bare, fun h0 q => x.old h0 fun b hb => q b ((List.mem_append.mp hb).elim (fun r => List.mem_append_left _ (hf b r)) fun r => List.mem_append_right _ (hm b r)), x.ww⟩
theorem Eff.trans {w : World} {fr mu : List Addr} {s₁ s₂ s₃ : Shared} (x : Eff w fr mu s₁ s₂) (y : Eff w fr mu s₂ s₃) : Eff w fr mu s₁ s₃ :=
  ⟨x.keep.trans y.keep, fun b o q e => let ⟨o', e'⟩ := x.alive b o q e; y.alive b o' q e', y.os.trans x.os, fun q => y.bare (x.bare q), fun h0 q t r => y.old h0 q t (x.old h0 q t r), fun q => y.ww (x.ww q)⟩
theorem Eff.of {w : World} {fr mu : List Addr} {s s' : Shared} (x : Eff w [] [] s s') : Eff w fr mu s s' := x.mono (fun _ h => nomatch h) fun _ h => nomatch h
theorem Eff.keeps {w : World} {s s' : Shared} (k : ∀ b o, s.heap.get? b = some o → s'.heap.get? b = some o) (hos : s'.os = s.os) (hg : s'.gens = s.gens) : Eff w [] [] s s' :=
  ⟨fun b o _ e _ => ⟨o.slots, k b o e, fun _ => rfl⟩, fun b o _ e => ⟨o, k b o e⟩, hos, fun q => hg ▸ q, fun _ _ _ q => q.step_keeps k, fun W => W.keeps k⟩
theorem Eff.toks {w : World} {s : Shared} (n : Nat) : Eff w [] [] s { s with toks := n } := .keeps (fun _ _ e => e) rfl rfl
theorem Eff.push {w : World} {s : Shared} (o : Obj) : Eff w [] [] s { s with heap := s.heap.push o } := .keeps (fun _ _ e => Heap.get?_push_of_some o e) rfl rfl
theorem kin_nb (w : World) : (KK w).all (fun p => decide (p.1 < NB)) = true := by with_unfolding_all kernel_rfl
theorem kin_lt {w : World} {a : Addr} {o : Obj} (e : (KK w).lookup a = some o) : a < NB := by
  have h := List.all_eq_true.mp (kin_nb w)
  have : ∃ p ∈ KK w, p.1 = a := by
    generalize KK w = l at e
    induction l with
    | nil => cases e
    | cons p r ih =>
      obtain ⟨b, x⟩ := p
      simp only [List.lookup] at e
      split at e
      · rename_i q; exact ⟨_, .head _, (beq_iff_eq.mp q).symm⟩
      · obtain ⟨p, hp, e'⟩ := ih e; exact ⟨p, .tail _ hp, e'⟩
  obtain ⟨p, hp, rfl⟩ := this
  exact of_decide_eq_true (h p hp)
theorem OldK.step_but {h₀ h h' : Heap} (K : OldK h₀ h) {mu : List Addr} (ha : ∀ a ∈ mu, h₀.get? a = none) (hs : ∀ b o, b ∉ mu → h.get? b = some o → h'.get? b = some o) : OldK h₀ h' := by
  have ne : ∀ b o, h₀.get? b = some o → b ∉ mu := fun b o e q => by rw [ha b q] at e; cases e
  refine ⟨fun b o e => ?_, fun b o e => let ⟨o', ho'⟩ := K.there b o e; ⟨o', hs b o' (ne b o e) ho'⟩⟩
  rcases K.old b o e with x | ⟨t, hc, vs, more, hv, x⟩ | ⟨rfl, hc, ⟨o', es, n, ho', r⟩, z⟩
  · exact .inl (hs b _ (ne b o e) x)
  · exact .inr (.inl ⟨t, hc, vs, more, hv, hs b _ (ne b o e) x⟩)
  · exact .inr (.inr ⟨rfl, hc, ⟨o', es, n, hs _ _ (ne _ o e) ho', r⟩, fun key => by rw [OldK.staticOf_congr ((hs _ _ (ne _ o e) ho').trans ho'.symm) key]; exact z key⟩)
theorem WW.but {w : World} {h h' : Heap} {mu : List Addr} (W : WW w h) (ha : ∀ a ∈ mu, NB ≤ a) (x : ∀ b o, b ∉ mu → h.get? b = some o → h'.get? b = some o) : WW w h' := by
  have nm : ∀ b, b < NB → b ∉ mu := fun b hb q => Nat.lt_irrefl _ (Nat.lt_of_lt_of_le hb (ha b q))
  have ns : ∀ a m, a < NB → h.Ns a m → h'.Ns a m := fun a m hb ⟨o, es, ep, ho, r⟩ => ⟨o, es, ep, x a o (nm a hb) ho, r⟩
  refine ⟨fun b o e => x b o (nm b (kin_lt e)) (W.kin b o e), ?_, ?_, ?_, ?_⟩
  · obtain ⟨mb, p, q⟩ := W.bi; exact ⟨mb, ns _ _ (by decide) p, q⟩
  · obtain ⟨mc, p, q⟩ := W.lim; exact ⟨mc, ns _ _ (by decide) p, q⟩
  · obtain ⟨ps, p, q⟩ := W.tab; exact ⟨ps, x _ _ (nm _ (by decide)) p, q⟩
  · obtain ⟨ob, p, q⟩ := W.bm; exact ⟨ob, x _ _ (nm _ (by decide)) p, q⟩
theorem Eff.but {w : World} {s s' : Shared} {mu : List Addr} (ha : ∀ a ∈ mu, NB ≤ a) (x : ∀ b o, b ∉ mu → s.heap.get? b = some o → s'.heap.get? b = some o) (hos : s'.os = s.os) (hg : s'.gens = s.gens) : Eff w [] mu s s' :=
  ⟨fun b o hb e _ => ⟨o.slots, x b o hb e, fun _ => rfl⟩, fun b o hb e => ⟨o, x b o hb e⟩, hos, fun q => hg ▸ q, fun _ q _ r => Mine.OldK.step_but r q x, fun W => W.but ha x⟩
theorem Eff.same {w : World} {s s' : Shared} {a : Addr} (ha : NB ≤ a) (x : Heap.SameBut a s.heap s'.heap) (hos : s'.os = s.os) (hg : s'.gens = s.gens) : Eff w [] [a] s s' :=
  .but (fun b hb => List.mem_singleton.mp hb ▸ ha) (fun b o hb e => (x.2 b fun q => hb (by simp [q])).trans e) hos hg
theorem Eff.shrink {w : World} {s s' : Shared} {fr mu nw : List Addr} (e : Eff w fr (nw ++ mu) s s') (h : ∀ b ∈ nw, s.heap.get? b = none) : Eff w fr mu s s' := by
  have no : ∀ b o, b ∉ mu → s.heap.get? b = some o → b ∉ nw ++ mu := fun b o hb e' q => (List.mem_append.mp q).elim (fun q => by rw [h b q] at e'; cases e') hb
  refine ⟨fun b o hb e' => e.keep b o (no b o hb e') e', fun b o hb e' => e.alive b o (no b o hb e') e', e.os, e.bare, fun h0 q t r => e.old h0 (fun b hb => ?_) t r, e.ww⟩
  rcases List.mem_append.mp hb with hb | hb
  · exact q b (List.mem_append_left _ hb)
  · rcases List.mem_append.mp hb with hb | hb
    · cases hx : h0.get? b with
      | none => rfl
      | some o => obtain ⟨o', ho'⟩ := r.there b o hx; rw [h b hb] at ho'; cases ho'
    · exact q b (List.mem_append_right _ hb)
noncomputable def Fresh (w : World) (s : Shared) (a : Addr) : Prop := s.heap.get? a = none ∧ (WW w s.heap → NB ≤ a)
theorem Fresh.back {w : World} {fr mu : List Addr} {s s' : Shared} {a : Addr} (x : Fresh w s' a) (e : Eff w fr mu s s') (ha : a ∉ mu := by exact fun h => nomatch h) : Fresh w s a := by
  refine ⟨?_, fun W => x.2 (e.ww W)⟩
  cases q : s.heap.get? a with
  | none => rfl
  | some o => obtain ⟨o', h⟩ := e.alive a o ha q; rw [x.1] at h; cases h
theorem get_none_of_size {h : Heap} {a : Addr} (ha : h.objs.size ≤ a) : h.get? a = none := Heap.get?_none_of_le ha
theorem Fresh.size (w : World) (s : Shared) : Fresh w s s.heap.objs.size := ⟨get_none_of_size (Nat.le_refl _), fun W => W.nb⟩
theorem Fresh.ne {w : World} {s : Shared} {a b : Addr} {o : Obj} (x : Fresh w s a) (h : s.heap.get? b = some o) : b ≠ a := fun q => by rw [q, x.1] at h; cases h
noncomputable def upd (m : Str → Option Value) (x : Str) (v : Value) : Str → Option Value := fun y => if y = x then some v else m y
noncomputable def own (env : Env) : List Addr := env.locals :: env.cells.map (·.2)
noncomputable def frs (A : Around) : List Addr := (A.frames.getD []).filterMap (·.frame)
structure FrameAt (env : Env) (h : Heap) (m : Str → Option Value) : Prop where
  loc : ∃ ml, h.Ns env.locals ml ∧ ∀ x, env.kindOf x = some .local → ml x = m x
  cel : ∀ x c, env.cells.lookup x = some c → h.IsCell c (m x)
  apart : env.cells.Pairwise fun x y => x.2 ≠ y.2
  above : ∀ n c, (n, c) ∈ env.cells → env.locals ≠ c
  wf : ∀ x c, env.cells.lookup x = some c → env.kindOf x ≠ some .local
structure Cx (w : World) (n : Nat) (A : Around) (s : Shared) : Prop where
  ww : WW w s.heap
  bare : AllBare s.gens
  hh : A.handled = none
  depth : A.depth + n < 900
  units : A.units + 20 * n < 9000
  fx : ∃ l, A.frames = some l ∧ ∀ e ∈ l, e.scope.kind ≠ .module ∧ ∃ L, e.frame = some L ∧ NB ≤ L ∧ ∃ mm, s.heap.Ns L mm
theorem Cx.in1 {w : World} {n : Nat} {A : Around} {s : Shared} (C : Cx w (n + 1) A s) : Cx w n A.in1 s :=
  ⟨C.ww, C.bare, C.hh, by have := C.depth; show A.depth + n < 900; omega, by have := C.units; show A.units + 1 + 20 * n < 9000; omega, C.fx⟩
theorem Cx.room {w : World} {n : Nat} {A : Around} {s : Shared} (C : Cx w n A s) : A.depth < recursionLimit := by have := C.depth; show A.depth < 1000; omega
theorem UpBut.ns {fr mu : List Addr} {h h' : Heap} {a : Addr} {m : Str → Option Value} (x : UpBut fr mu h h') (ha : a ∉ mu) (hn : h.Ns a m) : h'.Ns a m := by
  obtain ⟨o, es, ep, ho, hd, r⟩ := hn
  obtain ⟨sl, hs, _⟩ := x a o ha ho (.inl (by unfold solid; rw [hd]))
  exact ⟨_, es, ep, hs, hd, r⟩
theorem UpBut.cell {fr mu : List Addr} {h h' : Heap} {a : Addr} {v : Option Value} (x : UpBut fr mu h h') (ha : a ∉ mu) (hn : h.IsCell a v) : h'.IsCell a v := by
  obtain ⟨o, ho, hd⟩ := hn
  obtain ⟨sl, hs, _⟩ := x a o ha ho (.inl (by unfold solid; rw [hd]))
  exact ⟨_, hs, hd⟩
theorem UpBut.list {fr mu : List Addr} {h h' : Heap} {a : Addr} {items : Array Value} (x : UpBut fr mu h h') (ha : a ∉ mu) (hn : h.IsList a items) : h'.IsList a items := by
  obtain ⟨o, ho, hc, n, hd⟩ := hn
  obtain ⟨sl, hs, _⟩ := x a o ha ho (.inl (by unfold solid; rw [hd]))
  exact ⟨_, hs, hc, n, hd⟩
theorem Cx.eff {w : World} {n : Nat} {A : Around} {fr mu : List Addr} {s s' : Shared} (C : Cx w n A s) (e : Eff w fr mu s s') (hm : ∀ b ∈ mu, b ∉ frs A) : Cx w n A s' := by
  refine ⟨e.ww C.ww, e.bare C.bare, C.hh, C.depth, C.units, ?_⟩
  obtain ⟨l, hl, h⟩ := C.fx
  refine ⟨l, hl, fun x hx => ?_⟩
  obtain ⟨h1, L, h2, h3, mm, h4⟩ := h x hx
  refine ⟨h1, L, h2, h3, mm, e.keep.ns (fun q => hm L q ?_) h4⟩
  unfold frs; rw [hl]; exact List.mem_filterMap.mpr ⟨x, hx, h2⟩
theorem Cx.eff0 {w : World} {n : Nat} {A : Around} {fr : List Addr} {s s' : Shared} (C : Cx w n A s) (e : Eff w fr [] s s') : Cx w n A s' := C.eff e fun _ h => nomatch h
theorem FrameAt.eff {w : World} {env : Env} {fr mu : List Addr} {s s' : Shared} {m : Str → Option Value} (F : FrameAt env s.heap m) (e : Eff w fr mu s s') (hm : ∀ b ∈ own env, b ∉ mu) : FrameAt env s'.heap m := by
  obtain ⟨⟨ml, hn, hx⟩, hc, r1, r2, r3⟩ := F
  refine ⟨⟨ml, e.keep.ns (hm _ (.head _)) hn, hx⟩, fun x c hl => e.keep.cell (hm _ (.tail _ (List.mem_map.mpr ⟨(x, c), mem_of_lookup hl, rfl⟩))) (hc x c hl), r1, r2, r3⟩
structure Fm (w : World) (mu : List Addr) (env : Env) (n : Nat) (A : Around) (g : Shared) (m : Str → Option Value) (s : Shared) : Prop where
  eff : Eff w (frs A) mu g s
  here : FrameAt env s.heap m
  own : ∀ b ∈ own env, b ∈ mu
  ww : WW w s.heap
  bare : AllBare s.gens
  hh : A.handled = none
  depth : A.depth + n < 900
  units : A.units + 20 * n < 9000
  fx : ∃ l, A.frames = some l ∧ ∀ e ∈ l, e.scope.kind ≠ .module ∧ ∃ L, e.frame = some L ∧ NB ≤ L ∧ (L = env.locals ∨ (L ∉ mu ∧ ∃ mm, g.heap.Ns L mm))
  low : ∀ b ∈ mu, NB ≤ b
  kind : env.scope.kind = .function
  glob : env.globals = mainGlobals
  bui : env.builtins = builtinsNs
  more : True
section
variable {w : World} {mu : List Addr} {env : Env} {n : Nat} {A : Around} {g s s' : Shared} {m : Str → Option Value}
theorem Fm.cx (F : Fm w mu env n A g m s) : Cx w n A s := by
  refine ⟨F.ww, F.bare, F.hh, F.depth, F.units, ?_⟩
  obtain ⟨l, hl, h⟩ := F.fx
  refine ⟨l, hl, fun x hx => ?_⟩
  obtain ⟨h1, L, h2, h3, h4⟩ := h x hx
  refine ⟨h1, L, h2, h3, ?_⟩
  rcases h4 with rfl | ⟨h4, mm, h5⟩
  · obtain ⟨ml, hn, _⟩ := F.here.loc; exact ⟨ml, hn⟩
  · exact ⟨mm, F.eff.keep.ns h4 h5⟩
theorem Fm.step {mu' : List Addr} (F : Fm w mu env n A g m s) (e : Eff w (frs A) mu' s s') (h1 : ∀ b ∈ mu', b ∈ mu) (h2 : ∀ b ∈ mu', b ∉ Mine.own env) : Fm w mu env n A g m s' :=
  ⟨F.eff.trans (e.mono (fun _ q => q) h1), F.here.eff e fun b q r => h2 b r q, F.own, e.ww F.ww, e.bare F.bare, F.hh, F.depth, F.units, F.fx, F.low, F.kind, F.glob, F.bui, F.more⟩
theorem Fm.go {fr : List Addr} (F : Fm w mu env n A g m s) (e : Eff w fr [] s s') (hf : ∀ b ∈ fr, b ∈ frs A := by first | exact fun _ h => h | exact fun _ h => nomatch h) : Fm w mu env n A g m s' :=
  F.step (e.mono hf fun _ h => h) (fun _ h => nomatch h) fun _ h => nomatch h
theorem Fm.toks (F : Fm w mu env n A g m s) (k : Nat) : Fm w mu env n A g m { s with toks := k } := F.go (fr := []) (.toks k)
theorem Fm.base (F : Fm w mu env n A g m s) : Fm w mu env n A s m s :=
  ⟨.refl .., F.here, F.own, F.ww, F.bare, F.hh, F.depth, F.units, let ⟨l, hl, h⟩ := F.fx; ⟨l, hl, fun x hx => let ⟨h1, L, h2, h3, h4⟩ := h x hx
    ⟨h1, L, h2, h3, h4.imp id fun ⟨q, mm, r⟩ => ⟨q, mm, F.eff.keep.ns q r⟩⟩⟩, F.low, F.kind, F.glob, F.bui, F.more⟩
end
end Mine
end
section
open PySem PySem.W PyProof.Rows PySem.Calls
namespace Mine
noncomputable def bindM : List (Str × Value) → (Str → Option Value) → Str → Option Value
  | [], m => m
  | (n, v) :: r, m => bindM r (upd m n v)
theorem bindM_local {k : Str → Option NameKind} {x : Str} (hx : k x = some .local) : ∀ {b : List (Str × Value)} {m m' : Str → Option Value}, m x = m' x → bindL k b m x = bindM b m' x
  | [], _, _, h => h
  | (n, v) :: r, m, m', h => by
    refine bindM_local hx (b := r) ?_
    unfold upd
    by_cases e : x = n
    · subst e; rw [if_pos hx]; simp
    · split <;> simp [e, h]
theorem bindM_cell {k : Str → Option NameKind} {x : Str} (hx : k x ≠ some .local) : ∀ {b : List (Str × Value)} {m m' : Str → Option Value}, m x = m' x → bindC k b m x = bindM b m' x
  | [], _, _, h => h
  | (n, v) :: r, m, m', h => by
    refine bindM_cell hx (b := r) ?_
    unfold upd
    by_cases e : x = n
    · subst e; rw [if_neg hx]; simp
    · split <;> simp [e, h]
section
variable {w : World} {mu : List Addr} {env : Env} {n : Nat} {A : Around} {g s s' : Shared} {m : Str → Option Value} {E : Value → Shared → Prop}
noncomputable def kindsOk (fd : FuncData) (binds : List (Str × Value)) : Bool :=
  binds.all (fun y => fd.scope.names.lookup y.1 == some .local || fd.scope.names.lookup y.1 == some .cell) && (cellsFrom 0 fd.scope.names []).all (fun p => fd.scope.names.lookup p.1 != some .local)
theorem cells_wf {names : List (Str × NameKind)} (h : (cellsFrom 0 names []).all (fun p => names.lookup p.1 != some .local) = true) (k : Nat) : ∀ x c, (cellsFrom k names []).lookup x = some c → names.lookup x ≠ some .local := by
  intro x c hl
  have e : (cellsFrom 0 names []).map (·.1) = (cellsFrom k names []).map (·.1) := cellsFrom_names names 0 k [] [] rfl
  have hm : x ∈ (cellsFrom k names []).map (·.1) := List.mem_map.mpr ⟨(x, c), mem_of_lookup hl, rfl⟩
  rw [← e] at hm
  obtain ⟨p, hp, rfl⟩ := List.mem_map.mp hm
  have := List.all_eq_true.mp h p hp
  simpa using this
theorem enter {R : Result → Shared → Prop} {f : Addr} {fd : FuncData} {oc : Value} {od : Option Addr} {osl : Array (Option Value)} {body : List Stmt} {args : Args} {binds : List (Str × Value)} (mu0 : List Addr)
    (C : Cx w (n + 1) A s) (hmu : ∀ b ∈ mu0, NB ≤ b ∧ b < s.heap.objs.size ∧ b ∉ frs A)
    (ho : (KK w).lookup f = some ⟨oc, od, .func fd, osl⟩) (hcd : codeIn (KK w) fd.code fd.qualname = true)
    (hbody : fd.body = .stmts body) (hbind : BindsTo s fd args binds) (hkind : kindsOk fd binds = true)
    (hst : (fd.closure = [] ∧ fd.globals = mainGlobals ∧ fd.builtins = builtinsNs) ∧ fd.scope.isCoroutine = false ∧ fd.scope.isGenerator = false ∧ fd.scope.kind = .function)
    (h : ∀ s₁, Eff w [] [] s s₁ → Fm w (own (callEnvC fd s.heap.objs.size f) ++ mu0) (callEnvC fd s.heap.objs.size f) n (A.deeper (callEnvC fd s.heap.objs.size f)) s₁ (bindM binds fun _ => none) s₁ →
      wpAny (model prg w) (A.deeper (callEnvC fd s.heap.objs.size f)) (execs body (callEnvC fd s.heap.objs.size f)) (fun fl s' => R (.ok (.ret (match fl with | .ret v => v | _ => .none))) s')
        (fun e s' => wpAny (model prg w) (A.deeper (callEnvC fd s.heap.objs.size f)) (leaving (callEnvC fd s.heap.objs.size f) e) (fun _ s'' => R (.error e) s'') (fun e' s'' => R (.error e') s'') s') s₁) :
    codeAny (model prg w) A (.call (.ref f) args) R s := by
  obtain ⟨⟨hclo, hgl, hbu⟩, hco, hgen, hk⟩ := hst
  simp only [kindsOk, Bool.and_eq_true] at hkind
  obtain ⟨hk1, hk2⟩ := hkind
  refine codeAny_call_function C.room (C.ww.kin _ _ ho) rfl hco hgen hbody (codeRec_of C.ww.kin hcd) (hbind _ _ _ _ ?_)
  rw [hclo]
  refine wpAny_newFunctionEnv_cells hk (kindsX hk1 _) fun env' he s₁ x => ?_
  subst he
  refine ⟨C.ww.lim.keeps x.toInCall.keep, codeAny_func ?_⟩
  obtain ⟨h₁, tk, hs1, hk'⟩ := x.done
  have hLlt : s.heap.objs.size < s₁.heap.objs.size := by obtain ⟨o, _, _, ho', _⟩ := x.toInCall.ns; exact Heap.lt_size ho'
  have e1 : Eff w [] [] s s₁ := by
    subst hs1
    exact .keeps hk' rfl rfl
  have hall : ∀ b ∈ own (callEnvC fd s.heap.objs.size f), s.heap.objs.size ≤ b := by
    intro b hb
    rcases List.mem_cons.mp hb with rfl | hb
    · exact Nat.le_refl _
    · obtain ⟨p, hp, rfl⟩ := List.mem_map.mp hb
      exact Nat.le_of_lt (x.above p.1 p.2 hp)
  have C1 := C.eff0 e1
  refine h s₁ e1 ⟨.refl .., ⟨⟨_, x.toInCall.ns, fun y hy => bindM_local hy rfl⟩, fun y c hl => ?_, x.apart, fun y c hl => Nat.ne_of_lt (x.above y c hl), cells_wf hk2 _⟩, fun b hb => List.mem_append_left _ hb, C1.ww, C1.bare, C.hh, ?_, ?_, ?_, ?_, hk, hgl, hbu, trivial⟩
  · rw [← bindM_cell (m := fun _ => none) (k := (callEnvC fd s.heap.objs.size f).kindOf) (cells_wf hk2 _ y c hl) rfl]; exact x.cell y c hl
  · have := C.depth; show A.depth + 1 + n < 900; omega
  · have := C.units; show A.units + 3 + 20 * n < 9000; omega
  · obtain ⟨l, hl, hx⟩ := C.fx
    refine ⟨_, Around.frames_deeper hl, fun e he => ?_⟩
    rcases List.mem_cons.mp he with rfl | he
    · exact ⟨by show fd.scope.kind ≠ .module; rw [hk]; decide, _, rfl, C.ww.nb, .inl rfl⟩
    · obtain ⟨q1, L, q2, q3, mm, q4⟩ := hx e he
      refine ⟨q1, L, q2, q3, .inr ⟨fun hm => ?_, mm, q4.keeps x.toInCall.keep⟩⟩
      rcases List.mem_append.mp hm with hm | hm
      · exact Nat.lt_irrefl _ (Nat.lt_of_lt_of_le q4.lt (hall L hm))
      · refine (hmu L hm).2.2 ?_
        unfold frs; rw [hl]; exact List.mem_filterMap.mpr ⟨e, he, q2⟩
  · intro b hb
    rcases List.mem_append.mp hb with hb | hb
    · exact Nat.le_trans C.ww.nb (hall b hb)
    · exact (hmu b hb).1
theorem Eff.leave {s s₁ s₂ : Shared} {env : Env} {mu0 : List Addr} (e1 : Eff w [] [] s s₁) (e2 : Eff w (frs (A.deeper env)) (own env ++ mu0) s₁ s₂) (hf : ∃ l, A.frames = some l) (hef : env.frame = some env.locals)
    (ho : ∀ b ∈ own env, s.heap.objs.size ≤ b) : Eff w (frs A) mu0 s s₂ := by
  obtain ⟨l, hl⟩ := hf
  have hfr : frs (A.deeper env) = env.locals :: frs A := by
    unfold frs; rw [Around.frames_deeper hl, hl]; simp [hef]
  rw [hfr] at e2
  refine ⟨fun b o hb e hs => ?_, fun b o hb e => let ⟨o', e'⟩ := e1.alive b o (fun q => nomatch q) e; e2.alive b o' (fun q => (List.mem_append.mp q).elim (fun r => Nat.lt_irrefl _ (Nat.lt_of_lt_of_le (Heap.lt_size e) (ho b r))) hb) e', e2.os.trans e1.os, fun q => e2.bare (e1.bare q), fun h0 hq ht r => ?_, fun W => e2.ww (e1.ww W)⟩
  · have hlt := Heap.lt_size e
    obtain ⟨sl, a, c⟩ := e1.keep b o (fun q => nomatch q) e hs
    have hsl := c fun q => nomatch q
    subst hsl
    have hno : b ∉ own env := fun q => Nat.lt_irrefl _ (Nat.lt_of_lt_of_le hlt (ho b q))
    obtain ⟨sl', a', c'⟩ := e2.keep b o (fun q => (List.mem_append.mp q).elim hno hb) a hs
    exact ⟨sl', a', fun q => c' fun r => (List.mem_cons.mp r).elim (fun z => hno (z ▸ .head _)) q⟩
  · have hnew : ∀ b, s.heap.objs.size ≤ b → h0.get? b = none := fun b hb => by
      cases hx : h0.get? b with
      | none => rfl
      | some o => obtain ⟨o', ho'⟩ := r.there b o hx; exact absurd (Heap.lt_size ho') (Nat.not_lt.mpr hb)
    refine e2.old h0 (fun b hb => ?_) ht (e1.old h0 (fun _ q => nomatch q) ht r)
    rcases List.mem_append.mp hb with hb | hb
    · rcases List.mem_cons.mp hb with rfl | hb
      · exact hnew _ (ho _ (.head _))
      · exact hq b (List.mem_append_left _ hb)
    · rcases List.mem_append.mp hb with hb | hb
      · exact hnew _ (ho b hb)
      · exact hq b (List.mem_append_right _ hb)
theorem own_above (fd : FuncData) (a f : Addr) : ∀ b ∈ own (callEnvC fd a f), a ≤ b := by
  intro b hb
  rcases List.mem_cons.mp hb with rfl | hb
  · exact Nat.le_refl _
  · obtain ⟨p, hp, rfl⟩ := List.mem_map.mp hb
    have ok := cellsFrom_ok fd.scope.names ⟨(Array.replicate (a + 1) { cls := .none }), {}⟩ (a + 1) [] ⟨fun _ _ hm => (nomatch hm), List.Pairwise.nil⟩ (by simp)
    have := (ok.empty p.1 p.2 (by simpa [callEnvC, newEnv] using hp)).2
    exact Nat.le_of_succ_le this
end
end Mine
end
section
open PySem PySem.W PyProof.Rows PySem.Calls
namespace Mine
section
variable {w : World} {mu : List Addr} {env : Env} {n : Nat} {A : Around} {g s s' : Shared} {m : Str → Option Value} {E : Value → Shared → Prop}
theorem ldl {x : Str} {pos : Pos} {v : Value} {Q : Value → Shared → Prop} (F : Fm w mu env n A g m s) (hv : m x = some v) (h : Q v s)
    (hl : autoParam (env.kindOf x = some .local) byRfl) (hd : autoParam ((x == ("__debug__" : Str)) = false) byDecide) : wpAny (model prg w) A (eval (.Name x pos) env) Q E s := by
  obtain ⟨ml, hn, hx⟩ := F.here.loc
  exact wpAny_Name (wpAny_loadName_local F.kind hl hn ((hx x hl).trans hv) h) hd
theorem ldc {x : Str} {pos : Pos} {v : Value} {c : Addr} {Q : Value → Shared → Prop} (F : Fm w mu env n A g m s) (hv : m x = some v) (h : Q v s) (hc : autoParam (env.cells.lookup x = some c) byRfl)
    (hl : autoParam (env.kindOf x = some .cell) byRfl) (hd : autoParam ((x == ("__debug__" : Str)) = false) byDecide) : wpAny (model prg w) A (eval (.Name x pos) env) Q E s :=
  wpAny_Name (wpAny_loadName_cell F.kind hl hc (hv ▸ F.here.cel x c hc) h) hd
theorem gl {x : Str} {pos : Pos} {v : Value} {Q : Value → Shared → Prop} (F : Fm w mu env n A g m s) (e : nsIn (KK w) mainGlobals x = some (some v)) (h : Q v s)
    (hx : autoParam (env.kindOf x = some .globalImplicit) byRfl) (hd : autoParam ((x == ("__debug__" : Str)) = false) byDecide) : wpAny (model prg w) A (eval (.Name x pos) env) Q E s := by
  refine Calls.Name_function_global F.kind hx ?_ hd
  unfold loadGlobal
  rw [F.glob]
  exact wpAny_bind ((looks_nsIn F.ww.kin e).here (wpAny_pure h))
theorem bu {x : Str} {pos : Pos} {v : Value} {Q : Value → Shared → Prop} (F : Fm w mu env n A g m s) (e : nsIn (KK w) mainGlobals x = some none) (hv : bootBuiltins x = some v) (h : Q v s)
    (hx : autoParam (env.kindOf x = some .globalImplicit) byRfl) (hn : autoParam (x ≠ "__name__") byDecide) (hd : autoParam ((x == ("__debug__" : Str)) = false) byDecide) : wpAny (model prg w) A (eval (.Name x pos) env) Q E s := by
  refine Calls.Name_function_global F.kind hx ?_ hd
  unfold loadGlobal
  rw [F.glob, F.bui]
  refine wpAny_bind ((looks_nsIn F.ww.kin e).here ?_)
  obtain ⟨mb, hb, hm⟩ := F.ww.bi
  refine wpAny_bind (wpAny_nsGet hb ?_)
  rw [hm x hn, hv]; exact wpAny_pure h
theorem Fm.loc_notin (F : Fm w mu env n A g m s) {x : Str} {c : Addr} (hc : env.cells.lookup x = some c) : env.locals ≠ c := F.here.above x c (mem_of_lookup hc)
theorem st {x : Str} {v : Value} {Q : Unit → Shared → Prop} (F : Fm w mu env n A g m s) (h : ∀ s', Fm w mu env n A g (upd m x v) s' → Q () s')
    (hl : autoParam (env.kindOf x = some .local) byRfl) : wpAny (model prg w) A (storeName env x v) Q E s := by
  obtain ⟨ml, hn, hx⟩ := F.here.loc
  have hL : env.locals ∈ mu := F.own _ (.head _)
  refine wpAny_storeName_local hl hn (fun h' hn' hs => ?_) (by rw [F.kind]; rfl)
  refine h _ ?_
  have e : Eff w (frs A) mu s { s with heap := h', toks := s.toks + 1 } := (Eff.same (s' := { s with heap := h', toks := s.toks + 1 }) (F.low _ hL) hs rfl rfl).mono (fun _ q => nomatch q) fun b q => (List.mem_singleton.mp q) ▸ hL
  refine ⟨F.eff.trans e, ⟨⟨_, hn', fun y hy => ?_⟩, fun y c hc => ?_, F.here.apart, F.here.above, F.here.wf⟩, F.own, e.ww F.ww, e.bare F.bare, F.hh, F.depth, F.units, F.fx, F.low, F.kind, F.glob, F.bui, F.more⟩
  · unfold upd; split
    · rfl
    · exact hx y hy
  · have hne : ¬ y = x := fun q => F.here.wf y c hc (q ▸ hl)
    have : upd m x v y = m y := if_neg hne
    rw [this]
    exact (F.here.cel y c hc).sameBut hs (Ne.symm (F.loc_notin hc))
theorem stc {x : Str} {c : Addr} {v : Value} {Q : Unit → Shared → Prop} (F : Fm w mu env n A g m s) (h : ∀ s', Fm w mu env n A g (upd m x v) s' → Q () s') (hc : autoParam (env.cells.lookup x = some c) byRfl)
    (hl : autoParam (env.kindOf x = some .cell) byRfl) : wpAny (model prg w) A (storeName env x v) Q E s := by
  obtain ⟨ml, hn, hx⟩ := F.here.loc
  have hcm : c ∈ mu := F.own _ (.tail _ (List.mem_map.mpr ⟨(x, c), mem_of_lookup hc, rfl⟩))
  refine wpAny_storeName_cell F.kind hl hc (F.here.cel x c hc) (fun h' hn' hs => ?_)
  refine h _ ?_
  have e : Eff w (frs A) mu s { s with heap := h' } := (Eff.same (s' := { s with heap := h' }) (F.low _ hcm) hs rfl rfl).mono (fun _ q => nomatch q) fun b q => (List.mem_singleton.mp q) ▸ hcm
  refine ⟨F.eff.trans e, ⟨⟨ml, hn.sameBut hs (F.loc_notin hc), fun y hy => ?_⟩, fun y c' hc' => ?_, F.here.apart, F.here.above, F.here.wf⟩, F.own, e.ww F.ww, e.bare F.bare, F.hh, F.depth, F.units, F.fx, F.low, F.kind, F.glob, F.bui, F.more⟩
  · have hne : ¬ y = x := fun q => F.here.wf x c hc (q ▸ hy)
    have : upd m x v y = m y := if_neg hne
    rw [this]; exact hx y hy
  · by_cases q : y = x
    · subst q
      rw [hc] at hc'; cases hc'
      have : upd m y v y = some v := if_pos rfl
      rw [this]; exact hn'
    · have : upd m x v y = m y := if_neg q
      rw [this]
      refine (F.here.cel y c' hc').sameBut hs fun q' => q ?_
      subst q'
      exact name_of_addr F.here.apart (mem_of_lookup hc') (mem_of_lookup hc)
noncomputable def andThen (w : World) (A : Around) (env : Env) (E : Value → Shared → Prop) (rest : List Stmt) (Q : Flow → Shared → Prop) : Flow → Shared → Prop :=
  fun f s' => match f with | .next => wpAny (model prg w) A (execs rest env) Q E s' | f => Q f s'
theorem sCons {st : Stmt} {rest : List Stmt} {Q : Flow → Shared → Prop} (h : wpAny (model prg w) A (exec st env) (andThen w A env E rest Q) E s) : wpAny (model prg w) A (execs (st :: rest) env) Q E s := wpAny_execs_cons h
theorem sNil {Q : Flow → Shared → Prop} (h : Q .next s) : wpAny (model prg w) A (execs [] env) Q E s := wpAny_execs_nil h
theorem sAsg {x : Str} {p' : Pos} {value : Expr} {pos : Pos} {rest : List Stmt} {Q : Flow → Shared → Prop}
    (h : wpAny (model prg w) A (eval value env) (fun v s₁ => wpAny (model prg w) A (storeName env x v) (fun _ s₂ => wpAny (model prg w) A (execs rest env) Q E s₂) E s₁) E s)
    (hs : autoParam (swapsWith value (some (.Name x p')) pos.line env = pure false) byRfl) : wpAny (model prg w) A (execs (.Assign [.Name x p'] value pos :: rest) env) Q E s :=
  sCons (wpAny_Assign_Name h hs)
theorem sIf {test : Expr} {body orelse : List Stmt} {pos : Pos} {rest : List Stmt} {Q : Flow → Shared → Prop}
    (h : wpAny (model prg w) A (isTrue test env (eval test env)) (fun b s₂ => if b = true then wpAny (model prg w) A (execs body env) (andThen w A env E rest Q) E s₂ else wpAny (model prg w) A (execs orelse env) (andThen w A env E rest Q) E s₂) E s) :
    wpAny (model prg w) A (execs (.If test body orelse pos :: rest) env) Q E s := sCons (wpAny_If h)
theorem sIf1 {test : Expr} {body : List Stmt} {pos : Pos} {rest : List Stmt} {Q : Flow → Shared → Prop}
    (h : wpAny (model prg w) A (isTrue test env (eval test env)) (fun b s₂ => if b = true then wpAny (model prg w) A (execs body env) (andThen w A env E rest Q) E s₂ else wpAny (model prg w) A (execs rest env) Q E s₂) E s) :
    wpAny (model prg w) A (execs (.If test body [] pos :: rest) env) Q E s := by
  refine sIf (wpAny_mono h (fun b s₂ h₂ => ?_) fun _ _ x => x)
  cases b
  · rw [if_neg (by decide)] at h₂ ⊢; exact sNil h₂
  · rw [if_pos rfl] at h₂ ⊢; exact h₂
theorem sRet {e : Expr} {pos : Pos} {rest : List Stmt} {Q : Flow → Shared → Prop} (h : wpAny (model prg w) A (eval e env) (fun v s' => Q (.ret v) s') E s) : wpAny (model prg w) A (execs (.Return (some e) pos :: rest) env) Q E s :=
  sCons (wpAny_Return_some (wpAny_mono h (fun _ _ q => q) fun _ _ q => q))
theorem sRet0 {pos : Pos} {rest : List Stmt} {Q : Flow → Shared → Prop} (h : Q (.ret .none) s) : wpAny (model prg w) A (execs (.Return none pos :: rest) env) Q E s :=
  sCons (wpAny_Return_none h)
theorem sPass {pos : Pos} {rest : List Stmt} {Q : Flow → Shared → Prop} (h : wpAny (model prg w) A (execs rest env) Q E s) : wpAny (model prg w) A (execs (.Pass pos :: rest) env) Q E s := sCons (wpAny_Pass h)
theorem sExp {e : Expr} {pos : Pos} {rest : List Stmt} {Q : Flow → Shared → Prop} (h : wpAny (model prg w) A (eval e env) (fun _ s' => wpAny (model prg w) A (execs rest env) Q E s') E s)
    (hi : autoParam (interactive env = false) byRfl) (hs : autoParam (swapsWith e none pos.line env = pure false) byRfl) : wpAny (model prg w) A (execs (.Expr e pos :: rest) env) Q E s := sCons (wpAny_Expr_any h hi hs)
theorem kInt {i : Int} {k : Nat} {pos : Pos} {Q : Value → Shared → Prop} (F : Fm w mu env n A g m s) (h : ∀ t s', Fm w mu env n A g m s' → Q (.int i t) s') : wpAny (model prg w) A (eval (.Constant (.int i) k pos) env) Q E s :=
  wpAny_Constant_int (h _ _ (F.toks _))
theorem kBytes {x : List UInt8} {k : Nat} {pos : Pos} {Q : Value → Shared → Prop} (F : Fm w mu env n A g m s) (h : ∀ t s', Fm w mu env n A g m s' → Q (.bytes x.toArray t) s') : wpAny (model prg w) A (eval (.Constant (.bytes x) k pos) env) Q E s :=
  Constant_bytes (h _ _ (F.toks _))
theorem kBool {b : Bool} {k : Nat} {pos : Pos} {Q : Value → Shared → Prop} (h : Q (.bool b) s) : wpAny (model prg w) A (eval (.Constant (.bool b) k pos) env) Q E s := fun _ _ _ => h
theorem kNone {k : Nat} {pos : Pos} {Q : Value → Shared → Prop} (h : Q .none s) : wpAny (model prg w) A (eval (.Constant .none k pos) env) Q E s := fun _ _ _ => h
noncomputable def IsDef (w : World) (x : Str) (f : Addr) : Prop := nsIn (KK w) mainGlobals x = some (some (.ref f)) ∧ keepIn (KK w) (.ref f) = true
theorem evc0 {x : Str} {f : Addr} {px pos : Pos} {Q : Value → Shared → Prop} (F : Fm w mu env n A g m s) (e : IsDef w x f) (h : wpAny (model prg w) A (call (.ref f) []) Q E s)
    (hx : autoParam (env.kindOf x = some .globalImplicit) byRfl) (hd : autoParam ((x == ("__debug__" : Str)) = false) byDecide) : wpAny (model prg w) A (eval (.Call (.Name x px) [] [] pos) env) Q E s :=
  wpAny_Call_Name_kw (gl F e.1 (callWith_K0 F.ww.kin e.2 h) hx hd)
theorem evc1 {x : Str} {f : Addr} {a : Expr} {px pos : Pos} {Q : Value → Shared → Prop} (F : Fm w mu env n A g m s) (e : IsDef w x f)
    (h : wpAny (model prg w) A (eval a env) (fun v s₁ => WW w s₁.heap ∧ wpAny (model prg w) A (call (.ref f) [v]) Q E s₁) E s)
    (ha : autoParam (starEach [a] env = [(false, eval a env)]) byRfl)
    (hx : autoParam (env.kindOf x = some .globalImplicit) byRfl) (hd : autoParam ((x == ("__debug__" : Str)) = false) byDecide) : wpAny (model prg w) A (eval (.Call (.Name x px) [a] [] pos) env) Q E s := by
  refine wpAny_Call_Name_kw (gl F e.1 (callWith_K F.ww.kin e.2 ?_ ha rfl) hx hd)
  rw [ha]
  exact Calls.spliced_cons (wpAny_mono h (fun _ _ q => Calls.spliced_nil ⟨q.1.kin, q.2⟩) fun _ _ x => x)
theorem evc2 {x : Str} {f : Addr} {a b : Expr} {px pos : Pos} {Q : Value → Shared → Prop} (F : Fm w mu env n A g m s) (e : IsDef w x f)
    (h : wpAny (model prg w) A (eval a env) (fun v s₁ => wpAny (model prg w) A (eval b env) (fun u s₂ => WW w s₂.heap ∧ wpAny (model prg w) A (call (.ref f) [v, u]) Q E s₂) E s₁) E s)
    (ha : autoParam (starEach [a, b] env = (false, eval a env) :: starEach [b] env) byRfl) (hb : autoParam (starEach [b] env = [(false, eval b env)]) byRfl)
    (hx : autoParam (env.kindOf x = some .globalImplicit) byRfl) (hd : autoParam ((x == ("__debug__" : Str)) = false) byDecide) : wpAny (model prg w) A (eval (.Call (.Name x px) [a, b] [] pos) env) Q E s := by
  refine wpAny_Call_Name_kw (gl F e.1 (callWith_K F.ww.kin e.2 ?_ ha (by rw [hb]; rfl)) hx hd)
  rw [ha, hb]
  exact Calls.spliced_cons (wpAny_mono h (fun _ _ q => Calls.spliced_cons (wpAny_mono q (fun _ _ r => Calls.spliced_nil ⟨r.1.kin, r.2⟩) fun _ _ x => x)) fun _ _ x => x)
theorem evc3 {x : Str} {f : Addr} {a b c : Expr} {px pos : Pos} {Q : Value → Shared → Prop} (F : Fm w mu env n A g m s) (e : IsDef w x f)
    (h : wpAny (model prg w) A (eval a env) (fun v s₁ => wpAny (model prg w) A (eval b env) (fun u s₂ => wpAny (model prg w) A (eval c env) (fun t s₃ => WW w s₃.heap ∧ wpAny (model prg w) A (call (.ref f) [v, u, t]) Q E s₃) E s₂) E s₁) E s)
    (ha : autoParam (starEach [a, b, c] env = (false, eval a env) :: starEach [b, c] env) byRfl) (hb : autoParam (starEach [b, c] env = [(false, eval b env), (false, eval c env)]) byRfl)
    (hx : autoParam (env.kindOf x = some .globalImplicit) byRfl) (hd : autoParam ((x == ("__debug__" : Str)) = false) byDecide) : wpAny (model prg w) A (eval (.Call (.Name x px) [a, b, c] [] pos) env) Q E s := by
  refine wpAny_Call_Name_kw (gl F e.1 (callWith_K F.ww.kin e.2 ?_ ha (by rw [hb]; rfl)) hx hd)
  rw [ha, hb]
  exact Calls.spliced_cons (wpAny_mono h (fun _ _ q => Calls.spliced_cons (wpAny_mono q (fun _ _ r => Calls.spliced_cons (wpAny_mono r (fun _ _ z => Calls.spliced_nil ⟨z.1.kin, z.2⟩) fun _ _ x => x)) fun _ _ x => x)) fun _ _ x => x)
structure FnPk (w : World) (f : Addr) where
  fd : FuncData
  body : List Stmt
  look : (KK w).lookup f = some ⟨.type "function", none, .func fd, #[]⟩
  code : codeIn (KK w) fd.code fd.qualname = true
  hb : fd.body = .stmts body
  st : (fd.closure = [] ∧ fd.globals = mainGlobals ∧ fd.builtins = builtinsNs) ∧ fd.scope.isCoroutine = false ∧ fd.scope.isGenerator = false ∧ fd.scope.kind = .function
abbrev envP {w : World} {f : Addr} (p : FnPk w f) (L : Addr) : Env := callEnvC p.fd L f
noncomputable def Left (w : World) (A : Around) (env : Env) (mu0 : List Addr) (s s₁ : Shared) (Q : Value → Shared → Prop) (fl : Flow) (s' : Shared) : Prop :=
  Eff w (frs (A.deeper env)) (own env ++ mu0) s₁ s' ∧ (Eff w (frs A) mu0 s s' → Q (match fl with | .ret v => v | _ => .none) s')
theorem run {f : Addr} (p : FnPk w f) {args : Args} (mu0 : List Addr) (binds : List (Str × Value)) {Q : Value → Shared → Prop} (C : Cx w (n + 1) A s) (hmu : ∀ b ∈ mu0, NB ≤ b ∧ b < s.heap.objs.size ∧ b ∉ frs A)
    (hbind : BindsTo s p.fd args binds) (hkind : kindsOk p.fd binds = true)
    (h : ∀ L s₁, s.heap.objs.size ≤ L → Eff w [] [] s s₁ → Fm w (own (envP p L) ++ mu0) (envP p L) n (A.deeper (envP p L)) s₁ (bindM binds fun _ => none) s₁ →
      wpAny (model prg w) (A.deeper (envP p L)) (execs p.body (envP p L)) (Left w A (envP p L) mu0 s s₁ Q) (fun _ _ => False) s₁) :
    codeAny (model prg w) A (.call (.ref f) args) (fun r s' => match r with | .ok (.ret v) => Q v s' | .ok _ => False | .error e => E e s') s := by
  refine enter mu0 C hmu p.look p.code p.hb hbind hkind p.st fun s₁ e1 F => ?_
  refine wpAny_mono (h _ s₁ (Nat.le_refl _) e1 F) (fun fl s' q => ?_) fun _ _ q => q.elim
  exact q.2 (e1.leave q.1 (let ⟨l, hl, _⟩ := C.fx; ⟨l, hl⟩) rfl (own_above _ _ _))
end
end Mine
end
section
open PySem PySem.W PyProof.Rows PySem.Calls
namespace Mine
open PySem.Builtin
structure Meth (T : String) (name : Str) (id : String) : Prop where
  pa : PlainAttrs T
  slot : Slot T name id
  ty : typeOf (.builtin id) = pure (.type "method_descriptor")
section
theorem m_startswith : Meth "bytes" "startswith" "bytes.startswith" := ⟨FB.plainAttrs_bytes, FB.slot_bytes_startswith, FB.type_bytes_startswith⟩
theorem m_endswith : Meth "bytes" "endswith" "bytes.endswith" := ⟨FB.plainAttrs_bytes, FB.slot_bytes_endswith, FB.type_bytes_endswith⟩
theorem slot_rstrip : Slot "bytes" "rstrip" "bytes.rstrip" :=
  .of (owner := "bytes") (n := "rstrip") (by rw [typeLookup_type, builtinLookup_eq_fast]; kernel_rfl) (by decide +kernel) (by decide +kernel) (by decide +kernel)
    (by first | exact .inl (by decide +kernel) | exact .inr (by decide +kernel)) (by rw [isSubtype_type]; kernel_rfl)
theorem slot_strip : Slot "bytes" "strip" "bytes.strip" :=
  .of (owner := "bytes") (n := "strip") (by rw [typeLookup_type, builtinLookup_eq_fast]; kernel_rfl) (by decide +kernel) (by decide +kernel) (by decide +kernel)
    (by first | exact .inl (by decide +kernel) | exact .inr (by decide +kernel)) (by rw [isSubtype_type]; kernel_rfl)
theorem slot_split : Slot "bytes" "split" "bytes.split" :=
  .of (owner := "bytes") (n := "split") (by rw [typeLookup_type, builtinLookup_eq_fast]; kernel_rfl) (by decide +kernel) (by decide +kernel) (by decide +kernel)
    (by first | exact .inl (by decide +kernel) | exact .inr (by decide +kernel)) (by rw [isSubtype_type]; kernel_rfl)
theorem slot_join : Slot "bytes" "join" "bytes.join" :=
  .of (owner := "bytes") (n := "join") (by rw [typeLookup_type, builtinLookup_eq_fast]; kernel_rfl) (by decide +kernel) (by decide +kernel) (by decide +kernel)
    (by first | exact .inl (by decide +kernel) | exact .inr (by decide +kernel)) (by rw [isSubtype_type]; kernel_rfl)
theorem m_rstrip : Meth "bytes" "rstrip" "bytes.rstrip" := ⟨FB.plainAttrs_bytes, slot_rstrip, by show builtinType _ = _; rw [builtinType_eq_fast]; kernel_rfl⟩
theorem m_strip : Meth "bytes" "strip" "bytes.strip" := ⟨FB.plainAttrs_bytes, slot_strip, by show builtinType _ = _; rw [builtinType_eq_fast]; kernel_rfl⟩
theorem m_split : Meth "bytes" "split" "bytes.split" := ⟨FB.plainAttrs_bytes, slot_split, by show builtinType _ = _; rw [builtinType_eq_fast]; kernel_rfl⟩
theorem m_join : Meth "bytes" "join" "bytes.join" := ⟨FB.plainAttrs_bytes, slot_join, by show builtinType _ = _; rw [builtinType_eq_fast]; kernel_rfl⟩
theorem entry_rstrip : entryFor table "bytes.rstrip" = some Builtin.«bytes.rstrip» := entryFor_of_tree (by kernel_rfl)
theorem entry_strip : entryFor table "bytes.strip" = some Builtin.«bytes.strip» := entryFor_of_tree (by kernel_rfl)
theorem entry_split : entryFor table "bytes.split" = some Builtin.«bytes.split» := entryFor_of_tree (by kernel_rfl)
theorem entry_join : entryFor table "bytes.join" = some Builtin.«bytes.join» := entryFor_of_tree (by kernel_rfl)
theorem args_rstrip (a b : Value) : argsOk "bytes.rstrip" ⟨[a, b], []⟩ := by unfold argsOk; kernel_rfl
theorem args_strip (a b : Value) : argsOk "bytes.strip" ⟨[a, b], []⟩ := by unfold argsOk; kernel_rfl
theorem args_split (a b : Value) : argsOk "bytes.split" ⟨[a, b], []⟩ := by unfold argsOk; kernel_rfl
theorem args_split3 (a b c : Value) : argsOk "bytes.split" ⟨[a, b, c], []⟩ := by unfold argsOk; kernel_rfl
theorem args_join (a b : Value) : argsOk "bytes.join" ⟨[a, b], []⟩ := by unfold argsOk; kernel_rfl
theorem not_tuple {b : Array UInt8} {t : Tok} : isInstance (.bytes b t) (.type "tuple") = pure false := by
  have e : isInstance (.bytes b t) (.type "tuple") = isSubtype (.type "bytes") (.type "tuple") := rfl
  rw [e, isSubtype_type]; kernel_rfl
end
section
variable {w : World} {mu : List Addr} {env : Env} {n : Nat} {A : Around} {g s s' : Shared} {m : Str → Option Value} {E : Value → Shared → Prop} {Q : Value → Shared → Prop}
theorem evm1 {T : String} {name : Str} {id : String} (M : Meth T name id) {o a : Expr} {apos pos : Pos}
    (h : wpAny (model prg w) A (eval o env) (fun ov s₁ => (s₁.TypeIs ov T ∧ (∀ a, ov = .ref a → ∃ ob, s₁.heap.get? a = some ob ∧ ob.dict = none)) ∧
      wpAny (model prg w) A (eval a env) (fun v s₂ => wpAny (model prg w) A (call (.builtin id) [ov, v]) Q E s₂) E s₁) E s)
    (hbase : autoParam (attributeBase o name env (eval o env) = eval o env) byRfl) (ha : autoParam (starEach [a] env = [(false, eval a env)]) byRfl) (hline : autoParam ((apos.endLine == pos.line) = true) byRfl) :
    wpAny (model prg w) A (eval (.Call (.Attribute o name apos) [a] [] pos) env) Q E s := by
  refine wpAny_Call_method hbase (by rw [ha]; rfl) hline M.pa M.slot M.ty (wpAny_mono h (fun ov s₁ q => ⟨q.1.1, q.1.2, ?_⟩) fun _ _ x => x)
  rw [ha]
  exact Calls.callWith_builtin rfl (Calls.evalArgs_plain (Calls.spliced_cons (wpAny_mono q.2 (fun _ _ r => Calls.spliced_nil r) fun _ _ x => x)))
theorem evm0 {T : String} {name : Str} {id : String} (M : Meth T name id) {o : Expr} {apos pos : Pos}
    (h : wpAny (model prg w) A (eval o env) (fun ov s₁ => (s₁.TypeIs ov T ∧ (∀ a, ov = .ref a → ∃ ob, s₁.heap.get? a = some ob ∧ ob.dict = none)) ∧ wpAny (model prg w) A (call (.builtin id) [ov]) Q E s₁) E s)
    (hbase : autoParam (attributeBase o name env (eval o env) = eval o env) byRfl) (hline : autoParam ((apos.endLine == pos.line) = true) byRfl) :
    wpAny (model prg w) A (eval (.Call (.Attribute o name apos) [] [] pos) env) Q E s := by
  refine wpAny_Call_method hbase rfl hline M.pa M.slot M.ty (wpAny_mono h (fun ov s₁ q => ⟨q.1.1, q.1.2, ?_⟩) fun _ _ x => x)
  exact Calls.callWith_builtin rfl (PySem.evalArgs_none q.2)
theorem evm2 {T : String} {name : Str} {id : String} (M : Meth T name id) {o a b : Expr} {apos pos : Pos}
    (h : wpAny (model prg w) A (eval o env) (fun ov s₁ => (s₁.TypeIs ov T ∧ (∀ a, ov = .ref a → ∃ ob, s₁.heap.get? a = some ob ∧ ob.dict = none)) ∧
      wpAny (model prg w) A (eval a env) (fun v s₂ => wpAny (model prg w) A (eval b env) (fun u s₃ => wpAny (model prg w) A (call (.builtin id) [ov, v, u]) Q E s₃) E s₂) E s₁) E s)
    (hbase : autoParam (attributeBase o name env (eval o env) = eval o env) byRfl) (ha : autoParam (starEach [a, b] env = (false, eval a env) :: starEach [b] env) byRfl) (hb : autoParam (starEach [b] env = [(false, eval b env)]) byRfl) (hline : autoParam ((apos.endLine == pos.line) = true) byRfl) :
    wpAny (model prg w) A (eval (.Call (.Attribute o name apos) [a, b] [] pos) env) Q E s := by
  refine wpAny_Call_method hbase (by rw [ha, hb]; rfl) hline M.pa M.slot M.ty (wpAny_mono h (fun ov s₁ q => ⟨q.1.1, q.1.2, ?_⟩) fun _ _ x => x)
  rw [ha, hb]
  exact Calls.callWith_builtin rfl (Calls.evalArgs_plain (Calls.spliced_cons (wpAny_mono q.2 (fun _ _ r => Calls.spliced_cons (wpAny_mono r (fun _ _ z => Calls.spliced_nil z) fun _ _ x => x)) fun _ _ x => x)))
theorem isB {b : Array UInt8} {t : Tok} : s.TypeIs (.bytes b t) "bytes" ∧ (∀ a, Value.bytes b t = .ref a → ∃ ob, s.heap.get? a = some ob ∧ ob.dict = none) := ⟨rfl, fun _ e => nomatch e⟩
end
end Mine
end
section
open PySem PySem.W PyProof.Rows PySem.Calls
namespace Mine
open PySem.Builtin
theorem extract_pre (l p : List UInt8) : (if (l.length : Int) < p.length then false else l.toArray.extract 0 p.length == p.toArray) = p.isPrefixOf l := by
  by_cases h : (l.length : Int) < p.length
  · rw [if_pos h]
    symm
    rw [← Bool.not_eq_true, List.isPrefixOf_iff_prefix]
    intro q
    have := q.length_le
    omega
  · rw [if_neg h, Bool.eq_iff_iff, List.isPrefixOf_iff_prefix, beq_iff_eq]
    have e : l.toArray.extract 0 p.length = (l.take p.length).toArray := by simp [List.extract_toArray]
    rw [e]
    constructor
    · intro q
      have q' : l.take p.length = p := by simpa using q
      exact ⟨l.drop p.length, by conv => lhs; lhs; rw [← q']
                                 exact List.take_append_drop ..⟩
    · rintro ⟨r, rfl⟩; simp
theorem extract_suf (l p : List UInt8) : (if (l.length : Int) < p.length then false else l.toArray.extract (l.length - p.length) l.length == p.toArray) = p.isSuffixOf l := by
  by_cases h : (l.length : Int) < p.length
  · rw [if_pos h]
    symm
    rw [← Bool.not_eq_true, List.isSuffixOf_iff_suffix]
    intro q
    have := q.length_le
    omega
  · rw [if_neg h, Bool.eq_iff_iff, List.isSuffixOf_iff_suffix, beq_iff_eq]
    have e : l.toArray.extract (l.length - p.length) l.length = (l.drop (l.length - p.length)).toArray := by
      simp only [List.extract_toArray, List.extract_eq_take_drop]
      rw [List.take_of_length_le (by simp)]
    rw [e]
    constructor
    · intro q
      have q' : l.drop (l.length - p.length) = p := by simpa using q
      exact ⟨l.take (l.length - p.length), by conv => lhs; rhs; rw [← q']
                                              exact List.take_append_drop ..⟩
    · rintro ⟨r, rfl⟩; simp
theorem gives_startswith (l p : List UInt8) (t u : Tok) : Gives («bytes.startswith» ⟨[.bytes l.toArray t, .bytes p.toArray u], []⟩) (.val (.bool (p.isPrefixOf l))) := by
  refine .of_wp fun M A E s Q hq => ?_
  show wpAny M A (isInstance (.bytes p.toArray u) (.type "tuple") >>= fun r => _) _ E s
  refine wpAny_bind (wpAny_of_eq not_tuple ?_)
  show wpAny M A (Bytes.buffer? _ (.bytes p.toArray u) >>= fun r => _) _ E s
  refine wpAny_bind (wpAny_of_eq KBy.buffer_eq ?_)
  refine wpAny_pure ⟨_, rfl, ?_⟩
  have e : ∀ x : Bool, x = p.isPrefixOf l → Q (.bool x) s := fun x q => q ▸ hq
  refine e _ ?_
  rw [← extract_pre]
  have e1 : ¬ (l.length : Int) < 0 := by omega
  simp [e1]
theorem gives_endswith (l p : List UInt8) (t u : Tok) : Gives («bytes.endswith» ⟨[.bytes l.toArray t, .bytes p.toArray u], []⟩) (.val (.bool (p.isSuffixOf l))) := by
  refine .of_wp fun M A E s Q hq => ?_
  show wpAny M A (isInstance (.bytes p.toArray u) (.type "tuple") >>= fun r => _) _ E s
  refine wpAny_bind (wpAny_of_eq not_tuple ?_)
  show wpAny M A (Bytes.buffer? _ (.bytes p.toArray u) >>= fun r => _) _ E s
  refine wpAny_bind (wpAny_of_eq KBy.buffer_eq ?_)
  refine wpAny_pure ⟨_, rfl, ?_⟩
  have e : ∀ x : Bool, x = p.isSuffixOf l → Q (.bool x) s := fun x q => q ▸ hq
  refine e _ ?_
  rw [← extract_suf]
  have e1 : ¬ (l.length : Int) < 0 := by omega
  simp [e1]
noncomputable def rstripB (cs l : List UInt8) : List UInt8 := (l.reverse.dropWhile cs.contains).reverse
noncomputable def stripB (cs l : List UInt8) : List UInt8 := rstripB cs (l.dropWhile cs.contains)
theorem rstripB_len (cs l : List UInt8) : (rstripB cs l).length ≤ l.length := by
  unfold rstripB
  rw [List.length_reverse]
  exact Nat.le_trans (List.dropWhile_sublist _).length_le (by simp)
theorem stripB_len (cs l : List UInt8) : (stripB cs l).length ≤ l.length := Nat.le_trans (rstripB_len ..) (List.dropWhile_sublist _).length_le
theorem rstripB_full {cs l : List UInt8} (h : (rstripB cs l).length = l.length) : rstripB cs l = l := by
  unfold rstripB at *
  rw [List.length_reverse] at h
  have : l.reverse.dropWhile cs.contains = l.reverse := (List.dropWhile_sublist _).eq_of_length (by simpa using h)
  rw [this, List.reverse_reverse]
theorem stripB_full {cs l : List UInt8} (h : (stripB cs l).length = l.length) : stripB cs l = l := by
  have h1 := rstripB_len cs (l.dropWhile cs.contains)
  have h2 := (List.dropWhile_sublist (p := cs.contains) (l := l)).length_le
  have h3 : l.dropWhile cs.contains = l := (List.dropWhile_sublist _).eq_of_length (by unfold stripB at h; omega)
  unfold stripB at *
  rw [h3] at h ⊢
  exact rstripB_full h
theorem like_eq {b : Array UInt8} {t : Tok} {id : String} : Bytes.bytesLike id (.bytes b t) = pure b := by
  unfold Bytes.bytesLike; rw [KBy.buffer_eq]; rfl
noncomputable def madeB (l r : List UInt8) (t : Tok) : Made := if r.length = l.length then .val (.bytes l.toArray t) else .bytes r.toArray
theorem gives_rstrip (l p : List UInt8) (t u : Tok) (hz : l.length ≤ sizeLine) : Gives («bytes.rstrip» ⟨[.bytes l.toArray t, .bytes p.toArray u], []⟩) (madeB l (rstripB p l) t) := by
  refine .of_wp fun M A E s Q hq => ?_
  show wpAny M A (Bytes.bytesLike _ (.bytes p.toArray u) >>= fun r => _) _ E s
  refine wpAny_bind (wpAny_of_eq like_eq ?_)
  show wpAny M A (if ((l.reverse.dropWhile p.toArray.contains).reverse).length == l.toArray.size then _ else _) _ E s
  have e : (l.reverse.dropWhile p.toArray.contains).reverse = rstripB p l := by unfold rstripB; congr 2; funext x; simp
  rw [e]
  unfold madeB at hq
  by_cases hc : (rstripB p l).length = l.length
  · rw [if_pos hc] at hq
    rw [if_pos (by simp [hc])]
    refine wpAny_bind (wpAny_rule ?_)
    refine wpAny_bind (wpAny_bind (wpAny_typeOf (typeIs_bytes s l.toArray t) ?_))
    exact wpAny_pure (wpAny_pure ⟨_, rfl, hq⟩)
  · rw [if_neg hc] at hq
    rw [if_neg (by simp [hc])]
    refine wpAny_bind (wpAny_mkBytes (wpAny_pure ⟨_, rfl, ?_⟩) ?_)
    · show Q (.bytes ((l.reverse.dropWhile p.toArray.contains).reverse).toArray _) _
      rw [e]; exact hq.2
    · show ((l.reverse.dropWhile p.toArray.contains).reverse).toArray.size ≤ _
      rw [e]; exact hq.1
theorem gives_strip (l p : List UInt8) (t u : Tok) (hz : l.length ≤ sizeLine) : Gives («bytes.strip» ⟨[.bytes l.toArray t, .bytes p.toArray u], []⟩) (madeB l (stripB p l) t) := by
  refine .of_wp fun M A E s Q hq => ?_
  show wpAny M A (Bytes.bytesLike _ (.bytes p.toArray u) >>= fun r => _) _ E s
  refine wpAny_bind (wpAny_of_eq like_eq ?_)
  show wpAny M A (if (((l.dropWhile p.toArray.contains).reverse.dropWhile p.toArray.contains).reverse).length == l.toArray.size then _ else _) _ E s
  have e : ((l.dropWhile p.toArray.contains).reverse.dropWhile p.toArray.contains).reverse = stripB p l := by
    have : (p.toArray.contains : UInt8 → Bool) = p.contains := by funext x; simp
    unfold stripB rstripB; rw [this]
  rw [e]
  unfold madeB at hq
  by_cases hc : (stripB p l).length = l.length
  · rw [if_pos hc] at hq
    rw [if_pos (by simp [hc])]
    refine wpAny_bind (wpAny_rule ?_)
    refine wpAny_bind (wpAny_bind (wpAny_typeOf (typeIs_bytes s l.toArray t) ?_))
    exact wpAny_pure (wpAny_pure ⟨_, rfl, hq⟩)
  · rw [if_neg hc] at hq
    rw [if_neg (by simp [hc])]
    refine wpAny_bind (wpAny_mkBytes (wpAny_pure ⟨_, rfl, ?_⟩) ?_)
    · show Q (.bytes (((l.dropWhile p.toArray.contains).reverse.dropWhile p.toArray.contains).reverse).toArray _) _
      rw [e]; exact hq.2
    · show (((l.dropWhile p.toArray.contains).reverse.dropWhile p.toArray.contains).reverse).toArray.size ≤ _
      rw [e]; exact hq.1
section
variable {w : World} {A : Around} {s : Shared} {E : Value → Shared → Prop} {Q : Value → Shared → Prop} {l p : List UInt8} {t u : Tok}
theorem madeB_post {r : List UInt8} (hz : r.length ≤ sizeLine) (hf : r.length = l.length → r = l) (h : ∀ t' s', Eff w [] [] s s' → Q (.bytes r.toArray t') s') : (madeB l r t).post Q s := by
  unfold madeB
  split
  · rename_i q; have := h t s (.refl ..); rw [hf q] at this; exact this
  · exact ⟨by simpa using hz, h _ _ (.toks _)⟩
theorem b_startswith (h : Q (.bool (p.isPrefixOf l)) s) : wpAny (model prg w) A (call (.builtin "bytes.startswith") [.bytes l.toArray t, .bytes p.toArray u]) Q E s :=
  call_gives FB.slot_bytes_startswith (typeIs_bytes s _ t) FB.entry_bytes_startswith (FB.args_bytes_startswith_2 _ _) (gives_startswith l p t u) h
theorem b_endswith (h : Q (.bool (p.isSuffixOf l)) s) : wpAny (model prg w) A (call (.builtin "bytes.endswith") [.bytes l.toArray t, .bytes p.toArray u]) Q E s :=
  call_gives FB.slot_bytes_endswith (typeIs_bytes s _ t) FB.entry_bytes_endswith (FB.args_bytes_endswith_2 _ _) (gives_endswith l p t u) h
theorem b_rstrip (hz : l.length ≤ sizeLine) (h : ∀ t' s', Eff w [] [] s s' → Q (.bytes (rstripB p l).toArray t') s') : wpAny (model prg w) A (call (.builtin "bytes.rstrip") [.bytes l.toArray t, .bytes p.toArray u]) Q E s :=
  call_gives slot_rstrip (typeIs_bytes s _ t) entry_rstrip (args_rstrip _ _) (gives_rstrip l p t u hz) (madeB_post (Nat.le_trans (rstripB_len ..) hz) rstripB_full h)
theorem b_strip (hz : l.length ≤ sizeLine) (h : ∀ t' s', Eff w [] [] s s' → Q (.bytes (stripB p l).toArray t') s') : wpAny (model prg w) A (call (.builtin "bytes.strip") [.bytes l.toArray t, .bytes p.toArray u]) Q E s :=
  call_gives slot_strip (typeIs_bytes s _ t) entry_strip (args_strip _ _) (gives_strip l p t u hz) (madeB_post (Nat.le_trans (stripB_len ..) hz) stripB_full h)
end
end Mine
end
section
open PySem PySem.W PyProof.Rows PySem.Calls
namespace Mine
open PySem.Builtin
noncomputable def splitB (c : UInt8) : List UInt8 → List (List UInt8)
  | [] => [[]]
  | x :: r => if x = c then [] :: splitB c r else match splitB c r with
    | h :: t => (x :: h) :: t
    | [] => [[x]]
noncomputable def split1B (c : UInt8) : List UInt8 → List (List UInt8)
  | [] => [[]]
  | x :: r => if x = c then [[], r] else match split1B c r with
    | h :: t => (x :: h) :: t
    | [] => [[x]]
inductive BytesAre : List Value → List (List UInt8) → Prop
  | nil : BytesAre [] []
  | cons {l : List UInt8} {t : Tok} {vs : List Value} {ls : List (List UInt8)} : BytesAre vs ls → BytesAre (.bytes l.toArray t :: vs) (l :: ls)
theorem BytesAre.length : ∀ {vs : List Value} {ls : List (List UInt8)}, BytesAre vs ls → vs.length = ls.length
  | _, _, .nil => rfl
  | _, _, .cons h => congrArg (· + 1) h.length
theorem BytesAre.get : ∀ {vs : List Value} {ls : List (List UInt8)}, BytesAre vs ls → ∀ {i : Nat} {v : Value}, vs[i]? = some v → ∃ l t, ls[i]? = some l ∧ v = .bytes l.toArray t
  | _, _, .cons (l := l) (t := t) h, 0, v, e => ⟨l, t, rfl, (Option.some.inj e).symm⟩
  | _, _, .cons h, i + 1, v, e => h.get e
theorem BytesAre.app {vs us : List Value} {ls ms : List (List UInt8)} (h : BytesAre vs ls) (k : BytesAre us ms) : BytesAre (vs ++ us) (ls ++ ms) := by
  induction h with
  | nil => exact k
  | cons _ ih => exact .cons ih
noncomputable def pieces (l : List UInt8) : Nat → List Nat → List (List UInt8)
  | k, [] => [l.drop k]
  | k, p :: ps => (l.drop k).take (p - k) :: pieces l (p + 1) ps
theorem between_eq (l : List UInt8) : ∀ (ps : List Nat) (k : Nat) (acc : Array (Array UInt8)),
    (let r := ps.foldl (fun (x : Array (Array UInt8) × Nat) p => (x.1.push (l.toArray.extract x.2 p), p + 1)) (acc, k); (r.1.push (l.toArray.extract r.2 l.toArray.size)).toList) = acc.toList ++ (pieces l k ps).map List.toArray := by
  intro ps
  induction ps with
  | nil => intro k acc; simp [pieces, List.extract_eq_take_drop]; rw [List.take_of_length_le (by simp)]
  | cons p ps ih =>
    intro k acc
    simp only [List.foldl_cons] at ih ⊢
    rw [ih]
    simp [pieces, List.extract_eq_take_drop]
theorem between_pieces (l : List UInt8) (ps : List Nat) : Bytes.between l.toArray 1 ps = (pieces l 0 ps).map List.toArray := by
  have := between_eq l ps 0 #[]
  simpa [Bytes.between] using this
theorem occ_eq (l : List UInt8) (c : UInt8) : Bytes.occurrences l.toArray [c].toArray 0 l.toArray.size = (List.range l.length).filter fun i => l[i]? == some c := by
  have ext : ∀ i, i < l.length → (l.toArray.extract i (i + 1) == #[c]) = (l[i]? == some c) := by
    intro i hi
    rw [Bool.eq_iff_iff, beq_iff_eq, beq_iff_eq]
    have h1 : List.take 1 (List.drop i l) = [l[i]] := by rw [List.drop_eq_getElem_cons hi]; rfl
    simp only [List.extract_toArray, List.extract_eq_take_drop, List.getElem?_eq_getElem hi, Option.some.injEq]
    rw [show i + 1 - i = 1 from by omega, h1]
    simp
  have key : ∀ (is : List Nat) (acc : List Nat) (m : Nat), (∀ i ∈ is, m ≤ i ∧ i < l.length) → is.Pairwise (· < ·) →
      (is.foldl (fun (acc : List Nat × Nat) i => if (decide (i ≥ acc.2) && l.toArray.extract i (i + 1) == #[c]) = true then (i :: acc.1, i + 1) else acc) (acc, m)).1.reverse = acc.reverse ++ is.filter fun i => l[i]? == some c := by
    intro is
    induction is with
    | nil => intro acc m _ _; simp
    | cons i is ih =>
      intro acc m hm hp
      have h0 := hm i (.head _)
      rw [List.foldl_cons]
      have e : (decide (i ≥ m) && l.toArray.extract i (i + 1) == #[c]) = (l[i]? == some c) := by
        rw [ext i h0.2, decide_eq_true (by omega : i ≥ m), Bool.true_and]
      rw [e]
      rw [List.pairwise_cons] at hp
      by_cases hc : (l[i]? == some c) = true
      · rw [if_pos hc, ih _ _ (fun j hj => ⟨by have := hp.1 j hj; omega, (hm j (.tail _ hj)).2⟩) hp.2, List.filter_cons, if_pos hc]
        simp
      · rw [if_neg hc, ih _ _ (fun j hj => hm j (.tail _ hj)) hp.2, List.filter_cons, if_neg hc]
  have := key (List.range l.length) [] 0 (fun i hi => ⟨Nat.zero_le _, List.mem_range.mp hi⟩) List.pairwise_lt_range
  simpa [Bytes.occurrences] using this
theorem places_cons (x c : UInt8) (r : List UInt8) : ((List.range (x :: r).length).filter fun i => (x :: r)[i]? == some c) = (if x = c then [0] else []) ++ ((List.range r.length).filter fun i => r[i]? == some c).map (· + 1) := by
  rw [List.length_cons, List.range_succ_eq_map, List.filter_cons, List.filter_map]
  by_cases h : x = c
  · subst h; simp [Function.comp_def]
  · simp [h, Function.comp_def]
theorem pieces_shift (x : UInt8) (r : List UInt8) : ∀ (ps : List Nat) (k : Nat), pieces (x :: r) (k + 1) (ps.map (· + 1)) = pieces r k ps := by
  intro ps
  induction ps with
  | nil => intro k; simp [pieces]
  | cons p ps ih => intro k; simp only [List.map_cons, pieces, List.drop_succ_cons, ih]; rw [show p + 1 - (k + 1) = p - k from Nat.add_sub_add_right p 1 k]
theorem pieces_grow (x : UInt8) (r : List UInt8) (ps : List Nat) : pieces (x :: r) 0 (ps.map (· + 1)) = match pieces r 0 ps with | h :: t => (x :: h) :: t | [] => [[x]] := by
  cases ps with
  | nil => simp [pieces]
  | cons p ps => simp only [List.map_cons, pieces, pieces_shift]; simp
theorem pieces_split (c : UInt8) : ∀ l : List UInt8, pieces l 0 ((List.range l.length).filter fun i => l[i]? == some c) = splitB c l
  | [] => by simp [pieces, splitB]
  | x :: r => by
    rw [places_cons]
    unfold splitB
    by_cases h : x = c
    · rw [if_pos h, if_pos h, List.singleton_append, ← pieces_split c r]
      simp only [pieces]
      rw [pieces_shift]; simp
    · rw [if_neg h, if_neg h, List.nil_append, pieces_grow, pieces_split c r]
theorem pieces_split1 (c : UInt8) : ∀ l : List UInt8, pieces l 0 (((List.range l.length).filter fun i => l[i]? == some c).take 1) = split1B c l
  | [] => by simp [pieces, split1B]
  | x :: r => by
    rw [places_cons]
    unfold split1B
    by_cases h : x = c
    · rw [if_pos h, if_pos h]; simp [pieces]
    · rw [if_neg h, if_neg h, List.nil_append, ← List.map_take, pieces_grow, pieces_split1 c r]
section
variable {w : World} {A : Around} {s : Shared} {E : Value → Shared → Prop} {Q : Value → Shared → Prop} {l p : List UInt8} {t u : Tok}
theorem new_list {vs : List Value} (hz : vs.length ≤ sizeLine) (h : ∀ a s', Eff w [] [] s s' → s'.heap.IsList a vs.toArray → Fresh w s a → Q (.ref a) s') : wpAny (model prg w) A (newList vs) Q E s :=
  wpAny_newObj_type (h _ _ (.push _) ⟨_, Heap.get?_push_size _ rfl, rfl, 0, rfl⟩ (Fresh.size w s)) (by show vs.toArray.size ≤ sizeLine; simpa using hz)
theorem mapM_new {Q : List Value → Shared → Prop} : ∀ {ls : List (List UInt8)} {s : Shared}, (∀ x ∈ ls, x.length ≤ sizeLine) → (∀ vs s', Eff w [] [] s s' → BytesAre vs ls → Q vs s') → wpAny (model prg w) A ((ls.map List.toArray).mapM (Bytes.Kind.new .bytes)) Q E s
  | [], s, _, h => by rw [List.map_nil, List.mapM_nil]; exact wpAny_pure (h _ _ (.refl ..) .nil)
  | x :: r, s, hz, h => by
    rw [List.map_cons, List.mapM_cons]
    refine wpAny_bind (wpAny_mkBytes ?_ (by simpa using hz x (.head _)))
    exact wpAny_bind (mapM_new (fun y hy => hz y (.tail _ hy)) fun vs s' e b => wpAny_pure (h _ _ ((Eff.toks _).trans e) (.cons b)))
theorem splitB_len (c : UInt8) : ∀ l : List UInt8, (splitB c l).length ≤ l.length + 1 ∧ ∀ x ∈ splitB c l, x.length ≤ l.length
  | [] => ⟨by simp [splitB], by simp [splitB]⟩
  | y :: r => by
    obtain ⟨h1, h2⟩ := splitB_len c r
    unfold splitB
    split
    · refine ⟨by simpa using h1, fun x hx => ?_⟩
      rcases List.mem_cons.mp hx with rfl | hx
      · simp
      · have := h2 x hx; simp; with_reducible exact Nat.le_succ_of_le (by assumption)
    · cases hs : splitB c r with
      | nil => exact ⟨by simp, by simp⟩
      | cons a b =>
        rw [hs] at h1 h2
        refine ⟨by simp at h1 ⊢; with_reducible exact Nat.le_succ_of_le (by assumption), fun x hx => ?_⟩
        rcases List.mem_cons.mp hx with rfl | hx
        · have := h2 a (.head _); simp; omega
        · have := h2 x (.tail _ hx); simp; with_reducible exact Nat.le_succ_of_le (by assumption)
theorem splitB_ne (c : UInt8) (l : List UInt8) : splitB c l ≠ [] := by
  cases l with
  | nil => simp [splitB]
  | cons x r => unfold splitB; split
                · simp
                · split <;> simp
theorem split1B_ne (c : UInt8) (l : List UInt8) : split1B c l ≠ [] := by
  cases l with
  | nil => simp [split1B]
  | cons x r => unfold split1B; split
                · simp
                · split <;> simp
theorem split1B_len (c : UInt8) : ∀ l : List UInt8, (split1B c l).length ≤ 2 ∧ ∀ x ∈ split1B c l, x.length ≤ l.length
  | [] => ⟨by simp [split1B], by simp [split1B]⟩
  | y :: r => by
    obtain ⟨h1, h2⟩ := split1B_len c r
    unfold split1B
    split
    · refine ⟨by simp, fun x hx => ?_⟩
      rcases List.mem_cons.mp hx with rfl | hx
      · simp
      · have := List.mem_singleton.mp hx; subst this; simp
    · cases hs : split1B c r with
      | nil => exact ⟨by simp, by simp⟩
      | cons a b =>
        rw [hs] at h1 h2
        refine ⟨by simp at h1 ⊢; with_reducible exact leK (by assumption) rfl, fun x hx => ?_⟩
        rcases List.mem_cons.mp hx with rfl | hx
        · have := h2 a (.head _); simp; omega
        · have := h2 x (.tail _ hx); simp; with_reducible exact Nat.le_succ_of_le (by assumption)
theorem split_bind (sep : Value) : Bytes.bindOptional "bytes.split" "split" ["sep", "maxsplit"] [sep] [] = pure [some sep, none] := by kernel_rfl
theorem split_bind2 (sep m : Value) : Bytes.bindOptional "bytes.split" "split" ["sep", "maxsplit"] [sep, m] [] = pure [some sep, some m] := by kernel_rfl
theorem split_tail (c : UInt8) (ps : List Nat) (hz : l.length ≤ 1048576) (id : String) {L : List (List UInt8)} (hL : pieces l 0 ps = L) (hn : L.length ≤ l.length + 1 ∧ ∀ x ∈ L, x.length ≤ l.length)
    {Q : Fin → Shared → Prop} (h : ∀ a s' vs, Eff w [] [] s s' → s'.heap.IsList a vs.toArray → BytesAre vs L → Fresh w s a → Q (.done (.ret (.ref a))) s') :
    wpAny (model prg w) A (do
      if ps.isEmpty then rule id; return ← ret (← newList [← Bytes.Kind.same .bytes (.bytes l.toArray t)])
      ret (← newList (← (Bytes.between l.toArray 1 ps).mapM (Bytes.Kind.new .bytes)))) Q E s := by
  have hs : (16777216 : Nat) = sizeLine := sizeLine_eq.symm
  cases hp : ps with
  | nil =>
    subst hp
    rw [if_pos (show ([] : List Nat).isEmpty = true from rfl)]
    refine wpAny_bind (wpAny_rule ?_)
    refine wpAny_bind (wpAny_bind (wpAny_bind (wpAny_typeOf (typeIs_bytes s l.toArray t) ?_)))
    refine wpAny_pure ?_
    rw [if_pos (show (Value.type "bytes" == Value.type "bytes") = true from by decide)]
    refine wpAny_pure ?_
    refine wpAny_bind (new_list (vs := [_]) (by show 1 ≤ sizeLine; rw [sizeLine_eq]; decide) fun a s' e hl hlt => wpAny_pure ?_)
    have : pieces l 0 [] = [l] := by simp [pieces]
    exact h _ _ _ e hl (hL ▸ this ▸ .cons .nil) hlt
  | cons p r =>
    rw [← hp, if_neg (by rw [hp]; simp), between_pieces, hL]
    refine wpAny_bind (mapM_new (fun x hx => by have := hn.2 x hx; with_reducible exact leC (by assumption) (by assumption) rfl) fun vs s' e b => ?_)
    refine wpAny_bind (new_list (by rw [b.length]; omega) fun a s'' e' hl hlt => wpAny_pure ?_)
    exact h _ _ _ (e.trans e') hl b (hlt.back e)
theorem b_split {c : UInt8} (hz : l.length ≤ 1048576) (h : ∀ a s' vs, Eff w [] [] s s' → s'.heap.IsList a vs.toArray → BytesAre vs (splitB c l) → Fresh w s a → Q (.ref a) s') :
    wpAny (model prg w) A (call (.builtin "bytes.split") [.bytes l.toArray t, .bytes [c].toArray u]) Q E s := by
  refine wpAny_call (codeAny_call_builtin slot_split.plain entry_split (slot_split.check _ _ _ _ _ _ _ _ (typeIs_bytes s _ t) (args_split _ _) ?_))
  unfold Builtin.«bytes.split»
  show wpAny _ _ (Bytes.bindOptional "bytes.split" "split" ["sep", "maxsplit"] [.bytes [c].toArray u] [] >>= fun r => _) _ _ s
  rw [split_bind]
  show wpAny _ _ (Bytes.bytesLike _ (.bytes [c].toArray u) >>= fun r => _) _ _ s
  refine wpAny_bind (wpAny_of_eq like_eq ?_)
  have hps : (Bytes.occurrences l.toArray [c].toArray 0 l.toArray.size).take (l.toArray.size + 1) = (List.range l.length).filter fun i => l[i]? == some c := by
    rw [occ_eq]
    refine List.take_of_length_le (Nat.le_trans (List.length_filter_le ..) (by simp))
  show wpAny _ _ (do
      if ((Bytes.occurrences l.toArray [c].toArray 0 l.toArray.size).take (l.toArray.size + 1)).isEmpty then rule _; return ← ret (← newList [← Bytes.Kind.same .bytes (.bytes l.toArray t)])
      ret (← newList (← (Bytes.between l.toArray 1 ((Bytes.occurrences l.toArray [c].toArray 0 l.toArray.size).take (l.toArray.size + 1))).mapM (Bytes.Kind.new .bytes)))) _ _ s
  rw [hps]
  exact split_tail c _ hz _ (pieces_split c l) (splitB_len c l) fun a s' vs e hl b hlt => h a s' vs e hl b hlt
theorem countArg_one {id : String} {u : Tok} : Bytes.countArg id (.int 1 u) = pure 1 := by
  unfold Bytes.countArg; kernel_rfl
theorem b_split1 {c : UInt8} {u1 : Tok} (hz : l.length ≤ 1048576) (h : ∀ a s' vs, Eff w [] [] s s' → s'.heap.IsList a vs.toArray → BytesAre vs (split1B c l) → Fresh w s a → Q (.ref a) s') :
    wpAny (model prg w) A (call (.builtin "bytes.split") [.bytes l.toArray t, .bytes [c].toArray u, .int 1 u1]) Q E s := by
  refine wpAny_call (codeAny_call_builtin slot_split.plain entry_split (slot_split.check _ _ _ _ _ _ _ _ (typeIs_bytes s _ t) (args_split3 _ _ _) ?_))
  unfold Builtin.«bytes.split»
  show wpAny _ _ (Bytes.bindOptional "bytes.split" "split" ["sep", "maxsplit"] [.bytes [c].toArray u, .int 1 u1] [] >>= fun r => _) _ _ s
  rw [split_bind2]
  simp only [pure_bind]
  refine wpAny_bind (wpAny_of_eq countArg_one ?_)
  show wpAny _ _ (Bytes.bytesLike _ (.bytes [c].toArray u) >>= fun r => _) _ _ s
  refine wpAny_bind (wpAny_of_eq like_eq ?_)
  show wpAny _ _ (do
      if ((Bytes.occurrences l.toArray [c].toArray 0 l.toArray.size).take 1).isEmpty then rule _; return ← ret (← newList [← Bytes.Kind.same .bytes (.bytes l.toArray t)])
      ret (← newList (← (Bytes.between l.toArray 1 ((Bytes.occurrences l.toArray [c].toArray 0 l.toArray.size).take 1)).mapM (Bytes.Kind.new .bytes)))) _ _ s
  rw [occ_eq]
  have hn := split1B_len c l
  have hne := split1B_ne c l
  by_cases hl : l = []
  · subst hl
    exact split_tail c _ hz _ (pieces_split1 c []) ⟨by simp [split1B], hn.2⟩ fun a s' vs e hl b hlt => h a s' vs e hl b hlt
  · have : 1 ≤ l.length := by cases l with | nil => exact absurd rfl hl | cons _ _ => simp
    exact split_tail c _ hz _ (pieces_split1 c l) ⟨by omega, hn.2⟩ fun a s' vs e hl b hlt => h a s' vs e hl b hlt
end
end Mine
end
section
open PySem PySem.W PyProof.Rows PySem.Calls
namespace Mine
open PySem.Builtin
noncomputable def joinB (p : List UInt8) : List (List UInt8) → List UInt8
  | [] => []
  | [x] => x
  | x :: y :: r => x ++ p ++ joinB p (y :: r)
noncomputable def joinSum (p : List UInt8) (ls : List (List UInt8)) : Nat := (ls.map List.length).sum + p.length * (ls.length - 1)
theorem joinB_len (p : List UInt8) : ∀ ls : List (List UInt8), (joinB p ls).length = joinSum p ls
  | [] => by simp [joinB, joinSum]
  | [x] => by simp [joinB, joinSum]
  | x :: y :: r => by
    have := joinB_len p (y :: r)
    simp only [joinB, joinSum, List.length_append, List.map_cons, List.sum_cons, List.length_cons] at this ⊢
    rw [this]
    rw [show r.length + 1 + 1 - 1 = (r.length + 1 - 1) + 1 from rfl, Nat.mul_add]
    omega
theorem joined_eq (p : List UInt8) : ∀ ls : List (List UInt8), Bytes.joined p.toArray (ls.map List.toArray) = (joinB p ls).toArray := by
  have key : ∀ (ls : List (List UInt8)) (k : Nat) (out : Array UInt8), 0 < k → ((ls.map List.toArray).zipIdx k).foldl (fun out (q : Array UInt8 × Nat) => (if q.2 > 0 then out ++ p.toArray else out) ++ q.1) out = out ++ (ls.flatMap fun x => p ++ x).toArray := by
    intro ls
    induction ls with
    | nil => intro k out _; simp
    | cons x r ih =>
      intro k out hk
      rw [List.map_cons, List.zipIdx_cons, List.foldl_cons, ih _ _ (by with_reducible exact Nat.lt_succ_of_lt (by assumption))]
      simp [hk]
  have flat : ∀ (x : List UInt8) (r : List (List UInt8)), joinB p (x :: r) = x ++ r.flatMap fun x => p ++ x := by
    intro x r
    induction r generalizing x with
    | nil => simp [joinB]
    | cons y r ih => rw [joinB, ih]; simp
  intro ls
  cases ls with
  | nil => simp [Bytes.joined, joinB]
  | cons x r =>
    unfold Bytes.joined
    rw [List.map_cons, List.zipIdx_cons, List.foldl_cons]
    have := key r 1 x.toArray (by decide)
    simp only [gt_iff_lt, Nat.lt_irrefl, if_false, Nat.zero_add] at this ⊢
    rw [flat]
    simpa using this
section
variable {w : World} {A : Around} {s : Shared} {E : Value → Shared → Prop} {Q : Value → Shared → Prop} {l p : List UInt8} {t u : Tok}
theorem take_eq {b : Array UInt8} {t : Tok} {id : String} : Bytes.takeBufferQuiet? id (.bytes b t) 0 = pure (some (b, none)) := by
  unfold Bytes.takeBufferQuiet? Bytes.takeBuffer?
  rw [KBy.special_eq KBy.look_buffer, KBy.own_buffer]
  rw [show (Bytes.buffer? id (.bytes b t) (full := (0 : Int) == Bytes.fullReadOnly)) = pure (some b) from ?_]
  · kernel_rfl
  · unfold Bytes.buffer?
    rw [KBy.special_eq KBy.look_buffer, KBy.own_buffer, KBy.own_release]
    kernel_rfl
theorem pick1 {α : Type} (f : Value → α) (k : α) (P : α → Prop) (vs : List Value) (h1 : ∀ v, vs = [v] → P (f v)) (h2 : P k) : P (match vs.toArray with | #[x] => f x | _ => k) := by
  rcases vs with _ | ⟨v, _ | ⟨v2, r⟩⟩
  · exact h2
  · exact h1 v rfl
  · exact h2
theorem join_any {it : Value} {ls : List (List UInt8)} (hz : joinSum p ls ≤ 16777216) (hn : ls.length ≤ 16777216)
    (hit : wpAny (model prg w) A.in1 (Bytes.joinItems it) (fun v s₁ => ∃ a vs, v = .ref a ∧ s₁.heap.IsList a vs.toArray ∧ BytesAre vs ls ∧ (∀ t' s', Eff w [] [] s₁ s' → Q (.bytes (joinB p ls).toArray t') s')) E s) :
    wpAny (model prg w) A (call (.builtin "bytes.join") [.bytes p.toArray t, it]) Q E s := by
  refine wpAny_call (codeAny_call_builtin slot_join.plain entry_join (slot_join.check _ _ _ _ _ _ _ _ (typeIs_bytes s _ t) (args_join _ _) ?_))
  unfold Builtin.«bytes.join» Bytes.joinM
  show wpAny _ _ (Bytes.joinItems it >>= fun r => _) _ _ s
  refine wpAny_bind (wpAny_mono hit (fun v s₁ q => ?_) fun _ _ x => x)
  obtain ⟨a, vs, rfl, hl, hb, hq⟩ := q
  obtain ⟨o, ho, hc, n, hd⟩ := hl
  refine wpAny_bind (wpAny_seqItems ho hd ?_)
  dsimp only
  rw [if_pos (show (Bytes.Kind.bytes == Bytes.Kind.bytes) = true from rfl)]
  have hlen := hb.length
  refine pick1 _ _ (fun c => wpAny _ _ c _ _ _) vs (fun v hv => ?_) ?_
  · subst hv
    cases hb with
    | cons hb' =>
      rename_i l0 t0 ls0
      cases hb'
      refine wpAny_bind (wpAny_typeOf (typeIs_bytes s₁ _ _) ?_)
      rw [if_pos (by decide)]
      exact wpAny_bind (wpAny_rule (wpAny_pure (hq _ _ (.refl ..))))
  · show wpAny _ _ (forIn _ _ _ >>= _) _ _ _
    rw [Std.Legacy.Range.forIn_eq_forIn_range']
    have hsz : [:vs.toArray.size].size = vs.length := by simp [Std.Legacy.Range.size]
    rw [hsz]
    refine wpAny_bind (wpAny_forIn_list _ (fun rest (b : Array (Array UInt8) × List (Value × Option Value)) s' => s' = s₁ ∧ ∃ k, rest = List.range' k (vs.length - k) 1 ∧ k ≤ vs.length ∧ b.1 = ((ls.take k).map List.toArray).toArray ∧ (∀ q ∈ b.2, ∃ x t, q = (Value.bytes x t, none))) _ ?_ ?_ _ _ ⟨rfl, 0, rfl, Nat.zero_le _, by simp, fun _ h => nomatch h⟩)
    · rintro k rest ⟨parts, taken⟩ s' ⟨rfl, k', hr, hk, hp, ht⟩
      have hk' : k' < vs.length := by
        rcases Nat.lt_or_ge k' vs.length with q | q
        · exact q
        · rw [Nat.sub_eq_zero_of_le q] at hr; cases hr
      rw [show vs.length - k' = (vs.length - (k' + 1)) + 1 from subS hk', List.range'_succ] at hr
      injection hr with hr1 hr2
      subst hr1
      dsimp only at hp ht ⊢
      refine wpAny_bind (wpAny_seqItems ho hd ?_)
      dsimp only
      obtain ⟨x, tx, hx1, hx2⟩ := hb.get (List.getElem?_eq_getElem hk')
      have hget : vs.toArray.getD k Value.none = .bytes x.toArray tx := by simp [Array.getD, hk', hx2]
      have hany : (taken.any fun x => x.1.onHeap) = false := by
        rw [List.any_eq_false]
        intro q hq'
        obtain ⟨y, ty, rfl⟩ := ht q hq'
        simp [Value.onHeap]
      rw [hget, hany]
      rw [if_neg (by decide)]
      refine wpAny_bind (wpAny_holding (wpAny_of_eq take_eq ?_))
      dsimp only
      refine wpAny_bind (wpAny_seqItems ho hd ?_)
      dsimp only
      rw [if_neg (by simp)]
      refine wpAny_pure ⟨rfl, k + 1, hr2, hk', ?_, fun q hq' => ?_⟩
      · rw [hp, List.take_succ, hx1]; simp
      · rcases List.mem_append.mp hq' with hq' | hq'
        · exact ht q hq'
        · exact ⟨_, _, List.mem_singleton.mp hq'⟩
    · rintro ⟨parts, taken⟩ s' ⟨rfl, k, hr, hk, hp, ht⟩
      have hk' : k = vs.length := by
        rcases Nat.lt_or_ge k vs.length with q | q
        · rw [show vs.length - k = (vs.length - (k + 1)) + 1 from subS q, List.range'_succ] at hr; cases hr
        · omega
      dsimp only at hp ht ⊢
      have hp' : parts = (ls.map List.toArray).toArray := by rw [hp, hk', hlen, List.take_length]
      subst hp'
      refine wpAny_bind (wpAny_pure ?_)
      have hsum : ∀ (ls : List (List UInt8)) (k : Nat), Array.foldl (fun (x1 : Nat) (x2 : Array UInt8) => x1 + x2.size) k (ls.map List.toArray).toArray = k + (ls.map List.length).sum := by
        intro ls
        induction ls with
        | nil => intro k; simp
        | cons x r ih => intro k; have := ih (k + x.length); simp only [List.foldl_toArray, List.map_cons, List.foldl_cons, List.sum_cons] at this ⊢; simp only [List.size_toArray]; rw [this]; omega
      dsimp only
      rw [if_neg]
      · refine wpAny_bind ?_
        rw [joined_eq]
        refine wpAny_mkBytes ?_ (by rw [List.size_toArray, joinB_len, sizeLine_eq]; exact hz)
        refine wpAny_bind (wpAny_holding (wpAny_point ?_))
        have lg : ∀ (tk : List (Value × Option Value)) (kp : List Value) {s : Shared} {Q : Unit → Shared → Prop} {E : Value → Shared → Prop}, (∀ q ∈ tk, ∃ x t, q = (Value.bytes x t, none)) → Q () s → wpAny (model prg w) A.in1 (Bytes.joinLetGo tk kp) Q E s := by
          intro tk kp
          induction tk with
          | nil => intro s Q E _ h; exact wpAny_pure h
          | cons q r ih =>
            intro s Q E h1 h2
            obtain ⟨x, tx, rfl⟩ := h1 _ (.head _)
            exact wpAny_bind (wpAny_letGo (ih (fun q hq => h1 q (.tail _ hq)) h2))
        exact wpAny_bind (lg _ _ ht (wpAny_pure (hq _ _ (.toks _))))
      · rw [Bool.not_eq_true]
        refine KBy.tooLong_not ?_
        rw [hsum]
        unfold joinSum at hz
        simp only [List.size_toArray, List.length_map]
        omega
theorem b_join {a : Addr} {vs : List Value} {ls : List (List UInt8)} (hl : s.heap.IsList a vs.toArray) (hb : BytesAre vs ls) (hz : joinSum p ls ≤ 16777216) (hn : ls.length ≤ 16777216) (h : ∀ t' s', Eff w [] [] s s' → Q (.bytes (joinB p ls).toArray t') s') :
    wpAny (model prg w) A (call (.builtin "bytes.join") [.bytes p.toArray t, .ref a]) Q E s := by
  refine join_any hz hn ?_
  unfold Bytes.joinItems
  refine wpAny_bind (wpAny_typeOf hl.typeIs ?_)
  rw [if_pos (by decide)]
  exact wpAny_pure ⟨a, vs, rfl, hl, hb, h⟩
end
end Mine
end
section
open PySem PySem.W PyProof.Rows PySem.Calls
namespace Mine
open PySem.Builtin
theorem noIndex_bytes {b : Array UInt8} {t : Tok} : specialOf (.bytes b t) "__index__" = pure none := KBy.special_eq (by rw [typeLookup_type, builtinLookup_eq_fast]; kernel_rfl)
section
variable {w : World} {n : Nat} {A : Around} {s : Shared} {E : Value → Shared → Prop} {Q : Value → Shared → Prop} {l p : List UInt8} {t u : Tok}
theorem asIndex_bytes {b : Array UInt8} {Q : Int → Shared → Prop} (hh : A.handled = none) (h : ∀ e s', Eff w [] [] s s' → E e s') : wpAny (model prg w) A (asIndex (.bytes b t)) Q E s := by
  unfold asIndex
  refine wpAny_bind (wpAny_of_eq (a := none) rfl ?_)
  dsimp only
  refine wpAny_bind (wpAny_of_eq (a := none) ?_ ?_)
  · unfold callSpecial?
    rw [noIndex_bytes]
    rfl
  · dsimp only
    refine wpAny_bind (wpAny_of_eq (a := "bytes") ?_ ?_)
    · unfold typeNameOfCut shownTypeOf
      have e : typeOf (.bytes b t) = pure (.type "bytes") := rfl
      rw [e]
      kernel_rfl
    · refine wpAny_raiseTypeError hh (fun h' tk e x => ?_) ?_
      · exact h _ _ (Eff.keeps (s' := { s with heap := h', toks := tk }) x.keeps rfl rfl)
      · show (Str.ofString _).length ≤ sizeLine
        rw [PySem.ofString_length, sizeLine_eq]; decide
noncomputable def hasB (p : List UInt8) : List UInt8 → Bool
  | [] => p.isPrefixOf []
  | x :: r => p.isPrefixOf (x :: r) || hasB p r
theorem find_has (p : List UInt8) : ∀ l : List UInt8, (Bytes.find? l.toArray p.toArray 0 l.toArray.size).isSome = hasB p l := by
  have key : ∀ l : List UInt8, (Bytes.find? l.toArray p.toArray 0 l.toArray.size).isSome = (List.range (l.length + 1 - p.length)).any fun i => (l.drop i).take p.length == p := by
    intro l
    unfold Bytes.find?
    rw [Bool.eq_iff_iff, List.find?_isSome]
    simp only [List.size_toArray, Nat.zero_add, List.any_eq_true, List.mem_map, List.mem_range, Nat.add_zero]
    constructor
    · rintro ⟨x, ⟨i, hi, rfl⟩, hx⟩
      refine ⟨i, hi, ?_⟩
      simpa [List.extract_eq_take_drop] using hx
    · rintro ⟨i, hi, hx⟩
      exact ⟨i, ⟨i, hi, rfl⟩, by simpa [List.extract_eq_take_drop] using hx⟩
  have pre : ∀ l : List UInt8, (l.take p.length == p) = p.isPrefixOf l := by
    intro l
    rw [Bool.eq_iff_iff, List.isPrefixOf_iff_prefix, beq_iff_eq]
    constructor
    · intro q; rw [← q]; exact List.take_prefix ..
    · rintro ⟨r, rfl⟩; simp
  intro l
  rw [key]
  induction l with
  | nil =>
    unfold hasB
    cases p with
    | nil => rfl
    | cons a b => simp [List.isPrefixOf]
  | cons x r ih =>
    unfold hasB
    rw [← ih]
    by_cases h : p.length ≤ r.length + 1
    · have e : (x :: r).length + 1 - p.length = (r.length + 1 - p.length) + 1 := Nat.succ_sub h
      rw [e, List.range_succ_eq_map, List.any_cons, List.any_map]
      have e2 : (((x :: r).drop 0).take p.length == p) = p.isPrefixOf (x :: r) := by rw [List.drop_zero, pre]
      rw [e2]
      rfl
    · have e : (x :: r).length + 1 - p.length = 0 := Nat.sub_eq_zero_of_le (Nat.not_le.mp h)
      have e' : r.length + 1 - p.length = 0 := Nat.sub_eq_zero_of_le (Nat.le_of_lt (Nat.not_le.mp h))
      rw [e, e']
      have : p.isPrefixOf (x :: r) = false := by
        rw [← Bool.not_eq_true, List.isPrefixOf_iff_prefix]
        intro q; have := q.length_le; simp at this; omega
      simp [this]
theorem contains_bytes (hh : A.handled = none) {R : Value → Shared → Prop} (h : ∀ s', Eff w [] [] s s' → R (.bool (hasB p l)) s') : wpAny (model prg w) A (call (.builtin "bytes.__contains__") [.bytes l.toArray t, .bytes p.toArray u]) R E s := by
  refine wpAny_call (codeAny_call_builtin FB.slot_bytes_contains.plain FB.entry_bytes_contains (FB.slot_bytes_contains.check _ _ _ _ _ _ _ _ (typeIs_bytes s _ t) (FB.args_bytes_contains_2 _ _) ?_))
  show wpAny _ _ (Bytes.containsIn "bytes.__contains__" (.bytes l.toArray t) (.bytes p.toArray u) >>= fun r => _) _ _ s
  refine wpAny_bind ?_
  unfold Bytes.containsIn
  refine wpAny_bind (wpAny_attempt (asIndex_bytes hh fun e s' ef => ?_))
  refine wpAny_bind (wpAny_of_eq KBy.buffer_eq ?_)
  dsimp only
  refine wpAny_bind (wpAny_of_eq KBy.buffer_eq ?_)
  dsimp only
  refine wpAny_bind (wpAny_rule (wpAny_pure (wpAny_pure ?_)))
  rw [find_has]
  exact h s' ef
theorem contains_int (x : UInt8) : Gives («bytes.__contains__» ⟨[.bytes l.toArray t, .int x.toNat u], []⟩) (.val (.bool (l.contains x))) := by
  refine .of_wp fun M A E s Q hq => ?_
  show wpAny M A (Bytes.containsIn "bytes.__contains__" (.bytes l.toArray t) (.int x.toNat u) >>= fun r => _) _ E s
  refine wpAny_bind ?_
  unfold Bytes.containsIn
  refine wpAny_bind (wpAny_attempt ?_)
  refine wpAny_of_eq (a := (x.toNat : Int)) rfl ?_
  refine wpAny_bind (wpAny_of_eq KBy.buffer_eq ?_)
  dsimp only
  have hx := x.toNat_lt
  rw [if_neg (by simp; omega)]
  refine wpAny_pure (wpAny_pure ⟨_, rfl, ?_⟩)
  have : ((x.toNat : Int)).toNat.toUInt8 = x := by simp
  rw [this]
  have hq' : Q (.bool (l.contains x)) s := hq
  simpa using hq'
theorem in_bytes (hh : A.handled = none) (h : ∀ s', Eff w [] [] s s' → Q (.bool (hasB p l)) s') : wpAny (model prg w) A (compareOp .In (.bytes p.toArray u) (.bytes l.toArray t)) Q E s := by
  show wpAny _ _ (do return .bool (← contains _ _)) Q E s
  exact wpAny_bind (wpAny_contains_slot (typeIs_bytes s _ t) FB.slot_bytes_contains (contains_bytes hh fun s' e => wpAny_pure (wpAny_pure (h s' e))))
theorem nin_bytes (hh : A.handled = none) (h : ∀ s', Eff w [] [] s s' → Q (.bool (!hasB p l)) s') : wpAny (model prg w) A (compareOp .NotIn (.bytes p.toArray u) (.bytes l.toArray t)) Q E s := by
  show wpAny _ _ (do return .bool (!(← contains _ _))) Q E s
  exact wpAny_bind (wpAny_contains_slot (typeIs_bytes s _ t) FB.slot_bytes_contains (contains_bytes hh fun s' e => wpAny_pure (wpAny_pure (h s' e))))
theorem in_octet {x : UInt8} (h : Q (.bool (l.contains x)) s) : wpAny (model prg w) A (compareOp .In (.int x.toNat u) (.bytes l.toArray t)) Q E s :=
  in_gives (typeIs_bytes s _ t) FB.slot_bytes_contains FB.entry_bytes_contains (FB.args_bytes_contains_2 _ _) (contains_int x) h
theorem eqB (h : Q (.bool (l == p)) s) : wpAny (model prg w) A (compareOp .Eq (.bytes l.toArray t) (.bytes p.toArray u)) Q E s := eq_bytes (by simpa using h)
theorem neB (h : Q (.bool (l != p)) s) : wpAny (model prg w) A (compareOp .NotEq (.bytes l.toArray t) (.bytes p.toArray u)) Q E s := ne_bytes (by simpa using h)
theorem lenB (hz : l.length ≤ 1099511627776) (h : ∀ t' s', Eff w [] [] s s' → Q (.int l.length t') s') : wpAny (model prg w) A (call (.builtin "len") [.bytes l.toArray t]) Q E s :=
  len_bytes (by simpa using hz) (by simpa using h _ _ (.toks _))
theorem truB {Q : Bool → Shared → Prop} (hz : l.length ≤ 1099511627776) (h : ∀ s', Eff w [] [] s s' → Q (!l.isEmpty) s') : wpAny (model prg w) A (truthy (.bytes l.toArray t)) Q E s := by
  refine truthy_bytes (by simpa using hz) ?_
  have e : (((l.toArray.size : Nat) : Int) != 0) = !l.isEmpty := by cases l <;> simp; omega
  rw [e]; exact h _ (.toks _)
theorem itemB {i : Int} {x : UInt8} (hz : l.length ≤ 1099511627776) (h0 : 0 ≤ i) (hx : l[i.toNat]? = some x) (h : ∀ t' s', Eff w [] [] s s' → Q (.int x.toNat t') s') : wpAny (model prg w) A (getItem (.bytes l.toArray t) (.int i u)) Q E s := by
  obtain ⟨hi, hxx⟩ := List.getElem?_eq_some_iff.mp hx
  refine getItem_bytes hz h0 (by omega) ?_
  have : l.getD i.toNat 0 = x := by simp [List.getD, hx]
  rw [this]; exact h _ _ (.toks _)
theorem addB (hz : l.length + p.length ≤ 16777216) (h : ∀ t' s', Eff w [] [] s s' → Q (.bytes (l ++ p).toArray t') s') : wpAny (model prg w) A (binaryOp .Add (.bytes l.toArray t) (.bytes p.toArray u)) Q E s := by
  refine KBy.add_bytes (by simpa using hz) fun t' k => ?_
  have := h t' _ (.toks k)
  simpa using this
end
end Mine
end
section
open PySem PySem.W PyProof.Rows PySem.Calls
namespace Mine
open PySem.Builtin
section
variable {w : World} {mu : List Addr} {env : Env} {n : Nat} {A : Around} {g s s' : Shared} {m : Str → Option Value} {E : Value → Shared → Prop} {Q : Value → Shared → Prop}
theorem evSub {T id : String} {value slice : Expr} {pos : Pos} (hl : typeLookup (.type T) "__getitem__" = pure (some (.builtin id)))
    (h : wpAny (model prg w) A (eval value env) (fun o s₁ => wpAny (model prg w) A (eval slice env) (fun i s₂ => s₂.TypeIs o T ∧ wpAny (model prg w) A (getItem o i) Q E s₂) E s₁) E s)
    (hs : autoParam (∀ o i, ∃ ops, subscripted slice false o i = operate ops (getItem o i)) byEx) :
    wpAny (model prg w) A (eval (.Subscript value slice pos) env) Q E s :=
  Subscript_ (wpAny_mono h (fun o s₁ q => wpAny_mono q (fun i s₂ r => let ⟨_, e⟩ := hs o i; tail_any r.1 hl r.2 e) fun _ _ x => x) fun _ _ x => x)
noncomputable def cutL {α : Type} (l : List α) (lo hi : Option Int) : List α := (l.drop (lo.elim 0 (clipAt l.length))).take (hi.elim l.length (clipAt l.length) - lo.elim 0 (clipAt l.length))
theorem evSlice {T id : String} {value : Expr} {lower upper : Option Expr} {p pos : Pos} (hl : typeLookup (.type T) "__getitem__" = pure (some (.builtin id)))
    (h : wpAny (model prg w) A (eval value env) (fun o s₁ => wpAny (model prg w) A (evalPart lower env) (fun l s₂ => wpAny (model prg w) A (evalPart upper env) (fun u s₃ =>
      (∀ s', Eff w [] [] s₃ s' → s'.TypeIs o T) ∧ ∀ sl s', Eff w [] [] s₃ s' → s'.heap.IsSliceOf sl l u .none → wpAny (model prg w) A (getItem o (.ref sl)) Q E s') E s₂) E s₁) E s) :
    wpAny (model prg w) A (eval (.Subscript value (.Slice lower upper none p) pos) env) Q E s := by
  refine evSub hl (wpAny_mono h (fun o s₁ q => wpAny_Slice (wpAny_mono q (fun l s₂ r => wpAny_mono r (fun u s₃ z => ?_) fun _ _ x => x) fun _ _ x => x)) fun _ _ x => x)
  rw [evalPart_none]
  exact wpAny_pure ⟨z.1 _ (.push _), z.2 _ _ (.push _) (Heap.IsSliceOf.new _ _ _ _)⟩
theorem gi_bytes : typeLookup (.type "bytes") "__getitem__" = pure (some (.builtin "bytes.__getitem__")) := FB.slot_bytes_getitem.lookup
theorem gi_list : typeLookup (.type "list") "__getitem__" = pure (some (.builtin "list.__getitem__")) := slot_list_getitem.lookup
theorem cutB {l : List UInt8} {t : Tok} {sl : Addr} {vl vu : Value} {lo hi : Option Int} (hl : IsPart vl lo) (hu : IsPart vu hi) (hz : l.length ≤ 16777216) (hs : s.heap.IsSliceOf sl vl vu .none)
    (h : ∀ t' s', Eff w [] [] s s' → Q (.bytes (cutL l lo hi).toArray t') s') : wpAny (model prg w) A (getItem (.bytes l.toArray t) (.ref sl)) Q E s := by
  have e : KBy.picked l.toArray lo hi = (cutL l lo hi).toArray := by rw [KBc.picked_eq]; simp [cutL]
  refine getItem_meets (typeIs_bytes _ _ _) (by decide) FB.slot_bytes_getitem FB.entry_bytes_getitem (FB.args_bytes_getitem_2 _ _) (KBc.meets_slice2 l.toArray t sl hl hu) ⟨hs, ?_, fun t' k => ?_⟩
  · rw [sizeLine_eq]; exact Nat.le_trans (KBc.size_picked_le ..) (by simpa using hz)
  · rw [e]; exact h _ _ (.toks _)
theorem evSliceB {value : Expr} {lower upper : Option Expr} {p pos : Pos}
    (h : wpAny (model prg w) A (eval value env) (fun o s₁ => wpAny (model prg w) A (evalPart lower env) (fun l s₂ => wpAny (model prg w) A (evalPart upper env) (fun u s₃ =>
      ∃ (b : List UInt8) (t : Tok) (lo hi : Option Int), o = .bytes b.toArray t ∧ IsPart l lo ∧ IsPart u hi ∧ b.length ≤ 16777216 ∧ ∀ t' s', Eff w [] [] s₃ s' → Q (.bytes (cutL b lo hi).toArray t') s') E s₂) E s₁) E s) :
    wpAny (model prg w) A (eval (.Subscript value (.Slice lower upper none p) pos) env) Q E s := by
  refine evSlice gi_bytes (wpAny_mono h (fun o s₁ q => wpAny_mono q (fun l s₂ r => wpAny_mono r (fun u s₃ z => ?_) fun _ _ x => x) fun _ _ x => x) fun _ _ x => x)
  obtain ⟨b, t, lo, hi, rfl, h1, h2, h3, h4⟩ := z
  exact ⟨fun _ _ => rfl, fun sl s' e hs => cutB h1 h2 h3 hs fun t' s'' e' => h4 t' s'' (e.trans e')⟩
theorem cutList {a sl : Addr} {vs : List Value} {vl vu : Value} {lo hi : Option Int} (hv : s.heap.IsList a vs.toArray) (hl : IsPart vl lo) (hu : IsPart vu hi) (hz : vs.length ≤ 1048576) (hs : s.heap.IsSliceOf sl vl vu .none)
    (h : ∀ b s', Eff w [] [] s s' → s'.heap.IsList b (cutL vs lo hi).toArray → Fresh w s b → Q (.ref b) s') : wpAny (model prg w) A (getItem (.ref a) (.ref sl)) Q E s := by
  have e : slicePick vs.toArray lo hi none = (cutL vs lo hi).toArray := by
    rw [kmk_pick_nat (a := lo.elim 0 (clipAt vs.length)) (b := hi.elim vs.length (clipAt vs.length)) vs.toArray (by rw [sliceBounds_plain]; simp)]
    simp [cutL]
  refine wpAny_getItem_list_slice hv hs hl hu .none (by simp) ?_ (by rw [sizeLine_eq]; simp; with_reducible exact leK (by assumption) rfl)
  exact h _ _ (.push _) ⟨_, Heap.get?_push_size _ rfl, rfl, 0, by rw [e]⟩ (Fresh.size w s)
end
end Mine
end
section
open PySem PySem.W PyProof.Rows PySem.Calls
namespace Mine
section
variable {w : World} {mu : List Addr} {env : Env} {n : Nat} {A : Around} {g s s' : Shared} {m : Str → Option Value} {E : Value → Shared → Prop}
theorem sFor {target iter : Expr} {body : List Stmt} {pos : Pos} {rest : List Stmt} {Q : Flow → Shared → Prop}
    (h : wpAny (model prg w) A (eval iter env) (fun xv s₁ => wpAny (model prg w) A (pyIter xv) (fun it s₂ => codeAny (model prg w) A (.forLoop target it body [] env) (fun r s' => match r with | .ok f => andThen w A env E rest Q f s' | .error _ => False) s₂) E s₁) E s)
    (hs : autoParam (∀ x, foldedSetIterable iter env x = pure x) byIntro) : wpAny (model prg w) A (execs (.For target iter body [] pos :: rest) env) Q E s := by
  refine sCons (wpAny_For (wpAny_mono h (fun xv s₁ q => wpAny_mono q (fun it s₂ r => codeAny_mono r fun x s' z => ?_) fun _ _ x => x) fun _ _ x => x) hs)
  cases x with
  | ok f => exact z
  | error e => exact z.elim
theorem Fm.other {nw : List Addr} {h' : Heap} {tk : Nat} (F : Fm w mu env n A g m s) (hnb : ∀ b ∈ nw, NB ≤ b) (hng : ∀ b ∈ nw, g.heap.get? b = none) (hno : ∀ b ∈ nw, b ∉ mu) (x : ∀ b o, b ∉ nw → s.heap.get? b = some o → h'.get? b = some o) :
    Fm w mu env n A g m { s with heap := h', toks := tk } := by
  have e : Eff w [] nw s { s with heap := h', toks := tk } := .but hnb x rfl rfl
  refine ⟨?_, F.here.eff e fun b q r => hno b r (F.own b q), F.own, e.ww F.ww, e.bare F.bare, F.hh, F.depth, F.units, F.fx, F.low, F.kind, F.glob, F.bui, F.more⟩
  have e1 : Eff w (frs A) (nw ++ mu) g s := F.eff.mono (fun _ q => q) fun b q => List.mem_append_right _ q
  have e2 : Eff w (frs A) (nw ++ mu) s { s with heap := h', toks := tk } := e.mono (fun _ q => nomatch q) fun b q => List.mem_append_left _ q
  exact (e1.trans e2).shrink hng
theorem Fm.after {m' : Str → Option Value} {s₁ : Shared} (F : Fm w mu env n A g m s) (F' : Fm w mu env n A s m' s₁) : Fm w mu env n A g m' s₁ :=
  ⟨F.eff.trans F'.eff, F'.here, F'.own, F'.ww, F'.bare, F'.hh, F'.depth, F'.units, F.fx, F'.low, F'.kind, F'.glob, F'.bui, F'.more⟩
noncomputable def ForQ (w : World) (mu : List Addr) (env : Env) (n : Nat) (A : Around) (s₁ : Shared) (J : (Str → Option Value) → Heap → Prop) (O : Flow → (Str → Option Value) → Heap → Prop) : Flow → Shared → Prop := fun f s' => match f with
  | .next | .cont => ∃ m', Fm w mu env n A s₁ m' s' ∧ J m' s'.heap
  | f => ∃ m', Fm w mu env n A s₁ m' s' ∧ O f m' s'.heap
theorem loopT {target : Expr} {body : List Stmt} {I : Addr} {fp wr : List Addr} {N : Nat} {P Md : Nat → Value → Heap → Prop} {St : Nat → Heap → Prop} {R : Result → Shared → Prop} (T : KTurns prg w A target I fp wr N P Md St)
    (F : Fm w mu env n A g m s) (hfp : ∀ b ∈ fp, b ∉ mu ∧ b ∉ frs A ∧ b ≠ tabA) (hwr : ∀ b ∈ wr, NB ≤ b ∧ g.heap.get? b = none) (hst : St 0 s.heap)
    (J : Nat → (Str → Option Value) → Heap → Prop) (O : Flow → (Str → Option Value) → Heap → Prop)
    (hJ : ∀ i m h h', (∀ b o, b ∈ mu → h.get? b = some o → h'.get? b = some o) → J i m h → J i m h') (h0 : J 0 m s.heap)
    (step : ∀ i v m₁ s₁, i < N → P i v s₁.heap → J i m₁ s₁.heap → Fm w mu env n A g m₁ s₁ → wpAny (model prg w) A (assign target env v) (fun _ s₂ => wpAny (model prg w) A (execs body env) (ForQ w mu env n A s₁ (J (i + 1)) O) (fun _ _ => False) s₂) (fun _ _ => False) s₁)
    (hdone : ∀ m' h, J N m' h → O .next m' h)
    (hO : ∀ f m' s', Fm w mu env n A g m' s' → O f m' s'.heap → R (.ok (match f with | .ret v => .ret v | _ => .next)) s') :
    codeAny (model prg w) A (.forLoop target (.ref I) body [] env) R s := by
  have hno : ∀ b ∈ wr, b ∉ mu := fun b q => (hfp b (T.sub b q)).1
  refine codeAny_forLoop_any
    (fun k s' => ∃ m' i, St i s'.heap ∧ Fm w mu env n A g m' s' ∧ J i m' s'.heap ∧ i ≤ N ∧ k = N + 1 - i) ?_ (N + 1) ⟨m, 0, hst, F, h0, Nat.zero_le _, rfl⟩
  rintro k s' ⟨m', i, hst', F', hJ', hi, rfl⟩
  by_cases hlt : i < N
  · refine T.item i _ _ _ hlt hst' fun v h₁ tk₁ hMd hk₁ => ?_
    refine T.go i v _ _ _ hMd fun h₂ hP hst₂ hk₂ => ?_
    have hk : ∀ b o, b ∉ wr → s'.heap.get? b = some o → h₂.get? b = some o := fun b o hb e => hk₂ b o hb (hk₁ b o hb e)
    have F₂ := F'.other (tk := tk₁) (fun b q => (hwr b q).1) (fun b q => (hwr b q).2) hno hk
    have hJ₂ := hJ i m' s'.heap h₂ (fun b o hb e => hk b o (fun q => hno b q hb) e) hJ'
    refine wpAny_mono (step i v m' _ hlt hP hJ₂ F₂) (fun _ s₂ h₂' => wpAny_mono h₂' (fun f s₃ h₃ => ?_) fun _ _ e => e.elim) fun _ _ e => e.elim
    have again : ∀ m₃, Fm w mu env n A { s' with heap := h₂, toks := tk₁ } m₃ s₃ → J (i + 1) m₃ s₃.heap → ∃ k', k' < N + 1 - i ∧ ∃ m' i, St i s₃.heap ∧ Fm w mu env n A g m' s₃ ∧ J i m' s₃.heap ∧ i ≤ N ∧ k' = N + 1 - i := by
      intro m₃ F₃ hJ₃
      refine ⟨N + 1 - (i + 1), subL hlt, m₃, i + 1, ?_, F₂.after F₃, hJ₃, hlt, rfl⟩
      refine T.frame _ _ _ hst₂ fun b hb o e => ?_
      obtain ⟨sl, a, c⟩ := F₃.eff.keep b o (hfp b hb).1 e (.inr (hfp b hb).2.2)
      have := c (hfp b hb).2.1
      subst this
      exact a
    cases f with
    | ret v => obtain ⟨m₃, F₃, hO₃⟩ := h₃; exact hO (.ret v) m₃ s₃ (F₂.after F₃) hO₃
    | brk => obtain ⟨m₃, F₃, hO₃⟩ := h₃; exact hO .brk m₃ s₃ (F₂.after F₃) hO₃
    | cont => obtain ⟨m₃, F₃, hJ₃⟩ := h₃; exact again m₃ F₃ hJ₃
    | next => obtain ⟨m₃, F₃, hJ₃⟩ := h₃; exact again m₃ F₃ hJ₃
  · have hin : i = N := by with_reducible exact eqN (by assumption) (by assumption)
    subst hin
    refine T.done _ _ _ hst' fun h₁ tk₁ hk₁ => wpAny_execs_nil ?_
    exact hO .next m' _ (F'.other (fun b q => (hwr b q).1) (fun b q => (hwr b q).2) hno hk₁) (hdone _ _ (hJ i m' s'.heap h₁ (fun b o hb e => hk₁ b o (fun q => hno b q hb) e) hJ'))
theorem asgName {x : Str} {px : Pos} {v : Value} {Q : Unit → Shared → Prop} (h : wpAny (model prg w) A (storeName env x v) Q E s) : wpAny (model prg w) A (assign (.Name x px) env v) Q E s := wpAny_assign_Name h
end
end Mine
end
section
open PySem PySem.W PyProof.Rows PySem.Calls
namespace Mine
section
variable {w : World} {mu : List Addr} {env : Env} {n : Nat} {A : Around} {g s s' : Shared} {m : Str → Option Value} {E : Value → Shared → Prop}
theorem codeAny_compLoop_gen {elt target iter : Expr} {ifs : List Expr} {scope : Scope} {pos : Pos} {it acc : Value} {env : Env} {R : Result → Shared → Prop} (I : Nat → Shared → Prop)
    (turn : ∀ n s, I n s → wpAny (model prg w) A (pyNext it) (fun r s₁ => match r with
      | none => R (.ok .next) s₁
      | some v => wpAny (model prg w) A (letOwnedTupleGo target it v) (fun _ s₁' => wpAny (model prg w) A (assign target env v) (fun _ s₂ =>
          wpAny (model prg w) A (forIn ifs true fun c r => if r = true then do let ok ← isTrue c env (eval c env); pure (ForInStep.yield ok) else pure (ForInStep.yield r)) (fun ok s₃ =>
            if ok = true then wpAny (model prg w) A (eval elt env) (fun x s₄ =>
              wpAny (model prg w) A (call (.builtin "list.append") [acc, x]) (fun _ s₅ => ∃ m, m < n ∧ I m s₅) (notedBy (model prg w) A env fun e s' => R (.error e) s') s₄) (notedBy (model prg w) A env fun e s' => R (.error e) s') s₃
            else ∃ m, m < n ∧ I m s₃) (notedBy (model prg w) A env fun e s' => R (.error e) s') s₂) (notedBy (model prg w) A env fun e s' => R (.error e) s') s₁') (notedBy (model prg w) A env fun e s' => R (.error e) s') s₁) (notedBy (model prg w) A env fun e s' => R (.error e) s') s)
    (n : Nat) (h : I n s) :
    codeAny (model prg w) A (.compLoop (.ListComp elt [⟨target, iter, ifs, 0⟩] scope pos) 0 it acc env) R s := by
  refine codeAny_loop rfl I (fun n s hI => ?_) n h
  show wpAny _ A ((compTurn (.ListComp elt [⟨target, iter, ifs, 0⟩] scope pos) 0 it acc env).onRaise (fun x => do noteFrame x env; theTreesLotGoes x)) _ _ s
  refine wpAny_noted ?_
  rw [compTurn_list]
  refine wpAny_bind (wpAny_standAt (wpAny_bind (wpAny_mono (turn n s hI) (fun r s₁ h₁ => ?_) fun _ _ h' => h')))
  cases r with
  | none => exact wpAny_pure h₁
  | some v =>
    refine wpAny_bind (wpAny_mono h₁ (fun _ s₁' h₁' => ?_) fun _ _ h' => h')
    refine wpAny_bind (wpAny_mono h₁' (fun _ s₂ h₂ => wpAny_bind (wpAny_mono h₂ (fun ok s₃ h₃ => ?_) fun _ _ h' => h')) fun _ _ h' => h')
    cases ok with
    | false => exact wpAny_pure ⟨rfl, h₃⟩
    | true =>
      exact wpAny_bind (wpAny_bind (wpAny_mono h₃ (fun x s₄ h₄ => wpAny_bind (wpAny_mono h₄ (fun _ s₅ h₅ => wpAny_pure (wpAny_pure ⟨rfl, h₅⟩)) fun _ _ h' => h')) fun _ _ h' => h'))
abbrev lst (ys : List Value) : Obj := { cls := .type "list", data := .seq ys.toArray ys.length }
theorem lst_snoc (ys : List Value) (y : Value) : ({ cls := .type "list", data := .seq (ys.toArray.push y) (ys.length + 1) } : Obj) = lst (ys ++ [y]) := by
  show ({ cls := .type "list", data := .seq (ys.toArray.push y) (ys.length + 1) } : Obj) = { cls := .type "list", data := .seq (ys ++ [y]).toArray (ys ++ [y]).length }
  rw [List.length_append, List.length_singleton, List.push_toArray]
structure CompOk (scope : Scope) (cl : List (Str × Addr)) (env : Env) : Prop where
  clos : closureFor scope env = pure cl
  cell : ∀ y ∈ scope.names, y.2 ≠ .cell
  kind : scope.kind = .function
  more : True
  names : ∀ y ∈ scope.names, y.2 = .local → scope.names.lookup y.1 = some .local
  out : ∀ p ∈ cl, env.cells.lookup p.1 = some p.2
  self : ∀ p ∈ cl, cl.lookup p.1 = some p.2
  wf : ∀ p ∈ cl, (relabel scope env).names.lookup p.1 ≠ some .local
  cells : ∀ p ∈ env.cells, env.cells.lookup p.1 = some p.2
  apart : cl.Pairwise fun x y => x.2 ≠ y.2
noncomputable def StepC (w : World) (mu : List Addr) (env : Env) (n : Nat) (A : Around) (g : Shared) (m : Str → Option Value) (target elt : Expr) (ifs : List Expr) (scope : Scope) (cl : List (Str × Addr)) (N : Nat) (P : Nat → Value → Heap → Prop) (K : Nat → List Value → Prop) : Prop :=
  ∀ i v ys C m₁ s₁, i < N → P i v s₁.heap → K i ys → Fm w mu env n A g m s₁ → Fm w (C :: cl.map (·.2)) (compEnvC scope cl C env) n A s₁ m₁ s₁ → (∀ p ∈ cl, m₁ p.1 = m p.1) →
    wpAny (model prg w) A (assign target (compEnvC scope cl C env) v) (fun _ s₂ =>
      wpAny (model prg w) A (forIn ifs true fun c r => if r = true then do let ok ← isTrue c (compEnvC scope cl C env) (eval c (compEnvC scope cl C env)); pure (ForInStep.yield ok) else pure (ForInStep.yield r)) (fun ok s₃ =>
        if ok = true then wpAny (model prg w) A (eval elt (compEnvC scope cl C env)) (fun y s₄ => (∃ m', Fm w (C :: cl.map (·.2)) (compEnvC scope cl C env) n A s₁ m' s₄ ∧ ∀ p ∈ cl, m' p.1 = m p.1) ∧ K (i + 1) (ys ++ [y])) (fun _ _ => False) s₃
        else (∃ m', Fm w (C :: cl.map (·.2)) (compEnvC scope cl C env) n A s₁ m' s₃ ∧ ∀ p ∈ cl, m' p.1 = m p.1) ∧ K (i + 1) ys) (fun _ _ => False) s₂) (fun _ _ => False) s₁
theorem Fm.alive (F : Fm w mu env n A g m s) (hc : ∀ p ∈ env.cells, env.cells.lookup p.1 = some p.2) : ∀ b ∈ Mine.own env, ∃ o, s.heap.get? b = some o := by
  intro b hb
  rcases List.mem_cons.mp hb with rfl | hb
  · obtain ⟨ml, ⟨o, _, _, e, _⟩, _⟩ := F.here.loc; exact ⟨o, e⟩
  · obtain ⟨p, hp, rfl⟩ := List.mem_map.mp hb
    obtain ⟨o, e, _⟩ := F.here.cel _ _ (hc p hp); exact ⟨o, e⟩
theorem Fm.comp {scope : Scope} {cl : List (Str × Addr)} {C : Addr} {mC : Str → Option Value} (F : Fm w (Mine.own env) env n A g m s) (ok : CompOk scope cl env) (hC : s.heap.Ns C mC) (hCo : C ∉ Mine.own env) (hCn : NB ≤ C) (hCf : C ∉ frs A) :
    Fm w (C :: cl.map (·.2)) (compEnvC scope cl C env) n A s (fun y => if (relabel scope env).names.lookup y = some .local then mC y else m y) s := by
  have hsub : ∀ p ∈ cl, p.2 ∈ Mine.own env := fun p hp => List.mem_cons_of_mem _ (List.mem_map.mpr ⟨p, mem_of_lookup (ok.out p hp), rfl⟩)
  refine ⟨.refl .., ⟨⟨mC, hC, fun y hy => ?_⟩, fun y c hl => ?_, ok.apart, fun x c hm => ?_, fun x c hl => ?_⟩, fun b hb => hb, F.ww, F.bare, F.hh, F.depth, F.units, ?_, fun b hb => ?_, ok.kind, F.glob, F.bui, ok.more⟩
  · have hy' : (relabel scope env).names.lookup y = some .local := hy
    rw [if_pos hy']
  · have hm := mem_of_lookup hl
    rw [if_neg (ok.wf _ hm)]
    exact F.here.cel y c (ok.out _ hm)
  · intro q
    have q : C = c := q
    exact hCo (q ▸ hsub _ hm)
  · exact ok.wf _ (mem_of_lookup hl)
  · obtain ⟨l, hl, h⟩ := F.fx
    refine ⟨l, hl, fun x hx => ?_⟩
    obtain ⟨h1, L, h2, h3, h4⟩ := h x hx
    have hLC : L ≠ C := by
      rintro rfl
      refine hCf ?_
      unfold frs; rw [hl]; exact List.mem_filterMap.mpr ⟨x, hx, h2⟩
    refine ⟨h1, L, h2, h3, .inr ⟨fun q => ?_, ?_⟩⟩
    · rcases List.mem_cons.mp q with q | q
      · exact hLC q
      · obtain ⟨p, hp, rfl⟩ := List.mem_map.mp q
        rcases h4 with h4 | ⟨h4, _⟩
        · exact F.here.above _ _ (mem_of_lookup (ok.out p hp)) h4.symm
        · exact h4 (hsub p hp)
    · rcases h4 with rfl | ⟨h4, mm, h5⟩
      · obtain ⟨ml, hn, _⟩ := F.here.loc; exact ⟨ml, hn⟩
      · exact ⟨mm, F.eff.keep.ns h4 h5⟩
  · rcases List.mem_cons.mp hb with rfl | hb
    · exact hCn
    · obtain ⟨p, hp, rfl⟩ := List.mem_map.mp hb
      exact F.low _ (hsub p hp)
theorem Fm.back {scope : Scope} {cl : List (Str × Addr)} {C : Addr} {m₂ : Str → Option Value} {s₁ s₂ : Shared} (F : Fm w (Mine.own env) env n A g m s₁) (ok : CompOk scope cl env) (hCo : C ∉ Mine.own env) (hCg : g.heap.get? C = none)
    (F₂ : Fm w (C :: cl.map (·.2)) (compEnvC scope cl C env) n A s₁ m₂ s₂) (hm : ∀ p ∈ cl, m₂ p.1 = m p.1) : Fm w (Mine.own env) env n A g m s₂ := by
  have hsub : ∀ p ∈ cl, p.2 ∈ Mine.own env := fun p hp => List.mem_cons_of_mem _ (List.mem_map.mpr ⟨p, mem_of_lookup (ok.out p hp), rfl⟩)
  have e2 : Eff w (frs A) ([C] ++ Mine.own env) s₁ s₂ := F₂.eff.mono (fun _ q => q) fun b hb => by
    rcases List.mem_cons.mp hb with rfl | hb
    · exact .head _
    · obtain ⟨p, hp, rfl⟩ := List.mem_map.mp hb
      exact List.mem_append_right _ (hsub p hp)
  have e1 : Eff w (frs A) ([C] ++ Mine.own env) g s₁ := F.eff.mono (fun _ q => q) fun b hb => List.mem_append_right _ hb
  refine ⟨(e1.trans e2).shrink fun b hb => List.mem_singleton.mp hb ▸ hCg, ⟨?_, fun y c hl => ?_, F.here.apart, F.here.above, F.here.wf⟩, F.own, F₂.ww, F₂.bare, F.hh, F.depth, F.units, F.fx, F.low, F.kind, F.glob, F.bui, F.more⟩
  · obtain ⟨ml, hn, hx⟩ := F.here.loc
    refine ⟨ml, F₂.eff.keep.ns (fun q => ?_) hn, hx⟩
    rcases List.mem_cons.mp q with q | q
    · exact hCo (q ▸ .head _)
    · obtain ⟨p, hp, e⟩ := List.mem_map.mp q
      exact F.here.above _ _ (mem_of_lookup (ok.out p hp)) e.symm
  · by_cases hc : c ∈ cl.map (·.2)
    · obtain ⟨p, hp, rfl⟩ := List.mem_map.mp hc
      have : p.1 = y := name_of_addr F.here.apart (mem_of_lookup (ok.out p hp)) (mem_of_lookup hl)
      have q := F₂.here.cel p.1 p.2 (ok.self p hp)
      rw [hm p hp, this] at q; exact q
    · refine F₂.eff.keep.cell (fun q => ?_) (F.here.cel y c hl)
      rcases List.mem_cons.mp q with q | q
      · exact hCo (q ▸ List.mem_cons_of_mem _ (List.mem_map.mpr ⟨_, mem_of_lookup hl, rfl⟩))
      · exact hc q
theorem compCore {elt target iter : Expr} {ifs : List Expr} {scope : Scope} {cl : List (Str × Addr)} {pos : Pos} {I : Addr} {fp wr : List Addr} {N : Nat} {P Md : Nat → Value → Heap → Prop} {St : Nat → Heap → Prop} {RR : Value → Addr → Result → Shared → Prop} (T : KTurns prg w A target I fp wr N P Md St)
    (self : ∀ s Q, St 0 s.heap → Q (.ref I) s → ∀ E, wpAny (model prg w) A (pyIter (.ref I)) Q E s)
    (ok : CompOk scope cl env) (F : Fm w (Mine.own env) env n A g m s) (hN : N ≤ sizeLine)
    (hfp : ∀ b ∈ fp, b ∉ Mine.own env ∧ b ∉ frs A ∧ b ≠ tabA ∧ ∃ o, s.heap.get? b = some o) (hwr : ∀ b ∈ wr, NB ≤ b ∧ g.heap.get? b = none) (hst : St 0 s.heap)
    (K : Nat → List Value → Prop) (hKl : ∀ i ys, K i ys → ys.length ≤ i) (h0 : K 0 []) (step : StepC w (Mine.own env) env n A g m target elt ifs scope cl N P K)
    (hR : ∀ D C m' ys s', K N ys → Fm w (Mine.own env) env n A g m s' → s'.heap.get? D = some (lst ys) → Fresh w g D → Fresh w g C → s'.heap.Ns C m' → C ∉ Mine.own env → D ∉ Mine.own env → D ≠ C → NB ≤ C → RR (.ref D) C (.ok .next) s') :
    wpAny (model prg w) A (newList []) (fun acc s₃ => wpAny (model prg w) A (newFunctionEnv scope env.globals cl [] env.qual none .none (some env)) (fun cenv s₄ =>
      codeAny (model prg w) A (.compStart (.ListComp elt [⟨target, iter, ifs, 0⟩] scope pos) 0 (.ref I) acc { cenv with scope := relabel scope env }) (RR acc cenv.locals) s₄) E s₃) E s := by
  refine wpAny_newObj_type (wpAny_newFunctionEnv ok.cell (by intro y hy; simp at hy) (fun h₁ hns₁ hsb₁ => ?_) ok.kind)
  dsimp only at hns₁ hsb₁ ⊢
  generalize hH2 : s.heap.push { cls := .type "list", dict := none, data := .seq ([] : List Value).toArray } = H2 at hns₁ hsb₁ ⊢
  have hC : H2.objs.size = s.heap.objs.size + 1 := by rw [← hH2, Heap.size_push]
  have hDC : s.heap.objs.size ≠ H2.objs.size := by rw [hC]; exact Nat.ne_of_lt (Nat.lt_succ_self _)
  have frC : s.heap.get? H2.objs.size = none := get_none_of_size (by rw [hC]; exact Nat.le_succ _)
  have frD : s.heap.get? s.heap.objs.size = none := get_none_of_size (Nat.le_refl _)
  have al := F.alive ok.cells
  have hCo : H2.objs.size ∉ Mine.own env := fun q => by obtain ⟨o, e⟩ := al _ q; rw [frC] at e; cases e
  have hDo : s.heap.objs.size ∉ Mine.own env := fun q => by obtain ⟨o, e⟩ := al _ q; rw [frD] at e; cases e
  have nfr : ∀ b, s.heap.get? b = none → b ∉ frs A := fun b hb q => by
    obtain ⟨l, hl, h⟩ := F.cx.fx
    unfold frs at q; rw [hl] at q
    obtain ⟨x, hx, e⟩ := List.mem_filterMap.mp q
    obtain ⟨_, L, h2, _, mm, o, _, _, ho, _⟩ := h x hx
    rw [h2] at e; cases e; rw [hb] at ho; cases ho
  have fD : Fresh w s s.heap.objs.size := .size w s
  have fC : Fresh w s H2.objs.size := ⟨frC, fun W => Nat.le_trans W.nb (by rw [hC]; exact Nat.le_succ _)⟩
  have gone : ∀ b, s.heap.get? b = none → b ∉ Mine.own env → g.heap.get? b = none := fun b hb hm => by
    cases q : g.heap.get? b with
    | none => rfl
    | some o => obtain ⟨o', h⟩ := F.eff.alive b o hm q; rw [hb] at h; cases h
  have fD' : Fresh w g s.heap.objs.size := ⟨gone _ frD hDo, fun _ => fD.2 F.ww⟩
  have fC' : Fresh w g H2.objs.size := ⟨gone _ frC hCo, fun _ => fC.2 F.ww⟩
  have old : ∀ b o, s.heap.get? b = some o → h₁.get? b = some o := fun b o e => hsb₁.extBut b o (fun q => (by rw [q, frC] at e; cases e)) (Heap.get?_push_of_some _ (hH2 ▸ Heap.get?_push_of_some _ e))
  have hacc : h₁.get? s.heap.objs.size = some (lst []) := hsb₁.extBut _ _ hDC (Heap.get?_push_of_some _ (hH2 ▸ Heap.get?_push_size _ rfl))
  have hDf : ∀ b ∈ fp, b ≠ s.heap.objs.size ∧ b ≠ H2.objs.size := fun b hb => by
    obtain ⟨_, _, _, o, e⟩ := hfp b hb
    exact ⟨fun q => (by rw [q, frD] at e; cases e), fun q => (by rw [q, frC] at e; cases e)⟩
  have hsub : ∀ p ∈ cl, p.2 ∈ Mine.own env := fun p hp => List.mem_cons_of_mem _ (List.mem_map.mpr ⟨p, mem_of_lookup (ok.out p hp), rfl⟩)
  have offC : ∀ b, b ∉ Mine.own env → b ≠ H2.objs.size → b ∉ H2.objs.size :: cl.map (·.2) := fun b h1 h2 q => by
    rcases List.mem_cons.mp q with q | q
    · exact h2 q
    · obtain ⟨p, hp, rfl⟩ := List.mem_map.mp q
      exact h1 (hsub p hp)
  have hst₁ : St 0 h₁ := T.frame _ _ _ hst fun b _ o e => old b o e
  have F₁ : Fm w (Mine.own env) env n A g m { s with heap := h₁, toks := s.toks + ([] : List (Str × Value)).length } := F.go (fr := []) (.keeps old rfl rfl)
  have loop : codeAny (model prg w) A (.compLoop (.ListComp elt [⟨target, iter, ifs, 0⟩] scope pos) 0 (.ref I) (.ref s.heap.objs.size) (compEnvC scope cl H2.objs.size env))
        (RR (.ref s.heap.objs.size) H2.objs.size) { s with heap := h₁, toks := s.toks + ([] : List (Str × Value)).length } := by
    refine codeAny_compLoop_gen
      (fun k s' => ∃ i ys m', i ≤ N ∧ k = N + 1 - i ∧ St i s'.heap ∧ Fm w (Mine.own env) env n A g m s' ∧ s'.heap.Ns H2.objs.size m' ∧ s'.heap.get? s.heap.objs.size = some (lst ys) ∧ K i ys) ?_ (N + 1)
      ⟨0, [], _, Nat.zero_le _, rfl, hst₁, F₁, hns₁, hacc, h0⟩
    rintro k s' ⟨i, ys, m', hi, rfl, hst', F', hn', hD', hK⟩
    have hno : ∀ b ∈ wr, b ∉ Mine.own env := fun b q => (hfp b (T.sub b q)).1
    have wnC : ∀ b ∈ wr, b ≠ s.heap.objs.size ∧ b ≠ H2.objs.size := fun b q => hDf b (T.sub b q)
    by_cases hlt : i < N
    · refine T.item i _ _ _ hlt hst' fun v h₂ tk₂ hMd hk₂ => ?_
      refine T.go i v _ _ _ hMd fun h₃ hP hst₃ hk₃ => ?_
      have hk : ∀ b o, b ∉ wr → s'.heap.get? b = some o → h₃.get? b = some o := fun b o hb e => hk₃ b o hb (hk₂ b o hb e)
      have F₃ := F'.other (tk := tk₂) (fun b q => (hwr b q).1) (fun b q => (hwr b q).2) hno hk
      have hn₃ : h₃.Ns H2.objs.size m' := hn'.at' fun o e => hk _ o (fun q => (wnC _ q).2 rfl) e
      have hD₃ : h₃.get? s.heap.objs.size = some (lst ys) := hk _ _ (fun q => (wnC _ q).1 rfl) hD'
      have Fc := F₃.comp ok hn₃ hCo (fC.2 F.ww) (nfr _ frC)
      refine wpAny_mono (step i v ys H2.objs.size _ _ hlt hP hK F₃ Fc fun p hp => if_neg (ok.wf p hp)) (fun _ s₄ h₄ => wpAny_mono h₄ (fun ok' s₅ h₅ => ?_) fun _ _ e => e.elim) fun _ _ e => e.elim
      have turn : ∀ s₆, (∃ m', Fm w (H2.objs.size :: cl.map (·.2)) (compEnvC scope cl H2.objs.size env) n A { s' with heap := h₃, toks := tk₂ } m' s₆ ∧ ∀ p ∈ cl, m' p.1 = m p.1) →
          St (i + 1) s₆.heap ∧ Fm w (Mine.own env) env n A g m s₆ ∧ (∃ mm, s₆.heap.Ns H2.objs.size mm) ∧ s₆.heap.get? s.heap.objs.size = some (lst ys) := by
        rintro s₆ ⟨m₆, F₆, hm₆⟩
        refine ⟨?_, F₃.back ok hCo fC'.1 F₆ hm₆, ?_, ?_⟩
        · refine T.frame _ _ _ hst₃ fun b hb o e => ?_
          obtain ⟨h1, h2, h3, _⟩ := hfp b hb
          obtain ⟨sl, a, c⟩ := F₆.eff.keep b o (offC b h1 (hDf b hb).2) e (.inr h3)
          have := c h2
          subst this
          exact a
        · obtain ⟨ml, hn, _⟩ := F₆.here.loc; exact ⟨ml, hn⟩
        · obtain ⟨sl, a, c⟩ := F₆.eff.keep _ _ (offC _ hDo hDC) hD₃ (.inl rfl)
          have := c (nfr _ frD)
          subst this
          exact a
      cases ok' with
      | false =>
        rw [if_neg (by decide)] at h₅ ⊢
        obtain ⟨x, hK'⟩ := h₅
        obtain ⟨a, b, ⟨mm, c⟩, d⟩ := turn s₅ x
        exact ⟨N + 1 - (i + 1), subL hlt, i + 1, ys, mm, hlt, rfl, a, b, c, d, hK'⟩
      | true =>
        rw [if_pos rfl] at h₅ ⊢
        refine wpAny_mono h₅ (fun y s₆ h₆ => ?_) fun _ _ e => e.elim
        obtain ⟨x, hK'⟩ := h₆
        obtain ⟨a, b, ⟨mm, c⟩, d⟩ := turn s₆ x
        have hl := hKl _ _ hK
        refine append_at (hsz := by show ys.toArray.size ≤ sizeLine; rw [List.size_toArray]; omega) d fun h₇ hs₇ hD₇ => ?_
        refine ⟨N + 1 - (i + 1), subL hlt, i + 1, ys ++ [y], mm, hlt, rfl, T.frame _ _ _ a fun b hb o e => hs₇.extBut b o (hDf b hb).1 e, ?_, c.sameBut hs₇ (Ne.symm hDC), hD₇.trans (congrArg some (lst_snoc ys y)), hK'⟩
        exact b.other (nw := [s.heap.objs.size]) (tk := s₆.toks) (fun b hb => List.mem_singleton.mp hb ▸ fD.2 F.ww) (fun b hb => List.mem_singleton.mp hb ▸ fD'.1) (fun b hb => List.mem_singleton.mp hb ▸ hDo) fun b o hb e => hs₇.extBut b o (fun q => hb (by simp [q])) e
    · obtain rfl : i = N := Nat.le_antisymm hi (Nat.not_lt.mp hlt)
      refine T.done _ _ _ hst' fun h₂ tk₂ hk₂ => ?_
      have F₃ := F'.other (tk := tk₂) (fun b q => (hwr b q).1) (fun b q => (hwr b q).2) hno hk₂
      exact hR _ _ m' ys _ hK F₃ (hk₂ _ _ (fun q => (wnC _ q).1 rfl) hD') fD' fC' (hn'.at' fun o e => hk₂ _ o (fun q => (wnC _ q).2 rfl) e) hCo hDo hDC (fC.2 F.ww)
  exact codeAny_compStart_list loop (self _ _ hst₁ loop _)
inductive CompAt (w : World) (env : Env) (n : Nat) (A : Around) (g : Shared) (m : Str → Option Value) (target elt : Expr) (ifs : List Expr) (scope : Scope) (cl : List (Str × Addr)) (Q : Addr → List Value → Shared → Prop) (it : Value) (s : Shared) : Prop
  | mk (I : Addr) (fp wr : List Addr) (N : Nat) (P Md : Nat → Value → Heap → Prop) (St : Nat → Heap → Prop) (K : Nat → List Value → Prop) (e : it = .ref I) (T : KTurns prg w A target I fp wr N P Md St) (h : ∀ s Q, St 0 s.heap → Q (.ref I) s → ∀ E, wpAny (model prg w) A (pyIter (.ref I)) Q E s) (F : Fm w (Mine.own env) env n A g m s) (hN : N ≤ sizeLine)
    (hf : ∀ b ∈ fp, b ∉ Mine.own env ∧ b ∉ frs A ∧ b ≠ tabA ∧ ∃ o, s.heap.get? b = some o) (hw : ∀ b ∈ wr, NB ≤ b ∧ g.heap.get? b = none) (st : St 0 s.heap) (hK : ∀ i ys, K i ys → ys.length ≤ i) (h0 : K 0 []) (step : StepC w (Mine.own env) env n A g m target elt ifs scope cl N P K)
    (out : ∀ D ys s', K N ys → Fm w (Mine.own env) env n A g m s' → s'.heap.get? D = some (lst ys) → Fresh w g D → D ∉ Mine.own env → Q D ys s') : CompAt w env n A g m target elt ifs scope cl Q it s
theorem lcomp {elt target iter : Expr} {ifs : List Expr} {scope : Scope} {cl : List (Str × Addr)} {pos : Pos} {Q : Value → Shared → Prop} (_ : Fm w (Mine.own env) env n A g m s) (ok : CompOk scope cl env)
    (h : wpAny (model prg w) A (eval iter env) (fun xv s₁ => wpAny (model prg w) A (pyIter xv) (CompAt w env n A g m target elt ifs scope cl fun D _ s' => Q (.ref D) s') E s₁) E s)
    (hs : autoParam (∀ x, foldedSetIterable iter env x = pure x) byIntro) :
    wpAny (model prg w) A (eval (.ListComp elt [⟨target, iter, ifs, 0⟩] scope pos) env) Q E s := by
  rw [eval_ListComp]
  refine wpAny_comprehension_free (use := none) rfl hs ok.clos ok.kind ok.names (wpAny_mono h (fun xv s₁ h₁ => wpAny_mono h₁ (fun it s₂ h₂ => ?_) fun _ _ e => e) fun _ _ e => e)
  obtain ⟨I, fp, wr, N, P, Md, St, K, rfl, T, self, F, hN, hfp, hwr, hst, hKl, h0, step, fin⟩ := h₂
  refine compCore T self ok F hN hfp hwr hst K hKl h0 step fun D C m' ys s' hK F' hD fD fC hn hCo hDo hDC hCn => ⟨m', hn, fun h'' hs'' => ?_⟩
  refine fin D ys _ hK (F'.other (nw := [C]) (tk := s'.toks) (fun b hb => List.mem_singleton.mp hb ▸ hCn) (fun b hb => List.mem_singleton.mp hb ▸ fC.1) (fun b hb => List.mem_singleton.mp hb ▸ hCo) fun b o hb e => hs''.extBut b o (fun q => hb (by simp [q])) e) (hs''.extBut _ _ hDC hD) fD hDo
end
end Mine
end
section
open PySem PySem.W PyProof.Rows PySem.Calls
namespace Mine
section
variable {w : World} {mu : List Addr} {env : Env} {n : Nat} {A : Around} {g s s' : Shared} {m : Str → Option Value} {E : Value → Shared → Prop}
inductive TurnsIn (w : World) (A : Around) (target : Expr) (s₀ : Shared) (B : List Addr) (N : Nat) (P : Nat → Value → Heap → Prop) (it : Value) (s : Shared) : Prop
  | mk (I : Addr) (fp wr : List Addr) (Md : Nat → Value → Heap → Prop) (St : Nat → Heap → Prop) (e : it = .ref I) (T : KTurns prg w A target I fp wr N P Md St) (h : ∀ s Q, St 0 s.heap → Q (.ref I) s → ∀ E, wpAny (model prg w) A (pyIter (.ref I)) Q E s) (st : St 0 s.heap)
    (hf : ∀ b ∈ fp, (Fresh w s₀ b ∨ b ∈ B) ∧ ∃ o, s.heap.get? b = some o) (hw : ∀ b ∈ wr, Fresh w s₀ b) : TurnsIn w A target s₀ B N P it s
theorem Fm.freshB (F : Fm w mu env n A g m s) {a : Addr} (ha : Fresh w s a) (hmu : a ∉ mu) : Fresh w g a := by
  refine ⟨?_, fun _ => ha.2 F.ww⟩
  cases q : g.heap.get? a with
  | none => rfl
  | some o => obtain ⟨o', h⟩ := F.eff.alive a o hmu q; rw [ha.1] at h; cases h
theorem Fm.new (F : Fm w mu env n A g m s) (hmu : ∀ b ∈ mu, ∃ o, s.heap.get? b = some o) {a : Addr} (ha : s.heap.objs.size ≤ a) : Fresh w g a :=
  F.freshB ⟨get_none_of_size ha, fun W => Nat.le_trans W.nb ha⟩ fun q => by obtain ⟨o, e⟩ := hmu a q; rw [get_none_of_size ha] at e; cases e
theorem Fm.alive_frs (F : Fm w mu env n A g m s) : ∀ b ∈ frs A, ∃ o, s.heap.get? b = some o := fun b q => by
  obtain ⟨l, hl, h⟩ := F.cx.fx
  unfold frs at q; rw [hl] at q
  obtain ⟨x, hx, e⟩ := List.mem_filterMap.mp q
  obtain ⟨_, L, h2, _, mm, o, _, _, ho, _⟩ := h x hx
  rw [h2] at e; cases e; exact ⟨o, ho⟩
theorem Fm.fresh_off (F : Fm w mu env n A g m s) (hmu : ∀ b ∈ mu, ∃ o, s.heap.get? b = some o) {b : Addr} (hb : Fresh w s b) : b ∉ mu ∧ b ∉ frs A ∧ b ≠ tabA ∧ NB ≤ b ∧ g.heap.get? b = none := by
  have h1 : b ∉ mu := fun q => by obtain ⟨o, e⟩ := hmu b q; rw [hb.1] at e; cases e
  have h4 := hb.2 F.ww
  refine ⟨h1, fun q => ?_, ?_, h4, ?_⟩
  · obtain ⟨o, e⟩ := F.alive_frs b q; rw [hb.1] at e; cases e
  · rintro rfl; exact absurd h4 (by decide)
  · cases q : g.heap.get? b with
    | none => rfl
    | some o => obtain ⟨o', h⟩ := F.eff.alive b o h1 q; rw [hb.1] at h; cases h
inductive ForAt (w : World) (mu : List Addr) (env : Env) (n : Nat) (A : Around) (g : Shared) (m : Str → Option Value) (target : Expr) (body : List Stmt) (fin : Flow → Shared → Prop) (it : Value) (s : Shared) : Prop
  | mk (B : List Addr) (N : Nat) (P : Nat → Value → Heap → Prop) (F : Fm w mu env n A g m s) (T : TurnsIn w A target g B N P it s) (hB : ∀ b ∈ B, b ∉ mu ∧ b ∉ frs A ∧ b ≠ tabA)
    (J : Nat → (Str → Option Value) → Heap → Prop) (O : Flow → (Str → Option Value) → Heap → Prop)
    (hJ : ∀ i m h h', (∀ b o, b ∈ mu → h.get? b = some o → h'.get? b = some o) → J i m h → J i m h') (h0 : J 0 m s.heap)
    (step : ∀ i v m₁ s₁, i < N → P i v s₁.heap → J i m₁ s₁.heap → Fm w mu env n A g m₁ s₁ → wpAny (model prg w) A (assign target env v) (fun _ s₂ => wpAny (model prg w) A (execs body env) (ForQ w mu env n A s₁ (J (i + 1)) O) (fun _ _ => False) s₂) (fun _ _ => False) s₁)
    (done : ∀ m' h, J N m' h → O .next m' h)
    (out : ∀ f m' s', Fm w mu env n A g m' s' → O f m' s'.heap → fin (match f with | .ret v => .ret v | _ => .next) s') : ForAt w mu env n A g m target body fin it s
theorem sForT {target iter : Expr} {body : List Stmt} {pos : Pos} {rest : List Stmt} {Q : Flow → Shared → Prop} (F : Fm w mu env n A g m g) (hmu : ∀ b ∈ mu, ∃ o, g.heap.get? b = some o)
    (h : wpAny (model prg w) A (eval iter env) (fun xv s₁ => wpAny (model prg w) A (pyIter xv) (ForAt w mu env n A g m target body (andThen w A env E rest Q)) E s₁) E g)
    (hs : autoParam (∀ x, foldedSetIterable iter env x = pure x) byIntro) : wpAny (model prg w) A (execs (.For target iter body [] pos :: rest) env) Q E g := by
  refine sFor (wpAny_mono h (fun xv s₁ q => wpAny_mono q (fun it s₂ r => ?_) fun _ _ x => x) fun _ _ x => x) hs
  obtain ⟨B, N, P, e, ⟨I, fp, wr, Md, St, rfl, T, _, hst, hfp, hwr⟩, hB, J, O, hJ, h0, step, hdone, hO⟩ := r
  have off : ∀ b ∈ fp, b ∉ mu ∧ b ∉ frs A ∧ b ≠ tabA := fun b hb => by
    rcases (hfp b hb).1 with q | q
    · exact ⟨(F.fresh_off hmu q).1, (F.fresh_off hmu q).2.1, (F.fresh_off hmu q).2.2.1⟩
    · exact hB b q
  exact loopT T e off (fun b hb => ⟨(F.fresh_off hmu (hwr b hb)).2.2.2.1, (F.fresh_off hmu (hwr b hb)).2.2.2.2⟩) hst J O hJ h0 step hdone hO
theorem compT {target elt : Expr} {ifs : List Expr} {scope : Scope} {cl : List (Str × Addr)} {N : Nat} {P : Nat → Value → Heap → Prop} {B : List Addr} {it : Value} {Q : Addr → List Value → Shared → Prop} (F : Fm w (Mine.own env) env n A g m g) (hc : ∀ p ∈ env.cells, env.cells.lookup p.1 = some p.2)
    (F' : Fm w (Mine.own env) env n A g m s') (T : TurnsIn w A target g B N P it s') (hB : ∀ b ∈ B, b ∉ Mine.own env ∧ b ∉ frs A ∧ b ≠ tabA) (hN : N ≤ sizeLine) (K : Nat → List Value → Prop) (hKl : ∀ i ys, K i ys → ys.length ≤ i) (h0 : K 0 [])
    (step : StepC w (Mine.own env) env n A g m target elt ifs scope cl N P K)
    (fin : ∀ D ys s', K N ys → Fm w (Mine.own env) env n A g m s' → s'.heap.get? D = some (lst ys) → Fresh w g D → D ∉ Mine.own env → Q D ys s') :
    CompAt w env n A g m target elt ifs scope cl Q it s' := by
  obtain ⟨I, fp, wr, Md, St, rfl, T, self, hst, hfp, hwr⟩ := T
  have hmu := F.alive hc
  refine ⟨I, fp, wr, N, P, Md, St, K, rfl, T, self, F', hN, fun b hb => ?_, fun b hb => ⟨(F.fresh_off hmu (hwr b hb)).2.2.2.1, (F.fresh_off hmu (hwr b hb)).2.2.2.2⟩, hst, hKl, h0, step, fin⟩
  obtain ⟨q, al⟩ := hfp b hb
  rcases q with q | q
  · exact ⟨(F.fresh_off hmu q).1, (F.fresh_off hmu q).2.1, (F.fresh_off hmu q).2.2.1, al⟩
  · exact ⟨(hB b q).1, (hB b q).2.1, (hB b q).2.2, al⟩
theorem lcompA {elt target iter : Expr} {ifs : List Expr} {scope : Scope} {cl : List (Str × Addr)} {pos spos py : Pos} {y : Str} {rest : List Stmt} {Q : Flow → Shared → Prop} (_ : Fm w (Mine.own env) env n A g m s) (ok : CompOk scope cl env)
    (h : wpAny (model prg w) A (eval iter env) (fun xv s₁ => wpAny (model prg w) A (pyIter xv) (CompAt w env n A g m target elt ifs scope cl fun D ys s' => Fm w (Mine.own env) env n A g m s' ∧ D ∉ Mine.own env ∧ Fresh w g D ∧ s'.heap.get? D = some (lst ys) ∧
        ∀ s'', Fm w (Mine.own env) env n A g (upd m y (.ref D)) s'' → s''.heap.get? D = some (lst ys) → wpAny (model prg w) A (execs rest env) Q E s'') E s₁) E s)
    (hsw : autoParam (swapsWith (.ListComp elt [⟨target, iter, ifs, 0⟩] scope pos) (some (.Name y py)) spos.line env = pure true) byRfl)
    (hy : env.kindOf y = some .local ∨ (env.kindOf y = some .cell ∧ ∃ c, env.cells.lookup y = some c))
    (hs : autoParam (∀ x, foldedSetIterable iter env x = pure x) byIntro) :
    wpAny (model prg w) A (execs (.Assign [.Name y py] (.ListComp elt [⟨target, iter, ifs, 0⟩] scope pos) spos :: rest) env) Q E s := by
  refine sCons ?_
  rw [exec_Assign_Name_used _ _ _ _ hsw]
  refine wpAny_bind (wpAny_standAt (wpAny_bind ?_))
  show wpAny _ A (do let _ ← comprehension (.ListComp elt [⟨target, iter, ifs, 0⟩] scope pos) scope env _ (newList []) false (eval iter env) (some (assign (.Name y py) env))) _ _ s
  refine wpAny_bind (wpAny_mono (wpAny_comprehension_free (use := some (assign (.Name y py) env)) (Q := fun _ s' => andThen w A env E rest Q .next s') rfl hs ok.clos ok.kind ok.names
    (wpAny_mono h (fun xv s₁ h₁ => wpAny_mono h₁ (fun it s₂ h₂ => ?_) fun _ _ e => e) fun _ _ e => e)) (fun _ s' hq => wpAny_pure (wpAny_pure hq)) fun _ _ e => e)
  obtain ⟨I, fp, wr, N, P, Md, St, K, rfl, T, self, F, hN, hfp, hwr, hst, hKl, h0, step, fin⟩ := h₂
  refine compCore T self ok F hN hfp hwr hst K hKl h0 step fun D C m' ys s' hK F' hD fD fC hn hCo hDo hDC hCn => ?_
  show wpAny _ A (assign (.Name y py) env (.ref D)) _ _ _
  obtain ⟨_, _, _, _, go⟩ := fin D ys s' hK F' hD fD hDo
  have store : ∀ {R : Unit → Shared → Prop}, (∀ s₂, Fm w (Mine.own env) env n A s' (upd m y (.ref D)) s₂ → R () s₂) → wpAny (model prg w) A (storeName env y (.ref D)) R E s' := fun h => by
    rcases hy with hy | ⟨hy, c, hc⟩
    · exact st F'.base (fun s₂ F₂ => h s₂ F₂) hy
    · exact stc F'.base (fun s₂ F₂ => h s₂ F₂) hc hy
  refine wpAny_assign_Name (store fun s₂ F₂ => ?_)
  have hC₂ : s₂.heap.Ns C m' := F₂.eff.keep.ns hCo hn
  have hD₂ : s₂.heap.get? D = some (lst ys) := by
    obtain ⟨sl, a, c⟩ := F₂.eff.keep D _ hDo hD (.inl rfl)
    by_cases q : D ∈ frs A
    · obtain ⟨l, hl, h⟩ := F'.cx.fx
      unfold frs at q; rw [hl] at q
      obtain ⟨x, hx, e⟩ := List.mem_filterMap.mp q
      obtain ⟨_, L, h2, _, mm, o, _, _, ho, hd, _⟩ := h x hx
      rw [h2] at e; cases e; rw [hD] at ho; cases ho; cases hd
    · have := c q; subst this; exact a
  refine ⟨m', hC₂, fun h'' hs'' => go _ ((F'.after F₂).other (nw := [C]) (tk := s₂.toks) (fun b hb => List.mem_singleton.mp hb ▸ hCn) (fun b hb => List.mem_singleton.mp hb ▸ fC.1) (fun b hb => List.mem_singleton.mp hb ▸ hCo) fun b o hb e => hs''.extBut b o (fun q => hb (by simp [q])) e) (hs''.extBut _ _ hDC hD₂)⟩
end
end Mine
end
section
open PySem PySem.W PyProof.Rows PySem.Calls
namespace Mine
section
variable {w : World} {mu : List Addr} {env : Env} {n : Nat} {A : Around} {g s s' s₀ : Shared} {m : Str → Option Value} {E : Value → Shared → Prop} {B : List Addr}
theorem nea {a b : Nat} (h : a < b ∨ b < a) : @Ne Nat a b := by omega
theorem it_list {l : Addr} {vs : List Value} {Q : Value → Shared → Prop} (hl : s.heap.IsList l vs.toArray) (F : Fm w mu env n A g m s) (hmu : ∀ b ∈ mu, ∃ o, s.heap.get? b = some o) (hlB : Fresh w g l ∨ l ∈ B)
    (h : ∀ it s', Fm w mu env n A g m s' → (∀ b o, s.heap.get? b = some o → s'.heap.get? b = some o) → (∀ x px, TurnsIn w A (.Name x px) g B vs.length (fun i v _ => vs[i]? = some v) it s') → Q it s') : wpAny (model prg w) A (pyIter (.ref l)) Q E s := by
  refine wpAny_pyIter_list hl ?_
  have hlt : l < s.heap.objs.size := by obtain ⟨_, e, _⟩ := hl; exact Heap.lt_size e
  have up : ∀ b o, s.heap.get? b = some o → (s.heap.push { cls := .type "list_iterator", data := .fields #[.ref l, .int 0 0] }).get? b = some o := fun b o e => Heap.get?_push_of_some _ e
  have W := Walks.list (prog := prg) (w := w) F.hh s.heap.objs.size l (Nat.ne_of_lt hlt) vs.toArray
  have T : ∀ x px, KTurns prg w A (.Name x px) s.heap.objs.size [s.heap.objs.size, l] [s.heap.objs.size] vs.length (fun i v _ => vs[i]? = some v) (fun i v h => vs[i]? = some v ∧ (h.IsListIter s.heap.objs.size l (i + 1) ∧ h.IsList l vs.toArray)) (fun i h => h.IsListIter s.heap.objs.size l i ∧ h.IsList l vs.toArray) := fun x px => by
    have := KTurns.ofWalks (target := .Name x px) W (fun i v s Q E _ hq => wpAny_pure hq)
    simpa using this
  refine h _ _ (F.go (.push _)) up fun x px => ⟨_, _, _, _, _, rfl, T x px, fun s Q st hq E => W.self 0 s Q E st hq, ⟨⟨_, Heap.get?_push_size _ rfl, rfl, rfl⟩, hl.push _⟩, fun b hb => ?_, fun b hb => ?_⟩
  · rcases List.mem_cons.mp hb with rfl | hb
    · exact ⟨.inl (F.new hmu (Nat.le_refl _)), _, Heap.get?_push_size _ rfl⟩
    · rw [List.mem_singleton.mp hb]
      obtain ⟨o, e, _⟩ := hl
      exact ⟨hlB, o, up _ _ e⟩
  · rw [List.mem_singleton.mp hb]; exact F.new hmu (Nat.le_refl _)
theorem it_tuple {l : Addr} {vs : List Value} {Q : Value → Shared → Prop} (hl : s.heap.IsTuple l vs.toArray) (F : Fm w mu env n A g m s) (hmu : ∀ b ∈ mu, ∃ o, s.heap.get? b = some o) (hlB : Fresh w g l ∨ l ∈ B)
    (h : ∀ it s', Fm w mu env n A g m s' → (∀ b o, s.heap.get? b = some o → s'.heap.get? b = some o) → (∀ x px, TurnsIn w A (.Name x px) g B vs.length (fun i v _ => vs[i]? = some v) it s') → Q it s') : wpAny (model prg w) A (pyIter (.ref l)) Q E s := by
  refine wpAny_pyIter_tuple hl ?_
  have hlt : l < s.heap.objs.size := by obtain ⟨_, e, _⟩ := hl; exact Heap.lt_size e
  have up : ∀ b o, s.heap.get? b = some o → (s.heap.push { cls := .type "tuple_iterator", data := .fields #[.ref l, .int 0 0] }).get? b = some o := fun b o e => Heap.get?_push_of_some _ e
  have W := Walks.tuple (prog := prg) (w := w) F.hh s.heap.objs.size l (Nat.ne_of_lt hlt) vs.toArray
  have T : ∀ x px, KTurns prg w A (.Name x px) s.heap.objs.size [s.heap.objs.size, l] [s.heap.objs.size] vs.length (fun i v _ => vs[i]? = some v) (fun i v h => vs[i]? = some v ∧ (h.IsTupleIter s.heap.objs.size l (i + 1) ∧ h.IsTuple l vs.toArray)) (fun i h => h.IsTupleIter s.heap.objs.size l i ∧ h.IsTuple l vs.toArray) := fun x px => by
    have := KTurns.ofWalks (target := .Name x px) W (fun i v s Q E _ hq => wpAny_pure hq)
    simpa using this
  refine h _ _ (F.go (.push _)) up fun x px => ⟨_, _, _, _, _, rfl, T x px, fun s Q st hq E => W.self 0 s Q E st hq, ⟨⟨_, Heap.get?_push_size _ rfl, rfl, rfl⟩, hl.at fun o e => up _ _ e⟩, fun b hb => ?_, fun b hb => ?_⟩
  · rcases List.mem_cons.mp hb with rfl | hb
    · exact ⟨.inl (F.new hmu (Nat.le_refl _)), _, Heap.get?_push_size _ rfl⟩
    · rw [List.mem_singleton.mp hb]
      obtain ⟨o, e, _⟩ := hl
      exact ⟨hlB, o, up _ _ e⟩
  · rw [List.mem_singleton.mp hb]; exact F.new hmu (Nat.le_refl _)
theorem it_bytes {l : List UInt8} {t : Tok} {Q : Value → Shared → Prop} (F : Fm w mu env n A g m s) (hmu : ∀ b ∈ mu, ∃ o, s.heap.get? b = some o)
    (h : ∀ it s', Fm w mu env n A g m s' → (∀ x px, TurnsIn w A (.Name x px) g [] l.length (fun i v _ => ∃ c t, l[i]? = some c ∧ v = .int (c.toNat : Int) t) it s') → Q it s') : wpAny (model prg w) A (pyIter (.bytes l.toArray t)) Q E s := by
  refine KBw.pyIter_bytes ?_
  have W := KBw.walks (prog := prg) (w := w) F.hh s.heap.objs.size l.toArray t
  have T : ∀ x px, KTurns prg w A (.Name x px) s.heap.objs.size [s.heap.objs.size] [s.heap.objs.size] l.length (fun i v _ => ∃ c t, l[i]? = some c ∧ v = .int (c.toNat : Int) t) (fun i v h => (∃ c t, l[i]? = some c ∧ v = .int (c.toNat : Int) t) ∧ KBw.IsBytesIter h s.heap.objs.size l.toArray t (i + 1)) (fun i h => KBw.IsBytesIter h s.heap.objs.size l.toArray t i) := fun x px => by
    have := KTurns.ofWalks (target := .Name x px) W (fun i v s Q E _ hq => wpAny_pure hq)
    simpa using this
  refine h _ _ (F.go (.push _)) fun x px => ⟨_, _, _, _, _, rfl, T x px, fun s Q st hq E => W.self 0 s Q E st hq, ⟨_, Heap.get?_push_size _ rfl, rfl, rfl⟩, fun b hb => ?_, fun b hb => ?_⟩
  · rw [List.mem_singleton.mp hb]; exact ⟨.inl (F.new hmu (Nat.le_refl _)), _, Heap.get?_push_size _ rfl⟩
  · rw [List.mem_singleton.mp hb]; exact F.new hmu (Nat.le_refl _)
theorem it_range {r : Addr} {a c : Int} {k : Nat} {b : Int} {t u v : Tok} {Q : Value → Shared → Prop} (hr : IsRange s.heap r a b c t u v) (hsm : Builtin.Range.small a b c = true) (hk : Builtin.Range.rangeSize a b c = ((k : Nat) : Int)) (F : Fm w mu env n A g m s) (hmu : ∀ b ∈ mu, ∃ o, s.heap.get? b = some o)
    (h : ∀ it s', Fm w mu env n A g m s' → (∀ x px, TurnsIn w A (.Name x px) g [] k (fun i v _ => ∃ t, v = .int (a + i * c) t) it s') → Q it s') : wpAny (model prg w) A (pyIter (.ref r)) Q E s := by
  refine wpAny_pyIter_range hr hsm ?_
  rw [hk]
  have W := Walks.range (prog := prg) (w := w) F.hh s.heap.objs.size a c k
  have T := fun x px => KTurns.ofWalks (target := .Name x px) W (fun i v s Q E _ hq => wpAny_pure hq)
  refine h _ _ (F.go (.push _)) fun x px => ⟨_, _, _, _, _, rfl, T x px, fun s Q st hq E => W.self 0 s Q E st hq, ?_, fun b hb => ?_, fun b hb => ?_⟩
  · show IsRangeIter _ _ _ _ _
    simpa using Heap.get?_push_size _ rfl
  · rw [List.mem_singleton.mp hb]; exact ⟨.inl (F.new hmu (Nat.le_refl _)), _, Heap.get?_push_size _ rfl⟩
  · rw [List.mem_singleton.mp hb]; exact F.new hmu (Nat.le_refl _)
theorem it_dict {d : Addr} {kvs : List (List UInt8 × Value)} {ep : Nat} {Q : Value → Shared → Prop} (hd : s.heap.DictAt (bytesKind prg w) d kvs ep) (lo : (d == sysModules) = false) (F : Fm w mu env n A g m s) (hmu : ∀ b ∈ mu, ∃ o, s.heap.get? b = some o) (hlB : Fresh w g d ∨ d ∈ B)
    (h : ∀ it s', Fm w mu env n A g m s' → (∀ b o, s.heap.get? b = some o → s'.heap.get? b = some o) → (∀ x px, TurnsIn w A (.Name x px) g B kvs.length (fun i v _ => ∃ k u t, kvs[i]? = some (k, u) ∧ v = .bytes k.toArray t) it s') → Q it s') : wpAny (model prg w) A (pyIter (.ref d)) Q E s := by
  refine wpAny_pyIter_dict lo hd ?_
  have hlt : d < s.heap.objs.size := hd.lt_size
  have W := Walks.dictKeys (prog := prg) (w := w) (knd := bytesKind prg w) F.hh s.heap.objs.size d (Nat.ne_of_lt hlt) kvs ep
  have up : ∀ b o, s.heap.get? b = some o → (s.heap.push { cls := .type "dict_keyiterator", data := .fields #[.ref d, .int 0 0, .int kvs.length 0, .int ep 0] }).get? b = some o := fun b o e => Heap.get?_push_of_some _ e
  have T := fun x px => KTurns.ofWalks (target := .Name x px) W (fun i v s Q E _ hq => wpAny_pure hq)
  have T' : ∀ x px, KTurns prg w A (.Name x px) s.heap.objs.size [s.heap.objs.size, d] [s.heap.objs.size] kvs.length (fun i v _ => ∃ k u t, kvs[i]? = some (k, u) ∧ v = .bytes k.toArray t) _ _ := fun x px =>
    { T x px with go := fun i v s Q E hm hq => (T x px).go i v s Q E hm fun h' hp st hk => hq h' (by obtain ⟨k, u, hx, hk⟩ := hp; obtain ⟨t, rfl⟩ := isBytes_shape hk; exact ⟨k, u, t, hx, rfl⟩) st hk }
  refine h _ _ (F.go (.push _)) up fun x px => ⟨_, _, _, _, _, rfl, T' x px, fun s Q st hq E => W.self 0 s Q E st hq, ⟨⟨_, Heap.get?_push_size _ rfl, rfl, rfl⟩, hd.push _⟩, fun b hb => ?_, fun b hb => ?_⟩
  · rcases List.mem_cons.mp hb with rfl | hb
    · exact ⟨.inl (F.new hmu (Nat.le_refl _)), _, Heap.get?_push_size _ rfl⟩
    · rw [List.mem_singleton.mp hb]
      obtain ⟨o, _, e, _⟩ := hd
      exact ⟨hlB, o, up _ _ e⟩
  · rw [List.mem_singleton.mp hb]; exact F.new hmu (Nat.le_refl _)
abbrev tgt2 (x y : Str) (px py : Pos) (k : Nat) (p : Pos) : Expr := .Tuple [.Name x px, .Name y py] k p
noncomputable def pairV (v : Value) (a b : Value) (h : Heap) : Prop := ∃ T, v = .ref T ∧ h.IsTuple T #[a, b]
theorem it_enumL {l : Addr} {vs : List Value} {Q : Value → Shared → Prop} (hl : s.heap.IsList l vs.toArray) (F : Fm w mu env n A g m s) (hmu : ∀ b ∈ mu, ∃ o, s.heap.get? b = some o) (hlB : Fresh w g l ∨ l ∈ B)
    (h : ∀ e s₁, wpAny (model prg w) A (pyIter e) (fun it s' => ∀ (R : Prop), (Fm w mu env n A g m s' → (∀ b o, s.heap.get? b = some o → s'.heap.get? b = some o) → (∀ x y px py k p, TurnsIn w A (tgt2 x y px py k p) g B vs.length (fun i v h => ∃ t u, vs[i]? = some u ∧ pairV v (.int i t) u h) it s') → R) → R) (fun _ _ => False) s₁ → Q e s₁) : wpAny (model prg w) A (call (.type "enumerate") [.ref l]) Q E s := by
  refine call_enumerate_list hl fun h₁ he hit hsz hk => h _ _ ?_
  have e1 : Fm w mu env n A g m { s with heap := h₁ } := F.go (.keeps (s' := { s with heap := h₁ }) hk rfl rfl)
  refine wpAny_pyIter_enum he fun R hR => hR e1 hk ?_
  have hlt : l < s.heap.objs.size := by obtain ⟨_, e, _⟩ := hl; exact Heap.lt_size e
  have hlt : @LT.lt Nat _ l s.heap.objs.size := hlt
  have W := (WalksT.enumerate (prog := prg) (w := w) F.hh (s.heap.objs.size + 1) s.heap.objs.size l (nea (by with_reducible exact orD rfl)) (nea (by with_reducible exact orS _ (by assumption))) (nea (by with_reducible exact .inl (by assumption))) vs.toArray).toU
  have T := fun x y px py k p => KTurns.ofWalksU (elts := [.Name x px, .Name y py]) (k := k) (pos := p) W
  have T' : ∀ x y px py k p, KTurns prg w A (tgt2 x y px py k p) (s.heap.objs.size + 1) [s.heap.objs.size + 1, s.heap.objs.size, l] [s.heap.objs.size + 1, s.heap.objs.size] vs.length (fun i v h => ∃ t u, vs[i]? = some u ∧ pairV v (.int i t) u h) _ _ := fun x y px py k p =>
    { T x y px py k p with go := fun i v s Q E hm hq => (T x y px py k p).go i v s Q E hm fun h' hp st hk => hq h' (by obtain ⟨T, vals, rfl, ⟨t, u, hx, rfl⟩, hT⟩ := hp; exact ⟨t, u, by simpa using hx, T, rfl, hT⟩) st hk }
  refine fun x y px py k p => ⟨_, _, _, _, _, rfl, T' x y px py k p, fun s Q st hq E => W.self 0 s Q E st hq, ⟨⟨_, he⟩, hit, ?_⟩, fun b hb => ?_, fun b hb => ?_⟩
  · obtain ⟨o, e, r⟩ := hl; exact ⟨o, hk _ _ e, r⟩
  · rcases List.mem_cons.mp hb with rfl | hb
    · exact ⟨.inl (F.new hmu (Nat.le_succ _)), _, he⟩
    · rcases List.mem_cons.mp hb with rfl | hb
      · obtain ⟨o, e, _⟩ := hit
        exact ⟨.inl (F.new hmu (Nat.le_refl _)), _, e⟩
      · rw [List.mem_singleton.mp hb]
        obtain ⟨o, e, _⟩ := hl
        exact ⟨hlB, o, hk _ _ e⟩
  · rcases List.mem_cons.mp hb with rfl | hb
    · exact F.new hmu (Nat.le_succ _)
    · rw [List.mem_singleton.mp hb]; exact F.new hmu (Nat.le_refl _)
theorem it_zip {l₁ l₂ : Addr} {vs us : List Value} {Q : Value → Shared → Prop} (hl₁ : s.heap.IsList l₁ vs.toArray) (hl₂ : s.heap.IsList l₂ us.toArray) (F : Fm w mu env n A g m s) (hmu : ∀ b ∈ mu, ∃ o, s.heap.get? b = some o) (hB₁ : Fresh w g l₁ ∨ l₁ ∈ B) (hB₂ : Fresh w g l₂ ∨ l₂ ∈ B)
    (h : ∀ e s₁, wpAny (model prg w) A (pyIter e) (fun it s' => ∀ (R : Prop), (Fm w mu env n A g m s' → (∀ b o, s.heap.get? b = some o → s'.heap.get? b = some o) → (∀ x y px py k p, TurnsIn w A (tgt2 x y px py k p) g B (min vs.length us.length) (fun i v h => ∃ a b, vs[i]? = some a ∧ us[i]? = some b ∧ pairV v a b h) it s') → R) → R) (fun _ _ => False) s₁ → Q e s₁) : wpAny (model prg w) A (call (.type "zip") [.ref l₁, .ref l₂]) Q E s := by
  refine call_zip_2 hl₁ hl₂ fun h₁ hz hTI hTO hi1 hi2 hsz hk => h _ _ ?_
  have e1 : Fm w mu env n A g m { s with heap := h₁ } := F.go (.keeps (s' := { s with heap := h₁ }) hk rfl rfl)
  refine wpAny_pyIter_zip hz fun R hR => hR e1 hk ?_
  have hlt1 : l₁ < s.heap.objs.size := by obtain ⟨_, e, _⟩ := hl₁; exact Heap.lt_size e
  have hlt2 : l₂ < s.heap.objs.size := by obtain ⟨_, e, _⟩ := hl₂; exact Heap.lt_size e
  have D : ZipApart (s.heap.objs.size + 4) (s.heap.objs.size + 2) (s.heap.objs.size + 3) s.heap.objs.size (s.heap.objs.size + 1) l₁ l₂ := by
    have hlt1 : @LT.lt Nat _ l₁ s.heap.objs.size := hlt1
    have hlt2 : @LT.lt Nat _ l₂ s.heap.objs.size := hlt2
    constructor <;> exact nea (by (with_reducible first | exact orA rfl | exact orB rfl | exact orC rfl | exact orD rfl | exact orS _ ‹_› | exact .inl ‹_›))
  have W := (WalksT.zip2 (prog := prg) (w := w) F.hh _ _ _ _ _ _ _ D vs.toArray us.toArray).toU
  have T := fun x y px py k p => KTurns.ofWalksU (elts := [.Name x px, .Name y py]) (k := k) (pos := p) W
  have T' : ∀ x y px py k p, KTurns prg w A (tgt2 x y px py k p) (s.heap.objs.size + 4) [s.heap.objs.size + 4, s.heap.objs.size + 2, s.heap.objs.size + 3, s.heap.objs.size, s.heap.objs.size + 1, l₁, l₂] [s.heap.objs.size + 4, s.heap.objs.size + 3, s.heap.objs.size, s.heap.objs.size + 1] (min vs.length us.length) (fun i v h => ∃ a b, vs[i]? = some a ∧ us[i]? = some b ∧ pairV v a b h) _ _ := fun x y px py k p =>
    { T x y px py k p with go := fun i v s Q E hm hq => (T x y px py k p).go i v s Q E hm fun h' hp st hk => hq h' (by obtain ⟨T, vals, rfl, ⟨a, b, ha, hb, rfl⟩, hT⟩ := hp; exact ⟨a, b, by simpa using ha, by simpa using hb, T, rfl, hT⟩) st hk }
  obtain ⟨o1, e1', r1⟩ := hi1
  obtain ⟨o2, e2', r2⟩ := hi2
  refine fun x y px py k p => ⟨_, _, _, _, _, rfl, T' x y px py k p, fun s Q st hq E => W.self 0 s Q E st hq, ⟨hz, hTI, ⟨_, _, hTO⟩, ⟨o1, e1', r1⟩, ⟨o2, e2', r2⟩, ?_, ?_⟩, ?_, ?_⟩
  · obtain ⟨o, e, r⟩ := hl₁; exact ⟨o, hk _ _ e, r⟩
  · obtain ⟨o, e, r⟩ := hl₂; exact ⟨o, hk _ _ e, r⟩
  · have c {a : Addr} {l : List Addr} {P : Addr → Prop} (h : P a) (t : ∀ b ∈ l, P b) : ∀ b ∈ a :: l, P b := List.forall_mem_cons.mpr ⟨h, t⟩
    refine c ⟨.inl (F.new hmu (Nat.le_add_right _ _)), _, hz⟩ (c ⟨.inl (F.new hmu (Nat.le_add_right _ _)), _, hTI⟩ (c ⟨.inl (F.new hmu (Nat.le_add_right _ _)), _, hTO⟩ (c ⟨.inl (F.new hmu (Nat.le_refl _)), _, e1'⟩ (c ⟨.inl (F.new hmu (Nat.le_succ _)), _, e2'⟩ (c ?_ (c ?_ fun _ q => nomatch q))))))
    · obtain ⟨o, e, _⟩ := hl₁; exact ⟨hB₁, o, hk _ _ e⟩
    · obtain ⟨o, e, _⟩ := hl₂; exact ⟨hB₂, o, hk _ _ e⟩
  · have c {a : Addr} {l : List Addr} {P : Addr → Prop} (h : P a) (t : ∀ b ∈ l, P b) : ∀ b ∈ a :: l, P b := List.forall_mem_cons.mpr ⟨h, t⟩
    exact c (F.new hmu (Nat.le_add_right _ _)) (c (F.new hmu (Nat.le_add_right _ _)) (c (F.new hmu (Nat.le_refl _)) (c (F.new hmu (Nat.le_add_right _ _)) fun _ q => nomatch q)))
end
end Mine
end
section
open PySem PySem.W PyProof.Rows PySem.Calls
namespace Mine
section
variable {w : World} {mu : List Addr} {env : Env} {n : Nat} {A : Around} {g s s' s₀ : Shared} {m : Str → Option Value} {E : Value → Shared → Prop} {B : List Addr}
theorem nextOf_oct {it : Addr} {b : Array UInt8} {t : Tok} {i : Nat} {c : UInt8} {Q : Value → Shared → Prop} (hit : KBw.IsBytesIter s.heap it b t i) (hx : b[i]? = some c)
    (hQ : ∀ h', KBw.IsBytesIter h' it b t (i + 1) → Heap.SameBut it s.heap h' → Q (.int (c.toNat : Int) s.toks) { s with heap := h', toks := s.toks + 1 }) :
    wpAny (model prg w) A (Builtin.SmallTypes.nextOf (.ref it)) Q E s := by
  obtain ⟨o, ho, hc, hd⟩ := id hit
  unfold Builtin.SmallTypes.nextOf
  refine wpAny_bind (wpAny_callSpecial?_slot (name := PySem.Str.ofString "__next__") (KBw.iter_typeIs hit) KBw.slot_next
    (wpAny_call_entry KBw.slot_next (KBw.iter_typeIs hit) KBw.entry_next ?_ (KBw.args_next _)))
  show wpAny _ _ (field (.ref it) 0 >>= _) _ _ s
  refine wpAny_bind (wpAny_field ho hd (x := .bytes b t) rfl ?_)
  show wpAny _ _ (if (Value.bytes b t == Value.none) = true then _ else _) _ _ s
  rw [if_neg (show ¬ ((Value.bytes b t == Value.none) = true) from Bool.false_ne_true)]
  show wpAny _ _ (field (.ref it) 1 >>= _) _ _ s
  refine wpAny_bind (wpAny_field ho hd (x := .int i 0) rfl ?_)
  refine wpAny_bind (wpAny_of_eq (a := b) rfl ?_)
  simp only [Int.toNat_natCast, hx]
  refine wpAny_bind (wpAny_setField ho hd (by simp) (wpAny_bind (wpAny_mkInt (wpAny_pure ⟨_, rfl, wpAny_pure (hQ _ ?_ (Heap.SameBut.update ..))⟩))))
  exact ⟨_, Heap.get?_update_self _ ho (Obj.isFreed_of_fields (Obj.data_mapFields hd _)), (Obj.cls_mapFields ..).trans hc, by
    rw [Obj.data_mapFields hd]; simp [rawInt]⟩
theorem nextOf_octEnd {it : Addr} {b : Array UInt8} {t : Tok} {i : Nat} {Q : Value → Shared → Prop} (hh : A.handled = none) (hit : KBw.IsBytesIter s.heap it b t i) (hx : b[i]? = none)
    (hE : ∀ h' e, Heap.ExtBut it s.heap h' → (∃ o, h'.get? e = some o ∧ o.cls = .type "StopIteration") → E (.ref e) { s with heap := h' }) : wpAny (model prg w) A (Builtin.SmallTypes.nextOf (.ref it)) Q E s := by
  obtain ⟨o, ho, hc, hd⟩ := id hit
  unfold Builtin.SmallTypes.nextOf
  refine wpAny_bind (wpAny_callSpecial?_slot (name := PySem.Str.ofString "__next__") (KBw.iter_typeIs hit) KBw.slot_next
    (wpAny_call_entry KBw.slot_next (KBw.iter_typeIs hit) KBw.entry_next ?_ (KBw.args_next _)))
  show wpAny _ _ (field (.ref it) 0 >>= _) _ _ s
  refine wpAny_bind (wpAny_field ho hd (x := .bytes b t) rfl ?_)
  show wpAny _ _ (if (Value.bytes b t == Value.none) = true then _ else _) _ _ s
  rw [if_neg (show ¬ ((Value.bytes b t == Value.none) = true) from Bool.false_ne_true)]
  show wpAny _ _ (field (.ref it) 1 >>= _) _ _ s
  refine wpAny_bind (wpAny_field ho hd (x := .int i 0) rfl ?_)
  refine wpAny_bind (wpAny_of_eq (a := b) rfl ?_)
  simp only [Int.toNat_natCast, hx]
  refine wpAny_bind (wpAny_rule (wpAny_bind (wpAny_setField ho hd (by simp) ?_)))
  show wpAny _ _ (newExc (.type "StopIteration") [] >>= _) _ _ _
  refine wpAny_bind ?_
  simp only [newExc, newTuple]
  refine wpAny_bind (wpAny_newObj_type ?_ (by size_fits))
  refine wpAny_bind (m := firstArgMember _ _) (wpAny_of_eq (a := Value.none) (by first | rfl | (simp only [firstArgMember]; rfl)) ?_)
  refine wpAny_newObj_type ?_ (by size_fits)
  simp only [raiseNew]
  refine wpAny_bind (wpAny_handled ?_)
  rw [show A.in1.handled = none from hh]
  refine wpAny_bind (wpAny_pure (wpAny_throw ?_))
  exact hE _ _ (((Heap.SameBut.update ..).extBut.push _).push _) ⟨_, Heap.get?_push_size _ rfl, rfl⟩
theorem drawsOct (hh : A.handled = none) (it : Addr) (b : Array UInt8) (t : Tok) :
    Draws prg w A it [it] b.size (fun i v => ∃ c u, b[i]? = some c ∧ v = .int (c.toNat : Int) u) (fun i h => KBw.IsBytesIter h it b t i) where
  live := fun _ _ st => let ⟨o, ho, _⟩ := st; ⟨o, ho⟩
  frame := fun _ _ _ st hk => let ⟨o, ho, r⟩ := st; ⟨o, hk it (by simp) o ho, r⟩
  item := fun i s Q E hi st hQ => by
    refine nextOf_oct st (c := b[i]) (by simp [hi]) fun h' hit' hs' => ?_
    exact hQ _ h' (s.toks + 1) ⟨_, _, by simp [hi], rfl⟩ hit' hs'
  done := fun s Q E st hE => nextOf_octEnd hh st (by simp) hE
set_option maxHeartbeats 1000000 in
theorem meets_enum_oct (b : Array UInt8) (t : Tok) :
    Meets (Builtin.«enumerate.__new__» ⟨[.type "enumerate", .bytes b t], []⟩) (fun _ R s =>
      R (.ok (.ret (.ref (s.heap.push { cls := .type "bytes_iterator", data := .fields #[.bytes b t, .int 0 0] }).objs.size)))
        { s with heap := (s.heap.push { cls := .type "bytes_iterator", data := .fields #[.bytes b t, .int 0 0] }).push { cls := .type "enumerate", data := .fields #[.none, .bool false, .ref s.heap.objs.size, rawInt 0, .none, .none] } }) :=
  .of_wp fun prog w A R s h => by
    obtain ⟨hp, g, d, tk, os⟩ := s
    have hsub := sub_enumerate
    wp_walk
    refine wpAny_stack_any fun st => wpAny_pure ?_
    split
    · rename_i c _ _ _ _ _
      cases (c == Value.type "enumerate")
      · wp_walk using KBw.pyIter_bytes
        exact ⟨_, rfl, h⟩
      · wp_walk using KBw.pyIter_bytes
        exact ⟨_, rfl, h⟩
    · wp_walk using KBw.pyIter_bytes
      exact ⟨_, rfl, h⟩
theorem it_enumB {l : List UInt8} {t : Tok} {Q : Value → Shared → Prop} (F : Fm w mu env n A g m s) (hmu : ∀ b ∈ mu, ∃ o, s.heap.get? b = some o)
    (h : ∀ e s₁, wpAny (model prg w) A (pyIter e) (fun it s' => ∀ (R : Prop), (Fm w mu env n A g m s' → (∀ x y px py k p, TurnsIn w A (tgt2 x y px py k p) g [] l.length (fun i v h => ∃ t u c, l[i]? = some c ∧ pairV v (.int i t) (.int (c.toNat : Int) u) h) it s') → R) → R) (fun _ _ => False) s₁ → Q e s₁) : wpAny (model prg w) A (call (.type "enumerate") [.bytes l.toArray t]) Q E s := by
  refine callType_new PySem.F.called_enumerate (by decide) (PySem.F.typeCall_enumerate_1 _) (PySem.F.newCall_enumerate_1 _) (fun obj => PySem.F.args_object_init_2 obj _) PySem.F.entry_enumerate_new
    (meets_enum_oct l.toArray t) ?_
  have hz : (s.heap.push { cls := .type "bytes_iterator", data := .fields #[.bytes l.toArray t, .int 0 0] }).objs.size = s.heap.objs.size + 1 := Heap.size_push ..
  rw [hz]
  have he : IsEnum ((s.heap.push { cls := .type "bytes_iterator", data := .fields #[.bytes l.toArray t, .int 0 0] }).push
      { cls := .type "enumerate", data := .fields #[.none, .bool false, .ref s.heap.objs.size, rawInt 0, .none, .none] }) (s.heap.objs.size + 1) s.heap.objs.size 0 .none := by
    have := Heap.get?_push_size (s.heap.push { cls := .type "bytes_iterator", data := .fields #[.bytes l.toArray t, .int 0 0] })
      (o := { cls := .type "enumerate", data := .fields #[.none, .bool false, .ref s.heap.objs.size, rawInt 0, .none, .none] }) rfl
    rw [hz] at this; exact this
  have hk : ∀ b o, s.heap.get? b = some o → ((s.heap.push { cls := .type "bytes_iterator", data := .fields #[.bytes l.toArray t, .int 0 0] }).push
      { cls := .type "enumerate", data := .fields #[.none, .bool false, .ref s.heap.objs.size, rawInt 0, .none, .none] }).get? b = some o := fun b o x => Heap.get?_push_of_some _ (Heap.get?_push_of_some _ x)
  have hit : KBw.IsBytesIter ((s.heap.push { cls := .type "bytes_iterator", data := .fields #[.bytes l.toArray t, .int 0 0] }).push
      { cls := .type "enumerate", data := .fields #[.none, .bool false, .ref s.heap.objs.size, rawInt 0, .none, .none] }) s.heap.objs.size l.toArray t 0 := ⟨_, Heap.get?_push_of_some _ (Heap.get?_push_size _ rfl), rfl, rfl⟩
  refine ⟨⟨_, he, rfl⟩, ?_⟩
  generalize ((s.heap.push { cls := .type "bytes_iterator", data := .fields #[.bytes l.toArray t, .int 0 0] }).push
      { cls := .type "enumerate", data := .fields #[.none, .bool false, .ref s.heap.objs.size, rawInt 0, .none, .none] }) = h₁ at he hk hit ⊢
  refine h _ _ ?_
  have e1 : Fm w mu env n A g m { s with heap := h₁ } := F.go (.keeps (s' := { s with heap := h₁ }) hk rfl rfl)
  refine wpAny_pyIter_enum he fun R hR => hR e1 ?_
  have W := (WalksT.enumerateD (drawsOct (w := w) (A := A.in1) F.hh s.heap.objs.size l.toArray t) (s.heap.objs.size + 1) (nea (by with_reducible exact orD rfl)) (fun q => absurd (List.mem_singleton.mp q) (nea (by with_reducible exact orD rfl))) (.head _)).toU
  have T := fun x y px py k p => KTurns.ofWalksU (elts := [.Name x px, .Name y py]) (k := k) (pos := p) W
  have T' : ∀ x y px py k p, KTurns prg w A (tgt2 x y px py k p) (s.heap.objs.size + 1) [s.heap.objs.size + 1, s.heap.objs.size] [s.heap.objs.size + 1, s.heap.objs.size] l.length (fun i v h => ∃ t u c, l[i]? = some c ∧ pairV v (.int i t) (.int (c.toNat : Int) u) h) _ _ := fun x y px py k p =>
    { T x y px py k p with go := fun i v s Q E hm hq => (T x y px py k p).go i v s Q E hm fun h' hp st hk => hq h' (by obtain ⟨T, vals, rfl, ⟨t, u, ⟨c, u', hx, rfl⟩, rfl⟩, hT⟩ := hp; exact ⟨t, u', c, by simpa using hx, T, rfl, hT⟩) st hk }
  refine fun x y px py k p => ⟨_, _, _, _, _, rfl, T' x y px py k p, fun s Q st hq E => W.self 0 s Q E st hq, ⟨⟨_, he⟩, hit⟩, fun b hb => ?_, fun b hb => ?_⟩
  · rcases List.mem_cons.mp hb with rfl | hb
    · exact ⟨.inl (F.new hmu (Nat.le_succ _)), _, he⟩
    · rw [List.mem_singleton.mp hb]
      obtain ⟨o, e, _⟩ := hit
      exact ⟨.inl (F.new hmu (Nat.le_refl _)), _, e⟩
  · rcases List.mem_cons.mp hb with rfl | hb
    · exact F.new hmu (Nat.le_succ _)
    · rw [List.mem_singleton.mp hb]; exact F.new hmu (Nat.le_refl _)
end
end Mine
end
section
open PySem PySem.W PyProof.Rows PySem.Calls
namespace Mine
abbrev By := List UInt8
noncomputable def IsB (l : By) (v : Value) : Prop := ∃ t, v = .bytes l.toArray t
noncomputable def IsI (i : Int) (v : Value) : Prop := ∃ t, v = .int i t
noncomputable def IsV (u : Value) (v : Value) : Prop := v = u
noncomputable def IsT (b : Bool) (v : Value) : Prop := v = .bool b
section
variable (w : World) (mu : List Addr) (env : Env) (n : Nat) (A : Around) (g : Shared) (m : Str → Option Value)
noncomputable def Ev (V : Value → Prop) (e : Expr) : Prop := ∀ s, Fm w mu env n A g m s → ∀ (Q : Value → Shared → Prop) (E : Value → Shared → Prop), (∀ v s', Fm w mu env n A g m s' → V v → Q v s') → wpAny (model prg w) A (eval e env) Q E s
noncomputable def Tt (b : Bool) (e : Expr) : Prop := ∀ s, Fm w mu env n A g m s → ∀ (Q : Bool → Shared → Prop) (E : Value → Shared → Prop), (∀ s', Fm w mu env n A g m s' → Q b s') → wpAny (model prg w) A (isTrue e env (eval e env)) Q E s
noncomputable def Do (V : Value → Prop) (p : Sem Value) : Prop := ∀ s, Fm w mu env n A g m s → ∀ (Q : Value → Shared → Prop) (E : Value → Shared → Prop), (∀ v s', Fm w mu env n A g m s' → V v → Q v s') → wpAny (model prg w) A p Q E s
noncomputable def Truth (V : Value → Prop) (b : Bool) : Prop := ∀ v, V v → ∀ s, Fm w mu env n A g m s → ∀ (Q : Bool → Shared → Prop) (E : Value → Shared → Prop), (∀ s', Fm w mu env n A g m s' → Q b s') → wpAny (model prg w) A (truthy v) Q E s
end
section
variable {w : World} {mu : List Addr} {env : Env} {n : Nat} {A : Around} {g : Shared} {m : Str → Option Value} {V Va Vb Vc : Value → Prop} {x : Str} {pos px : Pos} {e e₁ e₂ e₃ : Expr} {b c d : Bool} {i j : Int} {l p : By}
theorem Fm.ev {s : Shared} {Q : Value → Shared → Prop} {E : Value → Shared → Prop} (F : Fm w mu env n A g m s) (h : Ev w mu env n A g m V e) (k : ∀ v s', Fm w mu env n A g m s' → V v → Q v s') : wpAny (model prg w) A (eval e env) Q E s := h s F Q E k
theorem Fm.tt {s : Shared} {Q : Bool → Shared → Prop} {E : Value → Shared → Prop} (F : Fm w mu env n A g m s) (h : Tt w mu env n A g m b e) (k : ∀ s', Fm w mu env n A g m s' → Q b s') : wpAny (model prg w) A (isTrue e env (eval e env)) Q E s := h s F Q E k
theorem eL {v : Value} (hv : m x = some v) (h : V v) (hl : autoParam (env.kindOf x = some .local) byRfl) (hd : autoParam ((x == ("__debug__" : Str)) = false) byDecide) : Ev w mu env n A g m V (.Name x pos) :=
  fun s F Q E k => ldl F hv (k v s F h) hl hd
theorem eC {v : Value} {c : Addr} (hv : m x = some v) (h : V v) (hc : autoParam (env.cells.lookup x = some c) byRfl) (hl : autoParam (env.kindOf x = some .cell) byRfl) (hd : autoParam ((x == ("__debug__" : Str)) = false) byDecide) : Ev w mu env n A g m V (.Name x pos) :=
  fun s F Q E k => ldc F hv (k v s F h) hc hl hd
theorem eG {v : Value} (e : nsIn (KK w) mainGlobals x = some (some v)) (h : V v) (hx : autoParam (env.kindOf x = some .globalImplicit) byRfl) (hd : autoParam ((x == ("__debug__" : Str)) = false) byDecide) : Ev w mu env n A g m V (.Name x pos) :=
  fun s F Q E k => gl F e (k v s F h) hx hd
theorem eI {k : Nat} : Ev w mu env n A g m (IsI i) (.Constant (.int i) k pos) := fun s F Q E h => kInt F fun t s' F' => h _ s' F' ⟨t, rfl⟩
theorem eB {k : Nat} : Ev w mu env n A g m (IsB l) (.Constant (.bytes l) k pos) := fun s F Q E h => kBytes F fun t s' F' => h _ s' F' ⟨t, rfl⟩
theorem eT {k : Nat} : Ev w mu env n A g m (IsT b) (.Constant (.bool b) k pos) := fun s F Q E h => kBool (h _ s F rfl)
theorem eN {k : Nat} : Ev w mu env n A g m (IsV .none) (.Constant .none k pos) := fun s F Q E h => kNone (h _ s F rfl)
theorem Ev.mono {V' : Value → Prop} (h : Ev w mu env n A g m V e) (k : ∀ v, V v → V' v) : Ev w mu env n A g m V' e := fun s F Q E q => h s F Q E fun v s' F' hv => q v s' F' (k v hv)
theorem eOp {op : Operator} (h₁ : Ev w mu env n A g m Va e₁) (h₂ : Ev w mu env n A g m Vb e₂) (h : ∀ a b, Va a → Vb b → Do w mu env n A g m V (binaryOp op a b)) : Ev w mu env n A g m V (.BinOp e₁ op e₂ pos) :=
  fun s F Q E k => wpAny_BinOp (h₁ s F _ _ fun a s₁ F₁ ha => h₂ s₁ F₁ _ _ fun b s₂ F₂ hb => h a b ha hb s₂ F₂ _ _ k)
theorem eAddB (h₁ : Ev w mu env n A g m (IsB l) e₁) (h₂ : Ev w mu env n A g m (IsB p) e₂) (hz : l.length + p.length ≤ 16777216) : Ev w mu env n A g m (IsB (l ++ p)) (.BinOp e₁ .Add e₂ pos) :=
  eOp h₁ h₂ fun _ _ ⟨t, ha⟩ ⟨u, hb⟩ s F Q E k => ha ▸ hb ▸ addB hz fun t' s' e => k _ _ (F.go e) ⟨_, rfl⟩
theorem eAddI (h₁ : Ev w mu env n A g m (IsI i) e₁) (h₂ : Ev w mu env n A g m (IsI j) e₂) : Ev w mu env n A g m (IsI (i + j)) (.BinOp e₁ .Add e₂ pos) :=
  eOp h₁ h₂ fun _ _ ⟨t, ha⟩ ⟨u, hb⟩ s F Q E k => ha ▸ hb ▸ P.add_int (k _ _ (F.toks _) ⟨_, rfl⟩)
theorem eSubI (h₁ : Ev w mu env n A g m (IsI i) e₁) (h₂ : Ev w mu env n A g m (IsI j) e₂) : Ev w mu env n A g m (IsI (i - j)) (.BinOp e₁ .Sub e₂ pos) :=
  eOp h₁ h₂ fun _ _ ⟨t, ha⟩ ⟨u, hb⟩ s F Q E k => ha ▸ hb ▸ P.sub_int (k _ _ (F.toks _) ⟨_, rfl⟩)
theorem eMulI (h₁ : Ev w mu env n A g m (IsI i) e₁) (h₂ : Ev w mu env n A g m (IsI j) e₂) (hm : IntMulOk i j) : Ev w mu env n A g m (IsI (i * j)) (.BinOp e₁ .Mult e₂ pos) :=
  eOp h₁ h₂ fun _ _ ⟨t, ha⟩ ⟨u, hb⟩ s F Q E k => ha ▸ hb ▸ P.mul_int (k _ _ (F.toks _) ⟨_, rfl⟩) hm
theorem eNeg (h₁ : Ev w mu env n A g m (IsI i) e₁) : Ev w mu env n A g m (IsI (-i)) (.UnaryOp .USub e₁ pos) :=
  fun s F Q E k => wpAny_UnaryOp (h₁ s F _ _ fun a s₁ F₁ ⟨t, ha⟩ => ha ▸ P.neg_int (k _ _ (F₁.toks _) ⟨_, rfl⟩))
theorem truth_bool : Truth w mu env n A g m (IsT b) b := fun v hv s F Q E k => by subst hv; exact fun _ _ _ => k s F
theorem truth_none : Truth w mu env n A g m (IsV .none) false := fun v hv s F Q E k => by subst hv; exact truthy_none (k s F)
theorem truth_int : Truth w mu env n A g m (IsI i) (i != 0) := fun v ⟨t, hv⟩ s F Q E k => by subst hv; exact P.truthy_int (k s F)
theorem truth_bytes (hz : l.length ≤ 1099511627776) : Truth w mu env n A g m (IsB l) (!l.isEmpty) := fun v ⟨t, hv⟩ s F Q E k => by subst hv; exact truB hz fun s' e => k s' (F.go e)
abbrev Cmp (w : World) (mu : List Addr) (env : Env) (n : Nat) (A : Around) (g : Shared) (m : Str → Option Value) (op : CmpOp) (Va Vb : Value → Prop) (b : Bool) : Prop := ∀ u v, Va u → Vb v → Do w mu env n A g m (IsT b) (compareOp op u v)
theorem eCmp {op : CmpOp} (h₁ : Ev w mu env n A g m Va e₁) (h₂ : Ev w mu env n A g m Vb e₂) (h : Cmp w mu env n A g m op Va Vb b) (hm : autoParam (behindInMarks op e₂ = false) byUnf) : Ev w mu env n A g m (IsT b) (.Compare e₁ [op] [e₂] pos) :=
  fun s F Q E k => wpAny_Compare1 (h₁ s F _ _ fun a s₁ F₁ ha => h₂ s₁ F₁ _ _ fun b s₂ F₂ hb => h a b ha hb s₂ F₂ _ _ k) hm
theorem tCmp {op : CmpOp} (h₁ : Ev w mu env n A g m Va e₁) (h₂ : Ev w mu env n A g m Vb e₂) (h : Cmp w mu env n A g m op Va Vb b) (hm : autoParam (behindInMarks op e₂ = false) byUnf) : Tt w mu env n A g m b (.Compare e₁ [op] [e₂] pos) :=
  fun s F Q E k => wpAny_isTrue_Compare1 (h₁ s F _ _ fun a s₁ F₁ ha => h₂ s₁ F₁ _ _ fun b s₂ F₂ hb => h a b ha hb s₂ F₂ _ _ fun v s₃ F₃ hv => truth_bool v hv s₃ F₃ _ _ k) hm
theorem cEqB : Cmp w mu env n A g m .Eq (IsB l) (IsB p) (l == p) := fun _ _ ⟨t, ha⟩ ⟨u, hb⟩ s F Q E k => ha ▸ hb ▸ eqB (k _ _ F rfl)
theorem cNeB : Cmp w mu env n A g m .NotEq (IsB l) (IsB p) (l != p) := fun _ _ ⟨t, ha⟩ ⟨u, hb⟩ s F Q E k => ha ▸ hb ▸ neB (k _ _ F rfl)
theorem cEqI : Cmp w mu env n A g m .Eq (IsI i) (IsI j) (i == j) := fun _ _ ⟨t, ha⟩ ⟨u, hb⟩ s F Q E k => ha ▸ hb ▸ P.eq_int (k _ _ F rfl)
theorem cNeI : Cmp w mu env n A g m .NotEq (IsI i) (IsI j) (i != j) := fun _ _ ⟨t, ha⟩ ⟨u, hb⟩ s F Q E k => ha ▸ hb ▸ P.ne_int (k _ _ F rfl)
theorem cLtI : Cmp w mu env n A g m .Lt (IsI i) (IsI j) (decide (i < j)) := fun _ _ ⟨t, ha⟩ ⟨u, hb⟩ s F Q E k => ha ▸ hb ▸ P.lt_int (k _ _ F rfl)
theorem cGtI : Cmp w mu env n A g m .Gt (IsI i) (IsI j) (decide (i > j)) := fun _ _ ⟨t, ha⟩ ⟨u, hb⟩ s F Q E k => ha ▸ hb ▸ P.gt_int (k _ _ F rfl)
theorem cInB (hh : A.handled = none) : Cmp w mu env n A g m .In (IsB p) (IsB l) (hasB p l) := fun _ _ ⟨t, ha⟩ ⟨u, hb⟩ s F Q E k => ha ▸ hb ▸ in_bytes hh fun s' e => k _ _ (F.go e) rfl
theorem cNinB (hh : A.handled = none) : Cmp w mu env n A g m .NotIn (IsB p) (IsB l) (!hasB p l) := fun _ _ ⟨t, ha⟩ ⟨u, hb⟩ s F Q E k => ha ▸ hb ▸ nin_bytes hh fun s' e => k _ _ (F.go e) rfl
theorem cInO {x : UInt8} : Cmp w mu env n A g m .In (IsI (x.toNat : Int)) (IsB l) (l.contains x) := fun _ _ ⟨t, ha⟩ ⟨u, hb⟩ s F Q E k => ha ▸ hb ▸ in_octet (k _ _ F rfl)
theorem tPlain (h : Ev w mu env n A g m V e) (k : Truth w mu env n A g m V b) (he : autoParam (isTrue e env (eval e env) = (do let v ← eval e env; standAt e.pos; holding [v] (truthy v))) byRfl) : Tt w mu env n A g m b e :=
  fun s F Q E q => isTrue_plain (h s F _ _ fun v s' F' hv => k v hv s' F' _ _ q) he
theorem tNot (h : Tt w mu env n A g m b e) : Tt w mu env n A g m (!b) (.UnaryOp .Not e pos) := fun s F Q E q => isTrue_not (h s F _ _ q)
theorem tAnd2 (h₁ : Tt w mu env n A g m b e₁) (h₂ : b = true → Tt w mu env n A g m c e₂) : Tt w mu env n A g m (b && c) (.BoolOp .And [e₁, e₂] pos) :=
  fun s F Q E q => isTrue_and (h₁ s F _ _ fun s' F' => by
    cases b
    · exact q s' F'
    · exact isTrue_and (h₂ rfl s' F' _ _ fun s₂ F₂ => by
        cases c
        · exact q s₂ F₂
        · exact isTrue_and_nil (q s₂ F₂)))
theorem tOr2 (h₁ : Tt w mu env n A g m b e₁) (h₂ : b = false → Tt w mu env n A g m c e₂) : Tt w mu env n A g m (b || c) (.BoolOp .Or [e₁, e₂] pos) :=
  fun s F Q E q => isTrue_or (h₁ s F _ _ fun s' F' => by
    cases b
    · exact isTrue_or (h₂ rfl s' F' _ _ fun s₂ F₂ => by
        cases c
        · exact isTrue_or_nil (q s₂ F₂)
        · exact q s₂ F₂)
    · exact q s' F')
theorem tAnd3 (h₁ : Tt w mu env n A g m b e₁) (h₂ : b = true → Tt w mu env n A g m c e₂) (h₃ : b = true → c = true → Tt w mu env n A g m d e₃) : Tt w mu env n A g m (b && c && d) (.BoolOp .And [e₁, e₂, e₃] pos) :=
  fun s F Q E q => isTrue_and (h₁ s F _ _ fun s' F' => by
    cases b
    · exact q s' F'
    · exact isTrue_and (h₂ rfl s' F' _ _ fun s₂ F₂ => by
        cases c
        · exact q s₂ F₂
        · exact isTrue_and (h₃ rfl rfl s₂ F₂ _ _ fun s₃ F₃ => by
            cases d
            · exact q s₃ F₃
            · exact isTrue_and_nil (q s₃ F₃))))
theorem tOr3 (h₁ : Tt w mu env n A g m b e₁) (h₂ : b = false → Tt w mu env n A g m c e₂) (h₃ : b = false → c = false → Tt w mu env n A g m d e₃) : Tt w mu env n A g m (b || c || d) (.BoolOp .Or [e₁, e₂, e₃] pos) :=
  fun s F Q E q => isTrue_or (h₁ s F _ _ fun s' F' => by
    cases b
    · exact isTrue_or (h₂ rfl s' F' _ _ fun s₂ F₂ => by
        cases c
        · exact isTrue_or (h₃ rfl rfl s₂ F₂ _ _ fun s₃ F₃ => by
            cases d
            · exact isTrue_or_nil (q s₃ F₃)
            · exact q s₃ F₃)
        · exact q s₂ F₂)
    · exact q s' F')
theorem eAnd2 (h₁ : Ev w mu env n A g m (IsT b) e₁) (h₂ : b = true → Ev w mu env n A g m (IsT c) e₂) : Ev w mu env n A g m (IsT (b && c)) (.BoolOp .And [e₁, e₂] pos) :=
  fun s F Q E q => BoolOp_and (h₁ s F _ _ fun v s' F' hv => truth_bool v hv s' F' _ _ fun s₁ F₁ => by
    cases b
    · exact q v s₁ F₁ hv
    · exact BoolOp_one (h₂ rfl s₁ F₁ _ _ q))
theorem eOr2 (h₁ : Ev w mu env n A g m (IsT b) e₁) (h₂ : b = false → Ev w mu env n A g m (IsT c) e₂) : Ev w mu env n A g m (IsT (b || c)) (.BoolOp .Or [e₁, e₂] pos) :=
  fun s F Q E q => BoolOp_or (h₁ s F _ _ fun v s' F' hv => truth_bool v hv s' F' _ _ fun s₁ F₁ => by
    cases b
    · exact BoolOp_one (h₂ rfl s₁ F₁ _ _ q)
    · exact q v s₁ F₁ hv)
theorem eIfE {orelse : Expr} (h : Tt w mu env n A g m b e) (h₁ : b = true → Ev w mu env n A g m V e₁) (h₂ : b = false → Ev w mu env n A g m V orelse) : Ev w mu env n A g m V (.IfExp e e₁ orelse pos) :=
  fun s F Q E q => IfExp_ (h s F _ _ fun s' F' => by
    cases b
    · exact h₂ rfl s' F' _ _ q
    · exact h₁ rfl s' F' _ _ q)
theorem eCall1 {f : Addr} (d : IsDef w x f) (ha : Ev w mu env n A g m Va e) (h : ∀ v, Va v → Do w mu env n A g m V (call (.ref f) [v])) (hs : autoParam (starEach [e] env = [(false, eval e env)]) byRfl) (hx : autoParam (env.kindOf x = some .globalImplicit) byRfl) (hd : autoParam ((x == ("__debug__" : Str)) = false) byDecide) :
    Ev w mu env n A g m V (.Call (.Name x px) [e] [] pos) := fun s F Q E k => evc1 F d (ha s F _ _ fun v s₁ F₁ hv => ⟨F₁.ww, h v hv s₁ F₁ _ _ k⟩) hs hx hd
theorem eCall2 {f : Addr} (d : IsDef w x f) (ha : Ev w mu env n A g m Va e₁) (hb : Ev w mu env n A g m Vb e₂) (h : ∀ u v, Va u → Vb v → Do w mu env n A g m V (call (.ref f) [u, v])) (hs : autoParam (starEach [e₁, e₂] env = (false, eval e₁ env) :: starEach [e₂] env) byRfl) (hs' : autoParam (starEach [e₂] env = [(false, eval e₂ env)]) byRfl) (hx : autoParam (env.kindOf x = some .globalImplicit) byRfl) (hd : autoParam ((x == ("__debug__" : Str)) = false) byDecide) :
    Ev w mu env n A g m V (.Call (.Name x px) [e₁, e₂] [] pos) := fun s F Q E k => evc2 F d (ha s F _ _ fun u s₁ F₁ hu => hb s₁ F₁ _ _ fun v s₂ F₂ hv => ⟨F₂.ww, h u v hu hv s₂ F₂ _ _ k⟩) hs hs' hx hd
theorem eBu1 {id : String} (e' : nsIn (KK w) mainGlobals x = some none) (hv : bootBuiltins x = some (.builtin id)) (ha : Ev w mu env n A g m Va e) (h : ∀ v, Va v → Do w mu env n A g m V (call (.builtin id) [v])) (hs : autoParam (starEach [e] env = [(false, eval e env)]) byRfl) (hx : autoParam (env.kindOf x = some .globalImplicit) byRfl) (hn : autoParam (x ≠ "__name__") byDecide) (hd : autoParam ((x == ("__debug__" : Str)) = false) byDecide) :
    Ev w mu env n A g m V (.Call (.Name x px) [e] [] pos) := fun s F Q E k => wpAny_Call_Name_kw (bu F e' hv (by
      rw [hs]
      exact Calls.callWith_builtin rfl (Calls.evalArgs_plain (Calls.spliced_cons (ha s F _ _ fun v s₁ F₁ hv => Calls.spliced_nil (h v hv s₁ F₁ _ _ k))))) hx hn hd)
theorem eLen {e' : nsIn (KK w) mainGlobals "len" = some none} (ha : Ev w mu env n A g m (IsB l) e) (hz : l.length ≤ 1099511627776) (hs : autoParam (starEach [e] env = [(false, eval e env)]) byRfl) (hx : autoParam (env.kindOf "len" = some .globalImplicit) byRfl) : Ev w mu env n A g m (IsI (l.length : Int)) (.Call (.Name "len" px) [e] [] pos) :=
  eBu1 e' PySem.boot_len ha (fun v ⟨t, hv⟩ s F Q E k => hv ▸ lenB hz fun t' s' e => k _ _ (F.go e) ⟨_, rfl⟩) hs hx
theorem eM1 {name : Str} {id : String} {apos : Pos} (M : Meth "bytes" name id) (ho : Ev w mu env n A g m (IsB l) e₁) (ha : Ev w mu env n A g m Va e₂) (h : ∀ t v, Va v → Do w mu env n A g m V (call (.builtin id) [.bytes l.toArray t, v]))
    (hbase : autoParam (attributeBase e₁ name env (eval e₁ env) = eval e₁ env) byRfl) (hs : autoParam (starEach [e₂] env = [(false, eval e₂ env)]) byRfl) (hline : autoParam ((apos.endLine == pos.line) = true) byRfl) :
    Ev w mu env n A g m V (.Call (.Attribute e₁ name apos) [e₂] [] pos) := fun s F Q E k => evm1 M (ho s F _ _ fun ov s₁ F₁ ⟨t, hv⟩ => by subst hv; exact ⟨isB, ha s₁ F₁ _ _ fun v s₂ F₂ hv => h t v hv s₂ F₂ _ _ k⟩) hbase hs hline
theorem dStarts (t : Tok) (v : Value) (hv : IsB p v) : Do w mu env n A g m (IsT (p.isPrefixOf l)) (call (.builtin "bytes.startswith") [.bytes l.toArray t, v]) := fun s F Q E k => by obtain ⟨u, rfl⟩ := hv; exact b_startswith (k _ _ F rfl)
theorem dEnds (t : Tok) (v : Value) (hv : IsB p v) : Do w mu env n A g m (IsT (p.isSuffixOf l)) (call (.builtin "bytes.endswith") [.bytes l.toArray t, v]) := fun s F Q E k => by obtain ⟨u, rfl⟩ := hv; exact b_endswith (k _ _ F rfl)
theorem dRstrip (hz : l.length ≤ sizeLine) (t : Tok) (v : Value) (hv : IsB p v) : Do w mu env n A g m (IsB (rstripB p l)) (call (.builtin "bytes.rstrip") [.bytes l.toArray t, v]) := fun s F Q E k => by obtain ⟨u, rfl⟩ := hv; exact b_rstrip hz fun t' s' e => k _ _ (F.go e) ⟨_, rfl⟩
theorem dStrip (hz : l.length ≤ sizeLine) (t : Tok) (v : Value) (hv : IsB p v) : Do w mu env n A g m (IsB (stripB p l)) (call (.builtin "bytes.strip") [.bytes l.toArray t, v]) := fun s F Q E k => by obtain ⟨u, rfl⟩ := hv; exact b_strip hz fun t' s' e => k _ _ (F.go e) ⟨_, rfl⟩
theorem eItem {k : Int} {y : UInt8} (ho : Ev w mu env n A g m (IsB l) e₁) (hi : Ev w mu env n A g m (IsI k) e₂) (hz : l.length ≤ 1099511627776) (h0 : 0 ≤ k) (hy : l[k.toNat]? = some y) (hs : autoParam (∀ o i, ∃ ops, subscripted e₂ false o i = operate ops (getItem o i)) byEx) :
    Ev w mu env n A g m (IsI (y.toNat : Int)) (.Subscript e₁ e₂ pos) :=
  fun s F Q E q => evSub gi_bytes (ho s F _ _ fun o s₁ F₁ ⟨t, hv⟩ => hi s₁ F₁ _ _ fun i s₂ F₂ ⟨u, hu⟩ => by subst hv hu; exact ⟨rfl, itemB hz h0 hy fun t' s' e => q _ _ (F₂.go e) ⟨_, rfl⟩⟩) hs
noncomputable def EvP (w : World) (mu : List Addr) (env : Env) (n : Nat) (A : Around) (g : Shared) (m : Str → Option Value) (o : Option Int) (e : Option Expr) : Prop :=
  ∀ s, Fm w mu env n A g m s → ∀ (Q : Value → Shared → Prop) (E : Value → Shared → Prop), (∀ v s', Fm w mu env n A g m s' → IsPart v o → Q v s') → wpAny (model prg w) A (evalPart e env) Q E s
theorem pNone : EvP w mu env n A g m none none := fun s F Q E k => by rw [evalPart_none]; exact wpAny_pure (k _ _ F .none)
theorem pSome (h : Ev w mu env n A g m (IsI i) e) : EvP w mu env n A g m (some i) (some e) := fun s F Q E k => by rw [evalPart_some]; exact h s F _ _ fun v s' F' ⟨t, hv⟩ => k v s' F' (hv ▸ .int _ _)
theorem eSl {lower upper : Option Expr} {lo hi : Option Int} {pp : Pos} (ho : Ev w mu env n A g m (IsB l) e₁) (h₁ : EvP w mu env n A g m lo lower) (h₂ : EvP w mu env n A g m hi upper) (hz : l.length ≤ 16777216) : Ev w mu env n A g m (IsB (cutL l lo hi)) (.Subscript e₁ (.Slice lower upper none pp) pos) :=
  fun s F Q E q => evSliceB (ho s F _ _ fun o s₁ F₁ ⟨t, hv⟩ => h₁ s₁ F₁ _ _ fun a s₂ F₂ ha => h₂ s₂ F₂ _ _ fun b s₃ F₃ hb => ⟨l, t, lo, hi, hv, ha, hb, hz, fun t' s' e => q _ _ (F₃.go e) ⟨_, rfl⟩⟩)
variable {rest body orelse : List Stmt} {Q : Flow → Shared → Prop} {E : Value → Shared → Prop} {s : Shared}
theorem xAsg (F : Fm w mu env n A g m s) (h : Ev w mu env n A g m V e) (k : ∀ v s', V v → Fm w mu env n A g (upd m x v) s' → wpAny (model prg w) A (execs rest env) Q E s') (hs : autoParam (swapsWith e (some (.Name x px)) pos.line env = pure false) byRfl) (hl : autoParam (env.kindOf x = some .local) byRfl) :
    wpAny (model prg w) A (execs (.Assign [.Name x px] e pos :: rest) env) Q E s := sAsg (h s F _ _ fun v s₁ F₁ hv => st F₁ (fun s₂ F₂ => k v s₂ hv F₂) hl) hs
theorem xIf1 (F : Fm w mu env n A g m s) (h : Tt w mu env n A g m b e) (h₁ : b = true → ∀ s', Fm w mu env n A g m s' → wpAny (model prg w) A (execs body env) (andThen w A env E rest Q) E s') (h₂ : b = false → ∀ s', Fm w mu env n A g m s' → wpAny (model prg w) A (execs rest env) Q E s') :
    wpAny (model prg w) A (execs (.If e body [] pos :: rest) env) Q E s := sIf1 (h s F _ _ fun s' F' => by
      cases b
      · rw [if_neg (by decide)]; exact h₂ rfl s' F'
      · rw [if_pos rfl]; exact h₁ rfl s' F')
theorem xIf (F : Fm w mu env n A g m s) (h : Tt w mu env n A g m b e) (h₁ : b = true → ∀ s', Fm w mu env n A g m s' → wpAny (model prg w) A (execs body env) (andThen w A env E rest Q) E s') (h₂ : b = false → ∀ s', Fm w mu env n A g m s' → wpAny (model prg w) A (execs orelse env) (andThen w A env E rest Q) E s') :
    wpAny (model prg w) A (execs (.If e body orelse pos :: rest) env) Q E s := sIf (h s F _ _ fun s' F' => by
      cases b
      · rw [if_neg (by decide)]; exact h₂ rfl s' F'
      · rw [if_pos rfl]; exact h₁ rfl s' F')
theorem xRet (F : Fm w mu env n A g m s) (h : Ev w mu env n A g m V e) (k : ∀ v s', V v → Fm w mu env n A g m s' → Q (.ret v) s') : wpAny (model prg w) A (execs (.Return (some e) pos :: rest) env) Q E s := sRet (h s F _ _ fun v s' F' hv => k v s' hv F')
end
end Mine
end
section
open PySem PySem.W PyProof.Rows PySem.Calls
namespace Mine
inductive IntsAre' : List Value → List Int → Prop
  | nil : IntsAre' [] []
  | cons {i : Int} {t : Tok} {vs : List Value} {is : List Int} : IntsAre' vs is → IntsAre' (.int i t :: vs) (i :: is)
theorem IntsAre'.length : ∀ {vs : List Value} {ls : List Int}, IntsAre' vs ls → vs.length = ls.length
  | _, _, .nil => rfl
  | _, _, .cons h => by simp [h.length]
theorem IntsAre'.get : ∀ {vs : List Value} {ls : List Int}, IntsAre' vs ls → ∀ {i : Nat} {v : Value}, vs[i]? = some v → ∃ l t, ls[i]? = some l ∧ v = .int l t
  | _, _, .nil, _, _, h => by simp at h
  | _, _, .cons k, 0, v, h => by simp at h; subst h; exact ⟨_, _, rfl, rfl⟩
  | _, _, .cons k, i + 1, v, h => by simpa using k.get (by simpa using h)
theorem IntsAre'.app {vs us : List Value} {ls ms : List Int} (h : IntsAre' vs ls) (k : IntsAre' us ms) : IntsAre' (vs ++ us) (ls ++ ms) := by
  induction h with
  | nil => exact k
  | cons _ ih => exact .cons ih
inductive BoolsAre : List Value → List Bool → Prop
  | nil : BoolsAre [] []
  | cons {b : Bool} {vs : List Value} {bs : List Bool} : BoolsAre vs bs → BoolsAre (.bool b :: vs) (b :: bs)
theorem BoolsAre.length : ∀ {vs : List Value} {ls : List Bool}, BoolsAre vs ls → vs.length = ls.length
  | _, _, .nil => rfl
  | _, _, .cons h => by simp [h.length]
theorem BoolsAre.app {vs us : List Value} {ls ms : List Bool} (h : BoolsAre vs ls) (k : BoolsAre us ms) : BoolsAre (vs ++ us) (ls ++ ms) := by
  induction h with
  | nil => exact k
  | cons _ ih => exact .cons ih
section
variable {w : World} {mu : List Addr} {env : Env} {n : Nat} {A : Around} {g s s' : Shared} {m : Str → Option Value} {E : Value → Shared → Prop} {Q : Value → Shared → Prop}
theorem addLists {l b : Addr} {vs us : List Value} (hl : s.heap.IsList l vs.toArray) (hb : s.heap.IsList b us.toArray) (hsz : vs.length + us.length ≤ 16777216)
    (h : ∀ a s', Eff w [] [] s s' → s'.heap.IsList a (vs ++ us).toArray → Fresh w s a → Q (.ref a) s') : wpAny (model prg w) A (binaryOp .Add (.ref l) (.ref b)) Q E s := by
  obtain ⟨⟨cls, dd, data, sl⟩, ho, hc, n, hd⟩ := id hl
  obtain ⟨⟨cls2, dd2, data2, sl2⟩, ho2, hc2, n2, hd2⟩ := id hb
  simp only at hc hd hc2 hd2
  subst hc hd hc2 hd2
  have e : vs.toArray ++ us.toArray = (vs ++ us).toArray := by simp
  refine concat_meets ⟨_, ho, rfl⟩ ⟨_, ho2, rfl⟩ noFill_list_add seq_list_add PySem.F.slot_list_add PySem.F.entry_list_add (PySem.F.args_list_add_2 _ _) (list_addW l b vs.toArray us.toArray n n2 dd dd2 sl sl2 (by rw [sizeLine_eq]; simpa using hsz)) ⟨ho, ho2, ?_⟩
  rw [e]
  exact h _ _ (.push _) ⟨_, Heap.get?_push_size _ rfl, rfl, _, rfl⟩ (Fresh.size w s)
theorem lenList {l : Addr} {vs : List Value} (hl : s.heap.IsList l vs.toArray) (hz : vs.length ≤ 16777216) (h : ∀ t s', Eff w [] [] s s' → Q (.int vs.length t) s') : wpAny (model prg w) A (call (.builtin "len") [.ref l]) Q E s :=
  call_len_list hl (by simp; omega) (by simpa using h _ _ (.toks _))
noncomputable def EvAll (w : World) (mu : List Addr) (env : Env) (n : Nat) (A : Around) (g : Shared) (m : Str → Option Value) (R : List Value → Prop) (es : List Expr) : Prop :=
  ∀ (pos : Pos) s, Fm w mu env n A g m s → ∀ (Q : List Value → Shared → Prop) (E : Value → Shared → Prop), (∀ vs s', Fm w mu env n A g m s' → R vs → Q vs s') → wpAny (model prg w) A (spliced (backTo pos (starEach es env))) Q E s
theorem eaNil : EvAll w mu env n A g m (fun vs => vs = []) [] := fun pos s F Q E k => Calls.spliced_nil (k _ s F rfl)
theorem eaCons {V : Value → Prop} {R : List Value → Prop} {e : Expr} {es : List Expr} (h : Ev w mu env n A g m V e) (h' : EvAll w mu env n A g m R es) (hs : autoParam (starEach (e :: es) env = (false, eval e env) :: starEach es env) byRfl) : EvAll w mu env n A g m (fun vs => ∃ v us, vs = v :: us ∧ V v ∧ R us) (e :: es) := fun pos s F Q E k => by
  rw [hs]
  exact Calls.spliced_cons (h s F _ _ fun v s₁ F₁ hv => wpAny_mono (h' pos s₁ F₁ _ _ fun us s₂ F₂ hu => k _ s₂ F₂ ⟨v, us, rfl, hv, hu⟩) (fun _ _ x => x) fun _ _ x => x)
theorem eaB {l : By} {ls : List By} {e : Expr} {es : List Expr} (h : Ev w mu env n A g m (IsB l) e) (h' : EvAll w mu env n A g m (fun vs => BytesAre vs ls) es) (hs : autoParam (starEach (e :: es) env = (false, eval e env) :: starEach es env) byRfl) : EvAll w mu env n A g m (fun vs => BytesAre vs (l :: ls)) (e :: es) := fun pos s F Q E k =>
  eaCons h h' hs pos s F Q E fun vs s' F' ⟨v, us, e1, ⟨t, e2⟩, hb⟩ => k vs s' F' (by subst e1 e2; exact .cons hb)
theorem eaB0 : EvAll w mu env n A g m (fun vs => BytesAre vs []) [] := fun pos s F Q E k => Calls.spliced_nil (k _ s F .nil)
theorem eaI {l : Int} {ls : List Int} {e : Expr} {es : List Expr} (h : Ev w mu env n A g m (IsI l) e) (h' : EvAll w mu env n A g m (fun vs => IntsAre' vs ls) es) (hs : autoParam (starEach (e :: es) env = (false, eval e env) :: starEach es env) byRfl) : EvAll w mu env n A g m (fun vs => IntsAre' vs (l :: ls)) (e :: es) := fun pos s F Q E k =>
  eaCons h h' hs pos s F Q E fun vs s' F' ⟨v, us, e1, ⟨t, e2⟩, hb⟩ => k vs s' F' (by subst e1 e2; exact .cons hb)
theorem eaI0 : EvAll w mu env n A g m (fun vs => IntsAre' vs []) [] := fun pos s F Q E k => Calls.spliced_nil (k _ s F .nil)
theorem disp {R : List Value → Prop} {es : List Expr} {pos : Pos} (F : Fm w mu env n A g m s) (h : EvAll w mu env n A g m R es) (hz : ∀ vs, R vs → vs.length ≤ 16777216)
    (k : ∀ a vs s' s'', Fm w mu env n A g m s' → Eff w [] [] s' s'' → s''.heap.PlainList a vs.toArray → Fresh w s' a → R vs → Q (.ref a) s'') : wpAny (model prg w) A (eval (.List es pos) env) Q E s :=
  wpAny_List (h pos s F _ _ fun vs s' F' hr => ⟨by rw [sizeLine_eq]; exact hz vs hr, k _ vs s' _ F' (.push _) ⟨_, Heap.get?_push_size _ rfl⟩ (Fresh.size w s') hr⟩)
theorem dispT {R : List Value → Prop} {es : List Expr} {pos : Pos} {x1} (F : Fm w mu env n A g m s) (h : EvAll w mu env n A g m R es) (hz : ∀ vs, R vs → vs.length ≤ 16777216)
    (k : ∀ a vs s' s'', Fm w mu env n A g m s' → Eff w [] [] s' s'' → s''.heap.IsTuple a vs.toArray → Fresh w s' a → R vs → Q (.ref a) s'') : wpAny (model prg w) A (eval (.Tuple es x1 pos) env) Q E s :=
  wpAny_Tuple (h pos s F _ _ fun vs s' F' hr => ⟨by rw [sizeLine_eq]; exact hz vs hr, k _ vs s' _ F' (.push _) ⟨_, Heap.get?_push_size _ rfl, rfl, _, rfl⟩ (Fresh.size w s') hr⟩)
noncomputable def cellNames (env : Env) : List Str := env.cells.map (·.1)
noncomputable def compChk (scope : Scope) (cl : List Str) (env : Env) : Bool :=
  scope.names.all (fun y => y.2 != .cell) && scope.kind == .function && scope.names.all (fun y => y.2 != .local || scope.names.lookup y.1 == some .local) && cl.all (fun x => (relabel scope env).names.lookup x != some .local) && decide cl.Nodup && decide (cellNames env).Nodup
theorem lookup_of_nodup {cs : List (Str × Addr)} (h : (cs.map (·.1)).Nodup) : ∀ p ∈ cs, cs.lookup p.1 = some p.2 := by
  induction cs with
  | nil => intro p hp; cases hp
  | cons q r ih =>
    intro p hp
    rw [List.map_cons] at h
    have ⟨h1, h2⟩ := List.nodup_cons.mp h
    clear h
    rcases List.mem_cons.mp hp with hp' | hp'
    · subst hp'; obtain ⟨x, c⟩ := p; simp [List.lookup_cons]
    · obtain ⟨x, c⟩ := q
      have hne : (p.1 == x) = false := by
        rw [beq_eq_false_iff_ne]
        rintro rfl
        exact h1 (List.mem_map.mpr ⟨p, hp', rfl⟩)
      rw [List.lookup_cons, hne]
      exact ih h2 p hp'
theorem CompOk.of {scope : Scope} {cl : List (Str × Addr)} (F : Fm w mu env n A g m s) (clos : closureFor scope env = pure cl) (chk : compChk scope (cl.map (·.1)) env = true) (out : ∀ p ∈ cl, env.cells.lookup p.1 = some p.2) : CompOk scope cl env := by
  simp only [compChk, Bool.and_eq_true, List.all_eq_true, decide_eq_true_eq] at chk
  obtain ⟨⟨⟨⟨⟨h1, h2⟩, h4⟩, h5⟩, h6⟩, h7⟩ := chk
  refine ⟨clos, fun y hy => by simpa using h1 y hy, by simpa using h2, trivial, fun y hy he => ?_, out, lookup_of_nodup h6, fun p hp => ?_, lookup_of_nodup h7, ?_⟩
  · have := h4 y hy
    rw [he] at this
    simpa using this
  · have := h5 p.1 (List.mem_map.mpr ⟨p, hp, rfl⟩)
    simpa using this
  · have key : ∀ p ∈ cl, ∀ q ∈ cl, p.2 = q.2 → p.1 = q.1 := fun p hp q hq e => name_of_addr F.here.apart (mem_of_lookup (out p hp)) (e ▸ mem_of_lookup (out q hq))
    clear h5 clos
    induction cl with
    | nil => exact .nil
    | cons p r ih =>
      rw [List.map_cons] at h6
      obtain ⟨h1, h2⟩ := List.nodup_cons.mp h6
      refine .cons (fun q hq e => h1 (List.mem_map.mpr ⟨q, hq, (key p (.head _) q (.tail _ hq) e).symm⟩)) (ih (fun q hq => out q (.tail _ hq)) h2 fun p hp q hq => key p (.tail _ hp) q (.tail _ hq))
theorem asg2 {x y : Str} {px py p : Pos} {k : Nat} {T : Addr} {a b : Value} {R : Unit → Shared → Prop} (F : Fm w mu env n A g m s) (hT : s.heap.IsTuple T #[a, b]) (h : ∀ s', Fm w mu env n A g (upd (upd m x a) y b) s' → R () s')
    (hx : autoParam (env.kindOf x = some .local) byRfl) (hy : autoParam (env.kindOf y = some .local) byRfl) : wpAny (model prg w) A (assign (tgt2 x y px py k p) env (.ref T)) R E s := by
  refine wpAny_assign_Tuple F.hh hT rfl rfl fun h' hk => ?_
  have F' : Fm w mu env n A g m { s with heap := h' } := F.go (fr := []) (.keeps (fun b o e => hk b o (fun q => Nat.lt_irrefl _ (q ▸ Heap.lt_size e)) e) rfl rfl)
  show wpAny _ A (do holding [b] (assign (.Name x px) env a); assignInOrder [assign (.Name y py) env] [b]) R E _
  refine wpAny_bind (wpAny_holding (asgName (st F' (fun s₁ F₁ => ?_) hx)))
  show wpAny _ A (do holding [] (assign (.Name y py) env b); assignInOrder [] []) R E _
  refine wpAny_bind (wpAny_holding (asgName (st F₁ (fun s₂ F₂ => ?_) hy)))
  exact wpAny_pure (h s₂ F₂)
end
end Mine
end
section
open PySem PySem.W PyProof.Rows PySem.Calls
namespace Mine
section
variable {α : Type}
theorem clip_nat (n k : Nat) : clipAt n (k : Int) = min k n := by
  unfold clipAt; rw [if_neg (Int.not_lt.mpr (Int.natCast_nonneg k))]
  rcases Nat.le_total k n with h | h
  · rw [Int.min_eq_left (Int.ofNat_le.mpr h), Nat.min_eq_left h, Int.max_eq_right (Int.natCast_nonneg _)]; rfl
  · rw [Int.min_eq_right (Int.ofNat_le.mpr h), Nat.min_eq_right h, Int.max_eq_right (Int.natCast_nonneg _)]; rfl
theorem m1 {k : Nat} (h : 0 < k) : -1 + (k : Int) = ((k - 1 : Nat) : Int) := by
  cases k with
  | zero => cases h
  | succ n => show -1 + ((n + 1 : Nat) : Int) = (n : Int); omega
theorem clip_m1 (n : Nat) : clipAt n (-1) = n - 1 := by
  unfold clipAt; rw [if_pos (by decide)]
  cases n with
  | zero => rfl
  | succ n =>
    rw [m1 (Nat.succ_pos n), Nat.succ_sub_one, Int.min_eq_left (Int.ofNat_le.mpr (Nat.le_succ n)), Int.max_eq_right (Int.natCast_nonneg n)]
    rfl
theorem cut_nn (l : List α) (a b : Nat) : cutL l (some (a : Int)) (some (b : Int)) = (l.drop a).take (b - a) := by
  simp only [cutL, Option.elim, clip_nat]
  rcases Nat.le_total a l.length with h | h
  · rw [Nat.min_eq_left h]
    rcases Nat.le_total b l.length with h2 | h2
    · rw [Nat.min_eq_left h2]
    · rw [Nat.min_eq_right h2, List.take_of_length_le (by rw [List.length_drop]; exact Nat.le_refl _), List.take_of_length_le (by rw [List.length_drop]; exact Nat.sub_le_sub_right h2 a)]
  · rw [Nat.min_eq_right h, List.drop_of_length_le (Nat.le_refl _), List.drop_of_length_le h, List.take_nil, List.take_nil]
theorem cut_from (l : List α) (a : Nat) : cutL l (some (a : Int)) none = l.drop a := by
  simp only [cutL, Option.elim, clip_nat]
  by_cases h : a ≤ l.length
  · rw [Nat.min_eq_left h, List.take_of_length_le (by simp)]
  · rw [Nat.min_eq_right (Nat.le_of_lt (Nat.not_le.mp h)), List.drop_of_length_le (Nat.le_refl _), List.drop_of_length_le (Nat.le_of_lt (Nat.not_le.mp h))]; simp
theorem cut_to (l : List α) (b : Nat) : cutL l none (some (b : Int)) = l.take b := by
  simp only [cutL, Option.elim, clip_nat, List.drop_zero, Nat.sub_zero]
  by_cases h : b ≤ l.length
  · rw [Nat.min_eq_left h]
  · rw [Nat.min_eq_right (Nat.le_of_lt (Nat.not_le.mp h)), List.take_of_length_le (Nat.le_refl _), List.take_of_length_le (Nat.le_of_lt (Nat.not_le.mp h))]
theorem cut_last (l : List α) : cutL l (some (-1)) none = l.drop (l.length - 1) := by
  simp only [cutL, Option.elim, clip_m1]
  rw [List.take_of_length_le (by simp)]
theorem cut_init (l : List α) : cutL l none (some (-1)) = l.dropLast := by
  simp only [cutL, Option.elim, clip_m1, List.drop_zero, Nat.sub_zero]
  rw [List.dropLast_eq_take]
theorem cut_len (l : List α) (a b : Option Int) : (cutL l a b).length ≤ l.length := by
  unfold cutL; exact Nat.le_trans (List.length_take_le' _ _) (by rw [List.length_drop]; exact Nat.sub_le _ _)
noncomputable def posns (c : UInt8) (l : By) (i : Nat) : List Nat := (List.range i).filter fun i => l[i]? == some c
theorem posns_len (c : UInt8) (l : By) (i : Nat) : (posns c l i).length ≤ i := by
  unfold posns; exact Nat.le_trans (List.length_filter_le _ _) (by simp)
theorem posns_succ {c : UInt8} {l : By} {i : Nat} (hi : i < l.length) : posns c l (i + 1) = posns c l i ++ (if l[i] = c then [i] else []) := by
  unfold posns
  rw [List.range_succ, List.filter_append]
  by_cases q : l[i] = c <;> simp [hi, q]
noncomputable def toI (l : List Nat) : List Int := l.map fun (i : Nat) => (i : Int)
noncomputable def gaps (l : By) (is : List Int) : List By := (is.zip (is.drop 1)).map fun p => cutL l (some (p.1 + 1)) (some p.2)
theorem gaps_eq (l : By) : ∀ (ps : List Nat) (k : Nat), (∀ p ∈ ps, k ≤ p ∧ p < l.length) → ps.Pairwise (· < ·) → k ≤ l.length → gaps l (((k : Int) - 1) :: (toI ps ++ [(l.length : Int)])) = pieces l k ps
  | [], k, h, _, hk => by
    have e : (k : Int) - 1 + 1 = (k : Nat) := by omega
    simp only [gaps, toI, pieces, List.map_nil, List.nil_append, List.drop_succ_cons, List.drop_zero, List.zip_cons_cons, List.zip_nil_right, List.map_cons, e, cut_nn]
    rw [List.take_of_length_le (by simp)]
  | p :: ps, k, h, hp, hk => by
    have h1 := h p (.head _)
    obtain ⟨a, b⟩ := List.pairwise_cons.mp hp
    have ih := gaps_eq l ps (p + 1) (fun q hq => ⟨a q hq, (h q (.tail _ hq)).2⟩) b (by omega)
    have e : (((p + 1 : Nat) : Int) - 1) = (p : Int) := by omega
    have e' : (k : Int) - 1 + 1 = (k : Nat) := by omega
    rw [e] at ih
    simp only [pieces, ← ih]
    simp only [gaps, toI, List.map_cons, List.cons_append, List.drop_succ_cons, List.drop_zero, List.zip_cons_cons, e', cut_nn]
theorem gaps_split (c : UInt8) (l : By) : gaps l ([-1] ++ toI (posns c l l.length) ++ [(l.length : Int)]) = splitB c l := by
  rw [← pieces_split]
  have := gaps_eq l (posns c l l.length) 0 (fun p hp => ⟨Nat.zero_le _, by unfold posns at hp; simpa using (List.mem_filter.mp hp).1⟩) (by unfold posns; exact List.Pairwise.filter _ List.pairwise_lt_range) (Nat.zero_le _)
  simpa [posns] using this
theorem gaps_get {l : By} {is : List Int} {i : Nat} {a b : Int} (ha : is[i]? = some a) (hb : is[1 + i]? = some b) : (gaps l is)[i]? = some (cutL l (some (a + 1)) (some b)) := by
  have : (is.drop 1)[i]? = some b := by rw [List.getElem?_drop]; exact hb
  unfold gaps
  rw [List.getElem?_map, List.getElem?_zip_eq_some (z := (a, b)) |>.mpr ⟨ha, this⟩]
  rfl
theorem gaps_len (l : By) (is : List Int) : (gaps l is).length = is.length - 1 := by simp [gaps]
theorem take_succ' {l : List α} {i : Nat} {x : α} (h : l[i]? = some x) : l.take (i + 1) = l.take i ++ [x] := by rw [List.take_add_one, h]; rfl
theorem all1 {α : Type} {P : α → Prop} {a : α} (h : P a) : ∀ x ∈ [a], P x := fun x hx => List.mem_singleton.mp hx ▸ h
theorem all2 {α : Type} {P : α → Prop} {a b : α} (h : P a) (k : P b) : ∀ x ∈ [a, b], P x := fun x hx => by
  rcases List.mem_cons.mp hx with rfl | hx
  · exact h
  · exact List.mem_singleton.mp hx ▸ k
end
end Mine
end
section
open PySem PySem.W PyProof.Rows PySem.Calls PySem.Builtin
namespace Mine
theorem gives_ordB (c : UInt8) (t : Tok) : Gives (Builtin.«ord» ⟨[.bytes [c].toArray t], []⟩) (.int c.toNat) := .of_eq rfl
section
variable {w : World} {mu : List Addr} {env : Env} {n : Nat} {A : Around} {g s s' : Shared} {m : Str → Option Value} {E : Value → Shared → Prop} {Q : Value → Shared → Prop} {l : By} {t u : Tok} {e e₁ e₂ : Expr} {pos px : Pos}
theorem ordB {c : UInt8} (h : ∀ t' s', Eff w [] [] s s' → Q (.int c.toNat t') s') : wpAny (model prg w) A (call (.builtin "ord") [.bytes [c].toArray t]) Q E s :=
  call_function_meets PySem.F.kind_ord PySem.F.plain_ord PySem.F.entry_ord (PySem.F.args_ord1 _) (gives_ordB c t).meets (h _ _ (.toks _))
theorem itemLast {x : UInt8} (hz : l.length ≤ 1099511627776) (hx : l.getLast? = some x) (h : ∀ t' s', Eff w [] [] s s' → Q (.int x.toNat t') s') : wpAny (model prg w) A (getItem (.bytes l.toArray t) (.int (-1) u)) Q E s := by
  have hl : l ≠ [] := by rintro rfl; cases hx
  have hp : 0 < l.length := List.length_pos_iff.mpr hl
  refine getItem_gives (typeIs_bytes s _ t) (by decide) FB.slot_bytes_getitem FB.entry_bytes_getitem (FB.args_bytes_getitem_2 _ _) (gives_bytes_getitem _ (-1) t u x ?_ ?_) (h _ _ (.toks _))
  · simp only [Bytes.fitsIndex, Bool.and_eq_true, decide_eq_true_eq]; decide
  · have : seqIndex? (-1) l.toArray.size = some (l.length - 1) := by
      simp [seqIndex?]; rw [m1 hp]; exact ⟨⟨Int.natCast_nonneg _, Int.ofNat_lt.mpr (Nat.sub_lt hp (by decide))⟩, rfl⟩
    rw [this]
    rw [List.getLast?_eq_getElem?] at hx
    simpa using hx
theorem no_ord : nsIn (KK w) mainGlobals "ord" = some none := by kernel_rfl
theorem eOrd {c : UInt8} (h : Ev w mu env n A g m (IsB [c]) e) (hs : autoParam (starEach [e] env = [(false, eval e env)]) byRfl) (hx : autoParam (env.kindOf "ord" = some .globalImplicit) byRfl) : Ev w mu env n A g m (IsI (c.toNat : Int)) (.Call (.Name "ord" px) [e] [] pos) :=
  eBu1 no_ord boot_ord h (fun v ⟨t, hv⟩ s F Q E k => hv ▸ ordB fun t' s' e => k _ _ (F.go e) ⟨_, rfl⟩) hs hx
theorem eLast {x : UInt8} (ho : Ev w mu env n A g m (IsB l) e₁) (hi : Ev w mu env n A g m (IsI (-1)) e₂) (hz : l.length ≤ 1099511627776) (hy : l.getLast? = some x) (hs : autoParam (∀ o i, ∃ ops, subscripted e₂ false o i = operate ops (getItem o i)) byEx) :
    Ev w mu env n A g m (IsI (x.toNat : Int)) (.Subscript e₁ e₂ pos) :=
  fun s F Q E q => evSub gi_bytes (ho s F _ _ fun o s₁ F₁ ⟨t, hv⟩ => hi s₁ F₁ _ _ fun i s₂ F₂ ⟨u, hu⟩ => by subst hv hu; exact ⟨rfl, itemLast hz hy fun t' s' e => q _ _ (F₂.go e) ⟨_, rfl⟩⟩) hs
theorem eSlE {lower upper : Option Expr} {lo hi : Option Int} {pp : Pos} {r : By} (hr : cutL l lo hi = r) (ho : Ev w mu env n A g m (IsB l) e₁) (h₁ : EvP w mu env n A g m lo lower) (h₂ : EvP w mu env n A g m hi upper) (hz : l.length ≤ 16777216) : Ev w mu env n A g m (IsB r) (.Subscript e₁ (.Slice lower upper none pp) pos) := hr ▸ eSl ho h₁ h₂ hz
end
end Mine
end
section
open PySem PySem.W PyProof.Rows PySem.Calls PySem.Builtin
namespace Mine
noncomputable def sameB (x : By) : Value → Bool
  | .bytes b _ => b.toList == x
  | _ => false
theorem any_sameB (x : By) : ∀ {vs : List Value} {ls : List By}, BytesAre vs ls → vs.any (sameB x) = ls.contains x
  | _, _, .nil => rfl
  | _, _, .cons (l := l) h => by
    rw [List.any_cons, any_sameB x h]
    simp only [sameB, List.contains_cons]
    rw [BEq.comm (a := l)]
noncomputable def sameBool (x : Bool) : Value → Bool
  | .bool b => b == x
  | _ => false
theorem any_sameBool (x : Bool) : ∀ {vs : List Value} {ls : List Bool}, BoolsAre vs ls → vs.any (sameBool x) = ls.contains x
  | _, _, .nil => rfl
  | _, _, .cons (b := b) h => by
    rw [List.any_cons, any_sameBool x h]
    simp only [sameBool, List.contains_cons]
    rw [BEq.comm (a := b)]
theorem BytesAre.mem : ∀ {vs : List Value} {ls : List By}, BytesAre vs ls → ∀ y ∈ vs, ∃ (l : By) (t : Tok), y = .bytes l.toArray t
  | _, _, .nil, y, h => by cases h
  | _, _, .cons k, y, h => by
    rcases List.mem_cons.mp h with rfl | h
    · exact ⟨_, _, rfl⟩
    · exact k.mem y h
theorem BoolsAre.mem : ∀ {vs : List Value} {ls : List Bool}, BoolsAre vs ls → ∀ y ∈ vs, ∃ b, y = .bool b
  | _, _, .nil, y, h => by cases h
  | _, _, .cons k, y, h => by
    rcases List.mem_cons.mp h with rfl | h
    · exact ⟨_, rfl⟩
    · exact k.mem y h
theorem eqAtB {A : Around} {s : Shared} {x y : By} {t u : Tok} : SeqAt.EqAt A s (.bytes y.toArray u) (.bytes x.toArray t) (y == x) := fun prog w E Q h => eqBool_bytes (by
  have e : decide (y.toArray.toList = x.toArray.toList) = (y == x) := by rw [Bool.eq_iff_iff]; simp
  rw [e]; exact h)
section
variable {w : World} {mu : List Addr} {env : Env} {n : Nat} {A : Around} {g s s' : Shared} {m : Str → Option Value} {E : Value → Shared → Prop} {Q : Value → Shared → Prop} {l x : By} {t u : Tok} {e e₁ e₂ : Expr} {pos px : Pos} {a b : Addr} {vs us : List Value} {ls ms : List By} {bs : List Bool}
theorem Fm.line (F : Fm w mu env n A g m s) : A.units + 100 < cLine := by have := F.units; have := F.depth; show A.units + 100 < 9900; omega
theorem inL (hl : s.heap.IsList a vs.toArray) (hb : BytesAre vs ls) (h : Q (.bool (ls.contains x)) s) : wpAny (model prg w) A (compareOp .In (.bytes x.toArray t) (.ref a)) Q E s := by
  refine SeqAt.in_listAt (sameB x) hl (fun y hy => ?_) (by simpa [any_sameB x hb] using h)
  obtain ⟨l, tl, rfl⟩ := hb.mem y (by simpa using hy)
  exact eqAtB
theorem inT (hl : s.heap.IsTuple a vs.toArray) (hb : BytesAre vs ls) (h : Q (.bool (ls.contains x)) s) : wpAny (model prg w) A (compareOp .In (.bytes x.toArray t) (.ref a)) Q E s := by
  refine SeqAt.in_tupleAt (sameB x) hl (fun y hy => ?_) (by simpa [any_sameB x hb] using h)
  obtain ⟨l, tl, rfl⟩ := hb.mem y (by simpa using hy)
  exact eqAtB
theorem ninT (hl : s.heap.IsTuple a vs.toArray) (hb : BytesAre vs ls) (h : Q (.bool (!ls.contains x)) s) : wpAny (model prg w) A (compareOp .NotIn (.bytes x.toArray t) (.ref a)) Q E s := by
  refine SeqAt.notIn_tupleAt (sameB x) hl (fun y hy => ?_) (by simpa [any_sameB x hb] using h)
  obtain ⟨l, tl, rfl⟩ := hb.mem y (by simpa using hy)
  exact eqAtB
theorem inBools {x : Bool} (hl : s.heap.IsList a vs.toArray) (hb : BoolsAre vs bs) (h : Q (.bool (bs.contains x)) s) : wpAny (model prg w) A (compareOp .In (.bool x) (.ref a)) Q E s := by
  refine SeqAt.in_listAt (sameBool x) hl (fun y hy => ?_) (by simpa [any_sameBool x hb] using h)
  obtain ⟨l, rfl⟩ := hb.mem y (by simpa using hy)
  exact SeqAt.EqAt.bool_bool _ _
theorem ninBools {x : Bool} (hl : s.heap.IsList a vs.toArray) (hb : BoolsAre vs bs) (h : Q (.bool (!bs.contains x)) s) : wpAny (model prg w) A (compareOp .NotIn (.bool x) (.ref a)) Q E s := by
  refine SeqAt.notIn_listAt (sameBool x) hl (fun y hy => ?_) (by simpa [any_sameBool x hb] using h)
  obtain ⟨l, rfl⟩ := hb.mem y (by simpa using hy)
  exact SeqAt.EqAt.bool_bool _ _
theorem pair_all {ls ms : List By} (h : ls.length = ms.length) : ((List.range ls.length).all fun j => ls.getD j [] == ms.getD j []) = (ls == ms) := by
  induction ls generalizing ms with
  | nil => cases ms with
    | nil => rfl
    | cons => simp at h
  | cons a r ih =>
    cases ms with
    | nil => simp at h
    | cons b r' =>
      rw [List.length_cons, List.range_succ_eq_map, List.all_cons, List.all_map]
      have := ih (ms := r') (by simpa using h)
      show ((a == b) && _) = _
      rw [show (a :: r == b :: r') = (a == b && r == r') from rfl, ← this]
      rfl
theorem BytesAre.at {vs : List Value} {ls : List By} (h : BytesAre vs ls) {j : Nat} (h1 : j < vs.toArray.size) : ∃ t, vs.toArray[j] = .bytes (ls.getD j []).toArray t := by
  have hv : vs[j]? = some vs[j] := by simp at h1; simp [h1]
  obtain ⟨l, t, hl, e⟩ := h.get hv
  refine ⟨t, ?_⟩
  simp only [List.getElem_toArray, e, List.getD, hl, Option.getD_some]
theorem eqL (hu : A.units + 100 < cLine) (hl : s.heap.IsList a vs.toArray) (hv : BytesAre vs ls) (hb : s.heap.IsList b us.toArray) (hw : BytesAre us ms) (h : Q (.bool (ls == ms)) s) : wpAny (model prg w) A (compareOp .Eq (.ref a) (.ref b)) Q E s := by
  by_cases hz : ls.length = ms.length
  · refine SeqAt.eq_listAt (e := fun j => ls.getD j [] == ms.getD j []) hl hb (by simp [hv.length, hw.length, hz]) (Nat.lt_of_le_of_lt (Nat.le_add_right _ _) hu) (fun j h1 h2 => ?_) (by
      have e : vs.toArray.size = ls.length := by simp [hv.length]
      rw [e, pair_all hz]; exact h)
    obtain ⟨t, e1⟩ := hv.at h1
    obtain ⟨t', e2⟩ := hw.at h2
    rw [e1, e2]; exact eqAtB
  · refine SeqAt.eq_list_lengthsAt hl hb (by simp [hv.length, hw.length, hz]) (Nat.lt_of_le_of_lt (Nat.le_add_right _ _) hu) ?_
    have : (ls == ms) = false := by rw [beq_eq_false_iff_ne]; rintro rfl; exact hz rfl
    rw [this] at h; exact h
theorem neL (hu : A.units + 100 < cLine) (hl : s.heap.IsList a vs.toArray) (hv : BytesAre vs ls) (hb : s.heap.IsList b us.toArray) (hw : BytesAre us ms) (h : Q (.bool (ls != ms)) s) : wpAny (model prg w) A (compareOp .NotEq (.ref a) (.ref b)) Q E s := by
  by_cases hz : ls.length = ms.length
  · refine SeqAt.RcNeAt.lists (e := fun j => ls.getD j [] == ms.getD j []) hl hb (by simp [hv.length, hw.length, hz]) (Nat.lt_of_le_of_lt (Nat.le_add_right _ _) hu) (fun j h1 h2 => ?_) _ _ _ _ (by
      have e : vs.toArray.size = ls.length := by simp [hv.length]
      rw [e, pair_all hz]; exact h)
    obtain ⟨t, e1⟩ := hv.at h1
    obtain ⟨t', e2⟩ := hw.at h2
    rw [e1, e2]; exact eqAtB
  · refine SeqAt.RcNeAt.lists_lengths hl hb (by simp [hv.length, hw.length, hz]) (Nat.lt_of_le_of_lt (Nat.le_add_right _ _) hu) _ _ _ _ ?_
    have : (ls != ms) = true := by rw [bne_iff_ne]; rintro rfl; exact hz rfl
    rw [this] at h; exact h
theorem itemL {k : Nat} {l : By} (hl : s.heap.IsList a vs.toArray) (hv : BytesAre vs ls) (hk : ls[k]? = some l) (hz : k < 1000000) (h : ∀ t', Q (.bytes l.toArray t') s) : wpAny (model prg w) A (getItem (.ref a) (.int (k : Int) u)) Q E s := by
  have h1 : k < ls.length := (List.getElem?_eq_some_iff.mp hk).1
  have h2 : vs[k]? = some (vs[k]'(by rw [hv.length]; exact h1)) := List.getElem?_eq_getElem _
  obtain ⟨l', t', hl', e⟩ := hv.get h2
  rw [hk] at hl'; cases hl'
  exact wpAny_getItem_list hl (by with_reducible exact Int.natCast_nonneg _) (by omega) (by simpa using h2) (e ▸ h t')
theorem itemLast' {l : By} (hl : s.heap.IsList a vs.toArray) (hv : BytesAre vs ls) (hk : ls.getLast? = some l) (h : ∀ t', Q (.bytes l.toArray t') s) : wpAny (model prg w) A (getItem (.ref a) (.int (-1) u)) Q E s := by
  have h0 : 0 < ls.length := by cases ls with
    | nil => cases hk
    | cons => simp
  rw [List.getLast?_eq_getElem?] at hk
  have h2 : vs[ls.length - 1]? = some (vs[ls.length - 1]'(by rw [hv.length]; with_reducible exact Nat.sub_lt (by assumption) (by decide))) := List.getElem?_eq_getElem _
  obtain ⟨l', t', hl', e⟩ := hv.get h2
  rw [hk] at hl'; cases hl'
  refine wpAny_getItem_list_neg hl (by decide) (by simp [hv.length]; omega) (by decide) (x := .bytes l.toArray t') ?_ (h t')
  have e3 : (-1 + ((vs.toArray.size : Nat) : Int)).toNat = ls.length - 1 := by simp [hv.length]; rw [m1 h0]; rfl
  rw [e3]
  simpa [e] using h2
theorem eItemL {k : Nat} (hl : g.heap.IsList a vs.toArray) (ha : a ∉ mu) (hv : BytesAre vs ls) (hk : ls[k]? = some l) (hz : k < 1000000) (ho : Ev w mu env n A g m (IsV (.ref a)) e₁) (hi : Ev w mu env n A g m (IsI (k : Int)) e₂) (hs : autoParam (∀ o i, ∃ ops, subscripted e₂ false o i = operate ops (getItem o i)) byEx) :
    Ev w mu env n A g m (IsB l) (.Subscript e₁ e₂ pos) :=
  fun s F Q E q => evSub gi_list (ho s F _ _ fun o s₁ F₁ hv' => hi s₁ F₁ _ _ fun i s₂ F₂ ⟨u, hu⟩ => by
    have hv' : o = .ref a := hv'
    subst hv' hu
    have hl₂ := F₂.eff.keep.list ha hl
    exact ⟨hl₂.typeIs, itemL hl₂ hv hk hz fun t' => q _ _ F₂ ⟨_, rfl⟩⟩) hs
theorem eLastL (hl : g.heap.IsList a vs.toArray) (ha : a ∉ mu) (hv : BytesAre vs ls) (hk : ls.getLast? = some l) (ho : Ev w mu env n A g m (IsV (.ref a)) e₁) (hi : Ev w mu env n A g m (IsI (-1)) e₂) (hs : autoParam (∀ o i, ∃ ops, subscripted e₂ false o i = operate ops (getItem o i)) byEx) :
    Ev w mu env n A g m (IsB l) (.Subscript e₁ e₂ pos) :=
  fun s F Q E q => evSub gi_list (ho s F _ _ fun o s₁ F₁ hv' => hi s₁ F₁ _ _ fun i s₂ F₂ ⟨u, hu⟩ => by
    have hv' : o = .ref a := hv'
    subst hv' hu
    have hl₂ := F₂.eff.keep.list ha hl
    exact ⟨hl₂.typeIs, itemLast' hl₂ hv hk fun t' => q _ _ F₂ ⟨_, rfl⟩⟩) hs
theorem eLenL {e' : nsIn (KK w) mainGlobals "len" = some none} (hl : g.heap.IsList a vs.toArray) (ha : a ∉ mu) (hz : vs.length ≤ 16777216) (h : Ev w mu env n A g m (IsV (.ref a)) e) (hs : autoParam (starEach [e] env = [(false, eval e env)]) byRfl) (hx : autoParam (env.kindOf "len" = some .globalImplicit) byRfl) : Ev w mu env n A g m (IsI (vs.length : Int)) (.Call (.Name "len" px) [e] [] pos) :=
  eBu1 e' PySem.boot_len h (fun v hv s F Q E k => by
    have hv : v = .ref a := hv
    subst hv
    exact lenList (F.eff.keep.list ha hl) hz fun t' s' e => k _ _ (F.go e) ⟨_, rfl⟩) hs hx
theorem slL {lower upper : Option Expr} {lo hi : Option Int} {pp : Pos} (F : Fm w mu env n A g m s) (hl : g.heap.IsList a vs.toArray) (ha : a ∉ mu) (hz : vs.length ≤ 1048576) (ho : Ev w mu env n A g m (IsV (.ref a)) e₁) (h₁ : EvP w mu env n A g m lo lower) (h₂ : EvP w mu env n A g m hi upper)
    (k : ∀ b s' s'', Fm w mu env n A g m s' → Eff w [] [] s' s'' → s''.heap.IsList b (cutL vs lo hi).toArray → Fresh w s' b → Q (.ref b) s'') : wpAny (model prg w) A (eval (.Subscript e₁ (.Slice lower upper none pp) pos) env) Q E s :=
  evSlice gi_list (ho s F _ _ fun o s₁ F₁ hv' => by
    have hv' : o = .ref a := hv'
    subst hv'
    exact h₁ s₁ F₁ _ _ fun l s₂ F₂ h3 => h₂ s₂ F₂ _ _ fun u s₃ F₃ h4 => by
      have hl₃ := F₃.eff.keep.list ha hl
      exact ⟨fun s' e => (e.keep.list (fun q => nomatch q) hl₃).typeIs, fun sl s' e hsl => cutList (e.keep.list (fun q => nomatch q) hl₃) h3 h4 hz hsl fun b s'' e' hb hf => k b s' s'' (F₃.go e) e' hb hf⟩)
theorem BytesAre.cut {vs : List Value} {ls : List By} (h : BytesAre vs ls) (lo hi : Option Int) : BytesAre (cutL vs lo hi) (cutL ls lo hi) := by
  have td : ∀ {vs : List Value} {ls : List By}, BytesAre vs ls → ∀ k, BytesAre (vs.drop k) (ls.drop k) := by
    intro vs ls h
    induction h with
    | nil => intro k; simp; exact .nil
    | cons h' ih => intro k; cases k with
      | zero => exact .cons h'
      | succ k => exact ih k
  have tt : ∀ {vs : List Value} {ls : List By}, BytesAre vs ls → ∀ k, BytesAre (vs.take k) (ls.take k) := by
    intro vs ls h
    induction h with
    | nil => intro k; simp; exact .nil
    | cons h' ih => intro k; cases k with
      | zero => exact .nil
      | succ k => exact .cons (ih k)
  unfold cutL
  rw [h.length]
  exact tt (td h _) _
end
end Mine
end
section
open PySem PySem.W PyProof.Rows PySem.Calls
namespace Mine
section
variable {w : World} {n : Nat} {A : Around} {s : Shared} {E : Value → Shared → Prop} {Q : Value → Shared → Prop}
noncomputable def p_cut (w : World) : FnPk w 346 := ⟨_, _, rfl, by kernel_rfl, rfl, ⟨⟨rfl, rfl, rfl⟩, rfl, rfl, rfl⟩⟩
theorem d_cut : IsDef w "_law_cut" 346 := ⟨by kernel_rfl, by kernel_rfl⟩
theorem no_len : nsIn (KK w) mainGlobals "len" = some none := by kernel_rfl
theorem no_range : nsIn (KK w) mainGlobals "range" = some none := by kernel_rfl
theorem no_zip : nsIn (KK w) mainGlobals "zip" = some none := by kernel_rfl
theorem it_range1 {env : Env} {g : Shared} {m : Str → Option Value} {px' pos : Pos} {e : Expr} {k : Nat} {R : Value → Shared → Prop} {s : Shared} (F : Fm w (own env) env n A g m s) (hc : ∀ p ∈ env.cells, env.cells.lookup p.1 = some p.2) (he : Ev w (own env) env n A g m (IsI (k : Int)) e) (hk : k < 1000000)
    (go : ∀ it s', Fm w (own env) env n A g m s' → (∀ x px, TurnsIn w A (.Name x px) g [] k (fun i v _ => ∃ t, v = .int (i : Int) t) it s') → R it s')
    (hs : autoParam (starEach [e] env = [(false, eval e env)]) byRfl) (hx : autoParam (env.kindOf "range" = some .globalImplicit) byRfl) : wpAny (model prg w) A (eval (.Call (.Name "range" px') [e] [] pos) env) (fun xv s₁ => wpAny (model prg w) A (pyIter xv) R E s₁) E s := by
  refine wpAny_Call_Name_kw (bu F no_range boot_range ?_ hx)
  rw [hs]
  refine PySem.callWith_type1 (he s F _ _ fun v s₁ F₁ ⟨t, hv⟩ => ?_)
  subst hv
  refine call_range_1 ?_
  have F₂ : Fm w (own env) env n A g m { s₁ with heap := s₁.heap.push { cls := .type "range", data := .fields #[.int 0 s₁.toks, .int (k : Int) t, .int 1 (s₁.toks + 1)] }, toks := s₁.toks + 1 + 1 } := (F₁.go (.push _)).toks _
  refine it_range (k := k) (IsRange.new _ _ _ _ _ _ _) (small_one (by decide) (by decide) (by omega) (by omega)) (by rw [rangeSize_one]; split <;> omega) F₂ (F₂.alive hc) fun it s' F' T => ?_
  refine go it s' F' ?_
  simpa using T
theorem s_cut {row : By} {c : UInt8} {t u : Tok} (C : Cx w (n + 1) A s) (hz : row.length ≤ 4096)
    (h : ∀ a vs s', Eff w (frs A) [] s s' → s'.heap.IsList a vs.toArray → BytesAre vs (splitB c row) → Fresh w s a → Q (.ref a) s') :
    wpAny (model prg w) A (call (.ref 346) [.bytes row.toArray t, .int c.toNat u]) Q E s := by
  refine wpAny_call (run (p_cut w) [] [("row", .bytes row.toArray t), ("sign", .int c.toNat u)] C (fun _ h => nomatch h) (BindsTo.of_eq rfl) rfl fun L s₁ hL e1 F => ?_)
  rw [List.append_nil] at F
  have cz : ∀ p ∈ (envP (p_cut w) L).cells, (envP (p_cut w) L).cells.lookup p.1 = some p.2 := lookup_of_nodup (by show List.Nodup [("sign" : Str), "row"]; decide)
  refine sAsg (wpAny_BinOp (wpAny_BinOp ?_)) ?_
  · refine disp F (eaI (eNeg eI) eaI0) (fun vs hv => by rw [hv.length]; simp) fun a₀ v₀ s₂ s₃ F₂ e2 hl₀ hf₀ hv₀ => ?_
    have F₃ := (F₂.go e2).base
    refine lcomp F₃ (CompOk.of (cl := [("sign", L + 2), ("row", L + 1)]) F₃ rfl rfl (all2 rfl rfl)) ?_
    refine it_range1 F₃ cz (eLen (e' := no_len) (eC rfl ⟨t, rfl⟩) (by with_reducible exact leK (by assumption) rfl)) (by with_reducible exact ltL (by assumption) rfl) fun it s₄ F₄ T => ?_
    refine compT F₃ cz F₄ (T _ _) (fun _ h => nomatch h) (by rw [sizeLine_eq]; with_reducible exact leK (by assumption) rfl) (fun i ys => IntsAre' ys (toI (posns c row i))) (fun i ys hk => by rw [hk.length]; simp [toI]; exact posns_len c row i) (by show IntsAre' [] (toI []); exact .nil) ?_ ?_
    · intro i v ys Cc m₁ s₅ hi ⟨ti, hv⟩ hK F₅ Fc hm
      subst hv
      have h1 : m₁ "row" = some (.bytes row.toArray t) := hm ("row", L + 1) (by simp)
      have h2 : m₁ "sign" = some (.int c.toNat u) := hm ("sign", L + 2) (by simp)
      have k1 : ∀ v, ∀ p ∈ [(("sign" : Str), L + 2), ("row", L + 1)], upd m₁ "k" v p.1 = bindM [("row", .bytes row.toArray t), ("sign", .int c.toNat u)] (fun _ => none) p.1 := fun v => all2 h2 h1
      refine asgName (st Fc fun s₆ F₆ => wpAny_tests_one ?_)
      refine F₆.tt (tCmp (eItem (k := (i : Int)) (y := row[i]) (eC h1 ⟨_, rfl⟩) (eL rfl ⟨_, rfl⟩) (by with_reducible exact leK (by assumption) rfl) (by with_reducible exact Int.natCast_nonneg _) (by simp)) (eC h2 ⟨_, rfl⟩) cEqI) fun s₇ F₇ => ?_
      have hp := posns_succ (c := c) hi
      by_cases q : row[i] = c
      · rw [if_pos (by simp [q])]
        refine F₇.ev (eL (V := IsI (i : Int)) rfl ⟨_, rfl⟩) fun v s₈ F₈ ⟨tv, hv⟩ => ⟨⟨_, F₈, k1 _⟩, ?_⟩
        show IntsAre' _ (toI (posns c row (i + 1)))
        rw [hp, if_pos q, hv]
        simp only [toI, List.map_append]
        exact hK.app (.cons .nil)
      · rw [if_neg (by simpa using fun e => q (UInt8.toNat_inj.mp (by omega)))]
        refine ⟨⟨_, F₇, k1 _⟩, ?_⟩
        show IntsAre' _ (toI (posns c row (i + 1)))
        rw [hp, if_neg q, List.append_nil]; exact hK
    · intro a₁ ys s₆ hK F₆ hD hf₁ hno₁
      have hno₀ : a₀ ∉ own (envP (p_cut w) L) := (F₂.fresh_off (F₂.alive cz) hf₀).1
      refine addLists (F₆.eff.keep.list hno₀ hl₀.isList) ⟨_, hD, rfl, _, rfl⟩ (by rw [hv₀.length, hK.length]; simp [toI]; have := posns_len c row row.length; omega) fun a₂ s₇ e7 hl₂ hf₂ => ?_
      have F₇ := (F₆.go e7).base
      have hno₂ : a₂ ∉ own (envP (p_cut w) L) := (F₆.fresh_off (F₆.alive cz) hf₂).1
      refine disp F₇ (eaI (eLen (e' := no_len) (eC rfl ⟨t, rfl⟩) (by with_reducible exact leK (by assumption) rfl)) eaI0) (fun vs hv => by rw [hv.length]; simp) fun a₃ v₃ s₈ s₉ F₈ e9 hl₃ hf₃ hv₃ => ?_
      have F₉ := F₈.go e9
      refine addLists (F₉.eff.keep.list hno₂ hl₂) hl₃.isList (by rw [List.length_append, hv₀.length, hK.length, hv₃.length]; simp [toI]; have := posns_len c row row.length; omega) fun a₄ s₁₀ e10 hl₄ hf₄ => ?_
      have F₁₀ := (F₉.go e10).base
      have hno₄ : a₄ ∉ own (envP (p_cut w) L) := (F₉.fresh_off (F₉.alive cz) hf₄).1
      have hI : IntsAre' (v₀ ++ ys ++ v₃) ([-1] ++ toI (posns c row row.length) ++ [(row.length : Int)]) := (hv₀.app hK).app hv₃
      have et : Eff w (frs (A.deeper (envP (p_cut w) L))) (own (envP (p_cut w) L)) s₁ s₁₀ := F₂.eff.trans (((e2.of).trans (F₆.eff.trans ((e7.of).trans (F₉.eff.trans e10.of)))))
      refine st F₁₀ (fun s₁₁ F₁₁ => ?_) rfl
      have hl₁₁ := F₁₁.eff.keep.list hno₄ hl₄
      have Fb := F₁₁.base
      refine sRet ?_
      refine lcomp Fb (CompOk.of (cl := [("row", L + 1)]) Fb rfl rfl (all1 rfl)) ?_
      refine wpAny_Call_Name_kw (bu Fb no_zip boot_zip (PySem.Pv.callWith_type1 ?_))
      refine Calls.spliced_cons (ldl Fb rfl ?_)
      refine Calls.spliced_cons (evSlice gi_list (ldl Fb rfl ?_))
      refine (pSome eI) s₁₁ Fb _ _ fun lo s₁₂ F₁₂ hlo => ?_
      refine pNone s₁₂ F₁₂ _ _ fun hi s₁₃ F₁₃ hhi => ?_
      have hl₁₃ := F₁₃.eff.keep.list hno₄ hl₁₁
      refine ⟨fun s' e => (e.keep.list (fun q => nomatch q) hl₁₃).typeIs, fun sl s₁₄ e14 hsl => ?_⟩
      generalize hvs : v₀ ++ ys ++ v₃ = cs at hl₁₃ hI
      have hcl : cs.length ≤ row.length + 2 := by rw [hI.length]; simp [toI]; have := posns_len c row row.length; omega
      have hl₁₄ := e14.keep.list (fun q => nomatch q) hl₁₃
      refine cutList hl₁₄ hlo hhi (by omega) hsl fun a₅ s₁₅ e15 hl₅ hf₅ => Calls.spliced_nil ?_
      have F₁₅ := (F₁₃.go e14).go e15
      have hz₂ : (cutL cs (some 1) none) = cs.drop 1 := cut_from cs 1
      rw [hz₂] at hl₅
      refine it_zip (e15.keep.list (fun q => nomatch q) hl₁₄) hl₅ F₁₅ (F₁₅.alive cz) (B := [a₄]) (.inr (.head _)) (.inl ((F₁₃.go e14).freshB hf₅ ((F₁₃.go e14).fresh_off ((F₁₃.go e14).alive cz) hf₅).1)) fun zv s₁₆ hz => ?_
      refine wpAny_mono hz (fun it s₁₇ kk => kk _ fun F₁₇ keep T => ?_) fun _ _ q => q.elim
      have off₄ : ∀ b ∈ [a₄], b ∉ own (envP (p_cut w) L) ∧ b ∉ frs (A.deeper (envP (p_cut w) L)) ∧ b ≠ tabA := all1 (by
        have := F₉.fresh_off (F₉.alive cz) hf₄
        exact ⟨this.1, this.2.1, this.2.2.1⟩)
      refine compT Fb cz F₁₇ (T _ _ _ _ _ _) off₄ (by rw [sizeLine_eq]; simp; omega) (fun i ys => BytesAre ys ((gaps row ([-1] ++ toI (posns c row row.length) ++ [(row.length : Int)])).take i)) (fun i ys hk => by rw [hk.length]; simp; omega) .nil ?_ ?_
      · intro i v ys' Cc m₁ s₁₈ hi ⟨va, vb, hva, hvb, Tp, hv, hT⟩ hK' F₁₈ Fc hm
        subst hv
        have h1 : m₁ "row" = some (.bytes row.toArray t) := hm ("row", L + 1) (by simp)
        obtain ⟨lo', tl, hlo', rfl⟩ := hI.get hva
        rw [List.getElem?_drop] at hvb
        obtain ⟨hi', th, hhi', rfl⟩ := hI.get hvb
        refine asg2 Fc hT fun s₁₉ F₁₉ => wpAny_tests_nil ?_
        rw [if_pos rfl]
        refine F₁₉.ev (eSl (eC h1 ⟨_, rfl⟩) (pSome (eAddI (eL rfl ⟨_, rfl⟩) eI)) (pSome (eL rfl ⟨_, rfl⟩)) (by with_reducible exact leK (by assumption) rfl)) fun v s₂₀ F₂₀ ⟨tv, hv⟩ => ⟨⟨_, F₂₀, all1 h1⟩, ?_⟩
        show BytesAre _ (List.take (i + 1) _)
        rw [take_succ' (gaps_get hlo' hhi'), hv]
        exact hK'.app (.cons .nil)
      · intro D ys' s₁₈ hK' F₁₈ hD hfD hnD
        have hK' : BytesAre ys' (List.take _ _) := hK'
        rw [List.take_of_length_le (by rw [gaps_len, ← hI.length]; simp), gaps_split] at hK'
        refine ⟨et.trans (F₁₁.eff.trans F₁₈.eff), fun e => h D ys' s₁₈ e ⟨_, hD, rfl, _, rfl⟩ hK' ((hfD.back (et.trans F₁₁.eff) hnD).back e1)⟩
  · rfl
end
end Mine
end
section
open PySem PySem.W PyProof.Rows PySem.Calls
namespace Mine
noncomputable def BADC : By := [127, 32, 126, 94, 58, 63, 42, 91]
noncomputable def badO (c : UInt8) : Bool := decide ((c.toNat : Int) < 32) || BADC.contains c
noncomputable def LOCK : By := [46, 108, 111, 99, 107]
noncomputable def okC (p : By) : Bool := !p.isEmpty && !([46].isPrefixOf p) && !(LOCK.isSuffixOf p)
noncomputable def crf (l : By) : Bool :=
  if l == [64] then false else if !hasB [47] l then false else if hasB [46, 46] l then false else if l.any badO then false
  else if [47, 46].contains (l.getLastD 0) then false else if hasB [64, 123] l then false else if hasB [92] l then false else (splitB 47 l).all okC
section
variable {w : World} {n : Nat} {A : Around} {s : Shared} {E : Value → Shared → Prop} {Q : Value → Shared → Prop}
noncomputable def p_crf (w : World) : FnPk w 124 := ⟨_, _, rfl, by kernel_rfl, rfl, ⟨⟨rfl, rfl, rfl⟩, rfl, rfl, rfl⟩⟩
theorem d_crf : IsDef w "check_ref_format" 124 := ⟨by kernel_rfl, by kernel_rfl⟩
theorem no_enum : nsIn (KK w) mainGlobals "enumerate" = some none := by kernel_rfl
theorem g_bad : ∃ t, nsIn (KK w) mainGlobals "BAD_REF_CHARS" = some (some (.bytes BADC.toArray t)) := ⟨286, by kernel_rfl⟩
noncomputable def crfJ (l : By) (t : Tok) : Nat → (Str → Option Value) → Heap → Prop := fun i m _ => m "refname" = some (.bytes l.toArray t) ∧ (l.take i).any badO = false
noncomputable def crfO (l : By) (t : Tok) : Flow → (Str → Option Value) → Heap → Prop := fun f m _ => match f with | .ret v => v = .bool false ∧ l.any badO = true | .next => m "refname" = some (.bytes l.toArray t) ∧ l.any badO = false | _ => False
noncomputable def okJ (l : By) : Nat → (Str → Option Value) → Heap → Prop := fun i m _ => ((splitB 47 l).take i).all okC = true
noncomputable def okO (l : By) : Flow → (Str → Option Value) → Heap → Prop := fun f m _ => match f with | .ret v => v = .bool false ∧ (splitB 47 l).all okC = false | .next => (splitB 47 l).all okC = true | _ => False
theorem s_crf {l : By} {t : Tok} (C : Cx w (n + 1) A s) (hz : l.length ≤ 4096)
    (h : ∀ s', Eff w (frs A) [] s s' → Q (.bool (crf l)) s') :
    wpAny (model prg w) A (call (.ref 124) [.bytes l.toArray t]) Q E s := by
  refine wpAny_call (run (p_crf w) [] [("refname", .bytes l.toArray t)] C (fun _ h => nomatch h) (BindsTo.of_eq rfl) rfl fun L s₁ hL e1 F => ?_)
  rw [List.append_nil] at F
  have cz : ∀ p ∈ (envP (p_crf w) L).cells, (envP (p_crf w) L).cells.lookup p.1 = some p.2 := fun _ h => nomatch h
  have fin : ∀ {b : Bool} {v : Value} {s' : Shared}, crf l = b → IsT b v → Eff w (frs (A.deeper (envP (p_crf w) L))) (own (envP (p_crf w) L)) s₁ s' → Left w A (envP (p_crf w) L) [] s s₁ Q (.ret v) s' := fun hb hv e => ⟨by rw [List.append_nil]; exact e, fun e' => hv ▸ hb ▸ h _ e'⟩
  unfold crf at fin
  refine xIf1 F (tCmp (eL rfl ⟨_, rfl⟩) eB cEqB) (fun h1 s₂ F₂ => xRet F₂ eT fun v s' hv F' => fin (by rw [if_pos h1]) hv F'.eff) fun h1 s₂ F₂ => ?_
  refine xIf1 F₂ (tCmp eB (eL rfl ⟨_, rfl⟩) (cNinB F.hh)) (fun h2 s₃ F₃ => xRet F₃ eT fun v s' hv F' => fin (by rw [if_neg (by simp [h1]), if_pos h2]) hv F'.eff) fun h2 s₃ F₃ => ?_
  refine xIf1 F₃ (tCmp eB (eL rfl ⟨_, rfl⟩) (cInB F.hh)) (fun h3 s₄ F₄ => xRet F₄ eT fun v s' hv F' => fin (by rw [if_neg (by simp [h1]), if_neg (by simp [h2]), if_pos h3]) hv F'.eff) fun h3 s₄ F₄ => ?_
  refine sForT F₄.base (F₄.alive cz) ?_
  refine wpAny_Call_Name_kw (bu F₄.base no_enum boot_enumerate (PySem.Pv.callWith_type1 (Calls.spliced_cons (ldl F₄.base rfl (Calls.spliced_nil ?_)))))
  refine it_enumB F₄.base (F₄.alive cz) fun ev s₅ hz5 => wpAny_mono hz5 (fun it s₆ kk => kk _ fun F₆ T => ?_) fun _ _ q => q.elim
  refine ⟨[], l.length, _, F₆, T _ _ _ _ _ _, (fun _ h => nomatch h), (crfJ l t), (crfO l t), fun _ _ _ _ _ x => x, ⟨rfl, rfl⟩, ?_, ?_, ?_⟩
  · rintro i v m₁ s₇ hi ⟨ti, tc, c, hc, T, rfl, hT⟩ ⟨hm, hK⟩ F₇
    refine asg2 F₇.base hT fun s₈ F₈ => ?_
    have hd : l[i]? = some c := hc
    have hcut : cutL l (some (i : Int)) (some ((i : Int) + 1)) = [c] := by
      rw [show (i : Int) + 1 = ((i + 1 : Nat) : Int) by omega, cut_nn, show i + 1 - i = 1 by omega]
      obtain ⟨hi', he⟩ := List.getElem?_eq_some_iff.mp hd
      rw [List.drop_eq_getElem_cons hi', he]; rfl
    refine xIf1 F₈ (tOr2 (tCmp (eOrd (eSlE hcut (eL hm ⟨_, rfl⟩) (pSome (eL rfl ⟨_, rfl⟩)) (pSome (eAddI (eL rfl ⟨_, rfl⟩) eI)) (by with_reducible exact leK (by assumption) rfl))) eI cLtI) fun _ => tCmp (eL rfl ⟨_, rfl⟩) (eG g_bad.choose_spec ⟨_, rfl⟩) cInO) (fun hb s₉ F₉ => ?_) fun hb s₉ F₉ => ?_
    · refine xRet F₉ eT fun v s' hv F' => ⟨_, F', hv, ?_⟩
      exact List.any_eq_true.mpr ⟨c, List.mem_of_getElem? hd, by simpa [badO] using hb⟩
    · refine sNil ⟨_, F₉, hm, ?_⟩
      rw [take_succ' hd, List.any_append, hK]
      simpa [badO] using hb
  · rintro m' h' ⟨hm, hK⟩
    rw [List.take_of_length_le (Nat.le_refl _)] at hK
    exact ⟨hm, hK⟩
  · intro f m' s' F' hO
    cases f with
    | ret v => exact fin (by rw [if_neg (by simp [h1]), if_neg (by simp [h2]), if_neg (by simp [h3]), if_pos hO.2]) hO.1 (F₄.eff.trans F'.eff)
    | brk => exact hO.elim
    | cont => exact hO.elim
    | next =>
      obtain ⟨hm, h4⟩ := hO
      show wpAny _ _ _ _ _ _
      have c1 : ¬ (l == [64]) = true := by simp [h1]
      have c2 : ¬ (!hasB [47] l) = true := by simp [h2]
      have c3 : ¬ hasB [46, 46] l = true := by simp [h3]
      have c4 : ¬ l.any badO = true := by simp [h4]
      obtain ⟨y, hy⟩ : ∃ y, l.getLast? = some y := by
        cases l with
        | nil => simp [hasB] at h2
        | cons a r => exact ⟨_, List.getLast?_cons⟩
      have hyD : l.getLastD 0 = y := by rw [List.getLastD_eq_getLast?, hy]; rfl
      have ea : Eff w (frs (A.deeper (envP (p_crf w) L))) (own (envP (p_crf w) L)) s₁ s' := F₄.eff.trans F'.eff
      have F' := F'.base
      refine xIf1 F' (tCmp (eLast (eL hm ⟨_, rfl⟩) (eNeg eI) (by with_reducible exact leK (by assumption) rfl) hy) eB cInO) (fun h5 s₅ F₅ => xRet F₅ eT fun v s' hv F' => fin (by rw [if_neg c1, if_neg c2, if_neg c3, if_neg c4, if_pos (hyD ▸ h5)]) hv (ea.trans F'.eff)) fun h5 s₅ F₅ => ?_
      have c5 : ¬ [47, 46].contains (l.getLastD 0) = true := by rw [hyD]; simp only [h5]; decide
      refine xIf1 F₅ (tCmp eB (eL hm ⟨_, rfl⟩) (cInB F.hh)) (fun h6 s₆ F₆ => xRet F₆ eT fun v s' hv F' => fin (by rw [if_neg c1, if_neg c2, if_neg c3, if_neg c4, if_neg c5, if_pos h6]) hv (ea.trans F'.eff)) fun h6 s₆ F₆ => ?_
      refine xIf1 F₆ (tCmp eB (eL hm ⟨_, rfl⟩) (cInB F.hh)) (fun h7 s₇ F₇ => xRet F₇ eT fun v s' hv F' => fin (by rw [if_neg c1, if_neg c2, if_neg c3, if_neg c4, if_neg c5, if_neg (by simp [h6]), if_pos h7]) hv (ea.trans F'.eff)) fun h7 s₇ F₇ => ?_
      have c6 : ¬ hasB [64, 123] l = true := by simp [h6]
      have c7 : ¬ hasB [92] l = true := by simp [h7]
      refine sForT F₇.base (F₇.alive cz) (evm1 m_split (ldl F₇.base hm ⟨isB, kBytes F₇.base fun t' s₈ F₈ => b_split (by with_reducible exact leK (by assumption) rfl) fun a s₉ vs e9 hl hvs hf => ?_⟩))
      have F₉ := F₈.go e9
      have off := F₈.fresh_off (F₈.alive cz) hf
      refine it_list hl F₉ (F₉.alive cz) (B := []) (.inl (F₈.freshB hf off.1)) fun it s₁₀ F₁₀ keep T => ?_
      have hvl := hvs.length
      refine ⟨[], _, _, F₁₀, T _ _, (fun _ h => nomatch h), (okJ l), (okO l), fun _ _ _ _ _ x => x, rfl, ?_, ?_, ?_⟩
      · rintro i v m₁ s₁₁ hi hv hK F₁₁
        obtain ⟨q, tq, hq, rfl⟩ := hvs.get hv
        have hqz : q.length ≤ l.length := (splitB_len 47 l).2 q (List.mem_of_getElem? hq)
        refine asgName (st F₁₁.base fun s₁₂ F₁₂ => ?_)
        have bad : okC q = false → (splitB 47 l).all okC = false := fun hb => by
          rw [Bool.eq_false_iff]
          intro hall
          rw [List.all_eq_true.mp hall q (List.mem_of_getElem? hq)] at hb; cases hb
        refine xIf1 F₁₂ (tNot (tPlain (eL rfl ⟨_, rfl⟩) (truth_bytes (l := q) (by with_reducible exact leC (by assumption) (by assumption) rfl)))) (fun h8 s₁₃ F₁₃ => xRet F₁₃ eT fun v s' hv F' => ⟨_, F', hv, bad (by simp [okC]; simp at h8; simp [h8])⟩) fun h8 s₁₃ F₁₃ => ?_
        refine xIf1 F₁₃ (tPlain (eM1 m_startswith (eL (V := IsB q) rfl ⟨_, rfl⟩) eB dStarts) truth_bool) (fun h9 s₁₄ F₁₄ => xRet F₁₄ eT fun v s' hv F' => ⟨_, F', hv, bad (by simp [okC, h9])⟩) fun h9 s₁₄ F₁₄ => ?_
        refine xIf1 F₁₄ (tPlain (eM1 m_endswith (eL (V := IsB q) rfl ⟨_, rfl⟩) eB dEnds) truth_bool) (fun h10 s₁₅ F₁₅ => xRet F₁₅ eT fun v s' hv F' => ⟨_, F', hv, bad (by have e : LOCK.isSuffixOf q = true := h10; simp only [okC, e]; simp)⟩) fun h10 s₁₅ F₁₅ => ?_
        refine sNil ⟨_, F₁₅, ?_⟩
        show List.all (List.take (i + 1) _) okC = true
        rw [take_succ' hq, List.all_append, hK]
        have : LOCK.isSuffixOf q = false := h10
        simp [okC, h9, this]
        simpa using h8
      · intro m' h' hK
        have hK : List.all (List.take vs.length _) okC = true := hK
        rw [hvl, List.take_of_length_le (Nat.le_refl _)] at hK
        exact hK
      · intro f m'' s'' F'' hO
        cases f with
        | ret v => exact fin (by rw [if_neg c1, if_neg c2, if_neg c3, if_neg c4, if_neg c5, if_neg c6, if_neg c7]; exact hO.2) hO.1 (ea.trans (F₇.eff.trans F''.eff))
        | brk => exact hO.elim
        | cont => exact hO.elim
        | next =>
          refine xRet F'' eT fun v s' hv F' => fin (by rw [if_neg c1, if_neg c2, if_neg c3, if_neg c4, if_neg c5, if_neg c6, if_neg c7]; exact hO) hv (ea.trans (F₇.eff.trans F'.eff))
end
end Mine
end
section
open PySem PySem.W PyProof.Rows PySem.Calls
namespace Mine
noncomputable def SIGNS : By := [33, 34, 35, 36, 37, 38, 39, 40, 41, 43, 44, 45, 48, 49, 50, 51, 52, 53, 54, 55, 56, 57, 59, 60, 61, 62, 65, 66, 67, 68, 69, 70, 71, 72, 73, 74, 75, 76, 77, 78, 79, 80, 81, 82, 83, 84, 85, 86, 87, 88, 89, 90, 93, 95, 96, 97, 98, 99, 100, 101, 102, 103, 104, 105, 106, 107, 108, 109, 110, 111, 112, 113, 114, 115, 116, 117, 118, 119, 120, 121, 122, 123, 124, 125]
noncomputable def goodO (c : UInt8) : Bool := decide ((c.toNat : Int) > 127) || SIGNS.contains c
noncomputable def goodField (f : By) : Bool := (splitB 64 f).all (fun p => p.all goodO) && (splitB 64 f).tail.all (fun p => p.take 1 != [123])
noncomputable def soundP (part : By) : Bool :=
  let fs := splitB 46 part
  if fs.dropLast.contains [] || (decide (fs.length > 1) && fs.getLast? == some [108, 111, 99, 107]) then false else fs.all goodField
section
variable {w : World} {mu : List Addr} {env : Env} {n : Nat} {A : Around} {g s s' : Shared} {m : Str → Option Value} {E : Value → Shared → Prop} {Q : Value → Shared → Prop} {l x : By} {t u : Tok} {e e₁ e₂ : Expr} {pos px : Pos} {a b : Addr} {vs us : List Value} {ls ms : List By} {bs : List Bool}
theorem tInSl {lower upper : Option Expr} {lo hi : Option Int} {pp p' : Pos} (hl : g.heap.IsList a vs.toArray) (ha : a ∉ mu) (hv : BytesAre vs ls) (hz : vs.length ≤ 1048576) (hx : Ev w mu env n A g m (IsB x) e) (ho : Ev w mu env n A g m (IsV (.ref a)) e₁) (h₁ : EvP w mu env n A g m lo lower) (h₂ : EvP w mu env n A g m hi upper) :
    Tt w mu env n A g m ((cutL ls lo hi).contains x) (.Compare e [.In] [.Subscript e₁ (.Slice lower upper none pp) p'] pos) :=
  fun s F Q E q => wpAny_isTrue_Compare1 (hx s F _ _ fun v s₁ F₁ ⟨t, hv'⟩ => by
    subst hv'
    exact slL F₁ hl ha hz ho h₁ h₂ fun b s' s'' F' e hb hf => inL hb (hv.cut lo hi) (truth_bool _ rfl s'' (F'.go e) _ _ q))
noncomputable def p_sound (w : World) : FnPk w 351 := ⟨_, _, rfl, by kernel_rfl, rfl, ⟨⟨rfl, rfl, rfl⟩, rfl, rfl, rfl⟩⟩
theorem d_sound : IsDef w "_law_sound" 351 := ⟨by kernel_rfl, by kernel_rfl⟩
theorem g_signs : ∃ t, nsIn (KK w) mainGlobals "_law_signs" = some (some (.bytes SIGNS.toArray t)) := ⟨613, by kernel_rfl⟩
noncomputable def soundJ (fs : List By) : Nat → (Str → Option Value) → Heap → Prop := fun i m _ => (fs.take i).all goodField = true
noncomputable def soundO (fs : List By) : Flow → (Str → Option Value) → Heap → Prop := fun f m _ => match f with | .ret v => v = .bool false ∧ fs.all goodField = false | .next => fs.all goodField = true | _ => False
noncomputable def soundJa (ps : List By) : Nat → (Str → Option Value) → Heap → Prop := fun i m _ => (ps.take i).all (fun p => p.all goodO) = true ∧ (ps.take i).tail.all (fun p => p.take 1 != [123]) = true
noncomputable def soundOa (q : By) : Flow → (Str → Option Value) → Heap → Prop := fun f m _ => match f with | .ret v => v = .bool false ∧ goodField q = false | .next => goodField q = true | _ => False
theorem s_sound {l : By} {t : Tok} (C : Cx w (n + 2) A s) (hz : l.length ≤ 4096)
    (h : ∀ s', Eff w (frs A) [] s s' → Q (.bool (soundP l)) s') :
    wpAny (model prg w) A (call (.ref 351) [.bytes l.toArray t]) Q E s := by
  refine wpAny_call (run (p_sound w) [] [("part", .bytes l.toArray t)] C (fun _ h => nomatch h) (BindsTo.of_eq rfl) rfl fun L s₁ hL e1 F => ?_)
  rw [List.append_nil] at F
  have cz : ∀ p ∈ (envP (p_sound w) L).cells, (envP (p_sound w) L).cells.lookup p.1 = some p.2 := fun _ h => nomatch h
  have fin : ∀ {b : Bool} {v : Value} {s' : Shared}, soundP l = b → IsT b v → Eff w (frs (A.deeper (envP (p_sound w) L))) (own (envP (p_sound w) L)) s₁ s' → Left w A (envP (p_sound w) L) [] s s₁ Q (.ret v) s' := fun hb hv e => ⟨by rw [List.append_nil]; exact e, fun e' => hv ▸ hb ▸ h _ e'⟩
  unfold soundP at fin
  -- fields = _law_cut(part, 46)
  refine sAsg (evc2 F d_cut (ldl F rfl (kInt F fun t₁ s₂ F₂ => ⟨F₂.ww, s_cut (c := 46) F₂.cx hz fun a vs s₃ e3 hl hvs hf => ?_⟩))) rfl
  have F₃ := F₂.go e3
  have off := F₂.fresh_off (F₂.alive cz) hf
  refine st F₃.base (fun s₄ F₄ => ?_) rfl
  have hl₄ := F₄.eff.keep.list off.1 hl
  have ea : Eff w (frs (A.deeper (envP (p_sound w) L))) (own (envP (p_sound w) L)) s₁ s₄ := F₃.eff.trans F₄.eff
  have Fb := F₄.base
  have hlen := splitB_len 46 l
  have hne := splitB_ne 46 l
  generalize hfs : splitB 46 l = fs at hvs hlen fin hne
  have hvl := hvs.length
  obtain ⟨y, hy⟩ : ∃ y, fs.getLast? = some y := by
    cases fs with
    | nil => exact absurd rfl hne
    | cons a r => exact ⟨_, List.getLast?_cons⟩
  refine xIf1 Fb (tOr2 (tInSl hl₄ off.1 hvs (by omega) eB (eL rfl rfl) pNone (pSome (eNeg eI))) fun _ => tAnd2 (tCmp (eLenL (e' := no_len) hl₄ off.1 (by omega) (eL rfl rfl)) eI cGtI) fun _ => tCmp (eLastL hl₄ off.1 hvs hy (eL rfl rfl) (eNeg eI)) eB cEqB) (fun h1 s₅ F₅ => xRet F₅ eT fun v s' hv F' => fin (if_pos ?_) hv (ea.trans F'.eff)) fun h1 s₅ F₅ => ?_
  · rw [cut_init, hvl] at h1
    rw [hy]
    have e : (1 : Int) < (fs.length : Int) ↔ 1 < fs.length := by omega
    simpa [e] using h1
  have c1 : ¬ (fs.dropLast.contains [] || (decide (fs.length > 1) && fs.getLast? == some [108, 111, 99, 107])) = true := by
    rw [cut_init, hvl] at h1
    rw [hy]
    have e : (1 : Int) < (fs.length : Int) ↔ 1 < fs.length := by omega
    simpa [e] using h1
  -- for field in fields
  have hl₅ := F₅.eff.keep.list off.1 hl₄
  refine sForT F₅.base (F₅.alive cz) (ldl F₅.base rfl (it_list hl₅ F₅.base (F₅.alive cz) (B := [a]) (.inr (.head _)) fun it s₆ F₆ keep T => ?_))
  refine ⟨[a], _, _, F₆, T _ _, all1 ⟨off.1, off.2.1, off.2.2.1⟩, (soundJ fs), (soundO fs), fun _ _ _ _ _ x => x, rfl, ?_, ?_, ?_⟩
  · rintro i v m₁ s₇ hi hv hK F₇
    obtain ⟨q, tq, hq, rfl⟩ := hvs.get hv
    have hqz : q.length ≤ l.length := hlen.2 q (List.mem_of_getElem? hq)
    have bad : goodField q = false → fs.all goodField = false := fun hb => by
      rw [Bool.eq_false_iff]
      intro hall
      rw [List.all_eq_true.mp hall q (List.mem_of_getElem? hq)] at hb; cases hb
    refine asgName (st F₇.base fun s₈ F₈ => ?_)
    have hqg : goodField q = ((splitB 64 q).all (fun p => p.all goodO) && (splitB 64 q).tail.all (fun p => p.take 1 != [123])) := rfl
    have hpl := splitB_len 64 q
    refine sForT F₈.base (F₈.alive cz) ?_
    refine wpAny_Call_Name_kw (bu F₈.base no_enum boot_enumerate (PySem.Pv.callWith_type1 (Calls.spliced_cons ?_)))
    refine evc2 F₈.base d_cut (ldl F₈.base rfl (kInt F₈.base fun t₁ s₉ F₉ => ⟨F₉.ww, s_cut (c := 64) F₉.cx (by with_reducible exact leC (by assumption) (by assumption) rfl) fun b us s₁₀ e10 hlb hus hfb => Calls.spliced_nil ?_⟩))
    have F₁₀ := F₉.go e10
    have offb := F₉.fresh_off (F₉.alive cz) hfb
    generalize splitB 64 q = ps at hqg hpl hus
    have hul := hus.length
    refine it_enumL hlb F₁₀ (F₁₀.alive cz) (B := []) (.inl (F₉.freshB hfb offb.1)) fun ev s₁₁ hz11 => wpAny_mono hz11 (fun it s₁₂ kk => kk _ fun F₁₂ keep T => ?_) fun _ _ q => q.elim
    refine ⟨[], _, _, F₁₂, T _ _ _ _ _ _, (fun _ h => nomatch h), (soundJa ps), (soundOa q), fun _ _ _ _ _ x => x, ⟨rfl, rfl⟩, ?_, ?_, ?_⟩
    · rintro j v m₂ s₁₃ hj ⟨tj, u, hu, T, rfl, hT⟩ ⟨hK1, hK2⟩ F₁₃
      obtain ⟨p, tp, hp, rfl⟩ := hus.get hu
      have hpz : p.length ≤ q.length := hpl.2 p (List.mem_of_getElem? hp)
      refine asg2 F₁₃.base hT fun s₁₄ F₁₄ => ?_
      have htk : (ps.take (j + 1)).tail = (ps.take j).tail ++ if j = 0 then [] else [p] := by
        rw [take_succ' hp]
        by_cases hj0 : j = 0
        · subst hj0; simp
        · rw [if_neg hj0, List.tail_append_of_ne_nil]
          intro e
          have := congrArg List.length e
          simp at this
          rcases this with h0 | h0
          · exact hj0 h0
          · subst h0; simp at hp
      have mem2 : j ≠ 0 → p ∈ ps.tail := fun h0 => by
        cases ps with
        | nil => simp at hp
        | cons a r =>
          obtain ⟨k, rfl⟩ : ∃ k, j = k + 1 := ⟨j - 1, (Nat.sub_add_cancel (Nat.pos_of_ne_zero h0)).symm⟩
          exact List.mem_of_getElem? (by simpa using hp)
      refine xIf1 F₁₄ (tAnd2 (tCmp (eL rfl ⟨_, rfl⟩) eI cGtI) fun _ => tCmp (eSlE (cut_to p 1) (eL rfl ⟨_, rfl⟩) pNone (pSome eI) (by omega)) eB cEqB) (fun h1 s₁₅ F₁₅ => xRet F₁₅ eT fun v s' hv F' => ⟨_, F', hv, ?_⟩) fun h1 s₁₅ F₁₅ => ?_
      · simp only [Bool.and_eq_true, decide_eq_true_eq, beq_iff_eq] at h1
        rw [hqg, Bool.and_eq_false_iff]
        refine .inr ?_
        rw [List.all_eq_false]
        exact ⟨p, mem2 (by omega), by simp [h1.2]⟩
      · refine sIf1 ?_
        refine wpAny_isTrue_Compare1 (kBool ?_)
        have Fb := F₁₅.base
        refine lcomp Fb (CompOk.of (cl := []) Fb rfl rfl (fun _ h => nomatch h)) ?_
        refine ldl Fb rfl (it_bytes Fb (Fb.alive cz) fun it s₁₆ F₁₆ T => ?_)
        refine compT Fb cz F₁₆ (T _ _) (fun _ h => nomatch h) (by rw [sizeLine_eq]; omega) (fun i ys => BoolsAre ys ((p.take i).map goodO)) (fun i ys hk => by rw [hk.length]; simp; omega) .nil ?_ ?_
        · intro i v ys Cc m₁ s₁₇ hi ⟨c, tc, hc, hv⟩ hK F₁₇ Fc hm
          subst hv
          refine asgName (st Fc fun s₁₈ F₁₈ => wpAny_tests_nil ?_)
          rw [if_pos rfl]
          refine F₁₈.ev (eOr2 (eCmp (eL rfl ⟨_, rfl⟩) eI cGtI) fun _ => eCmp (eL rfl ⟨_, rfl⟩) (eG g_signs.choose_spec ⟨_, rfl⟩) cInO) fun v s₁₉ F₁₉ hv => ⟨⟨_, F₁₉, fun _ h => nomatch h⟩, ?_⟩
          show BoolsAre _ ((p.take (i + 1)).map goodO)
          rw [take_succ' hc, hv, List.map_append]
          exact hK.app (.cons .nil)
        · intro D ys' s₁₇ hK F₁₇ hD hfD hnD
          have hK : BoolsAre ys' ((p.take p.length).map goodO) := hK
          rw [List.take_of_length_le (Nat.le_refl _)] at hK
          refine inBools ⟨_, hD, rfl, _, rfl⟩ hK (truth_bool _ rfl s₁₇ F₁₇ _ _ fun s₁₈ F₁₈ => ?_)
          have hall : (p.map goodO).contains false = !p.all goodO := by
            rw [Bool.eq_iff_iff]
            simp
          rw [hall]
          cases hg : p.all goodO with
          | true =>
            rw [if_neg (by simp)]
            refine sNil ⟨_, F₁₅.after F₁₈, ?_, ?_⟩
            · rw [take_succ' hp, List.all_append, hK1]; simpa using hg
            · rw [htk, List.all_append, hK2]
              by_cases hj0 : j = 0
              · rw [if_pos hj0]; rfl
              · rw [if_neg hj0]
                have e : decide ((j : Int) > 0) = true := by simp; with_reducible exact Nat.pos_of_ne_zero (by assumption)
                rw [e] at h1
                have h1' : (List.take 1 p == [123]) = false := by simpa using h1
                simp [bne, h1']
          | false =>
            rw [if_pos (by simp)]
            refine xRet F₁₈ eT fun v s' hv F' => ⟨_, F₁₅.after F', hv, ?_⟩
            rw [hqg, Bool.and_eq_false_iff]
            refine .inl ?_
            rw [List.all_eq_false]
            exact ⟨p, List.mem_of_getElem? hp, by simp [hg]⟩
    · rintro m' h' ⟨hK1, hK2⟩
      rw [hul, List.take_of_length_le (Nat.le_refl _)] at hK1 hK2
      show goodField q = true
      rw [hqg, hK1, hK2]; rfl
    · intro f m'' s'' F'' hO
      cases f with
      | ret v => exact ⟨_, F₈.after F'', hO.1, bad hO.2⟩
      | brk => exact hO.elim
      | cont => exact hO.elim
      | next =>
        refine sNil ⟨_, F₈.after F'', ?_⟩
        show List.all (List.take (i + 1) _) goodField = true
        have hO : goodField q = true := hO
        have hK : List.all (List.take i _) goodField = true := hK
        rw [take_succ' hq, List.all_append, hK]
        simpa using hO
  · intro m' h' hK
    have hK : List.all (List.take vs.length _) goodField = true := hK
    rw [hvl, List.take_of_length_le (Nat.le_refl _)] at hK
    exact hK
  · intro f m'' s'' F'' hO
    cases f with
    | ret v => exact fin (by rw [if_neg c1]; exact hO.2) hO.1 (ea.trans (F₅.eff.trans F''.eff))
    | brk => exact hO.elim
    | cont => exact hO.elim
    | next => exact xRet F'' eT fun v s' hv F' => fin (by rw [if_neg c1]; exact hO) hv (ea.trans (F₅.eff.trans F'.eff))
end
end Mine
end
section
open PySem PySem.W PyProof.Rows PySem.Calls
namespace Mine
section
variable {w : World} {mu : List Addr} {env : Env} {n : Nat} {A : Around} {g s s' : Shared} {m : Str → Option Value} {E : Value → Shared → Prop} {l x : By} {t u : Tok} {e e₁ e₂ : Expr} {pos px : Pos} {a b : Addr} {vs us : List Value} {ls ms : List By} {bs : List Bool}
noncomputable def WhQ (w : World) (mu : List Addr) (env : Env) (n : Nat) (A : Around) (g : Shared) (rest : List Stmt) (J : Nat → (Str → Option Value) → Heap → Prop) (k : Nat) (Q : Flow → Shared → Prop) (E : Value → Shared → Prop) : Flow → Shared → Prop := fun f s' => match f with
  | .next | .cont => ∃ k' m', k' < k ∧ Fm w mu env n A g m' s' ∧ J k' m' s'.heap
  | .brk => wpAny (model prg w) A (execs rest env) Q E s'
  | .ret v => Q (.ret v) s'
theorem sWhile {test : Expr} {body rest : List Stmt} {Q : Flow → Shared → Prop} (F : Fm w mu env n A g m s) (J : Nat → (Str → Option Value) → Heap → Prop) (N : Nat) (h0 : J N m s.heap)
    (turn : ∀ k m₁ s₁, J k m₁ s₁.heap → Fm w mu env n A g m₁ s₁ → wpAny (model prg w) A (isTrue test env (eval test env)) (fun b s₂ =>
      if b = true then wpAny (model prg w) A (execs body env) (WhQ w mu env n A g rest J k Q E) (fun _ _ => False) s₂
      else wpAny (model prg w) A (execs rest env) Q E s₂) (fun _ _ => False) s₁) :
    wpAny (model prg w) A (execs (.While test body [] pos :: rest) env) Q E s := by
  refine sCons (wpAny_While (codeAny_mono (codeAny_whileLoop (R := fun r s' => match r with | .ok f => andThen w A env E rest Q f s' | .error _ => False) (fun k s' => ∃ m', Fm w mu env n A g m' s' ∧ J k m' s'.heap) ?_ N ⟨m, F, h0⟩) fun r s' q => ?_))
  · rintro k s₁ ⟨m₁, F₁, hJ⟩
    refine wpAny_mono (turn k m₁ s₁ hJ F₁) (fun b s₂ h₂ => ?_) fun _ _ q => q.elim
    cases b with
    | true =>
      rw [if_pos rfl] at h₂ ⊢
      refine wpAny_mono h₂ (fun f s₃ h₃ => ?_) fun _ _ q => q.elim
      cases f with
      | next => obtain ⟨k', m', hk, F', hJ'⟩ := h₃; exact ⟨k', hk, m', F', hJ'⟩
      | cont => obtain ⟨k', m', hk, F', hJ'⟩ := h₃; exact ⟨k', hk, m', F', hJ'⟩
      | brk => exact h₃
      | ret v => exact h₃
    | false =>
      rw [if_neg (by decide)] at h₂ ⊢
      exact wpAny_execs_nil h₂
  · cases r with
    | ok f => exact q
    | error e => exact q.elim
noncomputable def REF : By := [114, 101, 102, 58, 32]
noncomputable def pointsP (l : By) : Option By := if l.take 5 != REF then none else some ((rstripB [10, 13] l).drop 5)
theorem last_split {α : Type} {l : List α} {y : α} (hy : l.getLast? = some y) : l = l.dropLast ++ [y] := by
  have hl : l ≠ [] := by rintro rfl; cases hy
  rw [List.getLast?_eq_some_getLast hl] at hy
  have := List.dropLast_concat_getLast hl
  injection hy with hy
  rw [hy] at this; exact this.symm
theorem drop_last {α : Type} {l : List α} : l.drop (l.length - 1) = l.getLast?.toList := by
  cases hp : l.getLast? with
  | none => rw [List.getLast?_eq_none_iff] at hp; subst hp; rfl
  | some y =>
    have e := last_split hp
    generalize l.dropLast = r at e
    subst e
    simp
theorem strip_step {cs : By} {l : By} {y : UInt8} (hy : l.getLast? = some y) : rstripB cs l = if cs.contains y then rstripB cs l.dropLast else l := by
  have e := last_split hy
  generalize l.dropLast = r at e ⊢
  subst e
  unfold rstripB
  simp only [List.reverse_append, List.reverse_cons, List.reverse_nil, List.nil_append, List.cons_append, List.dropWhile_cons, List.dropLast_concat]
  split <;> simp [List.contains]
noncomputable def OptB (o : Option By) (v : Value) : Prop := match o with | none => v = .none | some l => IsB l v
noncomputable def p_points (w : World) : FnPk w 358 := ⟨_, _, rfl, by kernel_rfl, rfl, ⟨⟨rfl, rfl, rfl⟩, rfl, rfl, rfl⟩⟩
theorem d_points : IsDef w "_law_points" 358 := ⟨by kernel_rfl, by kernel_rfl⟩
theorem s_points {Q : Value → Shared → Prop} {l : By} {t : Tok} (C : Cx w (n + 1) A s) (hz : l.length ≤ 4096)
    (h : ∀ v s', Eff w (frs A) [] s s' → OptB (pointsP l) v → Q v s') :
    wpAny (model prg w) A (call (.ref 358) [.bytes l.toArray t]) Q E s := by
  refine wpAny_call (run (p_points w) [] [("text", .bytes l.toArray t)] C (fun _ h => nomatch h) (BindsTo.of_eq rfl) rfl fun L s₁ hL e1 F => ?_)
  rw [List.append_nil] at F
  have fin : ∀ {o : Option By} {v : Value} {s' : Shared}, pointsP l = o → OptB o v → Eff w (frs (A.deeper (envP (p_points w) L))) (own (envP (p_points w) L)) s₁ s' → Left w A (envP (p_points w) L) [] s s₁ Q (.ret v) s' := fun hb hv e => ⟨by rw [List.append_nil]; exact e, fun e' => h _ _ e' (hb ▸ hv)⟩
  refine xIf1 F (tCmp (eSlE (cut_to l 5) (eL rfl ⟨_, rfl⟩) pNone (pSome eI) (by with_reducible exact leK (by assumption) rfl)) eB cNeB) (fun h1 s₅ F₅ => xRet F₅ eN fun v s' hv F' => fin (if_pos h1) hv F'.eff) fun h1 s₅ F₅ => ?_
  have h1' : ¬ (l.take 5 != REF) = true := by
    have h1 : (l.take 5 != REF) = false := h1
    rw [h1]; decide
  refine sWhile F₅ (fun k m _ => ∃ p : By, ∃ tp, m "text" = some (.bytes p.toArray tp) ∧ p.length = k ∧ p.length ≤ l.length ∧ rstripB [10, 13] p = rstripB [10, 13] l) l.length ⟨l, t, rfl, rfl, Nat.le_refl _, rfl⟩ ?_
  rintro k m₁ s₆ ⟨p, tp, hm, rfl, hpl, hps⟩ F₆
  have hlast : p.drop (p.length - 1) = p.getLast?.toList := drop_last
  refine F₆.tt (tOr2 (tCmp (eSlE ((cut_last p).trans hlast) (eL hm ⟨_, rfl⟩) (pSome (eNeg eI)) pNone (by with_reducible exact leC (by assumption) (by assumption) rfl)) eB cEqB) fun _ => tCmp (eSlE ((cut_last p).trans hlast) (eL hm ⟨_, rfl⟩) (pSome (eNeg eI)) pNone (by with_reducible exact leC (by assumption) (by assumption) rfl)) eB cEqB) fun s₇ F₇ => ?_
  cases hp : p.getLast? with
  | none =>
    rw [if_neg (by decide)]
    rw [List.getLast?_eq_none_iff] at hp; subst hp
    refine xRet F₇ (eSlE (cut_from [] 5) (eL hm ⟨_, rfl⟩) (pSome eI) pNone (by simp)) fun v s' hv F' => fin (if_neg h1') ?_ F'.eff
    rw [← hps]; exact hv
  | some y =>
    have hst := strip_step (cs := [10, 13]) hp
    by_cases hy : [10, 13].contains y = true
    · rw [if_pos (by simpa using hy)]
      refine xAsg F₇ (eSlE (cut_init p) (eL hm ⟨_, rfl⟩) pNone (pSome (eNeg eI)) (by with_reducible exact leC (by assumption) (by assumption) rfl)) fun v s₈ ⟨tv, hv⟩ F₈ => sNil ⟨p.dropLast.length, _, ?_, F₈, p.dropLast, tv, ?_, rfl, ?_, ?_⟩
      · have hl : p ≠ [] := by rintro rfl; cases hp
        have := List.length_pos_iff.mpr hl
        simp; with_reducible exact Nat.sub_lt (by assumption) (by decide)
      · rw [hv]; rfl
      · simp; with_reducible exact Nat.le_succ_of_le (by assumption)
      · rw [← hps, hst, if_pos hy]
    · rw [if_neg (by simpa using hy)]
      refine xRet F₇ (eSlE (cut_from p 5) (eL hm ⟨_, rfl⟩) (pSome eI) pNone (by with_reducible exact leC (by assumption) (by assumption) rfl)) fun v s' hv F' => fin (if_neg h1') ?_ F'.eff
      rw [← hps, hst, if_neg hy]; exact hv
end
end Mine
end
section
open PySem PySem.W PyProof.Rows PySem.Calls
namespace Mine
section
variable {w : World} {mu : List Addr} {env : Env} {n : Nat} {A : Around} {g s s' s₁ s₂ : Shared} {m : Str → Option Value}
theorem WW.hop {h1 h2 h3 : Heap} (W : WW w h1) (W' : WW w h2) (x : ∀ b o₁ o, b < NB → h1.get? b = some o₁ → h2.get? b = some o → h3.get? b = some o) : WW w h3 := by
  have ns : ∀ a m m', a < NB → h1.Ns a m' → h2.Ns a m → h3.Ns a m := fun a m m' hb ⟨o1, _, _, h1, _⟩ ⟨o, es, ep, ho, r⟩ => ⟨o, es, ep, x a o1 o hb h1 ho, r⟩
  refine ⟨fun b o e => x b o o (kin_lt e) (W.kin b o e) (W'.kin b o e), ?_, ?_, ?_, ?_⟩
  · obtain ⟨mb, p, q⟩ := W'.bi; obtain ⟨mb', p', _⟩ := W.bi; exact ⟨mb, ns _ _ _ (by decide) p' p, q⟩
  · obtain ⟨mc, p, q⟩ := W'.lim; obtain ⟨mc', p', _⟩ := W.lim; exact ⟨mc, ns _ _ _ (by decide) p' p, q⟩
  · obtain ⟨ps, p, q⟩ := W'.tab; obtain ⟨ps', p', _⟩ := W.tab; exact ⟨ps, x _ _ _ (by decide) p' p, q⟩
  · obtain ⟨ob, p, q⟩ := W'.bm; obtain ⟨ob', p', _⟩ := W.bm; exact ⟨ob, x _ _ _ (by decide) p' p, q⟩
theorem OldK.step_at {h₀ h h' : Heap} (K : OldK h₀ h) (hs : ∀ b o₀ o, h₀.get? b = some o₀ → h.get? b = some o → h'.get? b = some o) : OldK h₀ h' := by
  refine ⟨fun b o e => ?_, fun b o e => let ⟨o', ho'⟩ := K.there b o e; ⟨o', hs b o o' e ho'⟩⟩
  rcases K.old b o e with x | ⟨t, hc, vs, more, hv, x⟩ | ⟨rfl, hc, ⟨o', es, n, ho', r⟩, z⟩
  · exact .inl (hs b _ _ e x)
  · exact .inr (.inl ⟨t, hc, vs, more, hv, hs b _ _ e x⟩)
  · exact .inr (.inr ⟨rfl, hc, ⟨o', es, n, hs _ _ _ e ho', r⟩, fun key => by rw [OldK.staticOf_congr ((hs _ _ _ e ho').trans ho'.symm) key]; exact z key⟩)
noncomputable def Cov (s : Shared) (base : Heap) (fr mu : List Addr) : Prop := ∀ b o, b ∉ fr → b ∉ mu → s.heap.get? b = some o → ∃ o', base.get? b = some o'
theorem effBase {base h' : Heap} (cov : Cov s base (frs A) mu) (hs : base.StaysIn s'.heap) (hs' : base.StaysIn h') (hup : s'.heap.UpToSlots h') (e : Eff w (frs A) mu s s') (hfx : ∀ b ∈ frs A, NB ≤ b ∧ (b ∉ mu → ∃ mm, s.heap.Ns b mm)) (hmu : ∀ b ∈ mu, NB ≤ b) :
    Eff w (frs A) mu s { s' with heap := h' } := by
  have same : ∀ b o o', b ∉ frs A → b ∉ mu → s.heap.get? b = some o → s'.heap.get? b = some o' → h'.get? b = some o' := fun b o o' h1 h2 h3 h4 => by
    obtain ⟨ob, hb⟩ := cov b o h1 h2 h3
    have q := hs b ob hb
    rw [h4] at q; cases q
    exact hs' b _ hb
  refine ⟨fun b o hb ho hsol => ?_, fun b o hb ho => ?_, e.os, e.bare, fun h0 q t r => ?_, fun W => ?_⟩
  · obtain ⟨sl, a, c⟩ := e.keep b o hb ho hsol
    by_cases hf : b ∈ frs A
    · obtain ⟨mm, o2, es, ep, ho2, hd, _⟩ := (hfx b hf).2 hb
      rw [ho] at ho2; cases ho2
      obtain ⟨sl', a'⟩ := hup b _ a fun vs q => by rw [show ({ o with slots := sl } : Obj).data = o.data from rfl, hd] at q; cases q
      exact ⟨sl', a', fun q => absurd hf q⟩
    · exact ⟨sl, same b o _ hf hb ho a, c⟩
  · obtain ⟨o', a⟩ := e.alive b o hb ho
    by_cases hf : b ∈ frs A
    · obtain ⟨mm, hn⟩ := (hfx b hf).2 hb
      obtain ⟨o3, _, _, h3, hd3, _⟩ := e.keep.ns hb hn
      obtain ⟨sl', a'⟩ := hup b _ h3 fun vs q => by rw [hd3] at q; cases q
      exact ⟨_, a'⟩
    · exact ⟨o', same b o o' hf hb ho a⟩
  · refine Mine.OldK.step_at (e.old h0 q t r) fun b o₀ o h1 h2 => ?_
    obtain ⟨o1, ho1⟩ := r.there b o₀ h1
    exact same b o1 o (fun x => by rw [q b (List.mem_append_left _ x)] at h1; cases h1) (fun x => by rw [q b (List.mem_append_right _ x)] at h1; cases h1) ho1 h2
  · refine WW.hop W (e.ww W) fun b o₁ o hb h1 h2 => same b o₁ o (fun x => Nat.lt_irrefl _ (Nat.lt_of_lt_of_le hb (hfx b x).1)) (fun x => Nat.lt_irrefl _ (Nat.lt_of_lt_of_le hb (hmu b x))) h1 h2
noncomputable def Thrown (w : World) (A : Around) (mu : List Addr) (s s' : Shared) (e : Addr) (cls : Value) : Prop :=
  ∃ base a0 l, A.frames = some l ∧ Heap.FlyingW base l e cls a0 s'.heap ∧ Cov s base (frs A) mu ∧ Eff w (frs A) mu s s'
noncomputable def Rz (w : World) (mu : List Addr) (env : Env) (n : Nat) (A : Around) (g : Shared) (K : Value → Prop) (v : Value) (s' : Shared) : Prop :=
  ∃ e cls, v = .ref e ∧ K cls ∧ ((∃ m s₂ args h', Fm w mu env n A g m s₂ ∧ Heap.MadeExcOf s₂.heap h' e cls args ∧ s' = { s₂ with heap := h' }) ∨ ∃ m s₂, Fm w mu env n A g m s₂ ∧ Thrown w A [] s₂ s' e cls)
theorem frs_cons {l : List Env} (hl : A.frames = some l) (hef : env.frame = some env.locals) : frs (A.deeper env) = env.locals :: frs A := by
  unfold frs; rw [Around.frames_deeper hl, hl]; simp [hef]
theorem Fm.fx2 (F : Fm w mu env n A g m s) : ∀ b ∈ frs A, NB ≤ b ∧ ∃ mm, s.heap.Ns b mm := fun b q => by
  obtain ⟨l, hl, h⟩ := F.cx.fx
  unfold frs at q; rw [hl] at q
  obtain ⟨x, hx, e⟩ := List.mem_filterMap.mp q
  obtain ⟨_, L, h2, h3, mm, h4⟩ := h x hx
  rw [h2] at e; cases e; exact ⟨h3, mm, h4⟩
theorem Cx.fx2 (C : Cx w n A s) : ∀ b ∈ frs A, NB ≤ b ∧ ∃ mm, s.heap.Ns b mm := fun b q => by
  obtain ⟨l, hl, h⟩ := C.fx
  unfold frs at q; rw [hl] at q
  obtain ⟨x, hx, e⟩ := List.mem_filterMap.mp q
  obtain ⟨_, L, h2, h3, mm, h4⟩ := h x hx
  rw [h2] at e; cases e; exact ⟨h3, mm, h4⟩
theorem funFrames {h base : Heap} : ∀ {l : List Env}, (∀ e ∈ l, e.scope.kind ≠ .module ∧ ∃ L, e.frame = some L ∧ base.get? L = none ∧ ∃ mm, h.Ns L mm) → h.FunFrames base l
  | [], _ => trivial
  | e :: r, k => by
    obtain ⟨h1, L, h2, h3, mm, o, es, ep, ho, hd, _⟩ := k e (.head _)
    exact ⟨h1, ⟨L, o, h2, h3, ho, fun vs q => by rw [hd] at q; cases q⟩, funFrames fun e he => k e (.tail _ he)⟩
theorem hide_cov {fr : List Addr} : Cov s (hideAll s.heap fr) fr mu := fun b o h1 _ h3 => ⟨o, hideAll_get fr h3 h1⟩
theorem leaveRz {K : Value → Prop} {mu0 : List Addr} {v : Value} {E : Value → Shared → Prop} (C : Cx w (n + 1) A s) (e1 : Eff w [] [] s s₁) (hef : env.frame = some env.locals) (hL : ∀ b ∈ own env, s.heap.objs.size ≤ b)
    (h : Rz w (own env ++ mu0) env n (A.deeper env) s₁ K v s') :
    wpAny (model prg w) (A.deeper env) (leaving env v) (fun _ s'' => ∃ e cls, v = .ref e ∧ K cls ∧ Thrown w A mu0 s s'' e cls) E s' := by
  obtain ⟨l, hl, hl'⟩ := C.fx
  have hfr : (A.deeper env).frames = some (env :: l) := Around.frames_deeper hl
  have hfc := frs_cons (A := A) hl hef
  obtain ⟨e, cls, rfl, hK, h⟩ := h
  have alive : ∀ {m s₂}, Fm w (own env ++ mu0) env n (A.deeper env) s₁ m s₂ → ∀ b o, b ∉ mu0 → s.heap.get? b = some o → b ∉ own env ∧ ∃ o', s₂.heap.get? b = some o' := fun F b o hb ho => by
    have hno : b ∉ own env := fun q => Nat.lt_irrefl _ (Nat.lt_of_lt_of_le (Heap.lt_size ho) (hL b q))
    obtain ⟨o1, h1⟩ := e1.alive b o (fun q => nomatch q) ho
    exact ⟨hno, F.eff.alive b o1 (fun q => (List.mem_append.mp q).elim hno hb) h1⟩
  have fx1 : ∀ {m s₂}, Fm w (own env ++ mu0) env n (A.deeper env) s₁ m s₂ → ∀ b ∈ frs (A.deeper env), NB ≤ b ∧ (b ∉ own env ++ mu0 → ∃ mm, s₁.heap.Ns b mm) := fun F b hb => by
    obtain ⟨l2, hl2, h2⟩ := F.fx
    unfold frs at hb; rw [hl2] at hb
    obtain ⟨x, hx, ex⟩ := List.mem_filterMap.mp hb
    obtain ⟨_, L, h3, h4, h5⟩ := h2 x hx
    rw [h3] at ex; cases ex
    refine ⟨h4, fun q => ?_⟩
    rcases h5 with rfl | ⟨_, h5⟩
    · exact absurd (F.own _ (.head _)) q
    · exact h5
  have covOf : ∀ {m s₂ base}, Fm w (own env ++ mu0) env n (A.deeper env) s₁ m s₂ → Cov s₂ base (frs (A.deeper env)) [] → Cov s base (frs A) mu0 ∧ Cov s₁ base (frs (A.deeper env)) (own env ++ mu0) := fun F cov => by
    refine ⟨fun b o h1 h2 h3 => ?_, fun b o h1 h2 h3 => ?_⟩
    · obtain ⟨hno, o', ho'⟩ := alive F b o h2 h3
      refine cov b o' (fun q => ?_) (fun q => nomatch q) ho'
      rw [hfc] at q
      rcases List.mem_cons.mp q with rfl | q
      · exact hno (.head _)
      · exact h1 q
    · obtain ⟨o', ho'⟩ := F.eff.alive b o h2 h3
      exact cov b o' h1 (fun q => nomatch q) ho'
  rcases h with ⟨m, s₂, args, h', F, hx, rfl⟩ | ⟨m, s₂, F, base, a0, l', hfr', fly, cov, eff⟩
  · refine wpAny_leaves_madeW (base := hideAll s₂.heap (frs (A.deeper env))) (h := s₂.heap) hfr hef (fun b o => of_hideAll _) (funFrames fun x hx' => ?_) hx fun h'' t fly tup tn up => ?_
    · obtain ⟨l2, hl2, h2⟩ := F.cx.fx
      have : l2 = env :: l := by rw [hfr] at hl2; exact (Option.some.inj hl2).symm
      subst this
      obtain ⟨k1, L, k2, k3, k4⟩ := h2 x hx'
      refine ⟨k1, L, k2, hideAll_none _ ?_, k4⟩
      unfold frs; rw [hl2]; exact List.mem_filterMap.mpr ⟨x, hx', k2⟩
    · obtain ⟨c1, c2⟩ := covOf F hide_cov
      refine ⟨e, cls, rfl, hK, _, _, l, hl, fly, c1, ?_⟩
      have e2 : Eff w (frs (A.deeper env)) (own env ++ mu0) s₁ { s₂ with heap := h' } := F.eff.trans ((Eff.keeps (s' := { s₂ with heap := h' }) hx.keeps rfl rfl).of)
      exact e1.leave (effBase c2 (fun b o q => hx.keeps b o (of_hideAll _ q)) fly.1 up e2 (fx1 F) F.low) ⟨l, hl⟩ hef hL
  · rw [hfr] at hfr'; cases hfr'
    refine wpAny_leaves_onW hfr hef fly fun h'' fly' up => ?_
    obtain ⟨c1, c2⟩ := covOf F cov
    refine ⟨e, cls, rfl, hK, base, a0, l, hl, fly', c1, ?_⟩
    have e2 : Eff w (frs (A.deeper env)) (own env ++ mu0) s₁ s' := F.eff.trans (eff.mono (fun _ q => q) fun _ q => nomatch q)
    exact e1.leave (effBase c2 fly.1 fly'.1 up e2 (fx1 F) F.low) ⟨l, hl⟩ hef hL
theorem runE {E : Value → Shared → Prop} {f : Addr} (p : FnPk w f) {args : Args} (mu0 : List Addr) (binds : List (Str × Value)) {Q : Value → Shared → Prop} (K : Value → Prop) (C : Cx w (n + 1) A s) (hmu : ∀ b ∈ mu0, NB ≤ b ∧ b < s.heap.objs.size ∧ b ∉ frs A)
    (hbind : BindsTo s p.fd args binds) (hkind : kindsOk p.fd binds = true)
    (hE : ∀ e cls s', K cls → Thrown w A mu0 s s' e cls → E (.ref e) s')
    (h : ∀ L s₁, s.heap.objs.size ≤ L → Eff w [] [] s s₁ → Fm w (own (envP p L) ++ mu0) (envP p L) n (A.deeper (envP p L)) s₁ (bindM binds fun _ => none) s₁ →
      wpAny (model prg w) (A.deeper (envP p L)) (execs p.body (envP p L)) (Left w A (envP p L) mu0 s s₁ Q) (Rz w (own (envP p L) ++ mu0) (envP p L) n (A.deeper (envP p L)) s₁ K) s₁) :
    codeAny (model prg w) A (.call (.ref f) args) (fun r s' => match r with | .ok (.ret v) => Q v s' | .ok _ => False | .error e => E e s') s := by
  refine enter mu0 C hmu p.look p.code p.hb hbind hkind p.st fun s₁ e1 F => ?_
  refine wpAny_mono (h _ s₁ (Nat.le_refl _) e1 F) (fun fl s' q => ?_) fun v s' q => ?_
  · exact q.2 (e1.leave q.1 (let ⟨l, hl, _⟩ := C.fx; ⟨l, hl⟩) rfl (own_above _ _ _))
  · refine wpAny_mono (leaveRz (E := fun _ _ => False) C e1 rfl (own_above _ _ _) q) (fun _ s'' r => ?_) fun _ _ x => x.elim
    obtain ⟨e, cls, rfl, hK, T⟩ := r
    exact hE e cls s'' hK T
end
end Mine
end
section
open PySem PySem.W PyProof.Rows PySem.Calls
namespace Mine
section
variable {w : World} {mu : List Addr} {env : Env} {n : Nat} {A : Around} {g s s' s₁ s₂ : Shared} {m : Str → Option Value} {E : Value → Shared → Prop} {e : Addr} {cls : Value} {pos px : Pos}
theorem flying_keeps {base h h' : Heap} {l : List Env} {a0 : Value} (x : Heap.FlyingW base l e cls a0 h) (k : ∀ b o, h.get? b = some o → h'.get? b = some o) : Heap.FlyingW base l e cls a0 h' := by
  obtain ⟨f1, f2, f3, oe, vs, T, oT, ts, a1, a2, a3, a4, a5, a6, a7, a8⟩ := x
  exact ⟨fun b o q => k _ _ (f1 b o q), f2, f3.of_keeps fun b o q _ => ⟨o, k b o q, rfl⟩, oe, vs, T, oT, ts, k _ _ a1, a2, a3, a4, a5, a6, k _ _ a7, a8⟩
theorem Thrown.keeps {h' : Heap} {tk : Nat} (x : Thrown w A mu s s' e cls) (k : ∀ b o, s'.heap.get? b = some o → h'.get? b = some o) : Thrown w A mu s { s' with heap := h', toks := tk } e cls := by
  obtain ⟨base, a0, l, h1, h2, h3, h4⟩ := x
  exact ⟨base, a0, l, h1, flying_keeps h2 k, h3, h4.trans ((Eff.keeps (s' := { s' with heap := h', toks := tk }) k rfl rfl).of)⟩
theorem Thrown.has (x : Thrown w A mu s s' e cls) : ∃ oe, s'.heap.get? e = some oe ∧ oe.cls = cls := by
  obtain ⟨base, a0, l, h1, h2, h3, h4⟩ := x
  exact h2.there
theorem Thrown.slots {h' : Heap} (F : Fm w mu env n A g m s) (x : Thrown w A [] s s' e cls) {base : Heap} {a0 : Value} {l : List Env} (hfr : A.frames = some l) (hfl : Heap.FlyingW base l e cls a0 s'.heap) (hc : Cov s base (frs A) []) (hfl' : Heap.FlyingW base l e cls a0 h') (up : s'.heap.UpToSlots h') (he : Eff w (frs A) [] s s') : Thrown w A [] s { s' with heap := h' } e cls :=
  ⟨base, a0, l, hfr, hfl', hc, effBase hc hfl.1 hfl'.1 up he (fun b hb => ⟨(F.fx2 b hb).1, fun _ => (F.fx2 b hb).2⟩) fun _ q => nomatch q⟩
theorem bu' {A' : Around} {x : Str} {v : Value} {Q : Value → Shared → Prop} (F : Fm w mu env n A g m s) (W : WW w s'.heap) (e : nsIn (KK w) mainGlobals x = some none) (hv : bootBuiltins x = some v) (h : Q v s')
    (hx : autoParam (env.kindOf x = some .globalImplicit) byRfl) (hn : autoParam (x ≠ "__name__") byDecide) (hd : autoParam ((x == ("__debug__" : Str)) = false) byDecide) : wpAny (model prg w) A' (eval (.Name x pos) env) Q E s' := by
  refine Calls.Name_function_global F.kind hx ?_ hd
  unfold loadGlobal
  rw [F.glob, F.bui]
  refine wpAny_bind ((looks_nsIn W.kin e).here ?_)
  obtain ⟨mb, hb, hm⟩ := W.bi
  refine wpAny_bind (wpAny_nsGet hb ?_)
  rw [hm x hn, hv]; exact wpAny_pure h
theorem gl' {A' : Around} {x : Str} {v : Value} {Q : Value → Shared → Prop} (F : Fm w mu env n A g m s) (W : WW w s'.heap) (e : nsIn (KK w) mainGlobals x = some (some v)) (h : Q v s')
    (hx : autoParam (env.kindOf x = some .globalImplicit) byRfl) (hd : autoParam ((x == ("__debug__" : Str)) = false) byDecide) : wpAny (model prg w) A' (eval (.Name x pos) env) Q E s' := by
  refine Calls.Name_function_global F.kind hx ?_ hd
  unfold loadGlobal
  rw [F.glob]
  exact wpAny_bind ((looks_nsIn W.kin e).here (wpAny_pure h))
inductive Caught (w : World) (mu : List Addr) (env : Env) (n : Nat) (A : Around) (g : Shared) (E : Value → Shared → Prop) (t : Expr) (suite rest : List Stmt) (Q : Flow → Shared → Prop) (v : Value) (s₁ : Shared) : Prop
  | mk (e : Addr) (cls : Value) (m : Str → Option Value) (s : Shared) (hv : v = .ref e) (F : Fm w mu env n A g m s) (T : Thrown w A [] s s₁ e cls)
    (test : ∀ s₃, Thrown w A [] s s₃ e cls → WW w s₃.heap → wpAny (model prg w) (A.mark (some (.ref e))) (eval t env) (fun c s₄ => Thrown w A [] s s₄ e cls ∧ Looks (model prg w) s₄.heap (excMatches (.ref e) c) true) (fun _ _ => False) s₃)
    (go : ∀ s₅, Fm w mu env n A g m s₅ → wpAny (model prg w) (A.mark (some (.ref e))) (execs suite env) (andThen w A env E rest Q) (fun _ _ => False) s₅) : Caught w mu env n A g E t suite rest Q v s₁
theorem xTry {body orelse rest : List Stmt} {t : Expr} {b₀ : Stmt} {suite : List Stmt} {hs : List ExceptHandler} {hpos : Pos} {Q : Flow → Shared → Prop} {outer : List Env} (hfr : A.frames = some (env :: outer)) (hef : env.frame = some env.locals)
    (h : wpAny (model prg w) A (execs body env) (fun f s₁ => match f with | .next => wpAny (model prg w) A (execs orelse env) (andThen w A env E rest Q) E s₁ | f => andThen w A env E rest Q f s₁) (Caught w mu env n A g E t (b₀ :: suite) rest Q) s) :
    wpAny (model prg w) A (execs (.Try body (.ExceptHandler (some t) none (b₀ :: suite) hpos :: hs) orelse [] pos :: rest) env) Q E s := by
  refine sCons (wpAny_Try_except (wpAny_mono h (fun f s₁ q => ?_) fun v s₁ q => ?_))
  · cases f <;> exact q
  · obtain ⟨e, cls, m, s, rfl, F, T, ht, hsuite⟩ := q
    obtain ⟨base, a0, l, hfr', fly, cov, eff⟩ := id T
    rw [hfr] at hfr'; cases hfr'
    refine wpAny_looks_onW hfr hef fly fun h₂ held up₂ => ?_
    refine wpAny_landsW held fun h₃ fly₃ up₃ => ?_
    have T₃ : Thrown w A [] s { s₁ with heap := h₃ } e cls := T.slots F hfr fly cov fly₃ (up₂.trans up₃) eff
    have W₃ : WW w h₃ := by obtain ⟨_, _, _, _, _, _, e3⟩ := T₃; exact e3.ww F.ww
    refine wpAny_handleBy_cons (codeAny_handlers_test (wpAny_mono (ht _ T₃ W₃) (fun c s₄ q => ?_) fun _ _ q => q.elim)) (by intro q; cases q)
    obtain ⟨T₄, hm⟩ := q
    refine hm.here (codeAny_handlers_suite ?_)
    obtain ⟨base₄, a₄, l₄, hfr₄, fly₄, cov₄, eff₄⟩ := id T₄
    refine lands_againW fly₄ fun h₅ fly₅ up₅ => ?_
    have T₅ := T₄.slots F hfr₄ fly₄ cov₄ fly₅ up₅ eff₄
    obtain ⟨_, _, _, _, _, _, e5⟩ := T₅
    exact wpAny_mono (hsuite _ (F.go e5)) (fun f s₆ q => q) fun _ _ q => q.elim
theorem clause1 {x : Str} {T : String} (F : Fm w mu env n A g m s) (hn : nsIn (KK w) mainGlobals x = some none) (hv : bootBuiltins x = some (.type T)) (hm : exmOne (KK w) cls (.type T) = some true)
    (hx : autoParam (env.kindOf x = some .globalImplicit) byRfl) (hn' : autoParam (x ≠ "__name__") byDecide) (hd : autoParam ((x == ("__debug__" : Str)) = false) byDecide) :
    ∀ s₃, Thrown w A [] s s₃ e cls → WW w s₃.heap → wpAny (model prg w) (A.mark (some (.ref e))) (eval (.Name x pos) env) (fun c s₄ => Thrown w A [] s s₄ e cls ∧ Looks (model prg w) s₄.heap (excMatches (.ref e) c) true) (fun _ _ => False) s₃ :=
  fun s₃ T W => bu' F W hn hv ⟨T, exm_one W.kin (by obtain ⟨oe, he, hc⟩ := T.has; exact hc ▸ (Looks.ld he).andThen .now) hm⟩ hx hn' hd
theorem clauseO {x : Str} {C : Addr} (F : Fm w mu env n A g m s) (hn : nsIn (KK w) mainGlobals x = some (some (.ref C))) (hm : exmOne (KK w) cls (.ref C) = some true)
    (hx : autoParam (env.kindOf x = some .globalImplicit) byRfl) (hd : autoParam ((x == ("__debug__" : Str)) = false) byDecide) :
    ∀ s₃, Thrown w A [] s s₃ e cls → WW w s₃.heap → wpAny (model prg w) (A.mark (some (.ref e))) (eval (.Name x pos) env) (fun c s₄ => Thrown w A [] s s₄ e cls ∧ Looks (model prg w) s₄.heap (excMatches (.ref e) c) true) (fun _ _ => False) s₃ :=
  fun s₃ T W => gl' F W hn ⟨T, exm_one W.kin (by obtain ⟨oe, he, hc⟩ := T.has; exact hc ▸ (Looks.ld he).andThen .now) hm⟩ hx hd
theorem exT : exmOne (KK w) (.type "ValueError") (.type "ValueError") = some true := by kernel_rfl
theorem exR : exmOne (KK w) (.ref 31) (.ref 31) = some true := by kernel_rfl
theorem exK : exmAny (KK w) (.type "KeyError") [.ref 107, .type "KeyError"] = some true := by kernel_rfl
end
end Mine
end
section
open PySem PySem.W PyProof.Rows PySem.Calls
namespace Mine
theorem strKeys_of {es : Array DictEntry} (h : es.toList.all (fun e => match e.key with | .str _ _ => true | _ => false) = true) : StrKeys es := fun e he => by
  have := List.all_eq_true.mp h e (by simpa using he)
  revert this
  cases e.key <;> intro this <;> first | exact ⟨_, _, rfl⟩ | cases this
section
variable {w : World} {mu : List Addr} {env : Env} {n : Nat} {A : Around} {g s s' s₁ s₂ : Shared} {m : Str → Option Value} {E : Value → Shared → Prop} {e : Addr} {cls : Value} {pos px cpos : Pos}
theorem xRaise {V K : Value → Prop} {cl newId initId : String} (FC : ExcCallFacts cl newId initId) (FR : ExcRaiseFacts cl) {x : Str} {e₀ : Expr} {rest : List Stmt} {Q : Flow → Shared → Prop} (F : Fm w mu env n A g m s)
    (hn : nsIn (KK w) mainGlobals x = some none) (hv : bootBuiltins x = some (.type cl)) (ha : Ev w mu env n A g m V e₀) (hK : K (.type cl))
    (he : autoParam (starEach [e₀] env = [(false, eval e₀ env)]) byRfl) (hx : autoParam (env.kindOf x = some .globalImplicit) byRfl) (hn' : autoParam (x ≠ "__name__") byDecide) (hd : autoParam ((x == ("__debug__" : Str)) = false) byDecide) :
    wpAny (model prg w) A (execs (.Raise (some (.Call (.Name x px) [e₀] [] cpos)) none pos :: rest) env) Q (Rz w mu env n A g K) s := by
  refine sCons (Raise_madeB FC FR F.hh (bu F hn hv ⟨rfl, ?_⟩ hx hn' hd) he (by rfl))
  rw [he]
  refine Calls.spliced_cons (ha s F _ _ fun v s₁ F₁ hv => Calls.spliced_nil ⟨by rw [sizeLine_eq]; simp, fun h' e hm => ?_⟩)
  exact ⟨e, _, rfl, hK, .inl ⟨_, _, _, h', F₁, PySem.Heap.MadeExc.of hm, rfl⟩⟩
theorem o31 : ∃ nm q bs bm hdct sn sub ab col dd k0 k1 k2 k3 k5, (KK w).lookup 31 = some (excClassObj nm q 31 30 bs [.type "Exception", .type "BaseException", .type "object"] hdct sn sub ab col dd k0 k1 k2 k3 k5 "Exception.__new__") ∧ bm = 0 :=
  ⟨_, _, _, 0, _, _, _, _, _, _, _, _, _, _, _, rfl, rfl⟩
theorem n30 (W : WW w s.heap) : ∃ mN, s.heap.Ns 30 mN ∧ mN "__init__" = none := by
  have key : ∃ o es ep, (KK w).lookup 30 = some o ∧ o.data = .dict es ep ∧ es.toList.all (fun e => match e.key with | .str _ _ => true | _ => false) = true ∧ nsFind es "__init__" = none := ⟨_, _, _, rfl, rfl, by kernel_rfl, by kernel_rfl⟩
  obtain ⟨o, es, ep, h1, h2, h3, h4⟩ := key
  exact ⟨fun x => nsFind es x, ⟨o, es, ep, W.kin 30 o h1, h2, strKeys_of h3, fun _ => rfl⟩, h4⟩
theorem xRaiseR {V K : Value → Prop} {x : Str} {e₀ : Expr} {rest : List Stmt} {Q : Flow → Shared → Prop} (F : Fm w mu env n A g m s)
    (hn : nsIn (KK w) mainGlobals x = some (some (.ref 31))) (ha : Ev w mu env n A g m V e₀) (hK : K (.ref 31))
    (he : autoParam (starEach [e₀] env = [(false, eval e₀ env)]) byRfl) (hx : autoParam (env.kindOf x = some .globalImplicit) byRfl) (hd : autoParam ((x == ("__debug__" : Str)) = false) byDecide) :
    wpAny (model prg w) A (execs (.Raise (some (.Call (.Name x px) [e₀] [] cpos)) none pos :: rest) env) Q (Rz w mu env n A g K) s := by
  obtain ⟨nm, q, bs, bm, hdct, sn, sub, ab, col, dd, k0, k1, k2, k3, k5, hC, _⟩ := o31 (w := w)
  obtain ⟨mN, hN0, hni⟩ := n30 F.ww
  refine sCons (wpAny_Raise_call_sub (C := 31) (N := 30) (nm := nm) (q := q) (bs := bs) (hdct := hdct) (sn := sn) (sub := sub) (ab := ab) (col := col) (dd := dd) (k0 := k0) (k1 := k1) (k2 := k2) (k3 := k3) (k5 := k5) PySem.F.excBase_Exception F.hh (by rw [he]; rfl) (mN := mN) hni (gl F hn ⟨rfl, ?_⟩ hx hd))
  rw [he]
  refine Calls.evalArgs_plain (Calls.spliced_cons (ha s F _ _ fun v s₁ F₁ hv => Calls.spliced_nil ⟨rfl, by rw [sizeLine_eq]; simp, F₁.ww.kin _ _ hC, ?_, fun h' e hm => ?_⟩))
  · obtain ⟨o, es, ep, h1, h2, h3⟩ := hN0
    have : (KK w).lookup 30 = some o := by
      have h30 : ∃ o', (KK w).lookup 30 = some o' := ⟨_, rfl⟩
      obtain ⟨o', h30⟩ := h30
      have := F.ww.kin _ _ h30
      rw [h1] at this; cases this; exact h30
    exact ⟨o, es, ep, F₁.ww.kin _ _ this, h2, h3⟩
  · exact ⟨e, _, rfl, hK, .inl ⟨_, _, _, h', F₁, hm, rfl⟩⟩
end
end Mine
end
section
open PySem PySem.W PyProof.Rows PySem.Calls
namespace Mine
section
variable {w : World} {n : Nat} {A : Around} {s : Shared} {E : Value → Shared → Prop} {Q : Value → Shared → Prop}
noncomputable def p_psv (w : World) : FnPk w 117 := ⟨_, _, rfl, by kernel_rfl, rfl, ⟨⟨rfl, rfl, rfl⟩, rfl, rfl, rfl⟩⟩
theorem d_psv : IsDef w "parse_symref_value" 117 := ⟨by kernel_rfl, by kernel_rfl⟩
theorem no_VE : nsIn (KK w) mainGlobals "ValueError" = some none := by kernel_rfl
theorem boot_VE : bootBuiltins "ValueError" = some (.type "ValueError") := by decide +kernel
theorem g_SYMREF : ∃ t, nsIn (KK w) mainGlobals "SYMREF" = some (some (.bytes REF.toArray t)) := ⟨282, by kernel_rfl⟩
noncomputable def IsVE (v : Value) : Prop := v = .type "ValueError"
noncomputable def psv (l : By) : Option By := if REF.isPrefixOf l then some (rstripB [13, 10] (l.drop 5)) else none
theorem s_psv {l : By} {t : Tok} (C : Cx w (n + 1) A s) (hz : l.length ≤ 4096)
    (h : ∀ p v s', psv l = some p → IsB p v → Eff w (frs A) [] s s' → Q v s') (hE : psv l = none → ∀ e cls s', IsVE cls → Thrown w A [] s s' e cls → E (.ref e) s') :
    wpAny (model prg w) A (call (.ref 117) [.bytes l.toArray t]) Q E s := by
  by_cases hp : REF.isPrefixOf l = true
  · refine wpAny_call (codeAny_mono (run (p_psv w) [] [("contents", .bytes l.toArray t)] (Q := Q) (E := E) C (fun _ h => nomatch h) (BindsTo.of_eq rfl) rfl fun L s₁ hL e1 F => ?_) fun r s' q => ?_)
    · rw [List.append_nil] at F
      refine xIf1 F (tPlain (eM1 m_startswith (eL (V := IsB l) rfl ⟨_, rfl⟩) (eG g_SYMREF.choose_spec ⟨_, rfl⟩) dStarts) truth_bool) (fun h1 s₂ F₂ => ?_) fun h1 s₂ F₂ => ?_
      · refine xRet F₂ (eM1 m_rstrip (eSlE (cut_from l 5) (eL rfl ⟨_, rfl⟩) (pSome (eLen (e' := no_len) (eG g_SYMREF.choose_spec ⟨_, rfl⟩) (by decide))) pNone (by with_reducible exact leK (by assumption) rfl)) eB (dRstrip (by rw [sizeLine_eq]; simp; with_reducible exact leK (by assumption) rfl))) fun v s' hv F' => ⟨by rw [List.append_nil]; exact F'.eff, fun e => h _ _ _ (by unfold psv; rw [if_pos hp]) hv e⟩
      · rw [hp] at h1; cases h1
    · exact q
  · refine wpAny_call (codeAny_mono (runE (p_psv w) [] [("contents", .bytes l.toArray t)] (Q := Q) (E := E) IsVE C (fun _ h => nomatch h) (BindsTo.of_eq rfl) rfl (hE (by unfold psv; rw [if_neg hp])) fun L s₁ hL e1 F => ?_) fun r s' q => q)
    rw [List.append_nil] at F ⊢
    refine xIf1 F (tPlain (eM1 m_startswith (eL (V := IsB l) rfl ⟨_, rfl⟩) (eG g_SYMREF.choose_spec ⟨_, rfl⟩) dStarts) truth_bool) (fun h1 s₂ F₂ => absurd h1 hp) fun h1 s₂ F₂ => ?_
    exact xRaise PySem.F.excCall_ValueError PySem.F.excRaise_ValueError F₂ no_VE boot_VE (eL (V := fun _ => True) rfl trivial) rfl
noncomputable def p_pointed (w : World) : FnPk w 365 := ⟨_, _, rfl, by kernel_rfl, rfl, ⟨⟨rfl, rfl, rfl⟩, rfl, rfl, rfl⟩⟩
theorem d_pointed : IsDef w "_law_pointed" 365 := ⟨by kernel_rfl, by kernel_rfl⟩
theorem s_pointed {l : By} {t : Tok} (C : Cx w (n + 2) A s) (hz : l.length ≤ 4096) (h : ∀ v s', Eff w (frs A) [] s s' → OptB (psv l) v → Q v s') :
    wpAny (model prg w) A (call (.ref 365) [.bytes l.toArray t]) Q E s := by
  refine wpAny_call (run (p_pointed w) [] [("text", .bytes l.toArray t)] C (fun _ h => nomatch h) (BindsTo.of_eq rfl) rfl fun L s₁ hL e1 F => ?_)
  rw [List.append_nil] at F
  have fin : ∀ {v : Value} {s' : Shared}, OptB (psv l) v → Eff w (frs (A.deeper (envP (p_pointed w) L))) (own (envP (p_pointed w) L)) s₁ s' → Left w A (envP (p_pointed w) L) [] s s₁ Q (.ret v) s' := fun hv e => ⟨by rw [List.append_nil]; exact e, fun e' => h _ _ e' hv⟩
  obtain ⟨lf, hlf, _⟩ := C.fx
  refine xTry (mu := own (envP (p_pointed w) L)) (n := n + 1) (g := s₁) (Around.frames_deeper hlf) rfl ?_
  refine sRet (evc1 F d_psv (ldl F rfl ⟨F.ww, s_psv F.cx hz (fun p v s' hp hv e => ?_) fun hp e cls s' hc T => ?_⟩))
  · exact fin (by rw [hp]; exact hv) (F.go e).eff
  · have hc : cls = .type "ValueError" := hc
    subst hc
    refine ⟨e, _, _, _, rfl, F, T, clause1 F no_VE boot_VE exT, fun s₅ F₅ => sRet (kNone ?_)⟩
    exact fin (by rw [hp]; rfl) F₅.eff
end
end Mine
end
section
open PySem PySem.W PyProof.Rows PySem.Calls PySem.Builtin
namespace Mine
theorem slot_brepr : Slot "bytes" "__repr__" "bytes.__repr__" :=
  .of (owner := "bytes") (n := "__repr__") (by rw [typeLookup_type, builtinLookup_eq_fast]; kernel_rfl) (by decide +kernel) (by decide +kernel) (by decide +kernel)
    (by first | exact .inl (by decide +kernel) | exact .inr (by decide +kernel)) (by rw [isSubtype_type]; kernel_rfl)
theorem entry_brepr : entryFor table "bytes.__repr__" = some Builtin.«bytes.__repr__» := entryFor_of_tree (by kernel_rfl)
theorem args_brepr (a : Value) : argsOk "bytes.__repr__" ⟨[a], []⟩ := by unfold argsOk; kernel_rfl
theorem literal_len (b : Array UInt8) : (Bytes.literal b).length ≤ 4 * b.size + 3 := by
  unfold Bytes.literal
  dsimp only [PySem.Str.length]
  rw [Array.size_push]
  have key : ∀ (f : UInt8 → Array Nat) (l : List UInt8) (acc : Array Nat), (∀ c, (f c).size ≤ 4) → (l.foldl (fun a c => a ++ f c) acc).size ≤ acc.size + 4 * l.length := by
    intro f l
    induction l with
    | nil => intro acc _; simp
    | cons c r ih =>
      intro acc hf
      have h1 := ih (acc ++ f c) hf
      have h2 := hf c
      rw [Array.size_append] at h1
      simp only [List.foldl_cons, List.length_cons]
      omega
  rw [← Array.foldl_toList]
  refine Nat.le_trans (Nat.succ_le_succ (key _ b.toList _ fun c => ?_)) (by simp; omega)
  repeat' split
  all_goals simp
theorem gives_brepr (b : Array UInt8) (t : Tok) (hz : b.size ≤ 100000) : Gives (Builtin.«bytes.__repr__» ⟨[.bytes b t], []⟩) (.str (Bytes.literal b)) := by
  refine .of_wp fun M A E s Q hq => ?_
  show wpAny M A (Bytes.literalAsked b >>= fun r => retStr r) _ E s
  have h1 : Bytes.tooLong (4 * b.size + 3 + 0) = false := by
    simp only [Bytes.tooLong, sizeLine_eq]; simp; omega
  unfold Bytes.literalAsked
  rw [h1]
  refine wpAny_bind (wpAny_pure ?_)
  obtain ⟨hl, hq⟩ := hq
  exact wpAny_bind (wpAny_mkStr (wpAny_pure ⟨_, rfl, hq⟩) hl)
section
variable {w : World} {mu : List Addr} {env : Env} {n : Nat} {A : Around} {g s s' s₁ s₂ : Shared} {m : Str → Option Value} {E : Value → Shared → Prop} {Q : Value → Shared → Prop} {l : By} {pos p1 p2 : Pos} {k : Nat} {x : Str} {v : Expr}
theorem eFstr (hx : x.length ≤ 100) (hz : l.length ≤ 100000) (h : Ev w mu env n A g m (IsB l) v) : Ev w mu env n A g m (fun _ => True) (.JoinedStr [.Constant (.str x) k p1, .FormattedValue v 114 none p2] pos) := fun s F Q E q => by
  refine wpAny_JoinedStr ?_
  have hlit := literal_len l.toArray
  have hll : l.toArray.size = l.length := by simp
  have he : Str.empty.length = 0 := rfl
  refine wpAny_Constant_str ⟨x, _, rfl, by rw [sizeLine_eq, strLen_append]; with_reducible exact leB (by assumption) rfl, ?_⟩
  have F₁ := F.toks (s.toks + 1)
  refine wpAny_FormattedValue_repr (h _ F₁ _ _ fun u s₂ F₂ ⟨t, hv⟩ => ?_)
  subst hv
  refine wpAny_pyReprObj_gives (typeIs_bytes _ _ _) slot_brepr entry_brepr (args_brepr _) (gives_brepr _ t (by simp; with_reducible exact leK (by assumption) rfl)) ?_ rfl (by rw [sizeLine_eq]; omega)
  have F₃ := F₂.toks (s₂.toks + 1)
  have fin : ∀ (s₄ : Shared) tk, Fm w mu env n A g m s₄ → ∃ y t, (Value.str (Bytes.literal l.toArray) tk) = .str y t ∧ (Str.empty ++ x ++ y).length ≤ sizeLine ∧ Joins (model prg w) A E [] (Str.empty ++ x ++ y) (fun out s₁ => out.length ≤ sizeLine ∧ Q (.str out s₁.toks) { s₁ with toks := s₁.toks + 1 }) s₄ := fun s₄ tk F₄ => by
    have hb : (Str.empty ++ x ++ Bytes.literal l.toArray).length ≤ sizeLine := by rw [sizeLine_eq, strLen_append, strLen_append]; omega
    exact ⟨_, _, rfl, hb, hb, q _ _ (F₄.toks _) trivial⟩
  exact wpAny_formatField_str (fin _ _ F₃) (fin _ _ (F₃.toks _)) (by rw [sizeLine_eq]; omega)
end
end Mine
end
section
open PySem PySem.W PyProof.Rows PySem.Calls
namespace Mine
section
variable {w : World} {mu : List Addr} {env : Env} {n : Nat} {A : Around} {g s s' s₁ s₂ : Shared} {m : Str → Option Value} {E : Value → Shared → Prop}
theorem asgL2 {x y : Str} {px py p : Pos} {k : Nat} {l : Addr} {a b : Value} {R : Unit → Shared → Prop} (F : Fm w mu env n A g m s) (hl : s.heap.IsList l #[a, b]) (h : ∀ s', Fm w mu env n A g (upd (upd m x a) y b) s' → R () s')
    (hx : autoParam (env.kindOf x = some .local) byRfl) (hy : autoParam (env.kindOf y = some .local) byRfl) : wpAny (model prg w) A (assign (tgt2 x y px py k p) env (.ref l)) R E s := by
  have hne : l ≠ s.heap.objs.size := by obtain ⟨o, ho, _⟩ := hl; exact Nat.ne_of_lt (Heap.lt_size ho)
  rw [arm_assign_Tuple]
  refine wpAny_bind (wpAny_standAt ?_)
  have key : ∀ (Q : List Value → Shared → Prop), (∀ h', Heap.ExtBut s.heap.objs.size s.heap h' → Q [a, b] { s with heap := h' }) → wpAny (model prg w) A (unpackItems (.ref l) 2 none) Q E s := fun Q hQ => by
    unfold unpackItems
    refine wpAny_bind ?_
    unfold notIterableAtAll
    refine wpAny_bind (wpAny_specialOf hl.typeIs slot_list_iter.lookup ?_)
    refine wpAny_pure ?_
    simp only [Bool.false_eq_true, if_false]
    refine wpAny_bind (wpAny_holding (wpAny_pyIter_list hl ?_))
    have hit₀ : (s.heap.push { cls := .type "list_iterator", data := .fields #[.ref l, .int 0 0] }).IsListIter s.heap.objs.size l 0 := ⟨_, Heap.get?_push_size _ rfl, rfl, rfl⟩
    have hl₀ := hl.push { cls := .type "list_iterator", data := .fields #[.ref l, .int 0 0] }
    refine wpAny_bind (wpAny_holding ?_)
    show wpAny _ _ (pyNext (.ref s.heap.objs.size) >>= _) _ _ _
    refine wpAny_bind (wpAny_pyNext_list_item hit₀ hl₀ (x := a) rfl fun h₁ hit₁ hs₁ => ?_)
    have hl₁ := hl₀.extBut hs₁.extBut hne
    refine wpAny_bind (wpAny_holding ?_)
    show wpAny _ _ (pyNext (.ref s.heap.objs.size) >>= _) _ _ _
    refine wpAny_bind (wpAny_pyNext_list_item hit₁ hl₁ (x := b) rfl fun h₂ hit₂ hs₂ => ?_)
    have hl₂ := hl₁.extBut hs₂.extBut hne
    refine wpAny_bind (wpAny_holding (wpAny_pure ?_))
    refine wpAny_pure (wpAny_pure ?_)
    rw [if_neg (by simp)]
    refine wpAny_bind (wpAny_holding (wpAny_pyNext_list_end F.hh hit₂ hl₂ (by simp) fun h₃ he₃ => ?_))
    simp only [Option.isSome_none, Bool.false_eq_true, if_false]
    exact wpAny_pure (hQ h₃ fun c o hc e => he₃ c o hc (hs₂.extBut c o hc (hs₁.extBut c o hc (Heap.get?_push_of_some _ e))))
  unfold unpack
  have e2 : (assignEach [Expr.Name x px, .Name y py] env).length = 2 := rfl
  have e3 : (assignEach [Expr.Name x px, .Name y py] env).findIdx? (·.1) = none := rfl
  rw [e2, e3]
  refine wpAny_bind (wpAny_holding (key _ fun h' hk => ?_))
  have F' : Fm w mu env n A g m { s with heap := h' } := F.go (fr := []) (.keeps (fun b o e => hk b o (fun q => Nat.lt_irrefl _ (q ▸ Heap.lt_size e)) e) rfl rfl)
  show wpAny _ A (do holding [b] (assign (.Name x px) env a); assignInOrder [assign (.Name y py) env] [b]) R E _
  refine wpAny_bind (wpAny_holding (asgName (st F' (fun s₁ F₁ => ?_) hx)))
  show wpAny _ A (do holding [] (assign (.Name y py) env b); assignInOrder [] []) R E _
  refine wpAny_bind (wpAny_holding (asgName (st F₁ (fun s₂ F₂ => ?_) hy)))
  exact wpAny_pure (h s₂ F₂)
noncomputable def PFX : By := [114, 101, 102, 115, 47, 114, 101, 109, 111, 116, 101, 115, 47]
noncomputable def prr (l : By) : Option (By × By) := if PFX.isPrefixOf l then (match split1B 47 (l.drop 13) with | [a, b] => some (a, b) | _ => none) else none
noncomputable def TupB (a b : By) (v : Value) (s : Shared) : Prop := ∃ T vs, v = .ref T ∧ s.heap.IsTuple T vs.toArray ∧ BytesAre vs [a, b]
noncomputable def p_prr (w : World) : FnPk w 138 := ⟨_, _, rfl, by kernel_rfl, rfl, ⟨⟨rfl, rfl, rfl⟩, rfl, rfl, rfl⟩⟩
theorem d_prr : IsDef w "parse_remote_ref" 138 := ⟨by kernel_rfl, by kernel_rfl⟩
theorem g_PFX : ∃ t, nsIn (KK w) mainGlobals "LOCAL_REMOTE_PREFIX" = some (some (.bytes PFX.toArray t)) := ⟨284, by kernel_rfl⟩
theorem s_prr {l : By} {t : Tok} {Q : Value → Shared → Prop} (C : Cx w (n + 1) A s) (hz : l.length ≤ 4096)
    (h : ∀ a b T vs s', prr l = some (a, b) → s'.heap.IsTuple T vs.toArray → BytesAre vs [a, b] → Fresh w s T → Eff w (frs A) [] s s' → Q (.ref T) s') (hE : prr l = none → ∀ e cls s', IsVE cls → Thrown w A [] s s' e cls → E (.ref e) s') :
    wpAny (model prg w) A (call (.ref 138) [.bytes l.toArray t]) Q E s := by
  refine wpAny_call (codeAny_mono (runE (p_prr w) [] [("ref", .bytes l.toArray t)] (Q := Q) (E := E) (fun v => IsVE v ∧ prr l = none) C (fun _ h => nomatch h) (BindsTo.of_eq rfl) rfl (fun e cls s' hK T => hE hK.2 e cls s' hK.1 T) fun L s₁ hL e1 F => ?_) fun r s' q => q)
  rw [List.append_nil] at F ⊢
  have cz : ∀ p ∈ (envP (p_prr w) L).cells, (envP (p_prr w) L).cells.lookup p.1 = some p.2 := fun _ h => nomatch h
  refine xIf1 F (tNot (tPlain (eM1 m_startswith (eL (V := IsB l) rfl ⟨_, rfl⟩) (eG g_PFX.choose_spec ⟨_, rfl⟩) dStarts) truth_bool)) (fun h1 s₂ F₂ => ?_) fun h1 s₂ F₂ => ?_
  · have h1 : PFX.isPrefixOf l = false := by simpa using h1
    exact xRaise PySem.F.excCall_ValueError PySem.F.excRaise_ValueError F₂ no_VE boot_VE (eFstr (by decide) (by with_reducible exact leK (by assumption) rfl) (eL rfl ⟨_, rfl⟩)) ⟨rfl, by unfold prr; rw [if_neg (by simp [h1])]⟩
  have h1 : PFX.isPrefixOf l = true := by simpa using h1
  refine xAsg F₂ (eSlE (cut_from l 13) (eL rfl ⟨_, rfl⟩) (pSome (eLen (e' := no_len) (eG g_PFX.choose_spec ⟨_, rfl⟩) (by decide))) pNone (by with_reducible exact leK (by assumption) rfl)) fun v s₃ ⟨tr, hv⟩ F₃ => ?_
  subst hv
  have hdl : (l.drop 13).length ≤ 4096 := by simp; with_reducible exact leK (by assumption) rfl
  refine sAsg (evm2 m_split (ldl F₃ rfl ⟨isB, kBytes F₃ fun t₁ s₄ F₄ => kInt F₄ fun t₂ s₅ F₅ => b_split1 (by with_reducible exact leK (by assumption) rfl) fun a s₆ vs e6 hl hvs hf => ?_⟩)) rfl
  have F₆ := F₅.go e6
  have off := F₅.fresh_off (F₅.alive cz) hf
  refine st F₆.base (fun s₇ F₇ => ?_) rfl
  have ea : Eff w (frs (A.deeper (envP (p_prr w) L))) (own (envP (p_prr w) L)) s₁ s₇ := F₆.eff.trans F₇.eff
  have hl₇ := F₇.eff.keep.list off.1 hl
  have Fb := F₇.base
  have hn2 := split1B_len 47 (l.drop 13)
  have hvl := hvs.length
  refine xIf1 Fb (tCmp (eLenL (e' := no_len) hl₇ off.1 (by omega) (eL rfl rfl)) eI cNeI) (fun h2 s₈ F₈ => ?_) fun h2 s₈ F₈ => ?_
  · refine wpAny_mono (xRaise (Q := fun _ _ => False) PySem.F.excCall_ValueError PySem.F.excRaise_ValueError (K := fun v => IsVE v ∧ prr l = none) F₈ no_VE boot_VE (eFstr (by decide) (by with_reducible exact leK (by assumption) rfl) (eL rfl ⟨_, rfl⟩)) ⟨rfl, ?_⟩) (fun _ _ q => q.elim) fun v s' q => ?_
    · unfold prr
      rw [if_pos h1]
      have h2 : ((vs.length : Int) != 2) = true := h2
      rw [hvl] at h2
      generalize split1B 47 (l.drop 13) = ps at h2
      rcases ps with _ | ⟨a, _ | ⟨b, _ | ⟨c, r⟩⟩⟩ <;> first | rfl | (simp at h2)
    · obtain ⟨e, cls, rfl, hK, h⟩ := q
      refine ⟨e, cls, rfl, hK, ?_⟩
      rcases h with ⟨m, s₂, args, h', F', r⟩ | ⟨m, s₂, F', r⟩
      · exact .inl ⟨m, s₂, args, h', (F₆.after F₇).after F', r⟩
      · exact .inr ⟨m, s₂, (F₆.after F₇).after F', r⟩
  · have h2 : ((vs.length : Int) != 2) = false := h2
    have h3 : (split1B 47 (l.drop 13)).length = 2 := by rw [← hvl]; simp at h2; omega
    obtain ⟨p, q, hpq⟩ : ∃ p q, split1B 47 (l.drop 13) = [p, q] := by
      generalize split1B 47 (l.drop 13) = ps at h3
      rcases ps with _ | ⟨a, _ | ⟨b, _ | ⟨c, r⟩⟩⟩ <;> simp at h3
      exact ⟨a, b, rfl⟩
    rw [hpq] at hvs
    obtain ⟨tp, tq, rfl⟩ : ∃ tp tq, vs = [.bytes p.toArray tp, .bytes q.toArray tq] := by
      cases hvs with
      | cons h => cases h with
        | cons h => cases h; exact ⟨_, _, rfl⟩
    refine sCons (Assign_Tuple (ldl F₈ rfl (asgL2 F₈ (F₈.eff.keep.list off.1 hl₇) fun s₉ F₉ => ?_)))
    refine sRet (dispT F₉ (eaB (eL rfl ⟨_, rfl⟩) (eaB (eL rfl ⟨_, rfl⟩) eaB0)) (fun vs hv => by rw [hv.length]; simp) fun T vs s₁₀ s₁₁ F₁₀ e11 hT hfT hvs => ?_)
    have et := ea.trans (F₁₀.go e11).eff
    refine ⟨et, fun e => h p q T vs s₁₁ ?_ hT hvs ?_ e⟩
    · unfold prr; rw [if_pos h1, hpq]
    · have offT := F₁₀.fresh_off (F₁₀.alive cz) hfT
      exact (hfT.back (ea.trans F₁₀.eff) offT.1).back e1
noncomputable def p_whose (w : World) : FnPk w 372 := ⟨_, _, rfl, by kernel_rfl, rfl, ⟨⟨rfl, rfl, rfl⟩, rfl, rfl, rfl⟩⟩
theorem d_whose : IsDef w "_law_whose" 372 := ⟨by kernel_rfl, by kernel_rfl⟩
theorem s_whose {l : By} {t : Tok} {Q : Value → Shared → Prop} (C : Cx w (n + 2) A s) (hz : l.length ≤ 4096)
    (h : ∀ a b T vs s', prr l = some (a, b) → s'.heap.IsTuple T vs.toArray → BytesAre vs [a, b] → Fresh w s T → Eff w (frs A) [] s s' → Q (.ref T) s') (h0 : ∀ s', prr l = none → Eff w (frs A) [] s s' → Q .none s') :
    wpAny (model prg w) A (call (.ref 372) [.bytes l.toArray t]) Q E s := by
  refine wpAny_call (run (p_whose w) [] [("name", .bytes l.toArray t)] C (fun _ h => nomatch h) (BindsTo.of_eq rfl) rfl fun L s₁ hL e1 F => ?_)
  rw [List.append_nil] at F
  obtain ⟨lf, hlf, _⟩ := C.fx
  refine xTry (mu := own (envP (p_whose w) L)) (n := n + 1) (g := s₁) (Around.frames_deeper hlf) rfl ?_
  refine sRet (evc1 F d_prr (ldl F rfl ⟨F.ww, s_prr F.cx hz (fun a b T vs s' hp hT hv hf e => ?_) fun hp e cls s' hc T => ?_⟩))
  · exact ⟨by rw [List.append_nil]; exact (F.go e).eff, fun e' => h a b T vs s' hp hT hv (hf.back e1) e'⟩
  · have hc : cls = .type "ValueError" := hc
    subst hc
    refine ⟨e, _, _, _, rfl, F, T, clause1 F no_VE boot_VE exT, fun s₅ F₅ => sRet (kNone ?_)⟩
    exact ⟨by rw [List.append_nil]; exact F₅.eff, fun e' => h0 s₅ hp e'⟩
end
end Mine
end
section
open PySem PySem.W PyProof.Rows PySem.Calls
namespace Mine
section
variable {w : World} {mu : List Addr} {env : Env} {n : Nat} {A : Around} {g s s' s₁ s₂ : Shared} {m : Str → Option Value} {E : Value → Shared → Prop}
theorem code130 (W : WW w s.heap) : ∃ o vs, s.heap.get? 130 = some o ∧ o.cls = .type "code" ∧ o.data = .fields vs ∧ vs[11]? = some (.ref 126) := by
  have : ∃ o vs, (KK w).lookup 130 = some o ∧ o.cls = .type "code" ∧ o.data = .fields vs ∧ vs[11]? = some (.ref 126) := ⟨_, _, rfl, rfl, rfl, rfl⟩
  obtain ⟨o, vs, h, r⟩ := this
  exact ⟨o, vs, W.kin _ _ h, r⟩
theorem isCode130 (W : WW w s.heap) {ps : Array Value} (hps : s.heap.get? 126 = some { cls := .none, data := .fields ps }) (ht : TriplesOk ps.toList) : s.heap.IsCode 130 126 ps := by
  have : ∃ o vs file tf flags tg inF text tt, (KK w).lookup 130 = some o ∧ o.data = .fields vs ∧ vs.getD 11 .none = .ref 126 ∧ vs.getD 18 .none = .str file tf ∧
    vs.getD 7 .none = .int flags tg ∧ vs.getD 9 .none = .bool inF ∧ vs.getD 10 .none = .int text tt := ⟨_, _, _, _, _, _, _, _, _, rfl, rfl, rfl, rfl, rfl, rfl, rfl⟩
  obtain ⟨o, vs, file, tf, flags, tg, inF, text, tt, h, r1, r2, r3, r4, r5, r6⟩ := this
  exact ⟨o, vs, file, tf, flags, tg, inF, text, tt, _, W.kin _ _ h, r1, r2, r3, r4, r5, r6, hps, rfl, ht, by decide⟩
theorem Eff.table {h' : Heap} {tk : Nat} {v : Value} (W : WW w s.heap) (hps : s.heap.get? 126 = some { cls := .none, data := .fields #[] }) (hx : Heap.ExtBut 126 s.heap h')
    (ht' : h'.get? 126 = some { cls := .none, data := .fields #[rawInt genPos.line, rawInt genPos.col, v] }) : Eff w [] [] s { s with heap := h', toks := tk } := by
  refine ⟨fun b o _ e hs => ?_, fun b o _ e => ?_, rfl, id, fun h0 _ ht r => ?_, fun W => ?_⟩
  · by_cases hb : b = 126
    · subst hb
      rw [hps] at e; cases e
      exact absurd rfl (hs.resolve_left (by decide))
    · exact ⟨o.slots, hx b o hb e, fun _ => rfl⟩
  · by_cases hb : b = 126
    · exact ⟨_, hb ▸ ht'⟩
    · exact ⟨o, hx b o hb e⟩
  · cases hq : h0.get? 126 with
    | none => exact Mine.OldK.step_at r fun b o₀ o h1 h2 => hx b o (fun q => by rw [q, hq] at h1; cases h1) h2
    | some o =>
      obtain ⟨c₀, oc, vs, a1, a2, a3, a4⟩ := ht o hq
      obtain ⟨oc', vs', b1, b2, b3, b4⟩ := code130 W
      have ho : ∃ ps₀, o = { cls := .none, data := .fields ps₀ } := by
        rcases r.old _ _ hq with x | ⟨_, hc, vs₁, more, hv, x⟩ | ⟨hc, _⟩
        · rw [hps] at x; cases x; exact ⟨_, rfl⟩
        · rw [hps] at x
          obtain ⟨cl, d, dt, sl⟩ := o
          simp only [Option.some.injEq, Obj.mk.injEq] at x
          obtain ⟨x1, x2, _, x4⟩ := x
          subst x1 x2 x4
          have hv : dt = .fields vs₁ := hv
          exact ⟨vs₁, by rw [hv]⟩
        · cases hc
      obtain ⟨ps₀, rfl⟩ := ho
      have e2 : (#[] : Array Value) ++ #[rawInt genPos.line, rawInt genPos.col, v] = #[rawInt genPos.line, rawInt genPos.col, v] := by simp
      exact OldK.step_table r (ps := #[]) (more := #[rawInt genPos.line, rawInt genPos.col, v]) ⟨⟨oc, vs, a1, a2, a3, a4⟩, hq⟩ ⟨⟨oc', vs', b1, b2, b3, b4⟩, hps⟩
        ⟨⟨oc', vs', hx _ _ (by decide) b1, b2, b3, b4⟩, by rw [e2]; exact ht'⟩ hx (by decide)
  · have nm : ∀ b o, b ≠ 126 → s.heap.get? b = some o → h'.get? b = some o := fun b o hb e => hx b o hb e
    have ns : ∀ a m, a ≠ 126 → s.heap.Ns a m → h'.Ns a m := fun a m hb ⟨o, es, ep, ho, r⟩ => ⟨o, es, ep, nm a o hb ho, r⟩
    refine ⟨fun b o e => nm b o (fun q => ?_) (W.kin b o e), ?_, ?_, ?_, ?_⟩
    · subst q
      have h1 := W.kin _ _ e
      rw [hps] at h1; cases h1
      have : (KK w).lookup 126 = none := by with_unfolding_all rfl
      rw [this] at e; cases e
    · obtain ⟨mb, p, q⟩ := W.bi; exact ⟨mb, ns _ _ (by decide) p, q⟩
    · obtain ⟨mc, p, q⟩ := W.lim; exact ⟨mc, ns _ _ (by decide) p, q⟩
    · exact ⟨_, ht', .inr ⟨v, rfl⟩⟩
    · obtain ⟨ob, p, q⟩ := W.bm; exact ⟨ob, nm _ _ (by decide) p, q⟩
theorem genCode {pos : Pos} {q : Str} {scope : Scope} {Q : Value → Shared → Prop} (W : WW w s.heap) (hc : env.code = .ref 130) (hp : pos = genPos) (h : ∀ c s', Eff w [] [] s s' → Q c s') : wpAny (model prg w) A (genexprCode env pos q scope) Q E s := by
  subst hp
  obtain ⟨ps, hps, hcase⟩ := W.tab
  obtain ⟨oc, vs, b1, b2, b3, b4⟩ := code130 W
  rcases hcase with rfl | ⟨v, rfl⟩
  · refine wpAny_genexprCodeX hc (isCode130 W hps trivial) ⟨⟨oc, vs, b1, b2, b3, b4⟩, hps⟩ rfl fun c' h' tk hx _ _ _ _ ht' _ => ?_
    refine h _ _ (Eff.table (v := .ref c') W hps hx ?_)
    have := ht'.2
    simpa using this
  · exact wpAny_genexprCode_hit hc (isCode130 W hps trivial) (by simp [codeAmong, rawInt]) (h v s (.refl ..))
theorem bfor {gl bi : Addr} {R : Addr → Shared → Prop} (W : WW w s.heap) (hg : gl = mainGlobals) (h : R builtinsNs s) : wpAny (model prg w) A (builtinsFor gl bi) R E s := by
  subst hg
  unfold builtinsFor
  have e : nsIn (KK w) mainGlobals "__builtins__" = some (some (.ref 4)) := by kernel_rfl
  refine wpAny_bind ((looks_nsIn W.kin e).here ?_)
  obtain ⟨ob, hb, hc, hd, hdt⟩ := W.bm
  dsimp only
  rw [if_neg (by decide)]
  refine wpAny_bind (wpAny_load hb ?_)
  rw [hdt, hd]
  dsimp only
  rw [hc]
  exact wpAny_pure h
theorem Eff.get {fr : List Addr} {b : Addr} {o : Obj} (e : Eff w fr [] s s') (h : s.heap.get? b = some o) (hf : b ∉ fr) (hs : solid o = true ∨ b ≠ tabA) : s'.heap.get? b = some o := by
  obtain ⟨sl, a, c⟩ := e.keep b o (fun q => nomatch q) h hs
  have := c hf
  subst this
  exact a
theorem BytesAre.of_get : ∀ (vs : List Value) (ls : List By), vs.length = ls.length → (∀ (j : Nat) (v : Value), vs[j]? = some v → ∃ (l : By) (t : Tok), ls[j]? = some l ∧ v = Value.bytes l.toArray t) → BytesAre vs ls
  | [], [], _, _ => .nil
  | [], _ :: _, h, _ => by simp at h
  | _ :: _, [], h, _ => by simp at h
  | v :: vs, l :: ls, h, k => by
    obtain ⟨l', t, e1, e2⟩ := k 0 v rfl
    simp at e1
    subst e1 e2
    exact .cons (BytesAre.of_get vs ls (by simpa using h) fun j u hu => k (j + 1) u (by simpa using hu))
theorem filter_idx {α : Type} (d : α) (f : α → Bool) (ls : List α) : ((List.range ls.length).filter fun i => f (ls.getD i d)).map (fun i => ls.getD i d) = ls.filter f := by
  have h : (List.range ls.length).map (fun i => ls.getD i d) = ls := by
    apply List.ext_getElem
    · simp
    · intro i h1 h2; simp [List.getD, h2]
  conv => rhs; rw [← h]
  rw [List.filter_map]
  rfl
theorem Eff.butG {mu : List Addr} (ha : ∀ a ∈ mu, NB ≤ a) (x : ∀ b o, b ∉ mu → s.heap.get? b = some o → s'.heap.get? b = some o) (hos : s'.os = s.os) (hg : AllBare s.gens → AllBare s'.gens) : Eff w [] mu s s' :=
  ⟨fun b o hb e _ => ⟨o.slots, x b o hb e, fun _ => rfl⟩, fun b o hb e => ⟨o, x b o hb e⟩, hos, hg, fun _ q _ r => Mine.OldK.step_but r q x, fun W => W.but ha x⟩
theorem sum_le {k : Nat} : ∀ ls : List By, (∀ x ∈ ls, x.length ≤ k) → (ls.map List.length).sum ≤ ls.length * k
  | [], _ => by simp
  | a :: r, h => by
    have h1 := sum_le r fun x hx => h x (.tail _ hx)
    have h2 := h a (.head _)
    simp only [List.map_cons, List.sum_cons, List.length_cons, Nat.succ_mul]
    omega
noncomputable def neP (p : By) : Bool := !p.isEmpty
noncomputable def colP (l : By) : By := joinB [47] ((splitB 47 l).filter neP)
noncomputable def p_col (w : World) : FnPk w 131 := ⟨_, _, rfl, by kernel_rfl, rfl, ⟨⟨rfl, rfl, rfl⟩, rfl, rfl, rfl⟩⟩
theorem d_col : IsDef w "_collapse_slashes" 131 := ⟨by kernel_rfl, by kernel_rfl⟩
theorem s_col {l : By} {t : Tok} {Q : Value → Shared → Prop} (C : Cx w (n + 1) A s) (hz : l.length ≤ 1000) (h : ∀ t' s', Eff w (frs A) [] s s' → Q (.bytes (colP l).toArray t') s') :
    wpAny (model prg w) A (call (.ref 131) [.bytes l.toArray t]) Q E s := by
  refine wpAny_call (run (p_col w) [] [("refname", .bytes l.toArray t)] C (fun _ h => nomatch h) (BindsTo.of_eq rfl) rfl fun L s₁ hL e1 F => ?_)
  rw [List.append_nil] at F
  have cz : ∀ p ∈ (envP (p_col w) L).cells, (envP (p_col w) L).cells.lookup p.1 = some p.2 := fun _ h => nomatch h
  refine sRet (evm1 m_join (kBytes F fun tj s₂ F₂ => ⟨isB, ?_⟩))
  refine wpAny_GeneratorExp_walksQ (cl := []) F.hh rfl rfl (by decide) rfl rfl rfl F.cx.room ?_ (fun _ => rfl)
  refine evm1 m_split (ldl F₂ rfl ⟨isB, kBytes F₂ fun t' s₃ F₃ => b_split (by with_reducible exact leK (by assumption) rfl) fun a s₄ vs e4 hl hvs hf => ?_⟩)
  refine wpAny_pyIter_list hl ?_
  have F₅ := (F₃.go e4).go (fr := []) (.push { cls := .type "list_iterator", data := .fields #[.ref a, .int 0 0] })
  refine ⟨F₅.ww.lim, genCode F₅.ww rfl rfl fun c s₆ e6 => ?_⟩
  have F₆ := F₅.go e6
  refine bfor F₆.ww rfl ?_
  generalize hls : splitB 47 l = ls at hvs
  have hll := splitB_len 47 l
  rw [hls] at hll
  have hvl := hvs.length
  have hlt : a < s₄.heap.objs.size := by obtain ⟨_, e, _⟩ := hl; exact Heap.lt_size e
  have hne : a ≠ s₄.heap.objs.size := Nat.ne_of_lt hlt
  have hit₆ : s₆.heap.get? s₄.heap.objs.size = some { cls := .type "list_iterator", data := .fields #[.ref a, .int 0 0] } := e6.get (Heap.get?_push_size _ rfl) (fun q => nomatch q) (.inl rfl)
  have hl₆ : s₆.heap.IsList a vs.toArray := e6.keep.list (fun q => nomatch q) (hl.push _)
  have fp_lt : ∀ b ∈ [s₄.heap.objs.size, a], b < s₆.heap.objs.size := fun b hb => by
    rcases List.mem_cons.mp hb with rfl | hb
    · exact Heap.lt_size hit₆
    · rw [List.mem_singleton.mp hb]; obtain ⟨_, e, _⟩ := hl₆; exact Heap.lt_size e
  refine ⟨s₄.heap.objs.size, [s₄.heap.objs.size, a], [s₄.heap.objs.size], vs.toArray.size, _, _, fun i => neP (ls.getD i []), fun i v => vs.toArray[i]? = some v, rfl, fun A' hA => Walks.list hA s₄.heap.objs.size a hne vs.toArray, ⟨⟨_, hit₆, rfl, rfl⟩, hl₆⟩, fp_lt, F₆.ww.lim, ?_, ?_, ?_⟩
  · intro q
    have := (F₃.go e4).ww.nb
    rw [← List.mem_singleton.mp q] at this
    exact absurd this (by decide)
  · intro href hkeep
    refine ⟨fun A' E' i v s₂ m₂ hA hP hn hm hk => ?_, fun A' E' i v s₂ m₂ hA hP _ hn hm hk => ?_⟩
    · have hv : vs[i]? = some v := by simpa using hP
      obtain ⟨p, tp, hp, rfl⟩ := hvs.get hv
      refine wpAny_tests_one (isTrue_plain (wpAny_Name (wpAny_loadName_local rfl rfl hn hm ?_)))
      have hpz : p.length ≤ l.length := hll.2 p (List.mem_of_getElem? hp)
      refine truthy_bytes (by simp; with_reducible exact leC (by assumption) (by assumption) rfl) ⟨?_, _, _, rfl, fun _ _ e => e⟩
      have : ls.getD i [] = p := by simp [List.getD, hp]
      rw [this]
      cases p <;> simp [neP]; omega
    · exact wpAny_Name (wpAny_loadName_local rfl rfl hn hm ⟨hP, _, _, rfl, fun _ _ e => e⟩)
  · intro ag h₇ tk gs hgs hag hsz hk7 Wg hg
    have e7 : Eff w [] [] s₆ { s₆ with gens := s₆.gens.push gs, toks := tk, heap := h₇ } := ⟨fun b o _ e _ => ⟨o.slots, hk7 b o e, fun _ => rfl⟩, fun b o _ e => ⟨o, hk7 b o e⟩, rfl, fun hb y hy => by
      rcases Array.mem_push.mp hy with hy | rfl
      · exact hb y hy
      · exact hgs, fun _ _ _ q => q.step_keeps hk7, fun W => W.keeps hk7⟩
    have F₇ := F₆.go e7
    have hTg : ∀ i s, GenAt prg w (A.deeper (envP (p_col w) L)).in4 ag s₆.gens.size s₆.heap.objs.size (List.range s₆.heap.objs.size) [s₄.heap.objs.size] (fun i => neP (ls.getD i [])) vs.toArray.size (fun i v => vs.toArray[i]? = some v) i s → s.TypeIs (.ref ag) "generator" := fun i s h => by
      obtain ⟨⟨o, _, _, ho, hc, _⟩, _⟩ := h
      exact ⟨o, ho, hc⟩
    have hfl : (ls.filter neP).length ≤ 1001 := Nat.le_trans (List.length_filter_le _ _) (by omega)
    refine join_any (ls := ls.filter neP) (p := [47]) ?_ (by with_reducible exact leK (by assumption) rfl) ?_
    · have h1 := sum_le (k := 1000) (ls.filter neP) fun x hx => Nat.le_trans (hll.2 x (List.mem_filter.mp hx).1) hz
      have h2 : (ls.filter neP).length * 1000 ≤ 1001 * 1000 := Nat.mul_le_mul_right _ hfl
      unfold joinSum
      simp only [List.length_singleton, Nat.one_mul]
      omega
    · unfold Builtin.Bytes.joinItems
      refine wpAny_bind (wpAny_typeOf (hTg 0 _ hg) ?_)
      rw [if_neg (by decide)]
      refine wpAny_bind (wpAny_tryCatch ((WalksS.of_in1 (WalksS.of_in1 (WalksS.of_in1 Wg))).self 0 _ _ _ hg ?_))
      have hps : (passing (fun i => neP (ls.getD i [])) vs.toArray.size 0) = (List.range ls.length).filter fun i => neP (ls.getD i []) := by
        unfold passing; simp [hvl]
      refine call_list_gen (hn := ?_) (WalksS.of_in1 Wg) hTg hg (fun b hb => ?_) (.head _) fun s₈ acc c' hm hS hacc => ?_
      · show b < h₇.objs.size
        rcases List.mem_cons.mp hb with rfl | hb
        · rw [hsz]; exact Nat.lt_succ_self _
        · rw [hsz]
          rcases List.mem_cons.mp hb with rfl | hb
          · exact Nat.lt_succ_of_lt hag
          · exact Nat.lt_succ_of_lt (Nat.lt_trans (List.mem_range.mp hb) hag)
      · have alive7 := F₇.alive cz
        have hfresh : ∀ b ∈ ([h₇.objs.size, s₆.heap.objs.size, s₄.heap.objs.size] : List Addr), Fresh w s₁ b := List.forall_mem_cons.mpr ⟨F₇.new alive7 (Nat.le_refl _), List.forall_mem_cons.mpr ⟨F₆.new (F₆.alive cz) (Nat.le_refl _), List.forall_mem_cons.mpr ⟨(F₃.go e4).new ((F₃.go e4).alive cz) (Nat.le_refl _), fun _ q => nomatch q⟩⟩⟩
        have e78 : Eff w [] [h₇.objs.size, s₆.heap.objs.size, s₄.heap.objs.size] { s₆ with gens := s₆.gens.push gs, toks := tk, heap := h₇ } s₈ :=
          .butG (fun b hb => (hfresh b hb).2 F.ww) (fun b o hb e => hm.heap b o hb (Heap.get?_push_of_some _ e)) hm.os fun hb => AllBare.movedS (s := { s₆ with gens := s₆.gens.push gs, toks := tk, heap := h₇.push { cls := .type "list", data := .seq #[] } }) hb hm
        have et : Eff w (frs (A.deeper (envP (p_col w) L))) (own (envP (p_col w) L)) s₁ s₈ :=
          ((F₇.eff.mono (mu' := [h₇.objs.size, s₆.heap.objs.size, s₄.heap.objs.size] ++ own (envP (p_col w) L)) (fun _ q => q) fun b q => List.mem_append_right _ q).trans (e78.mono (fun _ q => nomatch q) fun b q => List.mem_append_left _ q)).shrink fun b hb => (hfresh b hb).1
        refine ⟨_, acc.toList, rfl, ⟨_, hS, rfl, c', by simp⟩, BytesAre.of_get _ _ ?_ fun j v hv => ?_, fun t' s' e => ⟨by rw [List.append_nil]; exact et.trans e.of, fun e' => by
          have := h t' s' e'
          unfold colP at this
          rw [hls] at this
          exact this⟩⟩
        · rw [← filter_idx [] neP ls, List.length_map, ← hps]
          simpa using hacc.1
        · obtain ⟨i, hi, hvi⟩ := hacc.2 j v (by simpa using hv)
          obtain ⟨p, tp, hp, rfl⟩ := hvs.get (by simpa using hvi : vs[i]? = some v)
          refine ⟨p, tp, ?_, rfl⟩
          rw [← filter_idx [] neP ls, List.getElem?_map, ← hps, hi]
          simp [List.getD, hp]
      · rw [hps, sizeLine_eq]; exact Nat.le_trans (List.length_filter_le _ _) (by simp; omega)
end
end Mine
end
section
open PySem PySem.W PyProof.Rows PySem.Calls
namespace Mine
abbrev KV := List (By × By)
noncomputable def get2 (kvs : KV) (k : By) : Option By := (kvs.find? fun kv => decide (kv.1 = k)).map (·.2)
noncomputable def put (kvs : KV) (k v : By) : KV := if kvs.any (fun kv => kv.1 = k) then kvs.map (fun kv => if kv.1 = k then (kv.1, v) else kv) else kvs ++ [(k, v)]
noncomputable def wo (kvs : KV) (k : By) : KV := kvs.filter fun kv => decide (kv.1 ≠ k)
inductive PairsB : List (By × Value) → KV → Prop
  | nil : PairsB [] []
  | cons {k v : By} {t : Tok} {ps : List (By × Value)} {kvs : KV} : PairsB ps kvs → PairsB ((k, .bytes v.toArray t) :: ps) ((k, v) :: kvs)
theorem PairsB.length : ∀ {ps : List (By × Value)} {kvs : KV}, PairsB ps kvs → ps.length = kvs.length
  | _, _, .nil => rfl
  | _, _, .cons h => by simp [h.length]
theorem PairsB.keys : ∀ {ps : List (By × Value)} {kvs : KV}, PairsB ps kvs → ps.map (·.1) = kvs.map (·.1)
  | _, _, .nil => rfl
  | _, _, .cons h => by simp [h.keys]
theorem PairsB.at : ∀ {ps : List (By × Value)} {kvs : KV}, PairsB ps kvs → ∀ {i : Nat} {k : By} {u : Value}, ps[i]? = some (k, u) → ∃ v t, kvs[i]? = some (k, v) ∧ u = .bytes v.toArray t
  | _, _, .nil, _, _, _, h => by simp at h
  | _, _, .cons _, 0, _, _, h => by simp at h; obtain ⟨rfl, rfl⟩ := h; exact ⟨_, _, rfl, rfl⟩
  | _, _, .cons h, i + 1, _, _, e => by simpa using h.at (by simpa using e)
theorem PairsB.get : ∀ {ps : List (By × Value)} {kvs : KV}, PairsB ps kvs → ∀ k, (valueAt ps k = none ∧ get2 kvs k = none) ∨ ∃ v t, valueAt ps k = some (.bytes v.toArray t) ∧ get2 kvs k = some v
  | _, _, .nil, k => .inl ⟨rfl, rfl⟩
  | _, _, .cons (k := k') (v := v') (t := t') h, k => by
    by_cases e : k' = k
    · exact .inr ⟨v', t', by simp [valueAt, e], by simp [get2, e]⟩
    · have := h.get k
      simpa [valueAt, get2, e] using this
theorem PairsB.any {ps : List (By × Value)} {kvs : KV} (h : PairsB ps kvs) (k : By) : ps.any (fun kv => kv.1 = k) = kvs.any (fun kv => kv.1 = k) := by
  induction h with
  | nil => rfl
  | cons _ ih => simp [ih]
theorem PairsB.append {ps qs : List (By × Value)} {kvs jvs : KV} (h : PairsB ps kvs) (h' : PairsB qs jvs) : PairsB (ps ++ qs) (kvs ++ jvs) := by
  induction h with
  | nil => exact h'
  | cons _ ih => exact .cons ih
theorem PairsB.stored {ps : List (By × Value)} {kvs : KV} (h : PairsB ps kvs) (k v : By) (t : Tok) : PairsB (stored ps k (.bytes v.toArray t)) (put kvs k v) := by
  unfold PySem.stored put
  rw [h.any k]
  split
  · rename_i hq
    clear hq
    induction h with
    | nil => exact .nil
    | cons h ih =>
      rename_i k' v' t' ps kvs
      by_cases e : k' = k
      · simpa [e] using PairsB.cons (k := k) (v := v) (t := t) ih
      · simpa [e] using PairsB.cons (k := k') (v := v') (t := t') ih
  · exact h.append (.cons .nil)
theorem PairsB.without {ps : List (By × Value)} {kvs : KV} (h : PairsB ps kvs) (k : By) : PairsB (without ps k) (wo kvs k) := by
  unfold PySem.without wo
  induction h with
  | nil => exact .nil
  | cons h ih =>
    rename_i k' v' t' ps kvs
    by_cases e : k' = k
    · simpa [e] using ih
    · simpa [e] using PairsB.cons (k := k') (v := v') (t := t') ih
noncomputable def DB (w : World) (h : Heap) (d : Addr) (kvs : KV) : Prop := ∃ ps, h.DictOf (bytesKind prg w) d ps ∧ PairsB ps kvs
theorem DB.typeIs {w : World} {s : Shared} {d : Addr} {kvs : KV} (x : DB w s.heap d kvs) : s.TypeIs (.ref d) "dict" := let ⟨ps, h, _⟩ := x; h.typeIs
theorem DB.noDict {w : World} {h : Heap} {d : Addr} {kvs : KV} (x : DB w h d kvs) : ∀ b, Value.ref d = .ref b → ∃ ob, h.get? b = some ob ∧ ob.dict = none := let ⟨ps, hd, _⟩ := x; hd.mapOf.noDict
theorem DB.nodup {w : World} {h : Heap} {d : Addr} {kvs : KV} (x : DB w h d kvs) : (kvs.map (·.1)).Nodup := let ⟨ps, ⟨_, _, _, _, _, _, _, _, hn⟩, hp⟩ := x; hp.keys ▸ hn
theorem DB.at {w : World} {h h' : Heap} {d : Addr} {kvs : KV} (x : DB w h d kvs) (k : ∀ o, h.get? d = some o → h'.get? d = some o) : DB w h' d kvs :=
  let ⟨ps, ⟨o, es, ep, ho, r⟩, hp⟩ := x; ⟨ps, ⟨o, es, ep, k _ ho, r⟩, hp⟩
theorem DB.eff {w : World} {fr mu : List Addr} {s s' : Shared} {d : Addr} {kvs : KV} (x : DB w s.heap d kvs) (e : Eff w fr mu s s') (hf : d ∉ fr) (hm : d ∉ mu) : DB w s'.heap d kvs := by
  obtain ⟨ps, ⟨o, es, ep, ho, hx, hd, r⟩, hp⟩ := x
  obtain ⟨sl, a, c⟩ := e.keep d o hm ho (.inl (by unfold solid; rw [hd]))
  have := c hf
  subst this
  exact ⟨ps, ⟨o, es, ep, a, hx, hd, r⟩, hp⟩
theorem DB.alive {w : World} {h : Heap} {d : Addr} {kvs : KV} (x : DB w h d kvs) : ∃ o, h.get? d = some o := let ⟨_, ⟨o, _, _, ho, _⟩, _⟩ := x; ⟨o, ho⟩
section
variable {w : World} {mu : List Addr} {env : Env} {n : Nat} {A : Around} {g s s' : Shared} {m : Str → Option Value} {E : Value → Shared → Prop} {Q : Value → Shared → Prop} {d : Addr} {kvs : KV} {k v : By} {t u : Tok}
theorem bk (k : By) (t : Tok) : (bytesKind prg w).is k (.bytes k.toArray t) = true := bytesKind_is prg w k t
theorem dGet (hd : DB w s.heap d kvs) (hv : get2 kvs k = some v) (h : ∀ t' s', Eff w [] [] s s' → Q (.bytes v.toArray t') s') : wpAny (model prg w) A (getItem (.ref d) (.bytes k.toArray t)) Q E s := by
  obtain ⟨ps, hm, hp⟩ := hd
  rcases hp.get k with ⟨_, h2⟩ | ⟨v', t', h1, h2⟩
  · rw [hv] at h2; cases h2
  · rw [hv] at h2; cases h2
    exact wpAny_getItem_of (bk k t) hm.mapOf h1 (h t' _ (.toks _))
theorem dIn (hd : DB w s.heap d kvs) (lo : (d == sysModules) = false) (h : ∀ s', Eff w [] [] s s' → Q (.bool (get2 kvs k).isSome) s') : wpAny (model prg w) A (compareOp .In (.bytes k.toArray t) (.ref d)) Q E s := by
  obtain ⟨ps, hm, hp⟩ := hd
  refine wpAny_in_of (bk k t) lo hm.mapOf ?_
  rcases hp.get k with ⟨h1, h2⟩ | ⟨v', t', h1, h2⟩
  · rw [h1]; have := h _ (.toks (s.toks + 1)); rw [h2] at this; exact this
  · rw [h1]; have := h _ (.toks (s.toks + 1)); rw [h2] at this; exact this
theorem dPut {Q : Unit → Shared → Prop} (hd : DB w s.heap d kvs) (hn : NB ≤ d) (hz : kvs.length ≤ 100000) (h : ∀ s', DB w s'.heap d (put kvs k v) → Eff w [] [d] s s' → Q () s') : wpAny (model prg w) A (setItem (.ref d) (.bytes k.toArray t) (.bytes v.toArray u)) Q E s := by
  obtain ⟨ps, hm, hp⟩ := hd
  refine wpAny_setItem_pairs (bk k t) hm (fun h' hm' hs => ?_) (by rw [sizeLine_eq, hp.length]; with_reducible exact leK (by assumption) rfl)
  exact h _ ⟨_, hm', hp.stored k v u⟩ ((Eff.same (s' := { s with heap := h', toks := s.toks + 1 }) hn hs rfl rfl))
theorem dNew {pos : Pos} (h : ∀ d s', Eff w [] [] s s' → DB w s'.heap d [] → Fresh w s d → Q (.ref d) s') : wpAny (model prg w) A (eval (.Dict [] [] pos) env) Q E s :=
  wpAny_Dict_empty (h _ _ (.push _) ⟨[], ⟨_, #[], 0, Heap.get?_push_size _ rfl, ⟨rfl, rfl, rfl⟩, rfl, fun _ he => by simp at he, .nil, by simp⟩, .nil⟩ (Fresh.size w s))
end
end Mine
end
section
open PySem PySem.W PyProof.Rows PySem.Calls
namespace Mine
section
variable {w : World} {mu mu' : List Addr} {env : Env} {n : Nat} {A : Around} {g s s' : Shared} {m : Str → Option Value} {E : Value → Shared → Prop} {d : Addr} {kvs : KV} {k v : By} {t u : Tok} {e₁ e₂ : Expr} {pos : Pos}
theorem Fm.wide (F : Fm w mu' env n A g m s) (hs : ∀ b ∈ mu', b ∈ mu) (hx : ∀ b ∈ mu, b ∈ mu' ∨ (NB ≤ b ∧ b ∉ frs A)) : Fm w mu env n A g m s := by
  refine ⟨F.eff.mono (fun _ q => q) hs, F.here, fun b hb => hs b (F.own b hb), F.ww, F.bare, F.hh, F.depth, F.units, ?_, fun b hb => ?_, F.kind, F.glob, F.bui, trivial⟩
  · obtain ⟨l, hl, h⟩ := F.fx
    refine ⟨l, hl, fun x hxl => ?_⟩
    obtain ⟨h1, L, h2, h3, h4⟩ := h x hxl
    refine ⟨h1, L, h2, h3, h4.imp id fun ⟨q, r⟩ => ⟨fun z => ?_, r⟩⟩
    rcases hx L z with z | ⟨_, z⟩
    · exact q z
    · exact z (by unfold frs; rw [hl]; exact List.mem_filterMap.mpr ⟨x, hxl, h2⟩)
  · rcases hx b hb with q | q
    · exact F.low b q
    · exact q.1
theorem Fm.narrow (F : Fm w mu env n A g m s) (ho : ∀ b ∈ Mine.own env, b ∈ mu') (hs : ∀ b ∈ mu', b ∈ mu) : Fm w mu' env n A s m s := by
  have F := F.base
  refine ⟨.refl .., F.here, ho, F.ww, F.bare, F.hh, F.depth, F.units, ?_, fun b hb => F.low b (hs b hb), F.kind, F.glob, F.bui, trivial⟩
  obtain ⟨l, hl, h⟩ := F.fx
  refine ⟨l, hl, fun x hx => ?_⟩
  obtain ⟨h1, L, h2, h3, h4⟩ := h x hx
  exact ⟨h1, L, h2, h3, h4.imp id fun ⟨q, r⟩ => ⟨fun z => q (hs L z), r⟩⟩
theorem gi_dict : typeLookup (.type "dict") "__getitem__" = pure (some (.builtin "dict.__getitem__")) := slot_dict_getitem.lookup
theorem eDGet (hd : DB w g.heap d kvs) (hf : d ∉ frs A) (hm : d ∉ mu) (hv : get2 kvs k = some v) (ho : Ev w mu env n A g m (IsV (.ref d)) e₁) (hi : Ev w mu env n A g m (IsB k) e₂) (hs : autoParam (∀ o i, ∃ ops, subscripted e₂ false o i = operate ops (getItem o i)) byEx) :
    Ev w mu env n A g m (IsB v) (.Subscript e₁ e₂ pos) :=
  fun s F Q E q => evSub gi_dict (ho s F _ _ fun o s₁ F₁ hv' => hi s₁ F₁ _ _ fun i s₂ F₂ ⟨t, hu⟩ => by
    have hv' : o = .ref d := hv'
    subst hv' hu
    have hd₂ := hd.eff F₂.eff hf hm
    exact ⟨hd₂.typeIs, dGet hd₂ hv fun t' s' e => q _ _ (F₂.go e) ⟨_, rfl⟩⟩) hs
theorem xPut {o i value : Expr} {p' pos : Pos} {rest : List Stmt} {Q : Flow → Shared → Prop} (F : Fm w mu env n A g m s) (hv : Ev w mu env n A g m (IsB v) value) (ho : Ev w mu env n A g m (IsV (.ref d)) o) (hi : Ev w mu env n A g m (IsB k) i)
    (hd : DB w g.heap d kvs) (hf : d ∉ frs A) (hm : d ∉ mu) (hn : NB ≤ d) (hz : kvs.length ≤ 100000)
    (h : ∀ s₁ s₂, Fm w mu env n A g m s₁ → Eff w [] [d] s₁ s₂ → DB w s₂.heap d (put kvs k v) → wpAny (model prg w) A (execs rest env) Q E s₂)
    (hs : autoParam (swapsWith value (some (.Subscript o i p')) pos.line env = pure false) byRfl) : wpAny (model prg w) A (execs (.Assign [.Subscript o i p'] value pos :: rest) env) Q E s :=
  sCons (wpAny_Assign_Subscript (hv s F _ _ fun u s₁ F₁ ⟨t, e1⟩ => ho s₁ F₁ _ _ fun ov s₂ F₂ e2 => hi s₂ F₂ _ _ fun iv s₃ F₃ ⟨t', e3⟩ => by
    have e2 : ov = .ref d := e2
    subst e1 e2 e3
    exact dPut (hd.eff F₃.eff hf hm) hn hz fun s₄ hd₄ e4 => h s₃ s₄ F₃ e4 hd₄) hs)
noncomputable def isUnder (name base : By) : Bool := (name.take base.length == base) && ((name.drop base.length).take 1 == [47])
noncomputable def underP (kvs : KV) (base : By) : KV := kvs.foldl (fun acc kv => if isUnder kv.1 base then put acc (kv.1.drop (base.length + 1)) kv.2 else acc) []
theorem underP_take {kvs : KV} {base : By} {i : Nat} {k v : By} (h : kvs[i]? = some (k, v)) : underP (kvs.take (i + 1)) base = if isUnder k base then put (underP (kvs.take i) base) (k.drop (base.length + 1)) v else underP (kvs.take i) base := by
  unfold underP
  rw [take_succ' h, List.foldl_append]
  rfl
theorem put_len (kvs : KV) (k v : By) : (put kvs k v).length ≤ kvs.length + 1 := by unfold put; split <;> simp
theorem underP_len (base : By) : ∀ (kvs : KV) (acc : KV), (kvs.foldl (fun acc kv => if isUnder kv.1 base then put acc (kv.1.drop (base.length + 1)) kv.2 else acc) acc).length ≤ acc.length + kvs.length
  | [], acc => by simp
  | kv :: r, acc => by
    have h1 := underP_len base r (if isUnder kv.1 base then put acc (kv.1.drop (base.length + 1)) kv.2 else acc)
    simp only [List.foldl_cons, List.length_cons]
    split at h1 <;> rename_i hq <;> simp only [hq] at h1 ⊢
    · have := put_len acc (kv.1.drop (base.length + 1)) kv.2
      simp at h1 ⊢
      omega
    · simp at h1 ⊢
      omega
theorem get2_at {kvs : KV} (hn : (kvs.map (·.1)).Nodup) {i : Nat} {k v : By} (h : kvs[i]? = some (k, v)) : get2 kvs k = some v := by
  induction kvs generalizing i with
  | nil => simp at h
  | cons kv r ih =>
    rw [List.map_cons, List.nodup_cons] at hn
    cases i with
    | zero => simp at h; subst h; simp [get2]
    | succ i =>
      have h : r[i]? = some (k, v) := by simpa using h
      have hne : kv.1 ≠ k := fun e => hn.1 (e ▸ List.mem_map.mpr ⟨_, List.mem_of_getElem? h, rfl⟩)
      have := ih hn.2 h
      simpa [get2, hne] using this
theorem Fm.own_size {f : Addr} {p : FnPk w f} {L : Nat} {s₀ : Shared} (hL : s₀.heap.objs.size ≤ L) {d : Addr} {o : Obj} (hd : s₀.heap.get? d = some o) : d ∉ Mine.own (envP p L) := fun q =>
  Nat.lt_irrefl _ (Nat.lt_of_lt_of_le (Heap.lt_size hd) (Nat.le_trans hL (own_above _ _ _ d q)))
theorem frs_deep {f : Addr} {p : FnPk w f} {L : Nat} {s₀ : Shared} (C : Cx w n A s₀) (hL : s₀.heap.objs.size ≤ L) {d : Addr} {o : Obj} (hd : s₀.heap.get? d = some o) (hf : d ∉ frs A) : d ∉ frs (A.deeper (envP p L)) := fun q => by
  obtain ⟨l, hl, _⟩ := C.fx
  rw [frs_cons hl rfl] at q
  rcases List.mem_cons.mp q with q | q
  · exact Nat.lt_irrefl _ (Nat.lt_of_lt_of_le (Heap.lt_size hd) (q ▸ hL))
  · exact hf q
end
end Mine
end
section
open PySem PySem.W PyProof.Rows PySem.Calls
namespace Mine
theorem lo_of {d : Addr} (h : NB ≤ d) : (d == sysModules) = false := by
  rw [beq_eq_false_iff_ne]
  rintro rfl
  exact absurd h (by decide)
section
variable {w : World} {mu mu' : List Addr} {env : Env} {n : Nat} {A : Around} {g s s' : Shared} {m : Str → Option Value} {E : Value → Shared → Prop} {d : Addr} {kvs : KV} {k v : By} {t u : Tok} {e₁ e₂ : Expr} {pos : Pos} {Q : Value → Shared → Prop}
theorem Fm.alive1 {U : Addr} (F : Fm w (Mine.own env) env n A g m s) (cz : ∀ p ∈ env.cells, env.cells.lookup p.1 = some p.2) (hu : ∃ o, s.heap.get? U = some o) : ∀ b ∈ U :: Mine.own env, ∃ o, s.heap.get? b = some o := fun b q => by
  rcases List.mem_cons.mp q with rfl | q
  · exact hu
  · exact F.alive cz b q
theorem Fm.with1 {U : Addr} (F : Fm w (Mine.own env) env n A g m s) (h1 : NB ≤ U) (h2 : U ∉ frs A) : Fm w (U :: Mine.own env) env n A g m s := F.wide (fun b q => .tail _ q) fun b q => by
  rcases List.mem_cons.mp q with rfl | q
  · exact .inr ⟨h1, h2⟩
  · exact .inl q
theorem Fm.only {U : Addr} (F : Fm w (U :: Mine.own env) env n A g m s) : Fm w (Mine.own env) env n A s m s := F.narrow (fun b q => q) fun b q => .tail _ q
theorem it_db {B : List Addr} {R : Value → Shared → Prop} (hd : DB w s.heap d kvs) (hn : NB ≤ d) (F : Fm w mu env n A g m s) (hmu : ∀ b ∈ mu, ∃ o, s.heap.get? b = some o) (hB : Fresh w g d ∨ d ∈ B)
    (h : ∀ it s', Fm w mu env n A g m s' → (∀ b o, s.heap.get? b = some o → s'.heap.get? b = some o) → (∀ x px, TurnsIn w A (.Name x px) g B kvs.length (fun i v _ => ∃ k u t, kvs[i]? = some (k, u) ∧ v = .bytes k.toArray t) it s') → R it s') : wpAny (model prg w) A (pyIter (.ref d)) R E s := by
  obtain ⟨ps, hm, hp⟩ := hd
  obtain ⟨ep, ha⟩ := hm.dictAt
  refine it_dict ha (lo_of hn) F hmu hB fun it s' F' keep T => h it s' F' keep fun x px => ?_
  obtain ⟨I, fp, wr, Md, St, e, T, r1, r2, r3, r4⟩ := T x px
  rw [hp.length] at T
  refine ⟨I, fp, wr, Md, St, e, { T with go := fun i v s Q E hm hq => T.go i v s Q E hm fun h' hP st hk => hq h' ?_ st hk }, r1, r2, r3, r4⟩
  obtain ⟨k, u, t, hx, rfl⟩ := hP
  obtain ⟨v, t', hv, _⟩ := hp.at hx
  exact ⟨k, v, t, hv, rfl⟩
noncomputable def p_under (w : World) : FnPk w 386 := ⟨_, _, rfl, by kernel_rfl, rfl, ⟨⟨rfl, rfl, rfl⟩, rfl, rfl, rfl⟩⟩
theorem d_under : IsDef w "_law_under" 386 := ⟨by kernel_rfl, by kernel_rfl⟩
noncomputable def underJ (w : World) (d : Addr) (U : Addr) (base : By) (t : Tok) (kvs : KV) : Nat → (Str → Option Value) → Heap → Prop := fun i m h => m "held" = some (.ref d) ∧ m "base" = some (.bytes base.toArray t) ∧ m "under" = some (.ref U) ∧ DB w h U (underP (kvs.take i) base)
noncomputable def underO (w : World) (U : Addr) (kvs : KV) (base : By) : Flow → (Str → Option Value) → Heap → Prop := fun f m h => match f with | .next => m "under" = some (.ref U) ∧ DB w h U (underP kvs base) | _ => False
theorem s_under {base : By} (C : Cx w (n + 1) A s) (hd : DB w s.heap d kvs) (hn : NB ≤ d) (hf : d ∉ frs A) (hz : base.length ≤ 4096) (hzk : ∀ kv ∈ kvs, kv.1.length ≤ 4096) (hzl : kvs.length ≤ 1000)
    (h : ∀ D s', Eff w (frs A) [] s s' → DB w s'.heap D (underP kvs base) → Fresh w s D → Q (.ref D) s') :
    wpAny (model prg w) A (call (.ref 386) [.ref d, .bytes base.toArray t]) Q E s := by
  refine wpAny_call (run (p_under w) [] [("held", .ref d), ("base", .bytes base.toArray t)] C (fun _ h => nomatch h) (BindsTo.of_eq rfl) rfl fun L s₁ hL e1 F => ?_)
  rw [List.append_nil] at F
  have cz : ∀ p ∈ (envP (p_under w) L).cells, (envP (p_under w) L).cells.lookup p.1 = some p.2 := fun _ h => nomatch h
  obtain ⟨od, hod⟩ := hd.alive
  have hdo : d ∉ own (envP (p_under w) L) := Fm.own_size hL hod
  have hdf : d ∉ frs (A.deeper (envP (p_under w) L)) := frs_deep C hL hod hf
  have hd₁ := hd.eff e1 (fun q => nomatch q) (fun q => nomatch q)
  refine sAsg (dNew fun U s₂ e2 hU hfU => ?_) rfl
  have F₂ := F.go e2
  have offU := F.fresh_off (F.alive cz) hfU
  have hdU : d ≠ U := fun q => by obtain ⟨o, e⟩ := hd₁.alive; rw [q, hfU.1] at e; cases e
  refine st F₂.base (fun s₃ F₃ => ?_) rfl
  have hU₃ := hU.eff F₃.eff offU.2.1 offU.1
  have hd₃ := (hd₁.eff F₂.eff hdf hdo).eff F₃.eff hdf hdo
  have ea : Eff w (frs (A.deeper (envP (p_under w) L))) (own (envP (p_under w) L)) s₁ s₃ := F₂.eff.trans F₃.eff
  have Fw := F₃.base.with1 offU.2.2.2.1 offU.2.1
  have hdm : d ∉ U :: own (envP (p_under w) L) := fun q => (List.mem_cons.mp q).elim hdU hdo
  refine sForT Fw (F₃.alive1 cz hU₃.alive) (ldl Fw rfl (it_db hd₃ hn Fw (F₃.alive1 cz hU₃.alive) (B := [d]) (.inr (.head _)) fun it s₄ F₄ keep T => ?_))
  refine ⟨[d], _, _, F₄, T _ _, all1 ⟨hdm, hdf, fun q => absurd (q ▸ hn) (by decide)⟩, (underJ w d U base t kvs), (underO w U kvs base),
    fun i m h h' hk x => ⟨x.1, x.2.1, x.2.2.1, x.2.2.2.at fun o e => hk U o (.head _) e⟩, ⟨rfl, rfl, rfl, hU₃.at fun o e => keep _ _ e⟩, ?_, ?_, ?_⟩
  · rintro i v m₁ s₅ hi ⟨k, u, tk, hk, rfl⟩ ⟨h1, h2, h3, hJ⟩ F₅
    have hkz : k.length ≤ 4096 := hzk _ (List.mem_of_getElem? hk)
    have hd₅ := hd₃.eff F₅.eff hdf hdm
    have Fn := F₅.only
    refine asgName (st Fn fun s₆ F₆ => ?_)
    have hc1 : cutL k none (some (base.length : Int)) = k.take base.length := cut_to k base.length
    have hc2 : cutL k (some (base.length : Int)) (some ((base.length : Int) + 1)) = (k.drop base.length).take 1 := by
      rw [show (base.length : Int) + 1 = ((base.length + 1 : Nat) : Int) by omega, cut_nn]; congr 1; omega
    have hc3 : cutL k (some ((base.length : Int) + 1)) none = k.drop (base.length + 1) := by
      rw [show (base.length : Int) + 1 = ((base.length + 1 : Nat) : Int) by omega, cut_from]
    have h2' : upd m₁ "name" (.bytes k.toArray tk) "base" = some (.bytes base.toArray t) := h2
    have eln : ∀ {px : Pos} {pos : Pos} {pn : Pos}, Ev w (own (envP (p_under w) L)) (envP (p_under w) L) n (A.deeper (envP (p_under w) L)) s₅ (upd m₁ "name" (.bytes k.toArray tk)) (IsI (base.length : Int)) (.Call (.Name "len" px) [.Name "base" pn] [] pos) := eLen (e' := no_len) (eL h2' ⟨_, rfl⟩) (by with_reducible exact leK (by assumption) rfl)
    refine xIf1 F₆ (tAnd2 (tCmp (eSlE hc1 (eL rfl ⟨_, rfl⟩) pNone (pSome (eln)) (by with_reducible exact leK (by assumption) rfl)) (eL h2 ⟨_, rfl⟩) cEqB) fun _ => tCmp (eSlE hc2 (eL rfl ⟨_, rfl⟩) (pSome (eln)) (pSome (eAddI (eln) eI)) (by with_reducible exact leK (by assumption) rfl)) eB cEqB) (fun hb s₇ F₇ => ?_) fun hb s₇ F₇ => ?_
    · refine xPut F₇ (eDGet hd₅ hdf hdo (get2_at hd₅.nodup hk) (eL h1 rfl) (eL rfl ⟨_, rfl⟩)) (eL h3 rfl) (eSlE hc3 (eL rfl ⟨_, rfl⟩) (pSome (eAddI (eln) eI)) pNone (by with_reducible exact leK (by assumption) rfl)) hJ offU.2.1 offU.1 offU.2.2.2.1 ?_ fun s₈ s₉ F₈ e9 hU₉ => sNil (sNil ?_)
      · have := underP_len base (kvs.take i) []
        unfold underP
        simp at this ⊢
        omega
      · refine ⟨_, (F₈.with1 offU.2.2.2.1 offU.2.1).step (e9.mono (fun _ q => nomatch q) fun _ q => q) (fun b q => List.mem_singleton.mp q ▸ .head _) (fun b q => List.mem_singleton.mp q ▸ offU.1), h1, h2, h3, ?_⟩
        · rw [underP_take hk, if_pos (by simpa [isUnder] using hb)]
          exact hU₉
    · refine sNil ⟨_, F₇.with1 offU.2.2.2.1 offU.2.1, h1, h2, h3, ?_⟩
      · rw [underP_take hk, if_neg (by simpa [isUnder] using hb)]
        exact hJ.eff F₇.eff offU.2.1 offU.1
  · rintro m' h' ⟨_, _, h3, hJ⟩
    rw [List.take_of_length_le (Nat.le_refl _)] at hJ
    exact ⟨h3, hJ⟩
  · intro f m' s' F' hO
    cases f with
    | ret v => exact hO.elim
    | brk => exact hO.elim
    | cont => exact hO.elim
    | next =>
      obtain ⟨h3, hU'⟩ := hO
      have Fn := F'.only
      refine sRet (ldl Fn h3 ?_)
      have et : Eff w (frs (A.deeper (envP (p_under w) L))) ([U] ++ own (envP (p_under w) L)) s₁ s' := (ea.mono (fun _ q => q) fun b q => List.mem_append_right _ q).trans F'.eff
      have et' := et.shrink fun b q => List.mem_singleton.mp q ▸ hfU.1
      refine ⟨by rw [List.append_nil]; exact et', fun e => h U s' e hU' (hfU.back e1)⟩
end
end Mine
end
section
open PySem PySem.W PyProof.Rows PySem.Calls
namespace Mine
theorem put_new {kvs : KV} {k v : By} (h : k ∉ kvs.map (·.1)) : put kvs k v = kvs ++ [(k, v)] := by
  unfold put
  rw [if_neg]
  simp only [List.any_eq_true, decide_eq_true_eq, not_exists, not_and]
  intro x hx e
  exact h (e ▸ List.mem_map.mpr ⟨x, hx, rfl⟩)
theorem wo_take {kvs : KV} {i : Nat} {k v lost : By} (hn : (kvs.map (·.1)).Nodup) (h : kvs[i]? = some (k, v)) : wo (kvs.take (i + 1)) lost = if k != lost then put (wo (kvs.take i) lost) k v else wo (kvs.take i) lost := by
  have hk : k ∉ (wo (kvs.take i) lost).map (·.1) := by
    intro q
    obtain ⟨x, hx, rfl⟩ := List.mem_map.mp q
    have hx := (List.mem_filter.mp hx).1
    obtain ⟨j, hj⟩ := List.getElem?_of_mem hx
    have hji : j < i := by
      have := (List.getElem?_eq_some_iff.mp hj).1
      simp at this; omega
    rw [List.getElem?_take, if_pos hji] at hj
    have h1 : (kvs.map (·.1))[j]? = some x.1 := by rw [List.getElem?_map, hj]; rfl
    have h2 : (kvs.map (·.1))[i]? = some x.1 := by rw [List.getElem?_map, h]; rfl
    obtain ⟨a1, b1⟩ := List.getElem?_eq_some_iff.mp h1
    obtain ⟨a2, b2⟩ := List.getElem?_eq_some_iff.mp h2
    exact List.pairwise_iff_getElem.mp hn j i a1 a2 hji (b1.trans b2.symm)
  rw [put_new hk, take_succ' h]
  unfold wo
  rw [List.filter_append]
  by_cases e : k = lost <;> simp [e]
noncomputable def clearO (base name : By) : Bool := (name.take base.length != base) || ((name.drop base.length).take 1 == [47])
section
variable {w : World} {mu mu' : List Addr} {env : Env} {n : Nat} {A : Around} {g s s' : Shared} {m : Str → Option Value} {E : Value → Shared → Prop} {d : Addr} {kvs : KV} {k v : By} {t u : Tok} {e₁ e₂ : Expr} {pos : Pos} {Q : Value → Shared → Prop}
noncomputable def p_without (w : World) : FnPk w 398 := ⟨_, _, rfl, by kernel_rfl, rfl, ⟨⟨rfl, rfl, rfl⟩, rfl, rfl, rfl⟩⟩
theorem d_without : IsDef w "_law_without" 398 := ⟨by kernel_rfl, by kernel_rfl⟩
noncomputable def withoutJ (w : World) (d : Addr) (U : Addr) (lost : By) (t : Tok) (kvs : KV) : Nat → (Str → Option Value) → Heap → Prop := fun i m h => m "held" = some (.ref d) ∧ m "lost" = some (.bytes lost.toArray t) ∧ m "left" = some (.ref U) ∧ DB w h U (wo (kvs.take i) lost)
noncomputable def withoutO (w : World) (U : Addr) (kvs : KV) (lost : By) : Flow → (Str → Option Value) → Heap → Prop := fun f m h => match f with | .next => m "left" = some (.ref U) ∧ DB w h U (wo kvs lost) | _ => False
theorem s_without {lost : By} (C : Cx w (n + 1) A s) (hd : DB w s.heap d kvs) (hn : NB ≤ d) (hf : d ∉ frs A) (hzl : kvs.length ≤ 1000)
    (h : ∀ D s', Eff w (frs A) [] s s' → DB w s'.heap D (wo kvs lost) → Fresh w s D → Q (.ref D) s') :
    wpAny (model prg w) A (call (.ref 398) [.ref d, .bytes lost.toArray t]) Q E s := by
  refine wpAny_call (run (p_without w) [] [("held", .ref d), ("lost", .bytes lost.toArray t)] C (fun _ h => nomatch h) (BindsTo.of_eq rfl) rfl fun L s₁ hL e1 F => ?_)
  rw [List.append_nil] at F
  have cz : ∀ p ∈ (envP (p_without w) L).cells, (envP (p_without w) L).cells.lookup p.1 = some p.2 := fun _ h => nomatch h
  obtain ⟨od, hod⟩ := hd.alive
  have hdo : d ∉ own (envP (p_without w) L) := Fm.own_size hL hod
  have hdf : d ∉ frs (A.deeper (envP (p_without w) L)) := frs_deep C hL hod hf
  have hd₁ := hd.eff e1 (fun q => nomatch q) (fun q => nomatch q)
  refine sAsg (dNew fun U s₂ e2 hU hfU => ?_) rfl
  have F₂ := F.go e2
  have offU := F.fresh_off (F.alive cz) hfU
  have hdU : d ≠ U := fun q => by obtain ⟨o, e⟩ := hd₁.alive; rw [q, hfU.1] at e; cases e
  refine st F₂.base (fun s₃ F₃ => ?_) rfl
  have hU₃ := hU.eff F₃.eff offU.2.1 offU.1
  have hd₃ := (hd₁.eff F₂.eff hdf hdo).eff F₃.eff hdf hdo
  have ea : Eff w (frs (A.deeper (envP (p_without w) L))) (own (envP (p_without w) L)) s₁ s₃ := F₂.eff.trans F₃.eff
  have Fw := F₃.base.with1 offU.2.2.2.1 offU.2.1
  have hdm : d ∉ U :: own (envP (p_without w) L) := fun q => (List.mem_cons.mp q).elim hdU hdo
  refine sForT Fw (F₃.alive1 cz hU₃.alive) (ldl Fw rfl (it_db hd₃ hn Fw (F₃.alive1 cz hU₃.alive) (B := [d]) (.inr (.head _)) fun it s₄ F₄ keep T => ?_))
  refine ⟨[d], _, _, F₄, T _ _, all1 ⟨hdm, hdf, fun q => absurd (q ▸ hn) (by decide)⟩, (withoutJ w d U lost t kvs), (withoutO w U kvs lost),
    fun i m h h' hk x => ⟨x.1, x.2.1, x.2.2.1, x.2.2.2.at fun o e => hk U o (.head _) e⟩, ⟨rfl, rfl, rfl, hU₃.at fun o e => keep _ _ e⟩, ?_, ?_, ?_⟩
  · rintro i v m₁ s₅ hi ⟨k, u, tk, hk, rfl⟩ ⟨h1, h2, h3, hJ⟩ F₅
    have hd₅ := hd₃.eff F₅.eff hdf hdm
    refine asgName (st F₅.only fun s₆ F₆ => ?_)
    refine xIf1 F₆ (tCmp (eL rfl ⟨_, rfl⟩) (eL h2 ⟨_, rfl⟩) cNeB) (fun hb s₇ F₇ => ?_) fun hb s₇ F₇ => ?_
    · refine xPut F₇ (eDGet hd₅ hdf hdo (get2_at hd₅.nodup hk) (eL h1 rfl) (eL rfl ⟨_, rfl⟩)) (eL h3 rfl) (eL rfl ⟨_, rfl⟩) hJ offU.2.1 offU.1 offU.2.2.2.1 ?_ fun s₈ s₉ F₈ e9 hU₉ => sNil (sNil ?_)
      · have : (wo (kvs.take i) lost).length ≤ kvs.length := Nat.le_trans (List.length_filter_le _ _) (by simp; omega)
        with_reducible exact leC (by assumption) (by assumption) rfl
      · refine ⟨_, (F₈.with1 offU.2.2.2.1 offU.2.1).step (e9.mono (fun _ q => nomatch q) fun _ q => q) (fun b q => List.mem_singleton.mp q ▸ .head _) (fun b q => List.mem_singleton.mp q ▸ offU.1), h1, h2, h3, ?_⟩
        rw [wo_take hd₅.nodup hk, if_pos hb]
        exact hU₉
    · refine sNil ⟨_, F₇.with1 offU.2.2.2.1 offU.2.1, h1, h2, h3, ?_⟩
      rw [wo_take hd₅.nodup hk, if_neg (by simp [hb])]
      exact hJ.eff F₇.eff offU.2.1 offU.1
  · rintro m' h' ⟨_, _, h3, hJ⟩
    rw [List.take_of_length_le (Nat.le_refl _)] at hJ
    exact ⟨h3, hJ⟩
  · intro f m' s' F' hO
    cases f with
    | ret v => exact hO.elim
    | brk => exact hO.elim
    | cont => exact hO.elim
    | next =>
      obtain ⟨h3, hU'⟩ := hO
      refine sRet (ldl F'.only h3 ?_)
      have et : Eff w (frs (A.deeper (envP (p_without w) L))) ([U] ++ own (envP (p_without w) L)) s₁ s' := (ea.mono (fun _ q => q) fun b q => List.mem_append_right _ q).trans F'.eff
      have et' := et.shrink fun b q => List.mem_singleton.mp q ▸ hfU.1
      exact ⟨by rw [List.append_nil]; exact et', fun e => h U s' e hU' (hfU.back e1)⟩
noncomputable def p_clear (w : World) : FnPk w 391 := ⟨_, _, rfl, by kernel_rfl, rfl, ⟨⟨rfl, rfl, rfl⟩, rfl, rfl, rfl⟩⟩
theorem d_clear : IsDef w "_law_clear" 391 := ⟨by kernel_rfl, by kernel_rfl⟩
theorem s_clear {base : By} (C : Cx w (n + 1) A s) (hd : DB w s.heap d kvs) (hn : NB ≤ d) (hf : d ∉ frs A) (hz : base.length ≤ 4096) (hzk : ∀ kv ∈ kvs, kv.1.length ≤ 4096) (hzl : kvs.length ≤ 1000)
    (h : ∀ s', Eff w (frs A) [] s s' → Q (.bool (kvs.all fun kv => clearO base kv.1)) s') :
    wpAny (model prg w) A (call (.ref 391) [.ref d, .bytes base.toArray t]) Q E s := by
  refine wpAny_call (run (p_clear w) [] [("held", .ref d), ("base", .bytes base.toArray t)] C (fun _ h => nomatch h) (BindsTo.of_eq rfl) rfl fun L s₁ hL e1 F => ?_)
  rw [List.append_nil] at F
  have cz : ∀ p ∈ (envP (p_clear w) L).cells, (envP (p_clear w) L).cells.lookup p.1 = some p.2 := lookup_of_nodup (by show List.Nodup [("base" : Str)]; decide)
  obtain ⟨od, hod⟩ := hd.alive
  have hdo : d ∉ own (envP (p_clear w) L) := Fm.own_size hL hod
  have hdf : d ∉ frs (A.deeper (envP (p_clear w) L)) := frs_deep C hL hod hf
  have hd₁ := hd.eff e1 (fun q => nomatch q) (fun q => nomatch q)
  refine sRet (wpAny_Compare1 (kBool ?_))
  refine lcomp F (CompOk.of (cl := [("base", L + 1)]) F rfl rfl (all1 rfl)) ?_
  refine ldl F rfl (it_db hd₁ hn F (F.alive cz) (B := [d]) (.inr (.head _)) fun it s₄ F₄ keep T => ?_)
  refine compT F cz F₄ (T _ _) (all1 ⟨hdo, hdf, fun q => absurd (q ▸ hn) (by decide)⟩) (by rw [sizeLine_eq]; with_reducible exact leK (by assumption) rfl) (fun i ys => BoolsAre ys ((kvs.take i).map fun kv => clearO base kv.1)) (fun i ys hk => by rw [hk.length]; simp; omega) .nil ?_ ?_
  · rintro i v ys Cc m₁ s₅ hi ⟨k, u, tk, hk, rfl⟩ hK F₅ Fc hm
    have hkz : k.length ≤ 4096 := hzk _ (List.mem_of_getElem? hk)
    have h2 : m₁ "base" = some (.bytes base.toArray t) := hm ("base", L + 1) (by simp)
    have h2' : upd m₁ "name" (.bytes k.toArray tk) "base" = some (.bytes base.toArray t) := h2
    refine asgName (st Fc fun s₆ F₆ => wpAny_tests_nil ?_)
    rw [if_pos rfl]
    have hc1 : cutL k none (some (base.length : Int)) = k.take base.length := cut_to k base.length
    have hc2 : cutL k (some (base.length : Int)) (some ((base.length : Int) + 1)) = (k.drop base.length).take 1 := by
      rw [show (base.length : Int) + 1 = ((base.length + 1 : Nat) : Int) by omega, cut_nn]; congr 1; omega
    refine F₆.ev (eOr2 (eCmp (eSlE hc1 (eL rfl ⟨_, rfl⟩) pNone (pSome (eLen (e' := no_len) (eC h2' ⟨_, rfl⟩) (by with_reducible exact leK (by assumption) rfl))) (by with_reducible exact leK (by assumption) rfl)) (eC h2' ⟨_, rfl⟩) cNeB) fun _ => eCmp (eSlE hc2 (eL rfl ⟨_, rfl⟩) (pSome (eLen (e' := no_len) (eC h2' ⟨_, rfl⟩) (by with_reducible exact leK (by assumption) rfl))) (pSome (eAddI (eLen (e' := no_len) (eC h2' ⟨_, rfl⟩) (by with_reducible exact leK (by assumption) rfl)) eI)) (by with_reducible exact leK (by assumption) rfl)) eB cEqB) fun v s₇ F₇ hv => ⟨⟨_, F₇, all1 h2⟩, ?_⟩
    show BoolsAre _ ((kvs.take (i + 1)).map fun kv => clearO base kv.1)
    rw [take_succ' hk, hv, List.map_append]
    exact hK.app (.cons .nil)
  · intro D ys s₅ hK F₅ hD hfD hnD
    have hK : BoolsAre ys ((kvs.take kvs.length).map fun kv => clearO base kv.1) := hK
    rw [List.take_of_length_le (Nat.le_refl _)] at hK
    refine ninBools ⟨_, hD, rfl, _, rfl⟩ hK ⟨by rw [List.append_nil]; exact F₅.eff, fun e => ?_⟩
    have : (!(kvs.map fun kv => clearO base kv.1).contains false) = kvs.all fun kv => clearO base kv.1 := by
      rw [Bool.eq_iff_iff]; simp
    rw [this]
    exact h s₅ e
end
end Mine
end
section
open PySem PySem.W PyProof.Rows PySem.Calls
namespace Mine
noncomputable def FRONTS : List By := [[114, 101, 102, 115, 47, 104, 101, 97, 100, 115, 47], [114, 101, 102, 115, 47, 116, 97, 103, 115, 47], [114, 101, 102, 115, 47, 114, 101, 109, 111, 116, 101, 115, 47], [114, 101, 102, 115, 47], [114, 101, 102, 115, 47, 114, 101, 109, 111, 116, 101, 115, 47, 111, 47], [], [114, 101, 102, 115, 47, 104, 101, 97, 100, 115], [72, 69, 65, 68], [114, 101, 102, 115, 47, 115, 116, 97, 115, 104], [114, 101, 102, 115, 47, 104, 101, 97, 100, 115, 47, 97, 47], [114, 101, 102, 115, 47, 114, 101, 109, 111, 116, 101, 115]]
section
variable {w : World} {mu mu' : List Addr} {env : Env} {n : Nat} {A : Around} {g s s' : Shared} {m : Str → Option Value} {E : Value → Shared → Prop} {d : Addr} {kvs : KV} {k v : By} {t u : Tok} {e₁ e₂ : Expr} {pos : Pos} {Q : Value → Shared → Prop}
noncomputable def csOf : List Expr → List (By × Nat × Pos)
  | [] => []
  | .Constant (.bytes b) k p :: r => (b, k, p) :: csOf r
  | _ :: r => csOf r
noncomputable def mkC (c : By × Nat × Pos) : Expr := .Constant (.bytes c.1) c.2.1 c.2.2
theorem constAll' : ∀ cs : List (By × Nat × Pos), EvAll w mu env n A g m (fun vs => BytesAre vs (cs.map (·.1))) (cs.map mkC)
  | [] => eaB0
  | c :: r => eaB (e := mkC c) eB (constAll' r) rfl
theorem constAll {es : List Expr} {ls : List By} (h : (csOf es).map mkC = es) (hl : (csOf es).map (·.1) = ls) : EvAll w mu env n A g m (fun vs => BytesAre vs ls) es := by
  have := constAll' (w := w) (mu := mu) (env := env) (n := n) (A := A) (g := g) (m := m) (csOf es)
  rw [h, hl] at this
  exact this
theorem retConst {f : Addr} (p : FnPk w f) {args : Args} {es : List Expr} {pos p2 : Pos} {ls : List By} (hb : p.body = [.Return (some (.List es pos)) p2]) (hz : ls.length ≤ 100) (h1 : (csOf es).map mkC = es) (h2 : (csOf es).map (·.1) = ls)
    (C : Cx w (n + 1) A s) (hbind : BindsTo s p.fd args []) (hk : kindsOk p.fd [] = true) (hcz : ∀ L, (envP p L).cells = []) (h : ∀ (a : Addr) (vs : List Value) s', Eff w (frs A) [] s s' → s'.heap.IsList a vs.toArray → BytesAre vs ls → Fresh w s a → Q (.ref a) s') :
    codeAny (model prg w) A (.call (.ref f) args) (fun r s' => match r with | .ok (.ret v) => Q v s' | .ok _ => False | .error e => E e s') s := by
  refine run p [] [] C (fun _ h => nomatch h) hbind hk fun L s₁ hL e1 F => ?_
  rw [List.append_nil] at F
  rw [hb]
  refine sRet (disp F (constAll h1 h2) (fun vs hv => by rw [hv.length]; with_reducible exact leK (by assumption) rfl) fun a vs s₂ s₃ F₂ e3 hl hf hv => ?_)
  have hno : a ∉ own (envP p L) := fun q => by
    have hcells := hcz L
    obtain ⟨o, e⟩ := F₂.alive (fun p hp => by rw [hcells] at hp; cases hp) a q
    rw [hf.1] at e; cases e
  exact ⟨by rw [List.append_nil]; exact (F₂.go e3).eff, fun e => h a vs s₃ e hl.isList hv ((hf.back F₂.eff hno).back e1)⟩
noncomputable def p_fronts (w : World) : FnPk w 320 := ⟨_, _, rfl, by kernel_rfl, rfl, ⟨⟨rfl, rfl, rfl⟩, rfl, rfl, rfl⟩⟩
theorem d_fronts : IsDef w "_law_fronts" 320 := ⟨by kernel_rfl, by kernel_rfl⟩
theorem s_fronts (C : Cx w (n + 1) A s) (h : ∀ a vs s', Eff w (frs A) [] s s' → s'.heap.IsList a vs.toArray → BytesAre vs FRONTS → Fresh w s a → Q (.ref a) s') : wpAny (model prg w) A (call (.ref 320) []) Q E s := wpAny_call (retConst (p_fronts w) rfl (by decide) rfl rfl C (BindsTo.of_eq rfl) rfl (fun _ => rfl) h)
noncomputable def p_remotes (w : World) : FnPk w 327 := ⟨_, _, rfl, by kernel_rfl, rfl, ⟨⟨rfl, rfl, rfl⟩, rfl, rfl, rfl⟩⟩
theorem d_remotes : IsDef w "_law_remotes" 327 := ⟨by kernel_rfl, by kernel_rfl⟩
theorem s_remotes (C : Cx w (n + 1) A s) (h : ∀ a vs ls s', Eff w (frs A) [] s s' → s'.heap.IsList a vs.toArray → BytesAre vs ls → ls.length = 12 → (∀ x ∈ ls, x.length ≤ 9) → Fresh w s a → Q (.ref a) s') : wpAny (model prg w) A (call (.ref 327) []) Q E s := wpAny_call (retConst (p_remotes w) rfl (by decide) rfl rfl C (BindsTo.of_eq rfl) rfl (fun _ => rfl) fun a vs s' e hl hv hf => h a vs _ s' e hl hv rfl (by decide) hf)
noncomputable def p_pieces (w : World) : FnPk w 334 := ⟨_, _, rfl, by kernel_rfl, rfl, ⟨⟨rfl, rfl, rfl⟩, rfl, rfl, rfl⟩⟩
theorem d_pieces : IsDef w "_law_pieces" 334 := ⟨by kernel_rfl, by kernel_rfl⟩
theorem s_pieces (C : Cx w (n + 1) A s) (h : ∀ a vs ls s', Eff w (frs A) [] s s' → s'.heap.IsList a vs.toArray → BytesAre vs ls → ls.length = 29 → (∀ x ∈ ls, x.length ≤ 5) → Fresh w s a → Q (.ref a) s') : wpAny (model prg w) A (call (.ref 334) []) Q E s := wpAny_call (retConst (p_pieces w) rfl (by decide) rfl rfl C (BindsTo.of_eq rfl) rfl (fun _ => rfl) fun a vs s' e hl hv hf => h a vs _ s' e hl hv rfl (by decide) hf)
end
end Mine
end
section
open PySem PySem.W PyProof.Rows PySem.Calls
namespace Mine
noncomputable def BADS : By := [92, 32, 126, 94, 58, 63, 42, 91, 127, 0, 31, 10, 13, 9]
section
variable {w : World} {mu mu' : List Addr} {env : Env} {n : Nat} {A : Around} {g s s' : Shared} {m : Str → Option Value} {E : Value → Shared → Prop} {d : Addr} {kvs : KV} {k v : By} {t u : Tok} {e₁ e₂ : Expr} {pos : Pos}
theorem no_divmod : nsIn (KK w) mainGlobals "divmod" = some none := by kernel_rfl
theorem no_bytes : nsIn (KK w) mainGlobals "bytes" = some none := by kernel_rfl
theorem xDivmod {x y : Str} {px py tp pd pc : Pos} {kk : Nat} {a b : Int} {rest : List Stmt} {Q : Flow → Shared → Prop} (F : Fm w mu env n A g m s) (he : Ev w mu env n A g m (IsI a) e₁) (hc : Ev w mu env n A g m (IsI b) e₂) (hb : b ≠ 0) (hl : b.natAbs.log2 < 9000)
    (k : ∀ t u s', Fm w mu env n A g (upd (upd m x (.int (a.fdiv b) t)) y (.int (a.fmod b) u)) s' → wpAny (model prg w) A (execs rest env) Q E s')
    (hs : autoParam (starEach [e₁, e₂] env = (false, eval e₁ env) :: starEach [e₂] env) byRfl) (hs' : autoParam (starEach [e₂] env = [(false, eval e₂ env)]) byRfl)
    (hk : autoParam (env.kindOf "divmod" = some .globalImplicit) byRfl) (hx : autoParam (env.kindOf x = some .local) byRfl) (hy : autoParam (env.kindOf y = some .local) byRfl) :
    wpAny (model prg w) A (execs (.Assign [tgt2 x y px py kk tp] (.Call (.Name "divmod" pd) [e₁, e₂] [] pc) pos :: rest) env) Q E s := by
  refine sCons (Assign_Tuple (wpAny_Call_Name_kw (bu F no_divmod boot_divmod ?_ hk)) rfl rfl)
  rw [hs, hs']
  refine Calls.callWith_builtin rfl (Calls.evalArgs_plain (Calls.spliced_cons (he s F _ _ fun v s₁ F₁ ⟨t, e1⟩ => Calls.spliced_cons (hc s₁ F₁ _ _ fun u s₂ F₂ ⟨t', e2⟩ => Calls.spliced_nil ?_))))
  subst e1 e2
  refine divmod_int hb ?_ (.inl (PyProof.noPylong_of_log2 hl))
  have F₃ : Fm w mu env n A g m { s₂ with heap := s₂.heap.push { cls := .type "tuple", data := .seq #[.int (a.fdiv b) s₂.toks, .int (a.fmod b) (s₂.toks + 1)] }, toks := s₂.toks + 1 + 1 } := (F₂.go (.push _)).toks _
  exact asg2 F₃ ⟨_, Heap.get?_push_size _ rfl, rfl, _, rfl⟩ (fun s' F' => k _ _ s' F') hx hy
theorem eBytes1 {i : Nat} {pd pc pl : Pos} (hi : i < 256) (he : Ev w mu env n A g m (IsI (i : Int)) e₁) (hs : autoParam (starEach [e₁] env = [(false, eval e₁ env)]) byRfl) (hs2 : autoParam (starEach [.List [e₁] pl] env = [(false, eval (.List [e₁] pl) env)]) byRfl) (hk : autoParam (env.kindOf "bytes" = some .globalImplicit) byRfl) :
    Ev w mu env n A g m (IsB [i.toUInt8]) (.Call (.Name "bytes" pd) [.List [e₁] pl] [] pc) := fun s F Q E k => by
  refine wpAny_Call_Name_kw (bu F no_bytes boot_bytes (PySem.Pv.callWith_type1 ?_) hk)
  rw [hs2]
  refine Calls.spliced_cons (disp F (eaI he eaI0 hs) (fun vs hv => by rw [hv.length]; simp) fun a vs s₂ s₃ F₂ e3 hl hf hv => Calls.spliced_nil ?_)
  obtain ⟨t, rfl⟩ : ∃ t, vs = [.int (i : Int) t] := by
    cases hv with
    | cons h => cases h; exact ⟨_, rfl⟩
  refine call_bytes_ints hl.isList (.cons _ _ .nil) (fun n hn => by rw [List.mem_singleton.mp hn]; omega) (by rw [sizeLine_eq]; simp) F.hh fun h' t' k' hk' => ?_
  have e : byteArr [(i : Int)] = [i.toUInt8].toArray := by simp [byteArr]
  rw [e]
  exact k _ _ ((F₂.go e3).go (.keeps (s' := { s₃ with heap := h', toks := k' }) hk' rfl rfl)) ⟨_, rfl⟩
end
end Mine
end
section
open PySem PySem.W PyProof.Rows PySem.Calls
namespace Mine
section
variable {w : World} {mu mu' : List Addr} {env : Env} {n : Nat} {A : Around} {g s s' : Shared} {m : Str → Option Value} {E : Value → Shared → Prop} {t u : Tok} {Q : Value → Shared → Prop}
noncomputable def p_tail (w : World) : FnPk w 341 := ⟨_, _, rfl, by kernel_rfl, rfl, ⟨⟨rfl, rfl, rfl⟩, rfl, rfl, rfl⟩⟩
theorem d_tail : IsDef w "_law_tail" 341 := ⟨by kernel_rfl, by kernel_rfl⟩
theorem g_bads : ∃ t, nsIn (KK w) mainGlobals "_law_bad" = some (some (.bytes BADS.toArray t)) := ⟨611, by kernel_rfl⟩
theorem fdm {a : Int} {b : Nat} (h : 0 ≤ a) (hb : 0 < b) : 0 ≤ a.fdiv (b : Int) ∧ ∃ r : Nat, a.fmod (b : Int) = r ∧ r < b := by
  obtain ⟨k, rfl⟩ := Int.eq_ofNat_of_zero_le h
  refine ⟨Int.fdiv_nonneg h (by with_reducible exact Int.natCast_nonneg _), k % b, ?_, Nat.mod_lt _ hb⟩
  rw [Int.fmod_eq_emod_of_nonneg _ (by with_reducible exact Int.natCast_nonneg _)]; norm_cast
noncomputable def tailJ  : Nat → (Str → Option Value) → Heap → Prop := fun i m _ => ∃ (r : Int) (l : By) (tr tl : Tok), m "rest" = some (.int r tr) ∧ m "tail" = some (.bytes l.toArray tl) ∧ 0 ≤ r ∧ l.length ≤ 5 * i
noncomputable def tailO  : Flow → (Str → Option Value) → Heap → Prop := fun f m _ => match f with | .next | .brk => ∃ (l : By) (tl : Tok), m "tail" = some (.bytes l.toArray tl) ∧ l.length ≤ 25 | _ => False
theorem s_tail {r : Int} (C : Cx w (n + 2) A s) (h0 : 0 ≤ r) (h : ∀ l t' s', l.length ≤ 25 → Eff w (frs A) [] s s' → Q (.bytes (l : By).toArray t') s') :
    wpAny (model prg w) A (call (.ref 341) [.int r t]) Q E s := by
  refine wpAny_call (run (p_tail w) [] [("rest", .int r t)] C (fun _ h => nomatch h) (BindsTo.of_eq rfl) rfl fun L s₁ hL e1 F => ?_)
  rw [List.append_nil] at F
  have cz : ∀ p ∈ (envP (p_tail w) L).cells, (envP (p_tail w) L).cells.lookup p.1 = some p.2 := fun _ h => nomatch h
  refine xAsg F eB fun v s₂ ⟨tv, hv⟩ F₂ => ?_
  subst hv
  refine sForT F₂.base (F₂.alive cz) (it_range1 F₂.base cz (eI (i := 5)) (by decide) fun it s₃ F₃ T => ?_)
  refine ⟨[], _, _, F₃, T _ _, (fun _ h => nomatch h), tailJ, tailO, fun _ _ _ _ _ x => x, ⟨r, [], t, tv, rfl, rfl, h0, by simp⟩, ?_, ?_, ?_⟩
  · rintro i v m₁ s₄ hi ⟨ti, rfl⟩ ⟨r, l, tr, tl, hr, hl, hr0, hll⟩ F₄
    have hi : i < 5 := hi
    refine asgName (st F₄.base fun s₅ F₅ => ?_)
    refine xIf1 F₅ (tCmp (eL hr ⟨_, rfl⟩) eI cEqI) (fun hb s₆ F₆ => sCons (wpAny_Break ⟨_, F₆, l, tl, hl, by omega⟩)) fun hb s₆ F₆ => ?_
    refine xDivmod (b := 32) F₆ (eL hr ⟨_, rfl⟩) eI (by decide) (by decide +kernel) fun td tm s₇ F₇ => ?_
    obtain ⟨hq0, pr, hpr, hprl⟩ := fdm (b := 32) hr0 (by decide)
    have hpr' : r.fmod 32 = pr := hpr
    rw [hpr'] at F₇
    refine xIf F₇ (tCmp (eL rfl ⟨_, rfl⟩) eI cLtI) (fun hb2 s₈ F₈ => ?_) fun hb2 s₈ F₈ => ?_
    · have hp29 : pr < 29 := by
        have : (pr : Int) < 29 := by simpa using hb2
        omega
      refine sAsg (wpAny_BinOp (ldl F₈ hl (evSub gi_list (evc0 F₈ d_pieces (s_pieces F₈.cx fun a vs ls s₉ e9 hlv hvs hn29 hx hf => ?_))))) rfl
      have F₉ := F₈.go e9
      refine ldl F₉ rfl ⟨hlv.typeIs, ?_⟩
      obtain ⟨x, hxx⟩ : ∃ x, ls[pr]? = some x := ⟨ls[pr]'(by omega), List.getElem?_eq_getElem _⟩
      have hx5 := hx x (List.mem_of_getElem? hxx)
      refine itemL hlv hvs hxx (by with_reducible exact ltK (by assumption) rfl) fun tx => addB (by omega) fun t' s₁₀ e10 => ?_
      refine st (F₉.go e10) (fun s₁₁ F₁₁ => sNil (sNil ⟨_, F₁₁, r.fdiv 32, l ++ x, td, t', rfl, rfl, hq0, by simp; omega⟩)) rfl
    · refine xIf F₈ (tCmp (eL rfl ⟨_, rfl⟩) eI cEqI) (fun hb3 s₉ F₉ => ?_) fun hb3 s₉ F₉ => ?_
      · refine xDivmod (b := 14) F₉ (eL rfl ⟨_, rfl⟩) eI (by decide) (by decide +kernel) fun td2 tm2 s₁₀ F₁₀ => ?_
        obtain ⟨hq1, sp, hsp, hspl⟩ := fdm (b := 14) hq0 (by decide)
        have hsp' : (r.fdiv 32).fmod 14 = sp := hsp
        rw [hsp'] at F₁₀
        have hc : cutL BADS (some (sp : Int)) (some ((sp : Int) + 1)) = (BADS.drop sp).take 1 := by
          rw [show (sp : Int) + 1 = ((sp + 1 : Nat) : Int) by omega, cut_nn]; congr 1; omega
        refine xAsg F₁₀ (eAddB (eL hl ⟨_, rfl⟩) (eSlE hc (eG g_bads.choose_spec ⟨_, rfl⟩) (pSome (eL rfl ⟨_, rfl⟩)) (pSome (eAddI (eL rfl ⟨_, rfl⟩) eI)) (by decide)) (by simp; omega)) fun v s₁₁ ⟨tv, hv⟩ F₁₁ => ?_
        subst hv
        refine sNil (sNil (sNil ⟨_, F₁₁, (r.fdiv 32).fdiv 14, l ++ (BADS.drop sp).take 1, td2, tv, rfl, rfl, hq1, by simp; omega⟩))
      · refine xDivmod (b := 256) F₉ (eL rfl ⟨_, rfl⟩) eI (by decide) (by decide +kernel) fun td2 tm2 s₁₀ F₁₀ => ?_
        obtain ⟨hq1, sp, hsp, hspl⟩ := fdm (b := 256) hq0 (by decide)
        have hsp' : (r.fdiv 32).fmod 256 = sp := hsp
        rw [hsp'] at F₁₀
        refine xAsg F₁₀ (eAddB (eL hl ⟨_, rfl⟩) (eBytes1 hspl (eL rfl ⟨_, rfl⟩)) (by simp; omega)) fun v s₁₁ ⟨tv, hv⟩ F₁₁ => ?_
        subst hv
        refine sNil (sNil (sNil ⟨_, F₁₁, (r.fdiv 32).fdiv 256, l ++ [sp.toUInt8], td2, tv, rfl, rfl, hq1, by simp; omega⟩))
  · rintro m' h' ⟨r, l, tr, tl, _, hl, _, hll⟩
    exact ⟨l, tl, hl, by with_reducible exact leK (by assumption) rfl⟩
  · intro f m' s' F' hO
    cases f with
    | ret v => exact hO.elim
    | cont => exact hO.elim
    | brk =>
      obtain ⟨l, tl, hl, hll⟩ := hO
      exact sRet (ldl F' hl ⟨by rw [List.append_nil]; exact F₂.eff.trans F'.eff, fun e => h l tl s' hll e⟩)
    | next =>
      obtain ⟨l, tl, hl, hll⟩ := hO
      exact sRet (ldl F' hl ⟨by rw [List.append_nil]; exact F₂.eff.trans F'.eff, fun e => h l tl s' hll e⟩)
end
end Mine
end
section
open PySem PySem.W PyProof.Rows PySem.Calls
namespace Mine
noncomputable def OwnD (es : List DictEntry) (d : Addr) : Prop := getL "_refs" es = some (some (.ref d)) ∧ ∀ name : Str, (name == "_refs") = false → (name == "_peeled") = false → getL name es = some none
structure Inst (h : Heap) (x dx d : Addr) : Prop where
  at_ : h.get? x = some (instObj 311 dx)
  own : ∃ es n, h.get? dx = some (dictOf es n) ∧ OwnD es d
structure Rep (w : World) (A : Around) (h : Heap) (x dx d : Addr) (kvs : KV) : Prop where
  inst : Inst h x dx d
  db : DB w h d kvs
  off : x ∉ frs A ∧ dx ∉ frs A ∧ d ∉ frs A
  nb : NB ≤ x ∧ NB ≤ dx ∧ NB ≤ d
  ne : d ≠ x ∧ d ≠ dx
section
variable {w : World} {mu mu' : List Addr} {env : Env} {n : Nat} {A : Around} {g s s' : Shared} {m : Str → Option Value} {E : Value → Shared → Prop} {t u : Tok} {Q : Value → Shared → Prop} {x dx d : Addr} {kvs : KV}
theorem Inst.eff {fr : List Addr} (I : Inst s.heap x dx d) (e : Eff w fr mu s s') (h1 : x ∉ fr ∧ x ∉ mu) (h2 : dx ∉ fr ∧ dx ∉ mu) : Inst s'.heap x dx d := by
  have get : ∀ b o, b ∉ fr → b ∉ mu → s.heap.get? b = some o → (solid o = true ∨ b ≠ tabA) → s'.heap.get? b = some o := fun b o hf hm ho hs => by
    obtain ⟨sl, a, c⟩ := e.keep b o hm ho hs
    have := c hf
    subst this
    exact a
  obtain ⟨a, es, n, b, r⟩ := I
  exact ⟨get _ _ h1.1 h1.2 a (.inl rfl), es, n, get _ _ h2.1 h2.2 b (.inl rfl), r⟩
theorem Rep.eff (R : Rep w A s.heap x dx d kvs) (e : Eff w (frs A) mu s s') (h : x ∉ mu ∧ dx ∉ mu ∧ d ∉ mu) : Rep w A s'.heap x dx d kvs :=
  ⟨R.inst.eff e ⟨R.off.1, h.1⟩ ⟨R.off.2.1, h.2.1⟩, R.db.eff e R.off.2.2 h.2.2, R.off, R.nb, R.ne⟩
theorem Rep.eff0 (R : Rep w A s.heap x dx d kvs) (e : Eff w (frs A) [] s s') : Rep w A s'.heap x dx d kvs := R.eff e ⟨fun q => (nomatch q), fun q => (nomatch q), fun q => nomatch q⟩
theorem Inst.looks (I : Inst s.heap x dx d) : ∃ es n, InstAt s.heap x (instObj 311 dx) 311 (some (dictOf es n)) ∧ OwnD es d := by
  obtain ⟨a, es, n, b, r⟩ := I
  exact ⟨es, n, ⟨a, rfl, rfl, b⟩, r⟩
theorem Rep.deep {f : Addr} {p : FnPk w f} {L : Nat} {s₀ s₁ : Shared} (C : Cx w n A s₀) (hL : s₀.heap.objs.size ≤ L) (R : Rep w A s₀.heap x dx d kvs) (e : Eff w [] [] s₀ s₁) : Rep w (A.deeper (envP p L)) s₁.heap x dx d kvs ∧ x ∉ own (envP p L) ∧ dx ∉ own (envP p L) ∧ d ∉ own (envP p L) := by
  obtain ⟨od, hod⟩ := R.db.alive
  obtain ⟨es, n', hdx, _⟩ := R.inst.own
  have R' := R.eff0 e.of
  exact ⟨⟨R'.inst, R'.db, ⟨frs_deep C hL R.inst.at_ R.off.1, frs_deep C hL hdx R.off.2.1, frs_deep C hL hod R.off.2.2⟩, R.nb, R.ne⟩, Fm.own_size hL R.inst.at_, Fm.own_size hL hdx, Fm.own_size hL hod⟩
structure IsMeth (w : World) (name : Str) (f : Addr) : Prop where
  find : findIn (KK w) (.ref 311) name = some (some (.ref f))
  ty : typeIn (KK w) (.ref f) = some (.type "function")
  keep : keepIn (KK w) (.ref f) = true
  no : (name == "_refs") = false ∧ (name == "_peeled") = false
theorem ga311 : findIn (KK w) (.ref 311) "__getattribute__" = some (some (.builtin "object.__getattribute__")) := by kernel_rfl
theorem gk311 : findIn (KK w) (.ref 311) "__getattr__" = some none := by kernel_rfl
theorem getM {name : Str} {f : Addr} {pl : Sem Bool} {Q : Value × List Value → Shared → Prop} (M : IsMeth w name f) (W : WW w s.heap) (I : Inst s.heap x dx d) (h : Q (.ref f, [.ref x]) s) : wpAny (model prg w) A (getMethod (.ref x) name pl) Q E s := by
  obtain ⟨es, n, I', hO⟩ := I.looks
  refine method_fn W.kin I' ga311 gk311 M.find M.ty ?_ h
  show (lookIn name (dictOf es n)).map _ = _
  rw [lookIn_dict, hO.2 name M.no.1 M.no.2]; rfl
theorem evI0 {o : Expr} {name : Str} {f : Addr} {pl : Sem Bool} {apos pos : Pos} (M : IsMeth w name f) (h : wpAny (model prg w) A (eval o env) (fun ov s₁ => ∃ x dx d, ov = .ref x ∧ WW w s₁.heap ∧ Inst s₁.heap x dx d ∧ wpAny (model prg w) A (call (.ref f) [.ref x]) Q E s₁) E s) 
    (he : autoParam (eval (.Call (.Attribute o name apos) [] [] pos) env = (do
      let ov ← eval o env
      standAt apos.atName
      let (f, first) ← holding [ov] (getMethod ov name pl)
      callWith pos f first (backTo pos (starEach [] env)) (backToKw pos (keywordEach [] env)))) byRfl) :
    wpAny (model prg w) A (eval (.Call (.Attribute o name apos) [] [] pos) env) Q E s := by
  refine methodCall_KW (wpAny_mono h (fun ov s₁ q => ?_) fun _ _ q => q) he
  obtain ⟨x, dx, d, rfl, W, I, h⟩ := q
  exact getM M W I (callWith_K0 W.kin M.keep h)
theorem evI1 {o a : Expr} {name : Str} {f : Addr} {pl : Sem Bool} {apos pos : Pos} (M : IsMeth w name f)
    (h : wpAny (model prg w) A (eval o env) (fun ov s₁ => ∃ x dx d, ov = .ref x ∧ WW w s₁.heap ∧ Inst s₁.heap x dx d ∧
      wpAny (model prg w) A (eval a env) (fun v s₂ => WW w s₂.heap ∧ wpAny (model prg w) A (call (.ref f) [.ref x, v]) Q E s₂) E s₁) E s)
    (ha : autoParam (starEach [a] env = [(false, eval a env)]) byRfl) 
    (he : autoParam (eval (.Call (.Attribute o name apos) [a] [] pos) env = (do
      let ov ← eval o env
      standAt apos.atName
      let (f, first) ← holding [ov] (getMethod ov name pl)
      callWith pos f first (backTo pos (starEach [a] env)) (backToKw pos (keywordEach [] env)))) byRfl) :
    wpAny (model prg w) A (eval (.Call (.Attribute o name apos) [a] [] pos) env) Q E s := by
  refine methodCall_KW (wpAny_mono h (fun ov s₁ q => ?_) fun _ _ q => q) he
  obtain ⟨x, dx, d, rfl, W, I, h⟩ := q
  refine getM M W I (callWith_K W.kin M.keep ?_ ha rfl)
  rw [ha]
  exact Calls.spliced_cons (wpAny_mono h (fun _ _ q => Calls.spliced_nil ⟨q.1.kin, q.2⟩) fun _ _ x => x)
theorem evI2 {o a b : Expr} {name : Str} {f : Addr} {pl : Sem Bool} {apos pos : Pos} (M : IsMeth w name f)
    (h : wpAny (model prg w) A (eval o env) (fun ov s₁ => ∃ x dx d, ov = .ref x ∧ WW w s₁.heap ∧ Inst s₁.heap x dx d ∧
      wpAny (model prg w) A (eval a env) (fun v s₂ => wpAny (model prg w) A (eval b env) (fun u s₃ => WW w s₃.heap ∧ wpAny (model prg w) A (call (.ref f) [.ref x, v, u]) Q E s₃) E s₂) E s₁) E s)
    (ha : autoParam (starEach [a, b] env = (false, eval a env) :: starEach [b] env) byRfl) (hb : autoParam (starEach [b] env = [(false, eval b env)]) byRfl) 
    (he : autoParam (eval (.Call (.Attribute o name apos) [a, b] [] pos) env = (do
      let ov ← eval o env
      standAt apos.atName
      let (f, first) ← holding [ov] (getMethod ov name pl)
      callWith pos f first (backTo pos (starEach [a, b] env)) (backToKw pos (keywordEach [] env)))) byRfl) :
    wpAny (model prg w) A (eval (.Call (.Attribute o name apos) [a, b] [] pos) env) Q E s := by
  refine methodCall_KW (wpAny_mono h (fun ov s₁ q => ?_) fun _ _ q => q) he
  obtain ⟨x, dx, d, rfl, W, I, h⟩ := q
  refine getM M W I (callWith_K W.kin M.keep ?_ ha (by rw [hb]; rfl))
  rw [ha, hb]
  exact Calls.spliced_cons (wpAny_mono h (fun _ _ q => Calls.spliced_cons (wpAny_mono q (fun _ _ r => Calls.spliced_nil ⟨r.1.kin, r.2⟩) fun _ _ x => x)) fun _ _ x => x)
theorem evI3 {o a b c : Expr} {name : Str} {f : Addr} {pl : Sem Bool} {apos pos : Pos} (M : IsMeth w name f)
    (h : wpAny (model prg w) A (eval o env) (fun ov s₁ => ∃ x dx d, ov = .ref x ∧ WW w s₁.heap ∧ Inst s₁.heap x dx d ∧
      wpAny (model prg w) A (eval a env) (fun v s₂ => wpAny (model prg w) A (eval b env) (fun u s₃ => wpAny (model prg w) A (eval c env) (fun t s₄ => WW w s₄.heap ∧ wpAny (model prg w) A (call (.ref f) [.ref x, v, u, t]) Q E s₄) E s₃) E s₂) E s₁) E s)
    (ha : autoParam (starEach [a, b, c] env = (false, eval a env) :: starEach [b, c] env) byRfl) (hb : autoParam (starEach [b, c] env = [(false, eval b env), (false, eval c env)]) byRfl) 
    (he : autoParam (eval (.Call (.Attribute o name apos) [a, b, c] [] pos) env = (do
      let ov ← eval o env
      standAt apos.atName
      let (f, first) ← holding [ov] (getMethod ov name pl)
      callWith pos f first (backTo pos (starEach [a, b, c] env)) (backToKw pos (keywordEach [] env)))) byRfl) :
    wpAny (model prg w) A (eval (.Call (.Attribute o name apos) [a, b, c] [] pos) env) Q E s := by
  refine methodCall_KW (wpAny_mono h (fun ov s₁ q => ?_) fun _ _ q => q) he
  obtain ⟨x, dx, d, rfl, W, I, h⟩ := q
  refine getM M W I (callWith_K W.kin M.keep ?_ ha (by rw [hb]; rfl))
  rw [ha, hb]
  exact Calls.spliced_cons (wpAny_mono h (fun _ _ q => Calls.spliced_cons (wpAny_mono q (fun _ _ r => Calls.spliced_cons (wpAny_mono r (fun _ _ z => Calls.spliced_nil ⟨z.1.kin, z.2⟩) fun _ _ x => x)) fun _ _ x => x)) fun _ _ x => x)
end
end Mine
end
section
open PySem PySem.W PyProof.Rows PySem.Calls
namespace Mine
section
variable {w : World} {mu mu' : List Addr} {env : Env} {n : Nat} {A : Around} {g s s' : Shared} {m : Str → Option Value} {E : Value → Shared → Prop} {t u : Tok} {Q : Value → Shared → Prop} {x dx d : Addr} {kvs : KV} {o a b : Expr} {pos apos : Pos} {k v : By}
theorem hasD311 : hasDictIn (KK w) 311 = true := by kernel_rfl
theorem refs311 : findIn (KK w) (.ref 311) "_refs" = some none := by kernel_rfl
theorem getRefs {expr : Bool} (W : WW w s.heap) (I : Inst s.heap x dx d) (h : Q (.ref d) { s with toks := s.toks + 1 }) : wpAny (model prg w) A (getAttr (.ref x) "_refs" expr) Q E s := by
  obtain ⟨es, n, I', hO⟩ := I.looks
  exact get_value W.kin I' ga311 (findObj_own hasD311 refs311 (by kernel_rfl) (by rw [lookIn_dict]; exact hO.1)) (by kernel_rfl) h
theorem eRefs (R : Rep w A g.heap x dx d kvs) (off : x ∉ mu ∧ dx ∉ mu ∧ d ∉ mu) (h : Ev w mu env n A g m (IsV (.ref x)) o)
    (he : autoParam (eval (.Attribute o "_refs" pos) env = (do
      let ov ← eval o env
      standAt pos.atName
      let r ← holding [ov] (getAttr ov "_refs" true)
      letTemporaryGo o ov r
      pure r)) byUnf) : Ev w mu env n A g m (IsV (.ref d)) (.Attribute o "_refs" pos) := fun s F Q E k => by
  refine Attribute_any_ (h s F _ _ fun v s' F' hv => ?_) he
  have hv : v = .ref x := hv
  subst hv
  exact getRefs F'.ww (R.eff F'.eff off).inst (k _ _ (F'.toks _) rfl)
theorem callM {T : String} {name : Str} {id : String} {B : Builtin} {self : Value} {rest : List Value} {S : PySem.Spec} (slot : Slot T name id) (entry : entryFor table id = some B) (ht : s.TypeIs self T) (ha : argsOk id ⟨self :: rest, []⟩)
    (hm : MeetsIn prg w (B ⟨self :: rest, []⟩) S) (h : S A (wants Q E) s) : wpAny (model prg w) A (call (.builtin id) (self :: rest)) Q E s :=
  wpAny_call (codeAny_mono (codeAny_call_builtin slot.plain entry (slot.check _ _ _ _ _ _ _ _ ht ha (hm A (wants Q E) s h))) fun r s' q => by rcases r with e | (v | _ | _ | _) <;> exact q)
theorem m_get : Meth "dict" "get" "dict.get" := ⟨PySem.F.plainAttrs_dict, PySem.F.slot_dict_get, PySem.F.type_dict_get⟩
theorem m_pop : Meth "dict" "pop" "dict.pop" := ⟨PySem.F.plainAttrs_dict, PySem.F.slot_dict_pop, PySem.F.type_dict_pop⟩
theorem m_keys : Meth "dict" "keys" "dict.keys" := ⟨PySem.F.plainAttrs_dict, PySem.F.slot_dict_keys, PySem.F.type_dict_keys⟩
theorem bGet {dflt : Value} (hd : DB w s.heap d kvs) (hn : NB ≤ d) (h : ∀ v s', Eff w [] [] s s' → (get2 kvs k = none → v = dflt) → (∀ p, get2 kvs k = some p → IsB p v) → Q v s') : wpAny (model prg w) A (call (.builtin "dict.get") [.ref d, .bytes k.toArray t, dflt]) Q E s := by
  obtain ⟨ps, hm, hp⟩ := hd
  refine callM PySem.F.slot_dict_get PySem.F.entry_dict_get hm.mapOf.typeIs (PySem.F.args_dict_get_3 _ _ _) (meets_dict_get_default _ d (bk k t) (lo_of hn) dflt) ⟨_, hm.mapOf, h _ _ (.toks _) (fun e => ?_) fun p e => ?_⟩
  · rcases hp.get k with ⟨h1, h2⟩ | ⟨v', t', h1, h2⟩
    · rw [h1]; rfl
    · rw [e] at h2; cases h2
  · rcases hp.get k with ⟨h1, h2⟩ | ⟨v', t', h1, h2⟩
    · rw [e] at h2; cases h2
    · rw [e] at h2; cases h2; rw [h1]; exact ⟨_, rfl⟩
theorem bPop (hd : DB w s.heap d kvs) (hn : NB ≤ d) (hv : get2 kvs k = some v) (hz : kvs.length ≤ 1000) (h : ∀ s', DB w s'.heap d (wo kvs k) → Eff w [] [d] s s' → ∀ v, Q v s') : wpAny (model prg w) A (call (.builtin "dict.pop") [.ref d, .bytes k.toArray t]) Q E s := by
  obtain ⟨ps, hm, hp⟩ := hd
  rcases hp.get k with ⟨h1, h2⟩ | ⟨v', t', h1, h2⟩
  · rw [hv] at h2; cases h2
  · refine callM PySem.F.slot_dict_pop PySem.F.entry_dict_pop hm.mapOf.typeIs (PySem.F.args_dict_pop_2 _ _) (meets_dict_pop_there _ d (bk k t) [] (.inl rfl) rfl) ⟨ps, _, hm, by rw [sizeLine_eq, hp.length]; with_reducible exact leK (by assumption) rfl, h1, fun h' hm' hs => ?_⟩
    exact h _ ⟨_, hm', hp.without k⟩ (Eff.same (s' := { s with heap := h', toks := s.toks + 1 }) hn hs rfl rfl) _
theorem eGet {dflt : Value} (hd : DB w g.heap d kvs) (hf : d ∉ frs A) (hm : d ∉ mu) (hn : NB ≤ d) (ho : Ev w mu env n A g m (IsV (.ref d)) o) (hi : Ev w mu env n A g m (IsB k) a) (hb : Ev w mu env n A g m (IsV dflt) b)
    (hbase : autoParam (attributeBase o "get" env (eval o env) = eval o env) byRfl) (ha : autoParam (starEach [a, b] env = (false, eval a env) :: starEach [b] env) byRfl) (hbb : autoParam (starEach [b] env = [(false, eval b env)]) byRfl) (hline : autoParam ((apos.endLine == pos.line) = true) byRfl) :
    Ev w mu env n A g m (fun v => (get2 kvs k = none → v = dflt) ∧ ∀ p, get2 kvs k = some p → IsB p v) (.Call (.Attribute o "get" apos) [a, b] [] pos) := fun s F Q E q => by
  refine evm2 m_get (ho s F _ _ fun ov s₁ F₁ h1 => ?_) hbase ha hbb hline
  have h1 : ov = .ref d := h1
  subst h1
  have hd₁ := hd.eff F₁.eff hf hm
  refine ⟨⟨hd₁.typeIs, hd₁.noDict⟩, hi _ F₁ _ _ fun kv s₂ F₂ ⟨t, h2⟩ => ?_⟩
  subst h2
  refine hb _ F₂ _ _ fun dv s₃ F₃ h3 => ?_
  have h3 : dv = dflt := h3
  subst h3
  exact bGet (hd.eff F₃.eff hf hm) hn fun v s' e x y => q _ _ (F₃.go e) ⟨x, y⟩
end
end Mine
end
section
open PySem PySem.W PyProof.Rows PySem.Calls
namespace Mine
noncomputable def KOk (kvs : KV) : Prop := kvs.length ≤ 1000 ∧ ∀ kv ∈ kvs, kv.1.length ≤ 8192 ∧ kv.2 ≠ [] ∧ kv.2.length ≤ 8192
theorem get2_mem {kvs : KV} {k v : By} (h : get2 kvs k = some v) : (k, v) ∈ kvs := by
  unfold get2 at h
  obtain ⟨kv, h1, rfl⟩ := Option.map_eq_some_iff.mp h
  have h2 := List.find?_some h1
  have h3 := List.mem_of_find?_eq_some h1
  have : kv.1 = k := by simpa using h2
  rw [← this]; exact h3
theorem KOk.get {kvs : KV} (K : KOk kvs) {k v : By} (h : get2 kvs k = some v) : k.length ≤ 8192 ∧ v ≠ [] ∧ v.length ≤ 8192 := K.2 _ (get2_mem h)
section
variable {w : World} {mu mu' : List Addr} {env : Env} {n : Nat} {A : Around} {g s s' : Shared} {m : Str → Option Value} {E : Value → Shared → Prop} {t u : Tok} {Q : Value → Shared → Prop} {x dx d : Addr} {kvs : KV} {o a b : Expr} {pos apos : Pos} {k v : By}
theorem Rep.deep' {f : Addr} {p : FnPk w f} {L : Nat} {s₀ s₁ : Shared} (R : Rep w A s₀.heap x dx d kvs) (C : Cx w n A s₀) (hL : s₀.heap.objs.size ≤ L) (e : Eff w [] [] s₀ s₁) : Rep w (A.deeper (envP p L)) s₁.heap x dx d kvs ∧ x ∉ own (envP p L) ∧ dx ∉ own (envP p L) ∧ d ∉ own (envP p L) := R.deep C hL e
noncomputable def p_Ref (w : World) : FnPk w 90 := ⟨_, _, rfl, by kernel_rfl, rfl, ⟨⟨rfl, rfl, rfl⟩, rfl, rfl, rfl⟩⟩
theorem d_Ref : IsDef w "Ref" 90 := ⟨by kernel_rfl, by kernel_rfl⟩
theorem s_Ref {v : Value} (C : Cx w (n + 1) A s) (h : ∀ s', Eff w (frs A) [] s s' → Q v s') : wpAny (model prg w) A (call (.ref 90) [v]) Q E s := by
  refine wpAny_call (run (p_Ref w) [] [("octets", v)] C (fun _ h => nomatch h) (BindsTo.of_eq rfl) rfl fun L s₁ hL e1 F => ?_)
  rw [List.append_nil] at F
  exact sRet (ldl F rfl ⟨by rw [List.append_nil]; exact F.eff, fun e => h _ e⟩)
theorem eRef {l : By} (h : Ev w mu env (n + 1) A g m (IsB l) a) (ha : autoParam (starEach [a] env = [(false, eval a env)]) byRfl) (hx : autoParam (env.kindOf "Ref" = some .globalImplicit) byRfl) : Ev w mu env (n + 1) A g m (IsB l) (.Call (.Name "Ref" apos) [a] [] pos) :=
  fun s F Q E q => evc1 F d_Ref (h s F _ _ fun v s' F' hv => ⟨F'.ww, s_Ref F'.cx fun s₂ e => q _ _ (F'.go e) hv⟩) ha hx
noncomputable def p_OID (w : World) : FnPk w 76 := ⟨_, _, rfl, by kernel_rfl, rfl, ⟨⟨rfl, rfl, rfl⟩, rfl, rfl, rfl⟩⟩
theorem d_OID : IsDef w "ObjectID" 76 := ⟨by kernel_rfl, by kernel_rfl⟩
theorem s_OID {v : Value} (C : Cx w (n + 1) A s) (h : ∀ s', Eff w (frs A) [] s s' → Q v s') : wpAny (model prg w) A (call (.ref 76) [v]) Q E s := by
  refine wpAny_call (run (p_OID w) [] [("octets", v)] C (fun _ h => nomatch h) (BindsTo.of_eq rfl) rfl fun L s₁ hL e1 F => ?_)
  rw [List.append_nil] at F
  exact sRet (ldl F rfl ⟨by rw [List.append_nil]; exact F.eff, fun e => h _ e⟩)
theorem eOID {l : By} (h : Ev w mu env (n + 1) A g m (IsB l) a) (ha : autoParam (starEach [a] env = [(false, eval a env)]) byRfl) (hx : autoParam (env.kindOf "ObjectID" = some .globalImplicit) byRfl) : Ev w mu env (n + 1) A g m (IsB l) (.Call (.Name "ObjectID" apos) [a] [] pos) :=
  fun s F Q E q => evc1 F d_OID (h s F _ _ fun v s' F' hv => ⟨F'.ww, s_OID F'.cx fun s₂ e => q _ _ (F'.go e) hv⟩) ha hx
noncomputable def p_loose (w : World) : FnPk w 266 := ⟨_, _, rfl, by kernel_rfl, rfl, ⟨⟨rfl, rfl, rfl⟩, rfl, rfl, rfl⟩⟩
theorem i_loose : IsMeth w "read_loose_ref" 266 := ⟨by kernel_rfl, by kernel_rfl, by kernel_rfl, by decide, by decide⟩
theorem s_loose (C : Cx w (n + 1) A s) (R : Rep w A s.heap x dx d kvs) (h : ∀ v s', Eff w (frs A) [] s s' → OptB (get2 kvs k) v → Q v s') : wpAny (model prg w) A (call (.ref 266) [.ref x, .bytes k.toArray t]) Q E s := by
  refine wpAny_call (run (p_loose w) [] [("self", .ref x), ("name", .bytes k.toArray t)] C (fun _ h => nomatch h) (BindsTo.of_eq rfl) rfl fun L s₁ hL e1 F => ?_)
  rw [List.append_nil] at F
  obtain ⟨R₁, off⟩ := R.deep' (p := p_loose w) C hL e1
  refine xRet F (eGet R₁.db R₁.off.2.2 off.2.2 R₁.nb.2.2 (eRefs R₁ off (eL rfl rfl)) (eL rfl ⟨_, rfl⟩) eN) fun v s' hv F' => ⟨by rw [List.append_nil]; exact F'.eff, fun e => h _ _ e ?_⟩
  cases hg : get2 kvs k with
  | none => exact hv.1 hg
  | some p => exact hv.2 p hg
noncomputable def p_packed (w : World) : FnPk w 273 := ⟨_, _, rfl, by kernel_rfl, rfl, ⟨⟨rfl, rfl, rfl⟩, rfl, rfl, rfl⟩⟩
theorem i_packed : IsMeth w "get_packed_refs" 273 := ⟨by kernel_rfl, by kernel_rfl, by kernel_rfl, by decide, by decide⟩
theorem s_packed (C : Cx w (n + 1) A s) (h : ∀ D s', Eff w (frs A) [] s s' → DB w s'.heap D [] → Fresh w s D → Q (.ref D) s') : wpAny (model prg w) A (call (.ref 273) [.ref x]) Q E s := by
  refine wpAny_call (run (p_packed w) [] [("self", .ref x)] C (fun _ h => nomatch h) (BindsTo.of_eq rfl) rfl fun L s₁ hL e1 F => ?_)
  rw [List.append_nil] at F
  exact sRet (dNew fun U s₂ e2 hU hfU => ⟨by rw [List.append_nil]; exact (F.go e2).eff, fun e => h U _ e hU (hfU.back e1)⟩)
noncomputable def p_read (w : World) : FnPk w 189 := ⟨_, _, rfl, by kernel_rfl, rfl, ⟨⟨rfl, rfl, rfl⟩, rfl, rfl, rfl⟩⟩
theorem i_read : IsMeth w "read_ref" 189 := ⟨by kernel_rfl, by kernel_rfl, by kernel_rfl, by decide, by decide⟩
theorem truthO {ob : Option By} {v : Value} {Q : Bool → Shared → Prop} (hv : OptB ob v) (F : Fm w mu env n A g m s) (hz : ∀ p, ob = some p → p ≠ [] ∧ p.length ≤ 8192) (h : ∀ s', Fm w mu env n A g m s' → Q ob.isSome s') : wpAny (model prg w) A (truthy v) Q E s := by
  cases ob with
  | none => exact truth_none v hv s F _ _ h
  | some p =>
    obtain ⟨h1, h2⟩ := hz p rfl
    refine truth_bytes (by with_reducible exact leK (by assumption) rfl) v hv s F _ _ fun s' F' => ?_
    have : (!p.isEmpty) = true := by cases p with | nil => exact absurd rfl h1 | cons _ _ => rfl
    rw [this]; exact h s' F'
theorem s_read (C : Cx w (n + 2) A s) (R : Rep w A s.heap x dx d kvs) (K : KOk kvs) (h : ∀ v s', Eff w (frs A) [] s s' → OptB (get2 kvs k) v → Q v s') : wpAny (model prg w) A (call (.ref 189) [.ref x, .bytes k.toArray t]) Q E s := by
  refine wpAny_call (run (p_read w) [] [("self", .ref x), ("refname", .bytes k.toArray t)] C (fun _ h => nomatch h) (BindsTo.of_eq rfl) rfl fun L s₁ hL e1 F => ?_)
  rw [List.append_nil] at F
  obtain ⟨R₁, off⟩ := R.deep' (p := p_read w) C hL e1
  refine sAsg (evI1 i_loose (ldl F rfl ⟨x, dx, d, rfl, F.ww, R₁.inst, ldl F rfl ⟨F.ww, s_loose F.cx R₁ fun v s₂ e2 hv => ?_⟩⟩)) rfl
  refine st (F.go e2) fun s₃ F₃ => ?_
  refine xIf1 F₃ (tNot (b := (get2 kvs k).isSome) (tPlain (V := OptB (get2 kvs k)) (eL rfl hv) fun v hv s F Q E q => truthO hv F (fun p hp => (K.get hp).2) q)) (fun hb s₄ F₄ => ?_) fun hb s₄ F₄ => ?_
  · have hg : get2 kvs k = none := by cases hg : get2 kvs k with | none => rfl | some p => rw [hg] at hb; cases hb
    refine sAsg (evm2 m_get (evI0 i_packed (ldl F₄ rfl ⟨x, dx, d, rfl, F₄.ww, (R₁.eff F₄.eff off).inst, s_packed F₄.cx fun D s₅ e5 hD hfD => ⟨⟨hD.typeIs, hD.noDict⟩, ?_⟩⟩)) (by rfl) (by rfl) (by rfl) (by rfl)) rfl
    have F₅ := F₄.go e5
    refine ldl F₅ rfl (kNone (bGet hD (hfD.2 F₄.ww) fun v s₆ e6 hn _ => st (F₅.go e6) (fun s₇ F₇ => sNil (sRet (ldl F₇ rfl ⟨by rw [List.append_nil]; exact F₇.eff, fun e => h _ _ e ?_⟩))) rfl))
    rw [hg]; exact hn rfl
  · exact sRet (ldl F₄ rfl ⟨by rw [List.append_nil]; exact F₄.eff, fun e => h _ _ e hv⟩)
end
end Mine
end
section
open PySem PySem.W PyProof.Rows PySem.Calls
namespace Mine
inductive Fol (kvs : KV) : By → List By → Option By → Prop
  | none {k : By} : get2 kvs k = .none → Fol kvs k [k] .none
  | stop {k v : By} : get2 kvs k = some v → REF.isPrefixOf v = false → Fol kvs k [k] (some v)
  | step {k v : By} {names : List By} {r : Option By} : get2 kvs k = some v → REF.isPrefixOf v = true → Fol kvs (v.drop 5) names r → Fol kvs k (k :: names) r
theorem Fol.pos {kvs : KV} {k : By} {names : List By} {r : Option By} (h : Fol kvs k names r) : 0 < names.length := by cases h <;> simp
theorem Fol.has {kvs : KV} {k : By} {names : List By} {r : Option By} (h : Fol kvs k names r) : ∀ p, r = some p → ∃ q, get2 kvs q = some p := by
  induction h with
  | none _ => intro p e; cases e
  | stop h _ => intro p e; cases e; exact ⟨_, h⟩
  | step _ _ _ ih => exact ih
theorem Fol.onNone {kvs : KV} {k : By} {names : List By} {r : Option By} (h : Fol kvs k names r) (g : get2 kvs k = .none) : names = [k] ∧ r = .none := by
  cases h with
  | none _ => exact ⟨rfl, rfl⟩
  | stop h _ => rw [g] at h; cases h
  | step h _ _ => rw [g] at h; cases h
theorem Fol.onSome {kvs : KV} {k p : By} {names : List By} {r : Option By} (h : Fol kvs k names r) (g : get2 kvs k = some p) : (REF.isPrefixOf p = false ∧ names = [k] ∧ r = some p) ∨ (REF.isPrefixOf p = true ∧ ∃ nm, names = k :: nm ∧ Fol kvs (p.drop 5) nm r) := by
  cases h with
  | none h => rw [g] at h; cases h
  | stop h q => rw [g] at h; cases h; exact .inl ⟨q, rfl, rfl⟩
  | step h q f => rw [g] at h; cases h; exact .inr ⟨q, _, rfl, f⟩
section
variable {w : World} {mu mu' : List Addr} {env : Env} {n : Nat} {A : Around} {g s s' : Shared} {m : Str → Option Value} {E : Value → Shared → Prop} {t u : Tok} {Q : Value → Shared → Prop} {x dx d : Addr} {kvs : KV} {o a b : Expr} {pos apos : Pos} {k v : By}
theorem plEff {fr : List Addr} {U : Addr} {items : Array Value} (x : s.heap.PlainList U items) (e : Eff w fr mu s s') (hf : U ∉ fr) (hm : U ∉ mu) : s'.heap.PlainList U items := by
  obtain ⟨n, ho⟩ := x
  obtain ⟨sl, a, c⟩ := e.keep U _ hm ho (.inl rfl)
  have := c hf
  subst this
  exact ⟨n, a⟩
theorem plAlive {h : Heap} {U : Addr} {items : Array Value} (x : h.PlainList U items) : ∃ o, h.get? U = some o := let ⟨n, ho⟩ := x; ⟨_, ho⟩
theorem plType {U : Addr} {items : Array Value} (x : s.heap.PlainList U items) : s.TypeIs (.ref U) "list" ∧ ∀ a, Value.ref U = .ref a → ∃ ob, s.heap.get? a = some ob ∧ ob.dict = none := by
  obtain ⟨n, ho⟩ := x
  exact ⟨⟨_, ho, rfl⟩, fun a e => by cases e; exact ⟨_, ho, rfl⟩⟩
theorem m_append : Meth "list" "append" "list.append" := ⟨PySem.F.plainAttrs_list, PySem.slot_list_append, PySem.type_list_append⟩
theorem xAppend {U : Addr} {vs : List Value} {l : By} {rest : List Stmt} {p q : Pos} {Q : Flow → Shared → Prop} (F : Fm w mu env n A g m s) (hU : g.heap.PlainList U vs.toArray) (hf : U ∉ frs A) (hm : U ∉ mu) (hn : NB ≤ U) (hz : vs.length ≤ 16777216)
    (ho : Ev w mu env n A g m (IsV (.ref U)) o) (ha : Ev w mu env n A g m (IsB l) a)
    (h : ∀ s₁ s₂ tl, Fm w mu env n A g m s₁ → Eff w [] [U] s₁ s₂ → s₂.heap.PlainList U (vs ++ [Value.bytes l.toArray tl]).toArray → wpAny (model prg w) A (execs rest env) Q E s₂)
    (hi : autoParam (interactive env = false) byRfl) (hs : autoParam (swapsWith (.Call (.Attribute o "append" apos) [a] [] p) none q.line env = pure false) byRfl)
    (hbase : autoParam (attributeBase o "append" env (eval o env) = eval o env) byRfl) (hse : autoParam (starEach [a] env = [(false, eval a env)]) byRfl) (hline : autoParam ((apos.endLine == p.line) = true) byRfl) :
    wpAny (model prg w) A (execs (.Expr (.Call (.Attribute o "append" apos) [a] [] p) q :: rest) env) Q E s := by
  refine sExp (evm1 m_append (ho s F _ _ fun ov s₁ F₁ h1 => ?_) hbase hse hline) hi hs
  have h1 : ov = .ref U := h1
  subst h1
  refine ⟨plType (plEff hU F₁.eff hf hm), ha _ F₁ _ _ fun av s₂ F₂ ⟨ta, h2⟩ => ?_⟩
  subst h2
  have hU₂ := plEff hU F₂.eff hf hm
  refine wpAny_list_append_plain hU₂ (fun h' hU' hs => ?_) (by rw [sizeLine_eq]; simpa using hz)
  exact h s₂ { s₂ with heap := h' } ta F₂ (Eff.same (s' := { s₂ with heap := h' }) hn hs rfl rfl) (by simpa using hU')
theorem xAug {y : Str} {i j : Int} {ti : Tok} {e : Expr} {p q : Pos} {rest : List Stmt} {Q : Flow → Shared → Prop} (F : Fm w mu env n A g m s) (hy : m y = some (.int i ti)) (h : Ev w mu env n A g m (IsI j) e)
    (k : ∀ t s', Fm w mu env n A g (upd m y (.int (i + j) t)) s' → wpAny (model prg w) A (execs rest env) Q E s') (hl : autoParam (env.kindOf y = some .local) byRfl) : wpAny (model prg w) A (execs (.AugAssign (.Name y p) .Add e q :: rest) env) Q E s := by
  refine sCons (wpAny_AugAssign_Name ?_)
  obtain ⟨ml, hn, hx⟩ := F.here.loc
  refine wpAny_loadName_local F.kind hl hn ((hx y hl).trans hy) (h s F _ _ fun v s₁ F₁ ⟨tj, hv⟩ => ?_)
  subst hv
  exact P.iadd_int (st (F₁.toks _) (fun s₂ F₂ => k _ s₂ F₂) hl)
theorem Fm.rejoin {m₁ : Str → Option Value} {s₁ : Shared} (F : Fm w mu env n A g m₁ s₁) (F' : Fm w mu' env n A s₁ m s) (hs : ∀ b ∈ mu', b ∈ mu) : Fm w mu env n A g m s :=
  ⟨F.eff.trans (F'.eff.mono (fun _ q => q) hs), F'.here, F.own, F'.ww, F'.bare, F.hh, F.depth, F.units, F.fx, F.low, F.kind, F.glob, F.bui, trivial⟩
noncomputable def p_follow (w : World) : FnPk w 196 := ⟨_, _, rfl, by kernel_rfl, rfl, ⟨⟨rfl, rfl, rfl⟩, rfl, rfl, rfl⟩⟩
theorem i_follow : IsMeth w "follow" 196 := ⟨by kernel_rfl, by kernel_rfl, by kernel_rfl, by decide, by decide⟩
inductive followJ (x U : Addr) (k : By) (t : Tok) (kvs : KV) (names : List By) (r : Option By) (k' : Nat) (m : Str → Option Value) (h : Heap) : Prop
  | mk (pre : List By) (vs : List Value) (c : By) (tc td : Tok) (h1 : m "self" = some (.ref x)) (h2 : m "name" = some (.bytes k.toArray t)) (h3 : m "refnames" = some (.ref U)) (h4 : m "contents" = some (.bytes c.toArray tc)) (h5 : m "depth" = some (.int (pre.length : Int) td)) (pl : h.PlainList U vs.toArray) (b : BytesAre vs pre) (cz : c.length ≤ 8200)
    (cs : (REF.isPrefixOf c = true ∧ ∃ nm, Fol kvs (c.drop 5) nm r ∧ pre ++ nm = names ∧ nm.length = k') ∨ (REF.isPrefixOf c = false ∧ c ≠ [] ∧ r = some c ∧ pre = names ∧ k' = 0)) : followJ x U k t kvs names r k' m h
theorem s_follow {names : List By} {r : Option By} (C : Cx w (n + 3) A s) (R : Rep w A s.heap x dx d kvs) (K : KOk kvs) (hk : k.length ≤ 8192) (hF : Fol kvs k names r) (hl : names.length ≤ 5)
    (h : ∀ T U v vs s', Eff w (frs A) [] s s' → s'.heap.IsTuple T #[.ref U, v] → s'.heap.PlainList U vs.toArray → BytesAre vs names → OptB r v → Fresh w s U → Fresh w s T → Q (.ref T) s') :
    wpAny (model prg w) A (call (.ref 196) [.ref x, .bytes k.toArray t]) Q E s := by
  refine wpAny_call (run (p_follow w) [] [("self", .ref x), ("name", .bytes k.toArray t)] C (fun _ h => nomatch h) (BindsTo.of_eq rfl) rfl fun L s₁ hL e1 F => ?_)
  rw [List.append_nil] at F
  have cz : ∀ p ∈ (envP (p_follow w) L).cells, (envP (p_follow w) L).cells.lookup p.1 = some p.2 := fun _ h => nomatch h
  obtain ⟨R₁, off⟩ := R.deep' (p := p_follow w) C hL e1
  refine xAsg F (eAddB (l := REF) (eG g_SYMREF.choose_spec ⟨_, rfl⟩) (eL (V := IsB k) rfl ⟨_, rfl⟩) (by have : REF.length = 5 := rfl; with_reducible exact leB (by assumption) rfl)) fun v s₂ ⟨tv, hv⟩ F₂ => ?_
  subst hv
  refine xAsg F₂ (eI (i := 0)) fun v s₃ ⟨t0, hv⟩ F₃ => ?_
  subst hv
  refine sAsg (disp F₃ eaB0 (fun vs h => by have := h.length; simp at this; simp [this]) fun U vs s₄ s₅ F₄ e5 hU hfU hvs => ?_) rfl
  cases hvs
  have offU := F₄.fresh_off (F₄.alive cz) hfU
  refine st (F₄.go e5).base (fun s₆ F₆ => ?_) rfl
  have e56 : Eff w (frs (A.deeper (envP (p_follow w) L))) (own (envP (p_follow w) L)) s₁ s₆ := (F₄.go e5).eff.trans F₆.eff
  have hneU : x ≠ U ∧ dx ≠ U ∧ d ≠ U := by
    obtain ⟨od, hod⟩ := (R₁.eff F₄.eff off).db.alive
    obtain ⟨es, n', hdx, _⟩ := (R₁.eff F₄.eff off).inst.own
    exact ⟨hfU.ne (R₁.eff F₄.eff off).inst.at_, hfU.ne hdx, hfU.ne hod⟩
  have hpre : ∀ c : By, REF.isPrefixOf (REF ++ c) = true := fun c => by simp [List.isPrefixOf_iff_prefix]
  have hU₆ : s₆.heap.PlainList U ([] : List Value).toArray := plEff hU F₆.eff offU.2.1 offU.1
  have R₆ := R₁.eff e56 off
  have Fw := F₆.base.with1 offU.2.2.2.1 offU.2.1
  have offw : x ∉ U :: own (envP (p_follow w) L) ∧ dx ∉ U :: own (envP (p_follow w) L) ∧ d ∉ U :: own (envP (p_follow w) L) :=
    ⟨fun q => (List.mem_cons.mp q).elim hneU.1 off.1, fun q => (List.mem_cons.mp q).elim hneU.2.1 off.2.1, fun q => (List.mem_cons.mp q).elim hneU.2.2 off.2.2⟩
  have fin : ∀ {T : Addr} {vs : List Value} {v : Value} {s' : Shared} {m' : Str → Option Value}, Fm w (U :: own (envP (p_follow w) L)) (envP (p_follow w) L) (n + 2) (A.deeper (envP (p_follow w) L)) s₆ m' s' → s'.heap.IsTuple T #[.ref U, v] → s'.heap.PlainList U vs.toArray → BytesAre vs names → OptB r v → Fresh w s₁ T → Left w A (envP (p_follow w) L) [] s s₁ Q (.ret (.ref T)) s' := fun {T vs v s' m'} F' hT hU' hb hr hf => by
    have et := ((e56.mono (fun _ q => q) fun b q => List.mem_append_right [U] q).trans F'.eff).shrink fun b q => List.mem_singleton.mp q ▸ (hfU.back F₄.eff offU.1).1
    exact ⟨by rw [List.append_nil]; exact et, fun e => h T U _ _ s' e hT hU' hb hr ((hfU.back F₄.eff offU.1).back e1) (hf.back e1)⟩
  have hrz : ∀ p, r = some p → p ≠ [] ∧ p.length ≤ 8192 := fun p hp => let ⟨q, hq⟩ := hF.has p hp; (K.get hq).2
  have ret : ∀ {vs : List Value} {v : Value} {s' : Shared} {m' : Str → Option Value}, Fm w (U :: own (envP (p_follow w) L)) (envP (p_follow w) L) (n + 2) (A.deeper (envP (p_follow w) L)) s₆ m' s' → m' "refnames" = some (.ref U) → m' "contents" = some v → OptB r v → s'.heap.PlainList U vs.toArray → BytesAre vs names →
      wpAny (model prg w) (A.deeper (envP (p_follow w) L)) (execs ((p_follow w).body.drop 4) (envP (p_follow w) L)) (Left w A (envP (p_follow w) L) [] s s₁ Q) (fun _ _ => False) s' := fun {vs v s' m'} F' h1 h2 hv hU' hb => by
    refine sRet (dispT F'.only (R := fun us => ∃ u vs, us = u :: vs ∧ IsV (.ref U) u ∧ ∃ v ws, vs = v :: ws ∧ OptB r v ∧ ws = []) (eaCons (eL h1 rfl) (eaCons (V := OptB r) ?_ eaNil)) (fun vs h => ?_) fun T us s₂ s₃ F₂ e₃ hT hfT hus => ?_)
    · refine eIfE (b := r.isSome) (tPlain (V := OptB r) (eL h2 hv) fun v hv s F Q E q => truthO hv F hrz q) (fun hr => ?_) fun hr => ?_
      · cases r with
        | none => cases hr
        | some p => exact eOID (l := p) (eL h2 hv)
      · cases r with
        | none => exact eN
        | some p => cases hr
    · obtain ⟨u, us, rfl, _, v, ws, rfl, _, rfl⟩ := h; simp
    · obtain ⟨u, us, rfl, hu, v, ws, rfl, hv, rfl⟩ := hus
      have hu : u = .ref U := hu
      subst hu
      have F₃ := F'.rejoin (F₂.go e₃) fun b q => .tail _ q
      refine fin F₃ hT ((plEff hU' (F₂.go e₃).eff offU.2.1 offU.1)) hb hv ?_
      have offT := F₂.fresh_off (F₂.alive cz) hfT
      have hTU : T ≠ U := fun q => by obtain ⟨o, ho⟩ := plAlive hU'; rw [← q, offT.2.2.2.2] at ho; cases ho
      exact (((hfT.back F₂.eff offT.1).back F'.eff fun q => (List.mem_cons.mp q).elim hTU offT.1).back e56 offT.1)
  have tl : ∀ b ∈ own (envP (p_follow w) L), b ∈ U :: own (envP (p_follow w) L) := fun b q => .tail _ q
  refine sWhile Fw ((followJ x U k t kvs names r)) names.length
    ⟨[], [], REF ++ k, tv, t0, rfl, rfl, rfl, rfl, rfl, hU₆, .nil, by have : REF.length = 5 := rfl; simp; with_reducible exact leB (by assumption) rfl, .inl ⟨hpre k, names, by have : (REF ++ k).drop 5 = k := rfl; rw [this]; exact hF, rfl, rfl⟩⟩ ?_
  rintro k' m₁ s₇ ⟨pre, vs, c, tc, td, m1, m2, m3, m4, m5, hUv, hvs, hcz, hcase⟩ F₇
  have G := F₇.only
  have R₇ := R₆.eff F₇.eff offw
  refine G.tt (tAnd2 (tPlain (eL m4 ⟨_, rfl⟩) (truth_bytes (l := c) (by with_reducible exact leK (by assumption) rfl))) fun _ => tPlain (eM1 m_startswith (eL (V := IsB c) m4 ⟨_, rfl⟩) (eG g_SYMREF.choose_spec ⟨_, rfl⟩) dStarts) truth_bool) fun s₈ G₈ => ?_
  rcases hcase with ⟨hp, nm, hfol, hnm, hk'⟩ | ⟨hp, hc0, hr, hpn, hk'⟩
  · have hb : (!c.isEmpty && REF.isPrefixOf c) = true := by
      rw [hp, Bool.and_true]
      cases c with
      | nil => cases hp
      | cons _ _ => rfl
    rw [hb, if_pos rfl]
    refine xAsg G₈ (eRef (eSlE (cut_from c 5) (eL m4 ⟨_, rfl⟩) (pSome (eLen (e' := no_len) (eG g_SYMREF.choose_spec ⟨_, rfl⟩) (by decide))) pNone (by with_reducible exact leK (by assumption) rfl))) fun v s₉ ⟨tr, hv⟩ G₉ => ?_
    subst hv
    have hvl := hvs.length
    have hnl : names.length = pre.length + nm.length := by rw [← hnm]; simp
    have hnp := hfol.pos
    refine xAppend (l := c.drop 5) G₉ hUv offU.2.1 offU.1 offU.2.2.2.1 (by omega) (eL m3 rfl) (eL rfl ⟨_, rfl⟩) fun s₁₀ s₁₁ tl' G₁₀ e11 hU₁₁ => ?_
    have F₁₁ := (F₇.rejoin G₁₀ tl).step (e11.mono (fun _ q => nomatch q) fun _ q => q) (fun b q => List.mem_singleton.mp q ▸ .head _) (fun b q => List.mem_singleton.mp q ▸ offU.1)
    have R₁₁ := R₆.eff F₁₁.eff offw
    have G₁₁ := F₁₁.only
    refine sAsg (evI1 i_read (ldl G₁₁ m1 ⟨x, dx, d, rfl, G₁₁.ww, R₁₁.inst, ldl G₁₁ rfl ⟨G₁₁.ww, s_read (k := c.drop 5) (t := tr) G₁₁.cx R₁₁ K fun v s₁₂ e12 hv => ?_⟩⟩)) rfl
    refine st (G₁₁.go e12) (fun s₁₃ G₁₃ => ?_) rfl
    have hU₁₃ := plEff hU₁₁ G₁₃.eff offU.2.1 offU.1
    refine xIf1 G₁₃ (tNot (b := (get2 kvs (c.drop 5)).isSome) (tPlain (V := OptB (get2 kvs (c.drop 5))) (eL rfl hv) fun v hv s F Q E q => truthO hv F (fun p hp => (K.get hp).2) q)) (fun hb s₁₄ G₁₄ => ?_) fun hb s₁₄ G₁₄ => ?_
    · refine sCons (wpAny_Break ?_)
      have hg : get2 kvs (c.drop 5) = none := by cases hg : get2 kvs (c.drop 5) with | none => rfl | some p => rw [hg] at hb; cases hb
      rw [hg] at hv
      have F₁₄ := F₁₁.rejoin G₁₄ tl
      have hU₁₄ := plEff hU₁₁ G₁₄.eff offU.2.1 offU.1
      obtain ⟨hn', hr'⟩ := hfol.onNone hg
      exact ret F₁₄ m3 rfl (by rw [hr']; exact hv) hU₁₄ (by rw [← hnm, hn']; exact hvs.app (.cons .nil))
    · obtain ⟨p, hg⟩ : ∃ p, get2 kvs (c.drop 5) = some p := by cases hg : get2 kvs (c.drop 5) with | none => rw [hg] at hb; cases hb | some p => exact ⟨p, rfl⟩
      rw [hg] at hv
      obtain ⟨tp, rfl⟩ := hv
      refine xAug G₁₄ m5 (eI (i := 1)) fun ti s₁₅ G₁₅ => ?_
      refine xIf1 G₁₅ (tCmp (eL rfl ⟨_, rfl⟩) (eI (i := 5)) cGtI) (fun hb s₁₆ G₁₆ => ?_) fun hb s₁₆ G₁₆ => ?_
      · have : (pre.length : Int) + 1 > 5 := of_decide_eq_true hb
        omega
      · have F₁₆ := F₁₁.rejoin G₁₆ tl
        have hU₁₆ := plEff hU₁₁ G₁₆.eff offU.2.1 offU.1
        have hpz := (K.get hg).2
        have hlen : ((pre.length : Int) + 1) = ((pre ++ [c.drop 5]).length : Int) := by simp
        refine sNil ?_
        rcases hfol.onSome hg with ⟨hp', hn', hr'⟩ | ⟨hp', nm', hn', hf'⟩
        · exact ⟨0, _, by omega, F₁₆, pre ++ [c.drop 5], _, p, tp, ti, m1, m2, m3, rfl, by rw [← hlen]; rfl, hU₁₆, hvs.app (.cons .nil), by omega, .inr ⟨hp', hpz.1, hr', by rw [← hn']; exact hnm, rfl⟩⟩
        · exact ⟨nm'.length, _, by rw [← hk', hn']; simp, F₁₆, pre ++ [c.drop 5], _, p, tp, ti, m1, m2, m3, rfl, by rw [← hlen]; rfl, hU₁₆, hvs.app (.cons .nil), by omega, .inl ⟨hp', nm', hf', by rw [← hnm, hn']; simp, rfl⟩⟩
  · have hb : (!c.isEmpty && REF.isPrefixOf c) = false := by rw [hp, Bool.and_false]
    rw [hb, if_neg (by decide)]
    exact ret (F₇.rejoin G₈ tl) m3 m4 (by rw [hr]; exact ⟨_, rfl⟩) (plEff hUv G₈.eff offU.2.1 offU.1) (hpn ▸ hvs)
end
end Mine
end
section
open PySem PySem.W PyProof.Rows PySem.Calls
namespace Mine
section
variable {w : World} {mu : List Addr} {env : Env} {n : Nat} {A : Around} {g s s' s₁ s₂ : Shared} {m : Str → Option Value} {E : Value → Shared → Prop} {e : Addr} {cls : Value} {pos px cpos : Pos} {X N I : String}
theorem excM (hc : ExcClass X N I) {rest : List Value} {Q : Value → Shared → Prop} (h : ∀ h' e, Heap.MadeExcOf s.heap h' e (.type X) rest → Q (.ref e) { s with heap := h' }) (hrest : rest.length ≤ sizeLine := by size_fits) :
    wpAny (model prg w) A (call (.type X) rest) Q E s := by
  refine wpAny_call (codeAny_of_tree ?_)
  show wpAny _ _ (callAny (.type X) ⟨rest, []⟩) _ _ s
  simp only [callAny]
  refine wpAny_pure ⟨Code.quiet_builtin _ (by decide +kernel), codeAny_builtin entry_type_call ?_⟩
  rw [Around.under_plain (weight_type_call X _ _) (by first | rfl | kernel_rfl | decide +kernel)]
  unfold Builtin.«type.__call__»
  dsimp only
  rw [if_neg (by rw [hc.notType]; exact Bool.false_ne_true), if_neg (by rw [hc.canNew]; exact Bool.false_ne_true)]
  obtain ⟨l, hl, hle⟩ := hc.mro
  refine wpAny_bind (wpAny_of_eq (hc.typeCall rest) (wpAny_bind (wpAny_of_eq hl ?_)))
  rw [if_neg (by rw [hle]; exact Bool.false_ne_true)]
  refine wpAny_bind (wpAny_of_eq hc.madeBy ?_)
  dsimp only
  refine wpAny_bind (wpAny_pure (wpAny_bind (wpAny_holding (new_exc hc ?_ hrest))))
  refine wpAny_bind (wpAny_isInstance (T := X) ⟨_, Heap.get?_push_size _ rfl, rfl⟩ hc.self ?_)
  simp only [Bool.not_true, Bool.false_eq_true, if_false]
  refine wpAny_bind (wpAny_holding (wpAny_callSpecial?_slot (name := Str.ofString "__init__") (T := X) ⟨_, Heap.get?_push_size _ rfl, rfl⟩ hc.init
    (init_exc hc (Heap.get?_push_size _ rfl) rfl rfl rfl ?_ hrest)))
  dsimp only
  rw [if_neg (by simp)]
  refine wpAny_pure (h _ _ ⟨fun b o hb => ?_, Heap.get?_none_of_le (by simp), _, Heap.get?_update_self _ (Heap.get?_push_of_some _ (Heap.get?_push_size _ rfl)) rfl, Heap.get?_none_of_le (by simp only [Heap.size_push]; omega), ?_⟩)
  · rw [Heap.get?_update_other _ _ (Nat.ne_of_gt (Nat.lt_of_lt_of_le (Heap.lt_size hb) (by simp)))]
    exact Heap.get?_push_of_some _ (Heap.get?_push_of_some _ (Heap.get?_push_of_some _ hb))
  · rw [Heap.get?_update_other _ _ (by simp [Heap.size_push])]
    exact Heap.get?_push_size _ rfl
theorem xRaiseX {V K : Value → Prop} (hc : ExcClass X N I) {x : Str} {e₀ : Expr} {rest : List Stmt} {Q : Flow → Shared → Prop} (F : Fm w mu env n A g m s)
    (hn : nsIn (KK w) mainGlobals x = some none) (hv : bootBuiltins x = some (.type X)) (ha : Ev w mu env n A g m V e₀) (hK : K (.type X))
    (he : autoParam (starEach [e₀] env = [(false, eval e₀ env)]) byRfl) (hx : autoParam (env.kindOf x = some .globalImplicit) byRfl) (hn' : autoParam (x ≠ "__name__") byDecide) (hd : autoParam ((x == ("__debug__" : Str)) = false) byDecide) :
    wpAny (model prg w) A (execs (.Raise (some (.Call (.Name x px) [e₀] [] cpos)) none pos :: rest) env) Q (Rz w mu env n A g K) s := by
  refine sCons (Raise_new F.hh (Call_Name1 (bu F hn hv (PyProof.Rows.callWith_type rfl (Calls.evalArgs_plain (Calls.spliced_cons (ha s F _ _ fun v s₁ F₁ hv => Calls.spliced_nil ?_)))) hx hn' hd) he))
  refine excM hc (fun h' e hm => ?_) (by rw [sizeLine_eq]; simp)
  obtain ⟨t, ht, htn, htt⟩ := hm.there
  exact ⟨e, _, _, X, N, I, hc, rfl, ht, rfl, rfl, rfl, e, _, rfl, hK, .inl ⟨_, _, _, h', F₁, hm, rfl⟩⟩
end
end Mine
end
section
open PySem PySem.W PyProof.Rows PySem.Calls
namespace Mine
section
variable {w : World} {mu mu' : List Addr} {env : Env} {n : Nat} {A : Around} {g s s' : Shared} {m : Str → Option Value} {E : Value → Shared → Prop} {t u : Tok} {Q : Value → Shared → Prop} {x dx d : Addr} {kvs : KV} {o a b : Expr} {pos apos : Pos} {k v : By}
noncomputable def p_item (w : World) : FnPk w 210 := ⟨_, _, rfl, by kernel_rfl, rfl, ⟨⟨rfl, rfl, rfl⟩, rfl, rfl, rfl⟩⟩
theorem i_item : IsMeth w "__getitem__" 210 := ⟨by kernel_rfl, by kernel_rfl, by kernel_rfl, by decide, by decide⟩
theorem no_KE : nsIn (KK w) mainGlobals "KeyError" = some none := by kernel_rfl
theorem boot_KE : bootBuiltins "KeyError" = some (.type "KeyError") := by decide +kernel
noncomputable def IsKE (v : Value) : Prop := v = .type "KeyError"
theorem cIsO {ob : Option By} : Cmp w mu env n A g m .Is (OptB ob) (IsV .none) ob.isNone := fun u v hu hv s F Q E q => by
  have hv : v = .none := hv
  subst hv
  cases ob with
  | none => have hu : u = .none := hu; subst hu; exact fun _ _ _ => q _ _ F rfl
  | some p => obtain ⟨t, rfl⟩ := hu; exact fun _ _ _ => q _ _ F rfl
theorem cIsNotO {ob : Option By} : Cmp w mu env n A g m .IsNot (OptB ob) (IsV .none) ob.isSome := fun u v hu hv s F Q E q => by
  have hv : v = .none := hv
  subst hv
  cases ob with
  | none => have hu : u = .none := hu; subst hu; exact fun _ _ _ => q _ _ F rfl
  | some p => obtain ⟨t, rfl⟩ := hu; exact fun _ _ _ => q _ _ F rfl
theorem s_item {names : List By} {r : Option By} (C : Cx w (n + 4) A s) (R : Rep w A s.heap x dx d kvs) (K : KOk kvs) (hk : k.length ≤ 8192) (hF : Fol kvs k names r) (hl : names.length ≤ 5)
    (h : ∀ p v s', r = some p → IsB p v → Eff w (frs A) [] s s' → Q v s') (hE : r = none → ∀ e cls s', IsKE cls → Thrown w A [] s s' e cls → E (.ref e) s') :
    wpAny (model prg w) A (call (.ref 210) [.ref x, .bytes k.toArray t]) Q E s := by
  refine wpAny_call (codeAny_mono (runE (p_item w) [] [("self", .ref x), ("name", .bytes k.toArray t)] (Q := Q) (E := E) (fun v => IsKE v ∧ r = none) C (fun _ h => nomatch h) (BindsTo.of_eq rfl) rfl (fun e cls s' hK T => hE hK.2 e cls s' hK.1 T) fun L s₁ hL e1 F => ?_) fun r' s' q => q)
  rw [List.append_nil] at F ⊢
  obtain ⟨R₁, off⟩ := R.deep' (p := p_item w) C hL e1
  refine sCons (Assign_Tuple (evI1 i_follow (ldl F rfl ⟨x, dx, d, rfl, F.ww, R₁.inst, ldl F rfl ⟨F.ww, s_follow F.cx R₁ K hk hF hl fun T U v vs s₂ e2 hT hU hb hv hfU hfT => ?_⟩⟩)))
  refine asg2 (F.go e2) hT fun s₃ F₃ => ?_
  refine xIf1 F₃ (tCmp (eL rfl hv) eN cIsO) (fun hb s₄ F₄ => ?_) fun hb s₄ F₄ => ?_
  · have hr : r = none := by cases r with | none => rfl | some p => cases hb
    exact xRaiseX excClass_KeyError F₄ no_KE boot_KE (eL (V := fun _ => True) rfl trivial) ⟨rfl, hr⟩
  · obtain ⟨p, rfl⟩ : ∃ p, r = some p := by cases r with | none => cases hb | some p => exact ⟨p, rfl⟩
    exact sRet (ldl F₄ rfl ⟨by rw [List.append_nil]; exact F₄.eff, fun e => h p _ _ rfl hv e⟩)
theorem evSubI {value slice : Expr} (h : wpAny (model prg w) A (eval value env) (fun ov s₁ => wpAny (model prg w) A (eval slice env) (fun i s₂ => ∃ x dx d, ov = .ref x ∧ WW w s₂.heap ∧ Inst s₂.heap x dx d ∧ wpAny (model prg w) A.in1 (call (.ref 210) [.ref x, i]) Q E s₂) E s₁) E s)
    (hsl : ∀ x i, subscripted slice true (.ref x) i = runValue (.builtin "lifetime.subscript" ⟨[.ref x, i], []⟩) := by intro _ _; with_unfolding_all rfl) :
    wpAny (model prg w) A (eval (.Subscript value slice pos) env) Q E s := by
  refine Subscript_ (wpAny_mono h (fun o s₁ q => wpAny_mono q (fun i s₂ r => ?_) fun _ _ x => x) fun _ _ x => x)
  obtain ⟨x, dx, d, rfl, W, I, h⟩ := r
  obtain ⟨es, n, I', hO⟩ := I.looks
  have X := W.kin
  have hs : findIn (KK w) (.ref 311) "__getitem__" = some (some (.ref 210)) := i_item.find
  unfold subscriptTail getitemInPython
  refine wpAny_bind (wpAny_bind (wpAny_bind (I'.type.here ((looks_findIn X hs).here ?_))))
  dsimp only
  refine wpAny_bind (wpAny_load (X _ _ (p_item w).look) (wpAny_pure ?_))
  dsimp only
  rw [hsl]
  refine wpAny_bind (wpAny_runValue (codeAny_builtin entry_sub ?_))
  unfold Builtin.«lifetime.subscript»
  refine wpAny_bind (special_fn X I' hs i_item.ty (wpAny_mono h (fun v s' z => ?_) fun _ _ z => z))
  refine wpAny_pure ?_
  show wpAny (model prg w) A (letTemporaryGo value (.ref x) v >>= fun _ => pure v) Q E s'
  exact wpAny_bind (wpAny_letTemporaryGo (wpAny_pure z))
end
end Mine
end
section
open PySem PySem.W PyProof.Rows PySem.Calls
namespace Mine
abbrev bK (w : World) := bytesKind prg w
inductive ElemsB (w : World) : List (Int × Value) → List By → Prop
  | nil : ElemsB w [] []
  | cons {k : By} {t : Tok} {es : List (Int × Value)} {ls : List By} : ElemsB w es ls → ElemsB w (((bK w).hash k, .bytes k.toArray t) :: es) (k :: ls)
noncomputable def setObj (es : Array (Int × Value)) (ep : Nat) (t : SetTable) : Obj := { cls := .type "set", dict := none, data := .set es ep t, slots := #[] }
inductive SetB (w : World) (h : Heap) (a : Addr) (ls : List By) : Prop
  | mk (es : Array (Int × Value)) (ep : Nat) (t : SetTable) (at_ : h.get? a = some (setObj es ep t)) (el : ElemsB w es.toList ls) (nd : ls.Nodup) (len : ls.length ≤ 2000) (fit : t.fits es.size = true) (led : w.params.followText "set-order" = true ∨ t.led = true) (pl : ls = [] ∨ t.plain = false) : SetB w h a ls
section
variable {w : World}
theorem ElemsB.length {es : List (Int × Value)} {ls : List By} (h : ElemsB w es ls) : es.length = ls.length := by induction h <;> simp_all
theorem ElemsB.elems {es : List (Int × Value)} {ls : List By} (h : ElemsB w es ls) : ElemsOf (bK w) es := by
  induction h with
  | nil => intro e he; cases he
  | cons h ih =>
    intro e he
    rcases List.mem_cons.mp he with rfl | he
    · exact ⟨⟨_, bk _ _, rfl⟩, rfl⟩
    · exact ih e he
theorem ElemsB.app {es fs : List (Int × Value)} {ls ms : List By} (h : ElemsB w es ls) (h' : ElemsB w fs ms) : ElemsB w (es ++ fs) (ls ++ ms) := by
  induction h with
  | nil => exact h'
  | cons h ih => exact .cons ih
theorem ElemsB.perm {es es' : List (Int × Value)} (p : List.Perm es es') : ∀ {ls : List By}, ElemsB w es ls → ∃ ls', List.Perm ls ls' ∧ ElemsB w es' ls' := by
  induction p with
  | nil => intro ls h; exact ⟨ls, .refl _, h⟩
  | cons x p ih => intro ls h; cases h with | cons h => obtain ⟨ls', p', h'⟩ := ih h; exact ⟨_, p'.cons _, .cons h'⟩
  | swap x y l => intro ls h; cases h with | cons h => cases h with | cons h => exact ⟨_, .swap .., .cons (.cons h)⟩
  | trans _ _ ih1 ih2 => intro ls h; obtain ⟨l1, p1, h1⟩ := ih1 h; obtain ⟨l2, p2, h2⟩ := ih2 h1; exact ⟨l2, p1.trans p2, h2⟩
theorem isB_iff {k k' : By} {t : Tok} : (bK w).is k (.bytes k'.toArray t) = decide (k = k') := KeyKind.is_eq_decide (bk k' t) k
theorem ElemsB.findIdx {es : List (Int × Value)} {ls : List By} (h : ElemsB w es ls) (k : By) : es.findIdx? (fun e => (bK w).is k e.2) = ls.findIdx? (fun x => decide (k = x)) := by
  induction h with
  | nil => rfl
  | cons h ih => rw [List.findIdx?_cons, List.findIdx?_cons, ih]; simp only [isB_iff]
theorem ElemsB.at {es : List (Int × Value)} {ls : List By} (h : ElemsB w es ls) {i : Nat} {e : Int × Value} (he : es[i]? = some e) : ∃ k t, ls[i]? = some k ∧ e.2 = .bytes k.toArray t := by
  induction h generalizing i with
  | nil => simp at he
  | cons h ih =>
    cases i with
    | zero => simp at he; subst he; exact ⟨_, _, rfl, rfl⟩
    | succ i => simpa using ih (by simpa using he)
theorem or_led (t : SetTable) (n : Nat) : (t.orStandIn n).led = t.led := by unfold SetTable.orStandIn; split <;> rfl
theorem led_new (t : SetTable) (es : Array (Int × Value)) (h : Int) (x : Value) : (layNew t es h x).2.1.led = t.led := by
  unfold layNew
  split
  · dsimp only
    rw [or_led]
    rfl
  · rfl
theorem relay_led (t : SetTable) (es : Array (Int × Value)) (k : Nat) : (relayAll t es k).2.1.led = t.led ∧ (t.plain = false → (relayAll t es k).2.1.plain = false) := by
  unfold relayAll
  split
  · rename_i t' order he
    unfold SetTable.relaid SetTable.laid at he
    simp only [Option.bind_eq_bind, Option.bind_eq_some_iff, Option.pure_def, Option.some.injEq, Prod.mk.injEq] at he
    obtain ⟨_, _, rfl, _⟩ := he
    dsimp only
    split
    · exact ⟨rfl, fun h => h⟩
    · exact ⟨rfl, fun _ => rfl⟩
  · exact ⟨rfl, fun _ => rfl⟩
end
section
variable {w : World} {mu : List Addr} {env : Env} {n : Nat} {A : Around} {g s s' : Shared} {m : Str → Option Value} {E : Value → Shared → Prop} {t u : Tok} {Q : Value → Shared → Prop} {a : Addr} {ls : List By} {k : By}
theorem SetB.typeIs (x : SetB w s.heap a ls) : s.TypeIs (.ref a) "set" ∧ ∀ b, Value.ref a = .ref b → ∃ ob, s.heap.get? b = some ob ∧ ob.dict = none := by
  obtain ⟨es, ep, t, ho, _⟩ := x
  exact ⟨⟨_, ho, rfl⟩, fun b e => by cases e; exact ⟨_, ho, rfl⟩⟩
theorem SetB.at {h h' : Heap} (x : SetB w h a ls) (k : ∀ o, h.get? a = some o → h'.get? a = some o) : SetB w h' a ls := let ⟨es, ep, t, ho, a, b, c, d, e, f⟩ := x; ⟨es, ep, t, k _ ho, a, b, c, d, e, f⟩
theorem SetB.eff {fr : List Addr} (x : SetB w s.heap a ls) (e : Eff w fr mu s s') (hf : a ∉ fr) (hm : a ∉ mu) : SetB w s'.heap a ls := by
  obtain ⟨es, ep, t, ho, h1, h2, h3, h4, h5, h6⟩ := x
  obtain ⟨sl, q, c⟩ := e.keep a _ hm ho (.inl rfl)
  have := c hf
  subst this
  exact ⟨es, ep, t, q, h1, h2, h3, h4, h5, h6⟩
theorem SetB.alive {h : Heap} (x : SetB w h a ls) : ∃ o, h.get? a = some o := let ⟨es, ep, t, ho, _, _, _, _, _, _⟩ := x; ⟨_, ho⟩
theorem setStore {h : Heap} {es es1 : Array (Int × Value)} {ep : Nat} {tb t2 : SetTable} (ho : h.get? a = some (setObj es ep tb)) (hel : ElemsB w es1.toList ls) (hnd : ls.Nodup) (hsz : ls.length ≤ 2000) (hf : t2.fits es1.size = true) (hled : w.params.followText "set-order" = true ∨ t2.led = true) (hpl : t2.plain = false) :
    (h.update a (Obj.putSet es1 t2)).get? a = some (setObj es1 (ep + 1) t2) ∧ SetB w (h.update a (Obj.putSet es1 t2)) a ls := by
  have hg : (h.update a (Obj.putSet es1 t2)).get? a = some (setObj es1 (ep + 1) t2) := by
    have := Heap.get?_update_self (Obj.putSet es1 t2) ho (by rw [putSet_of es1 t2 rfl]; rfl)
    rw [putSet_of es1 t2 rfl] at this; exact this
  exact ⟨hg, es1, ep + 1, t2, hg, hel, hnd, hsz, hf, hled, .inr hpl⟩
theorem tailB {gw : Bool → Sem Unit} (hg : ∀ (b : Bool) (s₁ : Shared) (Q' : Unit → Shared → Prop), Q' () s₁ → wpAny (model prg w) A (gw b) Q' E s₁)
    {es es1 : Array (Int × Value)} {ep : Nat} {tb t2 : SetTable} (ho : s.heap.get? a = some (setObj es ep tb)) (hel : ElemsB w es1.toList ls) (hnd : ls.Nodup) (hsz : ls.length ≤ 2000) (hf : t2.fits es1.size = true) (hled : w.params.followText "set-order" = true ∨ t2.led = true) (hpl : t2.plain = false) {wasDummy : Bool} {R : Option Bool → Shared → Prop}
    (h : ∀ ls' h', SetB w h' a ls' → Heap.SameBut a s.heap h' → List.Perm ls ls' → R (some true) { s with heap := h' }) :
    wpAny (model prg w) A (do
        storeSet a es1 t2
        if (!wasDummy && t2.tooFull) = true then do
            gw (relayAll t2 es1 (SetTable.grown es1.size)).2.2
            storeSet a (relayAll t2 es1 (SetTable.grown es1.size)).1 (relayAll t2 es1 (SetTable.grown es1.size)).2.1
            pure (some true)
          else pure (some true)) R E s := by
  have hl1 : es1.size = ls.length := by rw [← hel.length]; simp
  refine wpAny_bind (wpAny_storeSet_of ho rfl ?_ (by rw [sizeLine_eq]; with_reducible exact leE (by assumption) (by assumption) rfl))
  obtain ⟨ho1, hS1⟩ := setStore ho hel hnd hsz hf hled hpl
  have hsb1 := Heap.SameBut.update s.heap a (Obj.putSet es1 t2)
  split
  · have hp := relayAll_perm t2 es1 (SetTable.grown es1.size)
    have hfr := relayAll_fits t2 es1 (SetTable.grown es1.size)
    have hrl := relay_led t2 es1 (SetTable.grown es1.size)
    generalize hRl : relayAll t2 es1 (SetTable.grown es1.size) = Rl at hp hfr hrl ⊢
    obtain ⟨es2, t3, gave2⟩ := Rl
    dsimp only at hp hfr hrl ⊢
    obtain ⟨ls2, p2, hel2⟩ := hel.perm hp.symm
    have hl2 : es2.size = ls2.length := by rw [← hel2.length]; simp
    have hl3 := p2.length_eq
    refine wpAny_bind (hg _ _ _ ?_)
    refine wpAny_bind (wpAny_storeSet_of ho1 rfl ?_ (by rw [sizeLine_eq]; omega))
    obtain ⟨_, hS2⟩ := setStore ho1 hel2 (p2.nodup hnd) (by omega) hfr (hled.imp id fun q => hrl.1.trans q) (hrl.2 hpl)
    exact wpAny_pure (h _ _ hS2 (hsb1.trans (Heap.SameBut.update _ a _)) p2)
  · exact wpAny_pure (h _ _ hS1 hsb1 (.refl _))
theorem sAddH {Q : Bool → Shared → Prop} (x : SetB w s.heap a ls) (hz : ls.length < 1500) (h : ∀ ls' h', SetB w h' a ls' → Heap.SameBut a s.heap h' → (∀ y, y ∈ ls' ↔ y ∈ ls ∨ y = k) → ls'.length ≤ ls.length + 1 → ∀ b, Q b { s with heap := h' }) :
    wpAny (model prg w) A (setAddHashed a (.bytes k.toArray t) ((bK w).hash k)) Q E s := by
  obtain ⟨es, ep, tb, ho, hel, hnd, hsz, hf, hled, hpl⟩ := x
  have hlen : es.size = ls.length := by rw [← hel.length]; simp
  have hb : es.size < scanBound := by have : scanBound = 4096 := rfl; with_reducible exact ltQ (by assumption) (by assumption) rfl
  unfold setAddHashed setAddHashedIn
  refine wpAny_holding (wpAny_bind (wpAny_setState_of ho rfl hf ?_))
  dsimp only
  rw [byScan_of (knd := bK w) rfl hb hel.elems]
  simp only [↓reduceIte]
  unfold setAddByScan
  refine wpAny_bind (wpAny_bind (wpAny_rule (wpAny_bind (wpAny_setScan_of (knd := bK w) (bk k t) ho rfl hf hel.elems ?_))))
  rw [hel.findIdx k]
  cases hr : ls.findIdx? (fun x => decide (k = x)) with
  | some j =>
    refine wpAny_pure (wpAny_pure ?_)
    have hk : k ∈ ls := by
      obtain ⟨hj, hpj, _⟩ := List.findIdx?_eq_some_iff_getElem.mp hr
      have : k = ls[j] := by simpa using hpj
      rw [this]; exact List.getElem_mem hj
    exact h ls s.heap ⟨es, ep, tb, ho, hel, hnd, hsz, hf, hled, hpl⟩ (Heap.SameBut.refl a s.heap) (fun y => ⟨.inl, fun q => q.elim id fun e => e ▸ hk⟩) (by with_reducible exact Nat.le_add_right _ _) false
  | none =>
    have hk : k ∉ ls := fun q => by have := List.findIdx?_eq_none_iff.mp hr k q; simp at this
    dsimp only
    have hgw : ∀ (b : Bool) {s₁ : Shared} {Q' : Unit → Shared → Prop}, Q' () s₁ → wpAny (model prg w) A (match b with | true => rule "set.scan.the-table-gave-way" | false => pure ()) Q' E s₁ :=
      fun b s₁ Q' hq => by cases b <;> first | exact wpAny_pure hq | exact wpAny_rule hq
    have hperm := layNew_perm tb es ((bK w).hash k) (.bytes k.toArray t)
    have hfits := layNew_fits tb es ((bK w).hash k) (.bytes k.toArray t)
    have hled1 := led_new tb es ((bK w).hash k) (.bytes k.toArray t)
    generalize hL : layNew tb es ((bK w).hash k) (.bytes k.toArray t) = L at hperm hfits hled1 ⊢
    obtain ⟨es1, t1, wasDummy, gave⟩ := L
    dsimp only at hperm hfits hled1 ⊢
    rw [Array.toList_push] at hperm
    obtain ⟨ls1, hp1, hel1⟩ := (hel.app (.cons (k := k) (t := t) .nil)).perm hperm.symm
    have hmem1 : ∀ y, y ∈ ls1 ↔ y ∈ ls ∨ y = k := fun y => by rw [← hp1.mem_iff]; simp
    have hlen1 : ls1.length = ls.length + 1 := by rw [← hp1.length_eq]; simp
    have hnd1 : ls1.Nodup := hp1.nodup (by rw [List.nodup_append]; exact ⟨hnd, by simp, fun a ha b hb => by simp at hb; subst hb; exact fun e => hk (e ▸ ha)⟩)
    refine wpAny_bind (hgw _ ?_)
    have hled2 : w.params.followText "set-order" = true ∨ t1.led = true := hled.imp id fun q => hled1.trans q
    have fin : ∀ ls' h', SetB w h' a ls' → Heap.SameBut a s.heap h' → List.Perm ls1 ls' → ∀ b, Q b { s with heap := h' } := fun ls' h' hS hsb hp b =>
      h ls' h' hS hsb (fun y => by rw [← hp.mem_iff]; exact hmem1 y) (by rw [← hp.length_eq]; omega) b
    split
    · rw [hashByValue_scannable 8 (by rfl)]
      refine wpAny_bind (wpAny_pure ?_)
      refine tailB ?_ ho hel1 hnd1 (by omega) ?_ ?_ ?_ ?_
      · intro b s₁ Q' hq; cases b <;> first | exact wpAny_pure hq | exact wpAny_rule hq
      · exact SetTable.fits_plain_off hfits
      · exact hled2
      · rfl
      · intro ls' h' hS hsb hp; exact wpAny_pure (fin ls' h' hS hsb hp _)
    · rename_i hpn
      refine wpAny_bind (wpAny_pure ?_)
      simp only [↓reduceIte]
      refine tailB ?_ ho hel1 hnd1 (by omega) hfits hled2 (by simpa using hpn) ?_
      · intro b s₁ Q' hq; cases b <;> first | exact wpAny_pure hq | exact wpAny_rule hq
      · intro ls' h' hS hsb hp; exact wpAny_pure (fin ls' h' hS hsb hp _)
end
end Mine
end
section
open PySem PySem.W PyProof.Rows PySem.Calls
namespace Mine
noncomputable def ledW (w : World) : Bool := !w.params.followText "set-order"
noncomputable def freshSet (w : World) : Obj := { cls := .type "set", dict := none, data := .set #[] 0 (.fresh 0 0 (ledW w)) }
theorem SetB.fresh {w : World} {h : Heap} {a : Addr} (ho : h.get? a = some (freshSet w)) : SetB w h a [] :=
  ⟨#[], 0, _, ho, .nil, .nil, by simp, rfl, by show _ ∨ ledW w = true; unfold ledW; cases w.params.followText "set-order" <;> simp, .inl rfl⟩
section
variable {w : World} {mu : List Addr} {env : Env} {n : Nat} {A : Around} {g s s' : Shared} {m : Str → Option Value} {E : Value → Shared → Prop} {t u : Tok} {Q : Value → Shared → Prop} {a : Addr} {ls : List By} {k : By}
theorem m_add : Meth "set" "add" "set.add" := ⟨PySem.F.plainAttrs_set, PySem.F.slot_set_add, PySem.F.type_set_add⟩
theorem sAdd (x : SetB w s.heap a ls) (hn : NB ≤ a) (hz : ls.length < 1500) (h : ∀ ls' s', SetB w s'.heap a ls' → Eff w [] [a] s s' → (∀ y, y ∈ ls' ↔ y ∈ ls ∨ y = k) → ls'.length ≤ ls.length + 1 → Q .none s') :
    wpAny (model prg w) A (call (.builtin "set.add") [.ref a, .bytes k.toArray t]) Q E s := by
  refine wpAny_call_entry PySem.F.slot_set_add x.typeIs.1 PySem.F.entry_set_add ?_ (PySem.F.args_set_add_2 _ _)
  unfold Builtin.«set.add» Builtin.Frozenset.oneOther
  simp only [List.isEmpty_nil, bind_assoc]
  unfold Builtin.Frozenset.addrOf setAdd
  refine wpAny_bind (wpAny_pure ?_)
  try dsimp only
  refine wpAny_bind (wpAny_pure ?_)
  try dsimp only
  refine wpAny_bind ?_
  refine wpAny_holding ?_
  refine wpAny_bind ((bK w).pyHash (bk k t) ?_)
  refine sAddH (s := { s with toks := s.toks + 1 }) (ls := ls) x hz fun ls' h' hS hsb hm hl b => ?_
  show wpAny _ _ (ret Value.none) _ _ _
  exact wpAny_pure ⟨_, rfl, h ls' _ hS (Eff.same (s' := { s with heap := h', toks := s.toks + 1 }) hn hsb rfl rfl) hm hl⟩
theorem code_new0 {Q₁ : Value → Shared → Prop} (h : Q₁ (.ref s.heap.objs.size) { s with heap := s.heap.push (freshSet w) }) :
    codeAny (model prg w) A (.call (.builtin "set.__new__") ⟨[.type "set"], []⟩) (wants Q₁ E) s := by
  refine codeAny_of_tree ?_
  show wpAny _ A.in1 (do checkBuiltinCall "set.__new__" ⟨[.type "set"], []⟩; again (.builtin "set.__new__" ⟨[.type "set"], []⟩)) _ _ s
  refine wpAny_bind (wpAny_of_eq PySem.F.newCall_set_0 (wpAny_pure ⟨plainId_quiet PySem.F.plain_set_new _, codeAny_builtin PySem.F.entry_set_new ?_⟩))
  rw [Around.under_plainId PySem.F.plain_set_new _]
  unfold Builtin.«set.__new__» Builtin.Frozenset.newClass
  have hsub := sub_set_self
  obtain ⟨hp, g, d, tk, os⟩ := s
  dsimp only
  wp_walk
  refine wpAny_askSetting (wpAny_pure ?_)
  dsimp only
  simp only [newObj]
  refine wpAny_bind (wpAny_alloc (wpAny_pure ?_))
  exact wpAny_pure h
theorem code_new1 (v : Value) {Q₁ : Value → Shared → Prop} (h : Q₁ (.ref s.heap.objs.size) { s with heap := s.heap.push (freshSet w) }) :
    codeAny (model prg w) A (.call (.builtin "set.__new__") ⟨[.type "set", v], []⟩) (wants Q₁ E) s := by
  refine codeAny_of_tree ?_
  show wpAny _ A.in1 (do checkBuiltinCall "set.__new__" ⟨[.type "set", v], []⟩; again (.builtin "set.__new__" ⟨[.type "set", v], []⟩)) _ _ s
  refine wpAny_bind (wpAny_of_eq (PySem.F.newCall_set_1 v) (wpAny_pure ⟨plainId_quiet PySem.F.plain_set_new _, codeAny_builtin PySem.F.entry_set_new ?_⟩))
  rw [Around.under_plainId PySem.F.plain_set_new _]
  unfold Builtin.«set.__new__» Builtin.Frozenset.newClass
  have hsub := sub_set_self
  obtain ⟨hp, g, d, tk, os⟩ := s
  dsimp only
  wp_walk
  refine wpAny_askSetting (wpAny_pure ?_)
  dsimp only
  simp only [newObj]
  refine wpAny_bind (wpAny_alloc (wpAny_pure ?_))
  exact wpAny_pure h
end
end Mine
end
section
open PySem PySem.W PyProof.Rows PySem.Calls
namespace Mine
section
variable {w : World} {mu : List Addr} {env : Env} {n : Nat} {A : Around} {g s s' : Shared} {m : Str → Option Value} {E : Value → Shared → Prop} {t u : Tok} {Q : Value → Shared → Prop} {a : Addr} {ls : List By} {k : By}
set_option maxHeartbeats 1000000 in
theorem callSet0 (h : Q (.ref s.heap.objs.size) { s with heap := s.heap.push (freshSet w) }) : wpAny (model prg w) A (call (.type "set") []) Q E s := by
  obtain ⟨c, tl, hmro⟩ := PySem.F.called_set.mro
  have hmade := PySem.F.called_set.made
  have hsub := PySem.F.called_set.sub
  refine wpAny_call (codeAny_of_tree ?_)
  show wpAny _ _ (callAny (.type "set") _) _ _ _
  refine wpAny_pure ⟨Code.quiet_builtin _ (by decide +kernel), codeAny_builtin PySem.F.entry_type_call ?_⟩
  rw [Around.under_plain (weight_type_call_type "set" [] []) rfl]
  have h1 := PySem.F.called_set.notType
  have h2 := PySem.F.called_set.canCreate
  have hct := PySem.F.typeCall_set_0
  repeat (any_goals (first | assumption | wp_step))
  refine codeAny_mono (code_new0 (E := E) (Q₁ := fun obj s₁ => obj = .ref s.heap.objs.size ∧ s₁ = { s with heap := s.heap.push (freshSet w) }) ⟨rfl, rfl⟩) fun r s₁ hr => ?_
  cases r with
  | error e => exact hr
  | ok fl =>
    cases fl with
    | ret obj =>
      obtain ⟨rfl, rfl⟩ := hr
      have hS : (s.heap.push (freshSet w)).get? s.heap.objs.size = some { cls := .type "set", dict := none, data := .set #[] 0 (.fresh 0 0 (ledW w)) } := Heap.get?_push_size _ rfl
      have hT : Shared.TypeIs { s with heap := s.heap.push (freshSet w) } (.ref s.heap.objs.size) "set" := ⟨_, hS, rfl⟩
      have hli := PySem.F.called_set.init.lookup
      have hbi := PySem.F.called_set.init.bind (.ref s.heap.objs.size)
      repeat (any_goals (first | assumption | wp_step))
      refine codeAny_mono (codeAny_call_builtin (R := wants (fun r s₂ => r = .none ∧ Q (.ref s.heap.objs.size) s₂) E) PySem.F.called_set.init.plain PySem.F.entry_set_init (check_set_init hT ?_)) fun r₂ s₂ hr₂ => ?_
      · unfold Builtin.«set.__init__» noKeywords
        wp_walk
        exact ⟨rfl, h⟩
      · cases r₂ with
        | error e => exact hr₂
        | ok fl₂ =>
          cases fl₂ with
          | ret r =>
            obtain ⟨rfl, hq⟩ := hr₂
            repeat (any_goals (first | assumption | wp_step))
          | _ => exact hr₂.elim
    | _ => exact hr.elim
theorem fillLoop {R : Result → Shared → Prop} {I : Addr} {fp wr : List Addr} {N : Nat} {P : Nat → Value → Prop} {St : Nat → Heap → Prop} (W : Walks prg w A.in1 I fp wr N P St) (hSf : a ∉ fp) (names : List By) (hN : names.length = N) (hz : N ≤ 1000)
    (hP : ∀ i v, P i v → ∃ k t, names[i]? = some k ∧ v = .bytes k.toArray t) :
    ∀ (j i : Nat) (s : Shared) (ls : List By), N - i = j → i ≤ N → St i s.heap → SetB w s.heap a ls → ls.length ≤ i → (∀ y, y ∈ ls ↔ y ∈ names.take i) →
      (∀ ls' h' tk, SetB w h' a ls' → (∀ y, y ∈ ls' ↔ y ∈ names) → ls'.length ≤ N → (∀ b o, b ∉ a :: wr → s.heap.get? b = some o → h'.get? b = some o) → R (.ok (.ret .none)) { s with heap := h', toks := tk }) →
      codeAny (model prg w) A (.builtin "set.update.loop" ⟨[.ref a, .ref I], []⟩) R s := by
  have hSw : a ∉ wr := fun h => hSf (W.sub _ h)
  intro j
  induction j with
  | zero =>
    intro i s ls hj hi hst hS hl hm hR
    have hin : i = N := by omega
    subst hin
    refine codeAny_builtin PyProof.Rows.F.entry_set_update_loop ?_
    rw [Around.under_plainId PyProof.Rows.F.plain_set_update_loop _]
    show wpAny _ A.in1 (pyNext (.ref I) >>= _) _ _ s
    refine wpAny_bind (W.done s _ _ hst fun h' tk hk => ?_)
    show wpAny _ A.in1 (ret Value.none) _ _ _
    exact wpAny_pure (hR ls h' tk (hS.at fun o e => hk a o hSw e) (fun y => by rw [hm y, List.take_of_length_le (by omega)]) hl fun b o hb e => hk b o (fun q => hb (.tail _ q)) e)
  | succ j ih =>
    intro i s ls hj hi hst hS hl hm hR
    have hlt : i < N := by omega
    refine codeAny_builtin PyProof.Rows.F.entry_set_update_loop ?_
    rw [Around.under_plainId PyProof.Rows.F.plain_set_update_loop _]
    show wpAny _ A.in1 (pyNext (.ref I) >>= _) _ _ s
    refine wpAny_bind (W.item i s _ _ hlt hst fun v h₁ tk hP' hst' hk => ?_)
    obtain ⟨k, t, hk', rfl⟩ := hP i v hP'
    have hS' := hS.at (h' := h₁) fun o e => hk a o hSw e
    show wpAny _ A.in1 (holding [Value.bytes k.toArray t] (setAdd a (.bytes k.toArray t)) >>= _) _ _ _
    refine wpAny_bind (wpAny_holding ?_)
    unfold setAdd
    refine wpAny_holding ?_
    refine wpAny_bind ((bK w).pyHash (bk k t) ?_)
    refine sAddH (ls := ls) hS' (by omega) fun ls' h₂ hS2 hsb hm' hl' b => ?_
    refine wpAny_pure ⟨plainId_quiet PyProof.Rows.F.plain_set_update_loop _, ih (i + 1) _ ls' (by omega) hlt (W.frame _ h₁ _ hst' fun b hb o e => ?_) hS2 (by omega) (fun y => ?_) fun ls'' h₃ tk' hS3 hm3 hl3 hk3 => ?_⟩
    · rw [hsb.2 b (fun q : b = a => hSf (q ▸ hb))]; exact e
    · rw [hm' y, hm y, List.take_add_one, hk']
      simp
    · refine hR ls'' h₃ tk' hS3 hm3 hl3 fun b o hb e => hk3 b o hb ?_
      rw [hsb.2 b (fun q : b = a => hb (q ▸ .head _))]
      exact hk b o (fun q => hb (.tail _ q)) e
end
end Mine
end
section
open PySem PySem.W PyProof.Rows PySem.Calls
namespace Mine
section
variable {w : World} {mu : List Addr} {env : Env} {n : Nat} {A : Around} {g s s' : Shared} {m : Str → Option Value} {E : Value → Shared → Prop} {t u : Tok} {Q : Value → Shared → Prop} {a d v : Addr} {ls : List By} {k : By} {kvs : KV}
theorem sub_keys_set : isSubtype (.type "dict_keys") (.type "set") = pure false := by rw [isSubtype_type]; kernel_rfl
theorem sub_keys_fset : isSubtype (.type "dict_keys") (.type "frozenset") = pure false := by rw [isSubtype_type]; kernel_rfl
set_option maxHeartbeats 4000000 in
theorem callSetKeys (hh : A.handled = none) (hv : KdlKeysView s.heap v d) (hd : DB w s.heap d kvs) (hz : kvs.length ≤ 1000)
    (h : ∀ ls h' tk, SetB w h' s.heap.objs.size ls → (∀ y, y ∈ ls ↔ y ∈ kvs.map (·.1)) → ls.length ≤ kvs.length → (∀ b o, s.heap.get? b = some o → h'.get? b = some o) → Q (.ref s.heap.objs.size) { s with heap := h', toks := tk }) :
    wpAny (model prg w) A (call (.type "set") [.ref v]) Q E s := by
  obtain ⟨c, tl, hmro⟩ := PySem.F.called_set.mro
  have hmade := PySem.F.called_set.made
  have hsub := PySem.F.called_set.sub
  refine wpAny_call (codeAny_of_tree ?_)
  show wpAny _ _ (callAny (.type "set") _) _ _ _
  refine wpAny_pure ⟨Code.quiet_builtin _ (by decide +kernel), codeAny_builtin PySem.F.entry_type_call ?_⟩
  rw [Around.under_plain (weight_type_call_type "set" [.ref v] []) rfl]
  have h1 := PySem.F.called_set.notType
  have h2 := PySem.F.called_set.canCreate
  have hct := PySem.F.typeCall_set_1 (.ref v)
  repeat (any_goals (first | assumption | wp_step))
  refine codeAny_mono (code_new1 (.ref v) (E := E) (Q₁ := fun obj s₁ => obj = .ref s.heap.objs.size ∧ s₁ = { s with heap := s.heap.push (freshSet w) }) ⟨rfl, rfl⟩) fun r s₁ hr => ?_
  cases r with
  | error e => exact hr
  | ok fl =>
    cases fl with
    | ret obj =>
      obtain ⟨rfl, rfl⟩ := hr
      have hS : (s.heap.push (freshSet w)).get? s.heap.objs.size = some { cls := .type "set", dict := none, data := .set #[] 0 (.fresh 0 0 (ledW w)) } := Heap.get?_push_size _ rfl
      have hT : Shared.TypeIs { s with heap := s.heap.push (freshSet w) } (.ref s.heap.objs.size) "set" := ⟨_, hS, rfl⟩
      have hli := PySem.F.called_set.init.lookup
      have hbi := PySem.F.called_set.init.bind (.ref s.heap.objs.size)
      repeat (any_goals (first | assumption | wp_step))
      refine codeAny_mono (codeAny_call_builtin (R := wants (fun r s₂ => r = .none ∧ ∃ ls h' tk, s₂ = { s with heap := h', toks := tk } ∧ SetB w h' s.heap.objs.size ls ∧ (∀ y, y ∈ ls ↔ y ∈ kvs.map (·.1)) ∧ ls.length ≤ kvs.length ∧
          (∀ b o, s.heap.get? b = some o → h'.get? b = some o)) E) PySem.F.called_set.init.plain PySem.F.entry_set_init (check_set_init_1 hT ?_)) fun r₂ s₂ hr₂ => ?_
      · obtain ⟨ov, hov, hcv, hdv⟩ := id hv
        obtain ⟨ocls, odict, odata, oslots⟩ := ov
        simp only at hcv hdv
        subst hcv; subst hdv
        have hov' : (s.heap.push (freshSet w)).get? v = some { cls := .type "dict_keys", dict := odict, data := .fields #[.ref d], slots := oslots } := Heap.get?_push_of_some _ hov
        have hsls := sub_keys_set
        have hslf := sub_keys_fset
        have hne : (Value.type "dict_keys" == Value.type "dict") = false := by decide
        have hv1 : KdlKeysView (s.heap.push (freshSet w)) v d := ⟨_, hov', rfl, rfl⟩
        obtain ⟨ps, hdo, hps⟩ := hd
        obtain ⟨ep, hda⟩ := hdo.dictAt
        have hda1 := hda.push (freshSet w)
        unfold Builtin.«set.__init__» noKeywords Builtin.Frozenset.updateFrom
        generalize hPI : pyIter = PI
        wp_walk
        subst hPI
        refine kdl_pyIter_keys hv1 hda1 ?_
        refine wpAny_bind (wpAny_runValue ?_)
        have hdS : d < s.heap.objs.size := hda.lt_size
        have hh3 : A.in1.in1.in1.handled = none := by simp [hh]
        have hneI : d ≠ (s.heap.push (freshSet w)).objs.size := by rw [Heap.size_push]; exact Nat.ne_of_lt (Nat.lt_succ_of_lt hdS)
        have hSf : s.heap.objs.size ∉ [(s.heap.push (freshSet w)).objs.size, d] := by
          rw [Heap.size_push]; simp only [List.mem_cons, List.mem_singleton, List.not_mem_nil, or_false, not_or]
          exact ⟨Nat.ne_of_lt (Nat.lt_succ_self _), Nat.ne_of_gt hdS⟩
        refine fillLoop (a := s.heap.objs.size) (Walks.dictKeys hh3 _ d hneI ps ep) hSf (kvs.map (·.1)) (by rw [← hps.keys]; simp) (by rw [hps.length]; exact hz) (fun i u hu => ?_) (ps.length - 0) 0 _ [] (by omega) (Nat.zero_le _)
          ⟨⟨_, Heap.get?_push_size _ rfl, rfl, rfl⟩, (hda1.push _)⟩ ?_ (by simp) (fun y => by simp) fun ls h' tk hS2 hm2 hl2 hk2 => ?_
        · obtain ⟨k, x, hx, hk⟩ := hu
          obtain ⟨t, rfl⟩ := isBytes_shape hk
          exact ⟨k, t, by rw [← hps.keys, List.getElem?_map, hx]; rfl, rfl⟩
        · exact SetB.fresh (Heap.get?_push_of_some _ (Heap.get?_push_size _ rfl))
        · refine wpAny_pure ?_
          show wpAny _ _ (ret Value.none) _ _ _
          refine wpAny_pure ⟨rfl, ls, h', tk, rfl, hS2, hm2, by rw [← hps.length]; exact hl2, fun b o e => ?_⟩
          refine hk2 b o ?_ (Heap.get?_push_of_some _ (Heap.get?_push_of_some _ e))
          have hb := Heap.lt_size e
          have hb1 : b ≠ s.heap.objs.size := Nat.ne_of_lt hb
          have hb2 : b ≠ (s.heap.push (freshSet w)).objs.size := by rw [Heap.size_push]; exact Nat.ne_of_lt (Nat.lt_succ_of_lt hb)
          simp only [List.mem_cons, List.mem_singleton, List.not_mem_nil, or_false, not_or]
          exact ⟨hb1, hb2⟩
      · cases r₂ with
        | error e => exact hr₂
        | ok fl₂ =>
          cases fl₂ with
          | ret r =>
            obtain ⟨rfl, ls, h', tk, rfl, hS', hm', hl', hk'⟩ := hr₂
            repeat (any_goals (first | assumption | wp_step))
            exact h _ _ _ hS' hm' hl' hk'
          | _ => exact hr₂.elim
    | _ => exact hr.elim
end
end Mine
end
section
open PySem PySem.W PyProof.Rows PySem.Calls
namespace Mine
section
variable {w : World} {mu : List Addr} {env : Env} {n : Nat} {A : Around} {g s s' : Shared} {m : Str → Option Value} {E : Value → Shared → Prop} {t u : Tok} {Q : Value → Shared → Prop} {a d v : Addr} {ls : List By} {k : By} {kvs : KV}
theorem ElemsB.mem {es : List (Int × Value)} (h : ElemsB w es ls) (k : By) : k ∈ ls ↔ ∃ e ∈ es, (bK w).is k e.2 = true := by
  induction h with
  | nil => simp
  | cons h ih => simp only [List.mem_cons, ih, exists_eq_or_imp, isB_iff, decide_eq_true_eq]
theorem SetB.setOf {h : Heap} (x : SetB w h a ls) : h.SetOf (bK w) a (fun k => decide (k ∈ ls)) ls.length := by
  obtain ⟨es, ep, t, ho, hel, hnd, hsz, hf, _⟩ := x
  have hl : es.size = ls.length := by rw [← hel.length]; simp
  exact ⟨_, es, ep, t, ho, ⟨rfl, rfl, rfl⟩, rfl, hel.elems, fun k => by rw [decide_eq_true_eq]; exact hel.mem k, by have : scanBound = 4096 := rfl; with_reducible exact ltQ (by assumption) (by assumption) rfl, hf, hl⟩
theorem sNotIn (x : SetB w s.heap a ls) (h : ∀ s', Eff w [] [] s s' → Q (.bool (!decide (k ∈ ls))) s') : wpAny (model prg w) A (compareOp .NotIn (.bytes k.toArray t) (.ref a)) Q E s :=
  wpAny_notInSet_of (bk k t) rfl x.setOf (h _ (.toks _))
theorem erase_perm {α : Type} {x : α} : ∀ {l : List α} {i : Nat}, l[i]? = some x → List.Perm (x :: l.eraseIdx i) l
  | [], i, h => by simp at h
  | y :: r, 0, h => by simp at h; subst h; exact .refl _
  | y :: r, i + 1, h => by
    have ih := erase_perm (l := r) (i := i) (by simpa using h)
    exact (List.Perm.swap y x _).trans (ih.cons y)
theorem wChoose {src : Source} {k : Nat} {Q : Nat → Shared → Prop} (hn : k ≠ 0) (h : ∀ i, i < k → ∀ dr, Q i { s with drawn := dr }) : wpAny (model prg w) A (choose src k) Q E s := fun Γ p hΓ => by
  rw [show choose src k = .choose src k .pure from rfl, Sem.wp_choose]
  exact ⟨hn, h _ (Nat.mod_lt _ (by with_reducible exact Nat.pos_of_ne_zero (by assumption))) _⟩
theorem pickGo {α : Type} (next : Nat → Nat) : ∀ (fuel k : Nat) (left : List α) (out : Array α), left.length ≤ fuel → List.Perm (pickOrder.go next fuel k left out).toList (out.toList ++ left)
  | 0, k, left, out, h => by
    have : left = [] := List.length_eq_zero_iff.mp (by omega)
    subst this; simp [pickOrder.go]
  | fuel + 1, k, left, out, h => by
    unfold pickOrder.go
    cases q : left[next k % left.length]? with
    | none =>
      have : left = [] := by
        rw [List.getElem?_eq_none_iff] at q
        cases left with
        | nil => rfl
        | cons a r => have := Nat.mod_lt (next k) (show 0 < (a :: r).length by simp); omega
      subst this; simp
    | some x =>
      have hi := (List.getElem?_eq_some_iff.mp q).1
      have ih := pickGo next fuel (k + 1) (left.eraseIdx (next k % left.length)) (out.push x) (by rw [List.length_eraseIdx]; split <;> omega)
      refine ih.trans ?_
      rw [Array.toList_push, List.append_assoc]
      refine List.Perm.append_left _ ?_
      exact erase_perm q
theorem pick_perm {α : Type} (next : Nat → Nat) (xs : Array α) : List.Perm (pickOrder next xs).toList xs.toList := by
  have := pickGo next xs.size 0 xs.toList #[] (by simp)
  simpa [pickOrder] using this
theorem draw_perm {α : Type} {Q : List α → Shared → Prop} : ∀ (n : Nat) (xs : List α) (s : Shared), xs.length ≤ n → (∀ ys dr, List.Perm ys xs → Q ys { s with drawn := dr }) → wpAny (model prg w) A (drawOrder n xs) Q E s
  | 0, xs, s, hn, h => by
    have : xs = [] := List.length_eq_zero_iff.mp (by omega)
    subst this
    unfold drawOrder
    exact wpAny_pure (h [] s.drawn (.refl _))
  | n + 1, [], s, hn, h => by unfold drawOrder; exact wpAny_pure (h [] s.drawn (.refl _))
  | n + 1, x :: xs, s, hn, h => by
    unfold drawOrder
    refine wpAny_bind (wChoose (by simp) fun i hi dr => ?_)
    have hx : (x :: xs)[i]? = some ((x :: xs)[i]) := List.getElem?_eq_getElem hi
    rw [hx]
    dsimp only
    refine wpAny_bind (draw_perm n ((x :: xs).eraseIdx i) _ (by rw [List.length_eraseIdx]; simp at hi hn ⊢; split <;> omega) fun ys dr' hp => wpAny_pure ?_)
    exact h _ dr' ((hp.cons _).trans (erase_perm hx))
end
end Mine
end
section
open PySem PySem.W PyProof.Rows PySem.Calls
namespace Mine
theorem slot_si_next : Slot "set_iterator" "__next__" "set_iterator.__next__" :=
  .of (owner := "set_iterator") (n := "__next__") (by rw [typeLookup_type, builtinLookup_eq_fast]; kernel_rfl) (by decide +kernel) (by decide +kernel) (by decide +kernel)
    (by first | exact .inl (by decide +kernel) | exact .inr (by decide +kernel)) (by rw [isSubtype_type]; kernel_rfl)
theorem entry_si_next : entryFor table "set_iterator.__next__" = some Builtin.«set_iterator.__next__» := entryFor_of_tree (by kernel_rfl)
theorem args_si_next (a : Value) : argsOk "set_iterator.__next__" ⟨[a], []⟩ := by unfold argsOk; kernel_rfl
theorem entry_set_iter : entryFor table "set.__iter__" = some Builtin.«frozenset.__iter__» := entryFor_alias (id' := "frozenset.__iter__") (by kernel_rfl) rfl (by decide +kernel) (by kernel_rfl)
theorem args_set_iter (a : Value) : argsOk "set.__iter__" ⟨[a], []⟩ := by unfold argsOk; kernel_rfl
theorem slot_si_iter : Slot "set_iterator" "__iter__" "set_iterator.__iter__" :=
  .of (owner := "set_iterator") (n := "__iter__") (by rw [typeLookup_type, builtinLookup_eq_fast]; kernel_rfl) (by decide +kernel) (by decide +kernel) (by decide +kernel)
    (by first | exact .inl (by decide +kernel) | exact .inr (by decide +kernel)) (by rw [isSubtype_type]; kernel_rfl)
theorem entry_si_iter : entryFor table "set_iterator.__iter__" = some Builtin.«dict_keyiterator.__iter__» := entryFor_alias (id' := "dict_keyiterator.__iter__") (by kernel_rfl) rfl (by decide +kernel) (by kernel_rfl)
theorem args_si_iter (a : Value) : argsOk "set_iterator.__iter__" ⟨[a], []⟩ := by unfold argsOk; kernel_rfl
noncomputable def textW (w : World) : Bool := w.params.followText "set-order"
noncomputable def siObj (first : Value) (i : Nat) (a : Addr) (n ep : Nat) : Obj := { cls := .type "set_iterator", data := .fields #[first, .int i 0, .ref a, .int n 0, .int ep 0] }
inductive SetIt (w : World) (fp : List Addr) (it a : Addr) (ord : List By) (i : Nat) (h : Heap) : Prop
  | mk (es : Array (Int × Value)) (ep : Nat) (t : SetTable) (first : Value) (ls : List By) (at_ : h.get? a = some (setObj es ep t)) (el : ElemsB w es.toList ls) (len : ls.length ≤ 2000) (fit : t.fits es.size = true) (hi : h.get? it = some (siObj first i a es.size ep)) (ol : ord.length = ls.length)
    (c : ((textW w = true ∧ (∃ j : Nat, first = .int j 0) ∧ ElemsB w (pickOrder (w.params.setOrder a ep) es).toList ord) ∨
   (textW w = false ∧ ∃ (T : Addr) (ps : List Nat), T ∈ fp ∧ first = .ref T ∧ h.get? T = some { cls := .type "tuple", data := .seq (ps.map (fun i : Nat => rawInt i)).toArray } ∧ ps.length = ls.length ∧ ∀ (j : Nat) (k : By), ord[j]? = some k → ∃ p : Nat, ps[j]? = some p ∧ ls[p]? = some k) ∨
   (textW w = false ∧ t.led = true ∧ ls.length ≤ 1 ∧ ord = ls ∧ (t.plain = true ∨ ls.length ≤ 1) ∧ ∃ j : Nat, first = .int j 0 ∧ (i = 0 → j = 0) ∧ (0 < i → ∃ p, t.place = #[p] ∧ j = p + 1)))) : SetIt w fp it a ord i h
section
variable {w : World} {mu : List Addr} {env : Env} {n : Nat} {A : Around} {g s s' : Shared} {m : Str → Option Value} {E : Value → Shared → Prop} {t u : Tok} {Q : Value → Shared → Prop} {a d v : Addr} {ls : List By} {k : By} {kvs : KV}
theorem fmap_getD : ∀ (ps : List Nat), (∀ q ∈ ps, q < ls.length) → ps.filterMap (fun q => ls[q]?) = ps.map (fun q => ls.getD q [])
  | [], _ => rfl
  | q :: ps, h => by
    rw [List.filterMap_cons, List.map_cons, List.getElem?_eq_getElem (h q (.head _)), fmap_getD ps fun q hq => h q (.tail _ hq)]
    simp [List.getD_eq_getElem?_getD, List.getElem?_eq_getElem (h q (.head _))]
theorem sIter (x : SetB w s.heap a ls)
    (h : ∀ it ord s' fp, Eff w [] [] s s' → (∀ b o, s.heap.get? b = some o → s'.heap.get? b = some o) → List.Perm ord ls → it ∈ fp ∧ a ∈ fp ∧ (∀ b ∈ fp, b = a ∨ (s.heap.objs.size ≤ b ∧ ∃ o, s'.heap.get? b = some o)) ∧ s.heap.objs.size ≤ it → SetIt w fp it a ord 0 s'.heap → Q (.ref it) s') : wpAny (model prg w) A (pyIter (.ref a)) Q E s := by
  obtain ⟨es, ep, tb, ho, hel, hnd, hsz, hf, hled, hpl⟩ := id x
  have hl : es.size = ls.length := by rw [← hel.length]; simp
  refine wpAny_pyIter_slot x.typeIs.1 PySem.F.slot_set_iter (wpAny_call_entry PySem.F.slot_set_iter x.typeIs.1 entry_set_iter ?_ (args_set_iter _))
  unfold Builtin.«frozenset.__iter__» Builtin.Frozenset.slot0
  refine wpAny_bind (wpAny_pure (wpAny_bind ?_))
  unfold Builtin.Frozenset.sizeOf
  refine wpAny_bind (wpAny_setEntries_of ho rfl hf (wpAny_pure ?_))
  refine wpAny_bind ?_
  unfold setDrawn
  refine wpAny_bind (wpAny_setState_of ho rfl hf ?_)
  refine wpAny_bind (wpAny_bind (wpAny_askSetting (wpAny_pure ?_)))
  have fin : ∀ (first : Value) (s₁ : Shared), s₁.heap.get? a = some (setObj es ep tb) → Q (.ref s₁.heap.objs.size) { s₁ with heap := s₁.heap.push (siObj first 0 a es.size ep) } →
      wpAny (model prg w) A.in1 (do
          let e ← setEpoch a
          let o ← newFields "set_iterator" [first, rawInt 0, Value.ref a, rawInt (es.size : Int), rawInt (e : Int)]
          ret o) (fun fin s' => ∃ v, fin = Fin.done (Flow.ret v) ∧ ∃ T' r, s'.TypeIs v T' ∧ typeLookup (Value.type T') (Str.ofString "__next__") = pure (some r) ∧ Q v s') E s₁ := fun first s₁ ho₁ hq =>
    wpAny_bind (wpAny_setEpoch_of ho₁ rfl hf (wpAny_bind (wpAny_newObj_type (wpAny_pure ⟨_, rfl, "set_iterator", _, ⟨_, Heap.get?_push_size _ rfl, rfl⟩, slot_si_next.lookup, hq⟩))))
  have hdr : ∀ b : Bool, (!w.params.followText "set-order" && (!tb.plain && decide (es.size > 1))) = b → wpAny (model prg w) A.in1 (if b = true then do
          let l ← drawOrder es.size (List.range es.size)
          let first ← newTuple (List.map (fun i : Nat => rawInt i) l)
          let e ← setEpoch a
          let o ← newFields "set_iterator" [first, rawInt 0, Value.ref a, rawInt (es.size : Int), rawInt (e : Int)]
          ret o
        else do
          let first ← pure (rawInt 0)
          let e ← setEpoch a
          let o ← newFields "set_iterator" [first, rawInt 0, Value.ref a, rawInt (es.size : Int), rawInt (e : Int)]
          ret o) (fun fin s' => ∃ v, fin = Fin.done (Flow.ret v) ∧ ∃ T' r, s'.TypeIs v T' ∧ typeLookup (Value.type T') (Str.ofString "__next__") = pure (some r) ∧ Q v s') E s := fun b hb => by
    cases b with
    | true =>
      rw [if_pos rfl]
      simp only [Bool.and_eq_true, Bool.not_eq_true', decide_eq_true_eq] at hb
      refine wpAny_bind (draw_perm _ _ s (by simp) fun ps dr hp => ?_)
      refine wpAny_bind (wpAny_newTuple ?_ (by rw [sizeLine_eq]; have := hp.length_eq; simp at this ⊢; omega))
      have hpl : ps.length = ls.length := by rw [hp.length_eq]; simp [hl]
      refine fin _ _ (Heap.get?_push_of_some _ ho) ?_
      have key : ∀ q ∈ ps, q < ls.length := fun q hq => by have := (hp.mem_iff).mp hq; simp at this; omega
      have hnm : ps.filterMap (fun q => ls[q]?) = ps.map (fun q => ls.getD q []) := fmap_getD ps key
      have hperm : List.Perm (ps.map fun q => ls.getD q []) ls := by
        rw [← hnm]
        refine (hp.filterMap _).trans ?_
        rw [hl, List.filterMap_getElem?_range_length]
      refine h _ (ps.map fun q => ls.getD q []) _ [(s.heap.push _).objs.size, s.heap.objs.size, a] ?_ ?_ hperm ⟨.head _, .tail _ (.tail _ (.head _)), ?_, ?_⟩ ?_
      · exact .keeps (fun b o e => Heap.get?_push_of_some _ (Heap.get?_push_of_some _ e)) rfl rfl
      · exact fun b o e => Heap.get?_push_of_some _ (Heap.get?_push_of_some _ e)
      · intro b hb
        simp only [List.mem_cons, List.not_mem_nil, or_false] at hb
        rcases hb with rfl | rfl | rfl
        · exact .inr ⟨by rw [Heap.size_push]; with_reducible exact Nat.le_add_right _ _, _, Heap.get?_push_size _ rfl⟩
        · exact .inr ⟨Nat.le_refl _, _, Heap.get?_push_of_some _ (Heap.get?_push_size _ rfl)⟩
        · exact .inl rfl
      · show _ ≤ (s.heap.push _).objs.size
        rw [Heap.size_push]; with_reducible exact Nat.le_add_right _ _
      · refine ⟨es, ep, tb, _, ls, Heap.get?_push_of_some _ (Heap.get?_push_of_some _ ho), hel, hsz, hf, Heap.get?_push_size _ rfl, by simp [hpl], .inr (.inl ⟨by unfold textW; exact hb.1, s.heap.objs.size, ps, .tail _ (.head _), rfl, Heap.get?_push_of_some _ (Heap.get?_push_size _ rfl), hpl, fun j k hk => ?_⟩)⟩
        rw [List.getElem?_map] at hk
        obtain ⟨q, hq, rfl⟩ := Option.map_eq_some_iff.mp hk
        exact ⟨q, hq, by simp [List.getD_eq_getElem?_getD, List.getElem?_eq_getElem (key q (List.mem_of_getElem? hq))]⟩
    | false =>
      rw [if_neg (by decide)]
      refine wpAny_bind (wpAny_pure (fin _ _ ho ?_))
      have hu : ∀ b o, s.heap.get? b = some o → (s.heap.push (siObj (rawInt 0) 0 a es.size ep)).get? b = some o := fun b o e => Heap.get?_push_of_some _ e
      have hfp : ∀ b ∈ [s.heap.objs.size, a], b = a ∨ (s.heap.objs.size ≤ b ∧ ∃ o, (s.heap.push (siObj (rawInt 0) 0 a es.size ep)).get? b = some o) := fun b hb => by
        simp only [List.mem_cons, List.not_mem_nil, or_false] at hb
        rcases hb with rfl | rfl
        · exact .inr ⟨Nat.le_refl _, _, Heap.get?_push_size _ rfl⟩
        · exact .inl rfl
      cases ht : textW w with
      | true =>
        obtain ⟨ord, hp, hord⟩ := hel.perm (pick_perm (w.params.setOrder a ep) es).symm
        refine h _ ord _ [s.heap.objs.size, a] (.push _) hu hp.symm ⟨.head _, .tail _ (.head _), hfp, Nat.le_refl _⟩ ⟨es, ep, tb, _, ls, hu _ _ ho, hel, hsz, hf, Heap.get?_push_size _ rfl, hp.length_eq.symm, .inl ⟨ht, ⟨0, rfl⟩, hord⟩⟩
      | false =>
        have ht' : w.params.followText "set-order" = false := ht
        have h1 : ls.length ≤ 1 := by
          rw [ht'] at hb
          simp only [Bool.not_false, Bool.true_and] at hb
          rcases hpl with hpl | hpl
          · rw [hpl]; simp
          · rw [hpl] at hb; simp at hb; omega
        exact h _ ls _ [s.heap.objs.size, a] (.push _) hu (.refl _) ⟨.head _, .tail _ (.head _), hfp, Nat.le_refl _⟩ ⟨es, ep, tb, _, ls, hu _ _ ho, hel, hsz, hf, Heap.get?_push_size _ rfl, rfl, .inr (.inr ⟨ht, hled.resolve_left (by rw [ht']; decide), h1, rfl, .inr h1, 0, rfl, fun _ => rfl, fun q => absurd q (by decide)⟩)⟩
  exact wpAny_pure (hdr _ rfl)
end
end Mine
end
section
open PySem PySem.W PyProof.Rows PySem.Calls
namespace Mine
section
variable {w : World} {mu : List Addr} {env : Env} {n : Nat} {A : Around} {g s s' : Shared} {m : Str → Option Value} {E : Value → Shared → Prop} {t u : Tok} {a d v it : Addr} {ls ord : List By} {k : By} {kvs : KV} {fp : List Addr} {i : Nat}
theorem SetIt.type (x : SetIt w fp it a ord i s.heap) : s.TypeIs (.ref it) "set_iterator" := by
  obtain ⟨es, ep, t, first, ls, _, _, _, _, hi, _⟩ := x
  exact ⟨_, hi, rfl⟩
theorem si_set {h : Heap} {first first' : Value} {i : Nat} {a n ep it : Nat} (ho : h.get? it = some (siObj first i a n ep)) : ((h.update it (Obj.mapFields (·.setIfInBounds 0 first'))).update it (Obj.mapFields (·.setIfInBounds 1 (rawInt ((i : Int) + 1))))).get? it = some (siObj first' (i + 1) a n ep) := by
  have h1 := Heap.get?_update_self (Obj.mapFields (·.setIfInBounds 0 first')) ho rfl
  have h2 := Heap.get?_update_self (Obj.mapFields (·.setIfInBounds 1 (rawInt ((i : Int) + 1)))) h1 rfl
  exact h2
theorem si_set1 {h : Heap} {first : Value} {i : Nat} {a n ep it : Nat} (ho : h.get? it = some (siObj first i a n ep)) : (h.update it (Obj.mapFields (·.setIfInBounds 1 (rawInt ((i : Int) + 1))))).get? it = some (siObj first (i + 1) a n ep) :=
  Heap.get?_update_self (Obj.mapFields (·.setIfInBounds 1 (rawInt ((i : Int) + 1)))) ho rfl
theorem setNextA {es : Array (Int × Value)} {ep j : Nat} {tb : SetTable} {Q : Option (Value × Nat) → Shared → Prop} (ha : s.heap.get? a = some (setObj es ep tb)) (hft : tb.fits es.size = true) (ht : textW w = true)
    (h : Q ((pickOrder (w.params.setOrder a ep) es)[i]?.map fun e => (e.2, j)) s) : wpAny (model prg w) A (setNext a j i ep) Q E s := by
  have ht2 : (model prg w).w.params.followText "set-order" = true := ht
  unfold setNext
  refine wpAny_bind (wpAny_setState_of ha rfl hft ?_)
  refine wpAny_bind (wpAny_bind (wpAny_askSetting (wpAny_pure ?_)))
  simp only [ht2, if_true]
  rw [if_neg (by simp)]
  refine wpAny_bind ?_
  unfold setWalk
  refine wpAny_bind (wpAny_setState_of ha rfl hft ?_)
  refine wpAny_bind (wpAny_bind (wpAny_askSetting (wpAny_pure ?_)))
  simp only [ht2, if_true]
  refine wpAny_bind (wpAny_askSetting (wpAny_pure ?_))
  exact wpAny_pure h
theorem setNextC {es : Array (Int × Value)} {ep j : Nat} {tb : SetTable} {Q : Option (Value × Nat) → Shared → Prop} (ha : s.heap.get? a = some (setObj es ep tb)) (hft : tb.fits es.size = true) (ht : textW w = false) (hled : tb.led = true) (h1 : es.size ≤ 1)
    (h : Q (match es[SetTable.below tb.place j]?, tb.place[SetTable.below tb.place j]? with | some (_, x), some j => some (x, j + 1) | _, _ => none) s) : wpAny (model prg w) A (setNext a j i ep) Q E s := by
  have ht2 : (model prg w).w.params.followText "set-order" = false := ht
  unfold setNext
  refine wpAny_bind (wpAny_setState_of ha rfl hft ?_)
  refine wpAny_bind (wpAny_bind (wpAny_askSetting (wpAny_pure ?_)))
  simp only [ht2, Bool.false_eq_true, if_false]
  show wpAny _ _ (if (!tb.plain && decide (es.size > 1)) = true then _ else _) _ _ _
  rw [if_neg (show ¬ ((!tb.plain && decide (es.size > 1)) = true) by simp; omega)]
  refine wpAny_bind ?_
  show wpAny _ _ (if (!tb.led && !es.isEmpty) = true then _ else _) _ _ _
  rw [if_neg (by rw [hled]; simp)]
  exact wpAny_pure (wpAny_pure h)
theorem sNextItem {Q : Option Value → Shared → Prop} (x : SetIt w fp it a ord i s.heap) (hne : a ≠ it) (hf : it ∈ fp) (hk : ord[i]? = some k)
    (hQ : ∀ t h', SetIt w fp it a ord (i + 1) h' → Heap.SameBut it s.heap h' → Q (some (.bytes k.toArray t)) { s with heap := h' }) : wpAny (model prg w) A (pyNext (.ref it)) Q E s := by
  have hT := x.type
  obtain ⟨es, ep, tb, first, ls, ha, hel, hsz, hft, hi, hol, hmode⟩ := x
  have hl : es.size = ls.length := by rw [← hel.length]; simp
  unfold pyNext
  refine wpAny_bind (wpAny_attempt (wpAny_callSpecial?_slot (name := Str.ofString "__next__") hT slot_si_next (wpAny_call_entry slot_si_next hT entry_si_next ?_ (args_si_next _))))
  unfold Builtin.«set_iterator.__next__»
  refine wpAny_bind (wpAny_pure ?_)
  refine wpAny_bind (wpAny_fieldsOf hi rfl ?_)
  dsimp only
  refine wpAny_bind (wpAny_setEntries_of ha rfl hft ?_)
  rw [if_neg (by simp)]
  rcases hmode with ⟨ht, ⟨j, rfl⟩, hord⟩ | ⟨ht, T, ps, hTfp, rfl, hps, hpl, hat⟩ | ⟨ht, hled, h1, rfl, _, j, rfl, hj0, hj1⟩
  · refine wpAny_bind (setNextA ha hft ht ?_)
    obtain ⟨e, he⟩ : ∃ e, (pickOrder (w.params.setOrder a ep) es)[i]? = some e := by
      have : i < (pickOrder (w.params.setOrder a ep) es).size := by
        have h1 := hord.length
        have h2 := (List.getElem?_eq_some_iff.mp hk).1
        simp at h1; omega
      exact ⟨_, Array.getElem?_eq_getElem this⟩
    obtain ⟨k', t', hk', he2⟩ := hord.at (i := i) (e := e) (by simpa using he)
    rw [hk] at hk'; cases hk'
    simp only [Int.toNat_natCast, he, Option.map_some, he2]
    refine wpAny_bind (wpAny_setField hi rfl (by simp) (wpAny_bind (wpAny_setField (Heap.get?_update_self _ hi rfl) rfl (by simp) ?_)))
    refine wpAny_pure ⟨_, rfl, wpAny_pure (hQ t' _ ?_ ((Heap.SameBut.update ..).trans (Heap.SameBut.update ..)))⟩
    refine ⟨es, ep, tb, _, ls, ?_, hel, hsz, hft, si_set hi, hol, .inl ⟨ht, ⟨j, rfl⟩, hord⟩⟩
    rw [Heap.get?_update_other _ _ hne.symm, Heap.get?_update_other _ _ hne.symm]; exact ha
  · obtain ⟨p, hp1, hp2⟩ := hat i k hk
    refine wpAny_bind (wpAny_seqItems hps rfl ?_)
    have hpi : (ps.map (fun i : Nat => rawInt i)).toArray[i]? = some (.int (p : Int) 0) := by simp [hp1, rawInt]
    simp only [Int.toNat_natCast, hpi]
    unfold setNextDrawn
    refine wpAny_bind (wpAny_bind (wpAny_setState_of ha rfl hft ?_))
    dsimp only
    rw [if_neg (by simp)]
    have hplt : p < es.size := by have := (List.getElem?_eq_some_iff.mp hp2).1; omega
    obtain ⟨k', t', hk', he2⟩ := hel.at (i := p) (e := es[p]) (by simp [hplt])
    rw [hp2] at hk'; cases hk'
    simp only [Array.getElem?_eq_getElem hplt, he2]
    refine wpAny_pure (wpAny_bind (wpAny_setField hi rfl (by simp) ?_))
    refine wpAny_pure ⟨_, rfl, wpAny_pure (hQ t' _ ?_ (Heap.SameBut.update ..))⟩
    have hTne : T ≠ it := fun q => by rw [q, hi] at hps; have := congrArg Obj.cls (Option.some.inj hps); simp [siObj] at this
    refine ⟨es, ep, tb, _, ls, ?_, hel, hsz, hft, si_set1 hi, hol, .inr (.inl ⟨ht, T, ps, hTfp, rfl, ?_, hpl, hat⟩)⟩
    · rw [Heap.get?_update_other _ _ hne.symm]; exact ha
    · rw [Heap.get?_update_other _ _ hTne.symm]; exact hps
  · have hi0 : i = 0 ∧ ord.length = 1 := by have := (List.getElem?_eq_some_iff.mp hk).1; omega
    obtain ⟨rfl, hl1⟩ := hi0
    obtain rfl := hj0 rfl
    refine wpAny_bind (setNextC ha hft ht hled (by with_reducible exact leE (by assumption) (by assumption) rfl) ?_)
    have hpl : tb.place.size = 1 := by have := hft; simp only [SetTable.fits, Bool.and_eq_true, beq_iff_eq] at this; omega
    obtain ⟨q, hq⟩ : ∃ q, tb.place = #[q] := by
      have := Array.size_eq_one_iff.mp hpl
      exact this
    obtain ⟨e, he⟩ : ∃ e, es[0]? = some e := ⟨es[0]'(by omega), Array.getElem?_eq_getElem (by omega)⟩
    obtain ⟨k', t', hk', he2⟩ := hel.at (i := 0) (e := e) (by simpa using he)
    rw [hk] at hk'; cases hk'
    have hbel : SetTable.below #[q] 0 = 0 := by simp [SetTable.below, SetTable.below.go]
    obtain ⟨hh, e2⟩ := e
    have he2 : e2 = _ := he2
    subst he2
    simp only [Int.toNat_natCast, hq, hbel, he]
    simp only [List.getElem?_toArray, List.getElem?_cons_zero]
    refine wpAny_bind (wpAny_setField hi rfl (by simp) (wpAny_bind (wpAny_setField (Heap.get?_update_self _ hi rfl) rfl (by simp) ?_)))
    refine wpAny_pure ⟨_, rfl, wpAny_pure (hQ t' _ ?_ ((Heap.SameBut.update ..).trans (Heap.SameBut.update ..)))⟩
    refine ⟨es, ep, tb, _, ord, ?_, hel, hsz, hft, si_set hi, rfl, .inr (.inr ⟨ht, hled, h1, rfl, .inr h1, q + 1, rfl, fun q => absurd q (by decide), fun _ => ⟨q, hq, rfl⟩⟩)⟩
    rw [Heap.get?_update_other _ _ hne.symm, Heap.get?_update_other _ _ hne.symm]; exact ha
theorem sNextEnd {Q : Option Value → Shared → Prop} (hh : A.handled = none) (x : SetIt w fp it a ord i s.heap) (hi' : i = ord.length) (hQ : ∀ h', Heap.ExtBut it s.heap h' → Q none { s with heap := h' }) : wpAny (model prg w) A (pyNext (.ref it)) Q E s := by
  have hT := x.type
  obtain ⟨es, ep, tb, first, ls, ha, hel, hsz, hft, hi, hol, hmode⟩ := x
  have hl : es.size = ls.length := by rw [← hel.length]; simp
  unfold pyNext
  refine wpAny_bind (wpAny_attempt (wpAny_callSpecial?_slot (name := Str.ofString "__next__") hT slot_si_next (wpAny_call_entry slot_si_next hT entry_si_next ?_ (args_si_next _))))
  unfold Builtin.«set_iterator.__next__»
  refine wpAny_bind (wpAny_pure ?_)
  refine wpAny_bind (wpAny_fieldsOf hi rfl ?_)
  dsimp only
  refine wpAny_bind (wpAny_setEntries_of ha rfl hft ?_)
  rw [if_neg (by simp)]
  have stop : ∀ (h' : Heap), Heap.SameBut it s.heap h' → ∀ Q' : Value → Shared → Prop, wpAny (model prg w) A.in1 (do let e ← newExc (.type "StopIteration") []; raiseNew e : Sem Fin)
      (fun fin s' => ∃ v, fin = Fin.done (Flow.ret v) ∧ wpAny (model prg w) A (pure (some v)) Q E s') (fun e s' => wpAny (model prg w) A (do let b ← isInstance e (Value.type "StopIteration"); if b = true then pure none else throw e) Q E s') { s with heap := h' } := fun h' hs _ => by
    refine wpAny_bind ?_
    simp only [newExc, newTuple]
    refine wpAny_bind (wpAny_newObj_type ?_ (by size_fits))
    refine wpAny_bind (m := firstArgMember _ _) (wpAny_of_eq (a := Value.none) (by first | rfl | (simp only [firstArgMember]; rfl)) ?_)
    refine wpAny_newObj_type ?_ (by size_fits)
    simp only [raiseNew]
    refine wpAny_bind (wpAny_handled ?_)
    rw [show A.in1.handled = none from hh]
    refine wpAny_bind (wpAny_pure (wpAny_throw ?_))
    refine wpAny_bind (wpAny_isInstance (T := "StopIteration") (b := true) ⟨_, Heap.get?_push_size _ rfl, rfl⟩ isSubtype_stop ?_)
    exact wpAny_pure (hQ _ ((hs.extBut.push _).push _))
  rcases hmode with ⟨ht, ⟨j, rfl⟩, hord⟩ | ⟨ht, T, ps, hTfp, rfl, hps, hpl, hat⟩ | ⟨ht, hled, h1, rfl, _, j, rfl, hj0, hj1⟩
  · refine wpAny_bind (setNextA ha hft ht ?_)
    have hn : (pickOrder (w.params.setOrder a ep) es)[i]? = none := by
      have h1 := hord.length
      simp at h1
      exact Array.getElem?_eq_none (by omega)
    simp only [Int.toNat_natCast, hn, Option.map_none]
    exact wpAny_bind (wpAny_setField hi rfl (by simp) (stop _ (Heap.SameBut.update ..) (fun _ _ => True)))
  · refine wpAny_bind (wpAny_seqItems hps rfl ?_)
    have hpi : (ps.map (fun i : Nat => rawInt i)).toArray[i]? = none := by simp; omega
    simp only [Int.toNat_natCast, hpi]
    refine wpAny_bind (wpAny_setField hi rfl (by simp) (wpAny_bind (wpAny_setField (Heap.get?_update_self _ hi rfl) rfl (by simp) ?_)))
    exact stop _ ((Heap.SameBut.update ..).trans (Heap.SameBut.update ..)) (fun _ _ => True)
  · refine wpAny_bind (setNextC ha hft ht hled (by with_reducible exact leE (by assumption) (by assumption) rfl) ?_)
    have hn : es[SetTable.below tb.place j]? = none := by
      rcases Nat.eq_zero_or_pos i with h0 | h0
      · exact Array.getElem?_eq_none (by omega)
      · obtain ⟨p, hp, rfl⟩ := hj1 h0
        rw [hp]
        have : SetTable.below #[p] (p + 1) = 1 := by simp [SetTable.below, SetTable.below.go]
        rw [this]
        exact Array.getElem?_eq_none (by with_reducible exact leE (by assumption) (by assumption) rfl)
    simp only [Int.toNat_natCast, hn]
    exact wpAny_bind (wpAny_setField hi rfl (by simp) (stop _ (Heap.SameBut.update ..) (fun _ _ => True)))
end
end Mine
end
section
open PySem PySem.W PyProof.Rows PySem.Calls
namespace Mine
section
variable {w : World} {mu : List Addr} {env : Env} {n : Nat} {A : Around} {g s s' : Shared} {m : Str → Option Value} {E : Value → Shared → Prop} {t u : Tok} {a d v it : Addr} {ls ord : List By} {k : By} {kvs : KV} {fp : List Addr} {i : Nat} {B : List Addr}
theorem setWalks (hh : A.handled = none) (hne : a ≠ it) (h1 : it ∈ fp) (h2 : a ∈ fp) : Walks prg w A it fp [it] ord.length (fun i v => ∃ k t, ord[i]? = some k ∧ v = .bytes k.toArray t) (fun i h => SetIt w fp it a ord i h) where
  sub := fun b hb => List.mem_singleton.mp hb ▸ h1
  frame := fun i h h' x hk => by
    obtain ⟨es, ep, tb, first, ls, ha, hel, hsz, hft, hi, hol, hmode⟩ := x
    refine ⟨es, ep, tb, first, ls, hk _ h2 _ ha, hel, hsz, hft, hk _ h1 _ hi, hol, hmode.imp id (Or.imp ?_ id)⟩
    rintro ⟨ht, T, ps, hT, hf, hps, r⟩
    exact ⟨ht, T, ps, hT, hf, hk _ hT _ hps, r⟩
  item := fun i s Q E hi x hQ => by
    refine sNextItem (k := ord[i]) x hne h1 (List.getElem?_eq_getElem hi) fun t h' x' hs => ?_
    exact hQ _ h' s.toks ⟨_, t, List.getElem?_eq_getElem hi, rfl⟩ x' fun b o hb e => (hs.2 b fun q => hb (by simp [q])).trans e
  done := fun s Q E x hQ => sNextEnd hh x rfl fun h' hs => hQ h' s.toks fun b o hb e => hs b o (fun q => hb (by simp [q])) e
  self := fun i s Q E x hq => by
    refine wpAny_pyIter_slot x.type slot_si_iter (wpAny_call_entry slot_si_iter x.type entry_si_iter ?_ (args_si_iter _))
    unfold Builtin.«dict_keyiterator.__iter__»
    refine wpAny_bind (wpAny_pure ?_)
    exact wpAny_pure ⟨_, rfl, "set_iterator", _, x.type, slot_si_next.lookup, hq⟩
theorem it_set {R : Value → Shared → Prop} (x : SetB w s.heap a ls) (F : Fm w mu env n A g m s) (hmu : ∀ b ∈ mu, ∃ o, s.heap.get? b = some o) (hB : Fresh w g a ∨ a ∈ B)
    (h : ∀ it ord s', Fm w mu env n A g m s' → (∀ b o, s.heap.get? b = some o → s'.heap.get? b = some o) → List.Perm ord ls → (∀ y py, TurnsIn w A (.Name y py) g B ord.length (fun i v _ => ∃ k t, ord[i]? = some k ∧ v = .bytes k.toArray t) it s') → R it s') : wpAny (model prg w) A (pyIter (.ref a)) R E s := by
  refine sIter x fun it ord s' fp e keep hp ⟨h1, h2, h3, h4⟩ st => ?_
  have hne : a ≠ it := fun q => by obtain ⟨o, ho⟩ := x.alive; exact Nat.lt_irrefl _ (Nat.lt_of_lt_of_le (Heap.lt_size ho) (q ▸ h4))
  have W := setWalks (w := w) (ord := ord) (fp := fp) F.hh hne h1 h2
  refine h (.ref it) ord s' (F.go e) keep hp fun y py => ⟨it, fp, [it], _, _, rfl, KTurns.ofWalks (target := .Name y py) W (fun i v s Q E _ hq => wpAny_pure hq), fun s Q st hq E => W.self 0 s Q E st hq, st, fun b hb => ?_, fun b hb => ?_⟩
  · rcases h3 b hb with rfl | ⟨q, r⟩
    · obtain ⟨o, ho⟩ := x.alive
      exact ⟨hB, o, keep _ _ ho⟩
    · exact ⟨.inl (F.new hmu q), r⟩
  · rw [List.mem_singleton.mp hb]; exact F.new hmu h4
end
end Mine
end
section
open PySem PySem.W PyProof.Rows PySem.Calls
namespace Mine
section
variable {w : World} {mu mu' : List Addr} {env : Env} {n : Nat} {A : Around} {g s s' : Shared} {m : Str → Option Value} {E : Value → Shared → Prop} {t u : Tok} {Q : Value → Shared → Prop} {x dx d : Addr} {kvs : KV} {o a b : Expr} {pos apos : Pos} {k v : By}
theorem no_set : nsIn (KK w) mainGlobals "set" = some none := by kernel_rfl
theorem boot_set : bootBuiltins "set" = some (.type "set") := by decide +kernel
theorem bKeys (hd : DB w s.heap d kvs) (hn : NB ≤ d) (h : Q (.ref s.heap.objs.size) { s with heap := s.heap.push { cls := .type "dict_keys", data := .fields #[.ref d] } }) : wpAny (model prg w) A (call (.builtin "dict.keys") [.ref d]) Q E s := by
  obtain ⟨ps, hm, hp⟩ := hd
  exact callM PySem.F.slot_dict_keys PySem.F.entry_dict_keys hm.mapOf.typeIs (PySem.F.args_dict_keys_1 _) (kdl_meets_keys (bytesKind prg w) d (lo_of hn)) ⟨⟨_, hm⟩, h⟩
noncomputable def p_allkeys (w : World) : FnPk w 259 := ⟨_, _, rfl, by kernel_rfl, rfl, ⟨⟨rfl, rfl, rfl⟩, rfl, rfl, rfl⟩⟩
theorem i_allkeys : IsMeth w "allkeys" 259 := ⟨by kernel_rfl, by kernel_rfl, by kernel_rfl, by decide, by decide⟩
theorem s_allkeys (C : Cx w (n + 1) A s) (R : Rep w A s.heap x dx d kvs) (K : KOk kvs)
    (h : ∀ D ls s', Eff w (frs A) [] s s' → SetB w s'.heap D ls → (∀ y, y ∈ ls ↔ y ∈ kvs.map (·.1)) → ls.length ≤ kvs.length → Fresh w s D → Q (.ref D) s') : wpAny (model prg w) A (call (.ref 259) [.ref x]) Q E s := by
  refine wpAny_call (run (p_allkeys w) [] [("self", .ref x)] C (fun _ h => nomatch h) (BindsTo.of_eq rfl) rfl fun L s₁ hL e1 F => ?_)
  rw [List.append_nil] at F
  obtain ⟨R₁, off⟩ := R.deep' (p := p_allkeys w) C hL e1
  refine sRet (Call_Name1 (bu F no_set boot_set (PyProof.Rows.callWith_type rfl (Calls.evalArgs_plain (Calls.spliced_cons ?_)))))
  refine evm0 m_keys (F.ev (eRefs R₁ off (eL rfl rfl)) fun ov s₂ F₂ hv => ?_)
  have hv : ov = .ref d := hv
  subst hv
  have R₂ := R₁.eff F₂.eff off
  refine ⟨⟨R₂.db.typeIs, R₂.db.noDict⟩, bKeys R₂.db R₂.nb.2.2 (Calls.spliced_nil ?_)⟩
  have F₃ := F₂.go (fr := []) (.push { cls := .type "dict_keys", data := .fields #[.ref d] })
  have R₃ := R₁.eff F₃.eff off
  refine callSetKeys (v := s₂.heap.objs.size) F₃.hh ⟨_, Heap.get?_push_size _ rfl, rfl, rfl⟩ R₃.db K.1 fun ls h' tk hS hm hl hk => ?_
  have e4 : Eff w [] [] { s₂ with heap := s₂.heap.push { cls := .type "dict_keys", data := .fields #[.ref d] } } { s₂ with heap := h', toks := tk } := .keeps hk rfl rfl
  have F₄ := F₃.go e4
  refine ⟨by rw [List.append_nil]; exact F₄.eff, fun e => h _ ls _ e hS hm hl ?_⟩
  have hf3 : Fresh w { s₂ with heap := s₂.heap.push { cls := .type "dict_keys", data := .fields #[.ref d] } } (s₂.heap.push { cls := .type "dict_keys", data := .fields #[.ref d] }).objs.size := Fresh.size w _
  have cz : ∀ p ∈ (envP (p_allkeys w) L).cells, (envP (p_allkeys w) L).cells.lookup p.1 = some p.2 := fun _ h => nomatch h
  exact (hf3.back F₃.eff (F₃.fresh_off (F₃.alive cz) hf3).1).back e1
end
end Mine
end
section
open PySem PySem.W PyProof.Rows PySem.Calls
namespace Mine
section
variable {w : World} {mu mu' : List Addr} {env : Env} {n : Nat} {A : Around} {g s s' : Shared} {m : Str → Option Value} {E : Value → Shared → Prop} {t u : Tok} {Q : Value → Shared → Prop} {x dx d : Addr} {kvs : KV} {o a b : Expr} {pos apos : Pos} {k v base : By}
theorem evSet0 (F : Fm w mu env n A g m s) (h : ∀ U s', Eff w [] [] s s' → SetB w s'.heap U [] → Fresh w s U → Q (.ref U) s') (hx : autoParam (env.kindOf "set" = some .globalImplicit) byRfl) : wpAny (model prg w) A (eval (.Call (.Name "set" apos) [] [] pos) env) Q E s :=
  Call_Name0 (bu F no_set boot_set (PyProof.Rows.callWith_type rfl (PyProof.Rows.evalArgs_nil3 (callSet0 (h _ _ (.push _) (SetB.fresh (Heap.get?_push_size _ rfl)) (Fresh.size w s))))) hx)
noncomputable def subP (kvs : KV) (base : By) : List By := (kvs.map (·.1)).filterMap fun y => if base.isPrefixOf y then some (y.drop (base.length + 1)) else none
noncomputable def p_subkeys (w : World) : FnPk w 160 := ⟨_, _, rfl, by kernel_rfl, rfl, ⟨⟨rfl, rfl, rfl⟩, rfl, rfl, rfl⟩⟩
theorem i_subkeys : IsMeth w "subkeys" 160 := ⟨by kernel_rfl, by kernel_rfl, by kernel_rfl, by decide, by decide⟩
inductive subkeysJ (w : World) (U : Addr) (base : By) (t : Tok) (tb : Tok) (ord : List By) (i : Nat) (m : Str → Option Value) (h : Heap) : Prop
  | mk (h1 : m "base" = some (.bytes base.toArray t)) (h2 : m "base_len" = some (.int ((base.length : Int) + 1) tb)) (h3 : m "keys" = some (.ref U)) (us : List By) (sb : SetB w h U us) (len : us.length ≤ i) (mem : ∀ y, y ∈ us ↔ y ∈ (ord.take i).filterMap fun y => if base.isPrefixOf y then some (y.drop (base.length + 1)) else none) : subkeysJ w U base t tb ord i m h
noncomputable def subkeysO (w : World) (U : Addr) (base : By) (ord : List By) : Flow → (Str → Option Value) → Heap → Prop := fun f m h => match f with | .next => m "keys" = some (.ref U) ∧ ∃ us, SetB w h U us ∧ us.length ≤ ord.length ∧ ∀ y, y ∈ us ↔ y ∈ ord.filterMap fun y => if base.isPrefixOf y then some (y.drop (base.length + 1)) else none | _ => False
theorem s_subkeys (C : Cx w (n + 2) A s) (R : Rep w A s.heap x dx d kvs) (K : KOk kvs) (hb : base.length ≤ 8192)
    (h : ∀ D ls s', Eff w (frs A) [] s s' → SetB w s'.heap D ls → (∀ y, y ∈ ls ↔ y ∈ subP kvs base) → ls.length ≤ kvs.length → Fresh w s D → Q (.ref D) s') : wpAny (model prg w) A (call (.ref 160) [.ref x, .bytes base.toArray t]) Q E s := by
  refine wpAny_call (run (p_subkeys w) [] [("self", .ref x), ("base", .bytes base.toArray t)] C (fun _ h => nomatch h) (BindsTo.of_eq rfl) rfl fun L s₁ hL e1 F => ?_)
  rw [List.append_nil] at F
  have cz : ∀ p ∈ (envP (p_subkeys w) L).cells, (envP (p_subkeys w) L).cells.lookup p.1 = some p.2 := fun _ h => nomatch h
  obtain ⟨R₁, off⟩ := R.deep' (p := p_subkeys w) C hL e1
  refine sAsg (evSet0 F fun U s₂ e2 hU hfU => ?_) rfl
  have F₂ := F.go e2
  have offU := F.fresh_off (F.alive cz) hfU
  refine st F₂.base (fun s₃ F₃ => ?_) rfl
  have e13 : Eff w (frs (A.deeper (envP (p_subkeys w) L))) (own (envP (p_subkeys w) L)) s₁ s₃ := F₂.eff.trans F₃.eff
  refine xAsg F₃ (eAddI (eLen (e' := no_len) (eL (V := IsB base) rfl ⟨_, rfl⟩) (by with_reducible exact leK (by assumption) rfl)) (eI (i := 1))) fun v s₄ ⟨tb, hv⟩ F₄ => ?_
  subst hv
  have hU₄ := hU.eff F₄.eff offU.2.1 offU.1
  have e14 : Eff w (frs (A.deeper (envP (p_subkeys w) L))) (own (envP (p_subkeys w) L)) s₁ s₄ := F₂.eff.trans F₄.eff
  have R₄ := R₁.eff e14 off
  have Fw := F₄.base.with1 offU.2.2.2.1 offU.2.1
  refine sForT Fw (F₄.alive1 cz hU₄.alive) (evI0 i_allkeys (ldl Fw rfl ⟨x, dx, d, rfl, Fw.ww, R₄.inst, s_allkeys Fw.cx R₄ K fun D ls s₅ e5 hD hm hl hfD => ?_⟩))
  have F₅ := Fw.go e5
  refine it_set (B := []) hD F₅ (fun b hb => let ⟨o, ho⟩ := F₄.alive1 cz hU₄.alive b hb; e5.alive b o (fun q => nomatch q) ho) (.inl hfD) fun it ord s₆ F₆ keep hp T => ?_
  have hN : ord.length ≤ kvs.length := by rw [hp.length_eq]; exact hl
  have hK1 := K.1
  have hU₆ : SetB w s₆.heap U [] := (hU₄.eff e5 offU.2.1 (fun q => nomatch q)).at fun o e => keep _ _ e
  refine ⟨[], _, _, F₆, T _ _, (fun _ q => nomatch q), (subkeysJ w U base t tb ord),
    (subkeysO w U base ord),
    fun i m h h' hk ⟨a1, a2, a3, us, a, b, c⟩ => ⟨a1, a2, a3, us, a.at fun o e => hk U o (.head _) e, b, c⟩, ⟨rfl, rfl, rfl, [], hU₆, by simp, fun y => by simp⟩, ?_, ?_, ?_⟩
  · rintro i v m₁ s₇ hi ⟨k, tk, hk, rfl⟩ ⟨h1, h2, h3, us, hS, hul, hum⟩ F₇
    have hkm : k ∈ kvs.map (·.1) := (hm k).mp (hp.mem_iff.mp (List.mem_of_getElem? hk))
    obtain ⟨kv, hkv, rfl⟩ := List.mem_map.mp hkm
    have hkz := (K.2 kv hkv).1
    have Fn := F₇.only
    refine asgName (st Fn fun s₈ F₈ => ?_)
    refine xIf1 F₈ (tPlain (eM1 m_startswith (eL (V := IsB kv.1) rfl ⟨_, rfl⟩) (eL (V := IsB base) h1 ⟨_, rfl⟩) dStarts) truth_bool) (fun hb s₉ F₉ => ?_) fun hb s₉ F₉ => ?_
    · refine sExp (evm1 m_add (ldl F₉ h3 ?_) (by rfl) (by rfl) (by rfl)) (by rfl) (by rfl)
      have hS₉ := hS.eff F₉.eff offU.2.1 offU.1
      refine ⟨hS₉.typeIs, F₉.ev (eRef (eSlE (cut_from kv.1 (base.length + 1)) (eL (V := IsB kv.1) rfl ⟨_, rfl⟩) (pSome (eL h2 ⟨_, rfl⟩)) pNone (by with_reducible exact leK (by assumption) rfl))) fun v s₁₀ F₁₀ ⟨tv, hv⟩ => ?_⟩
      subst hv
      refine sAdd (hS.eff F₁₀.eff offU.2.1 offU.1) offU.2.2.2.1 (by omega) fun us' s₁₁ hS' e11 hm' hl' => sNil (sNil ⟨_, (F₁₀.with1 offU.2.2.2.1 offU.2.1).step (e11.mono (fun _ q => nomatch q) fun _ q => q) (fun b q => List.mem_singleton.mp q ▸ .head _) (fun b q => List.mem_singleton.mp q ▸ offU.1), h1, h2, h3, us', hS', by omega, fun y => ?_⟩)
      rw [hm' y, hum y, List.take_add_one, hk, List.filterMap_append, List.mem_append]
      refine or_congr Iff.rfl ?_
      show _ ↔ y ∈ List.filterMap _ [kv.1]
      rw [List.filterMap_cons, if_pos hb]
      exact List.mem_singleton.symm
    · refine sNil ⟨_, F₉.with1 offU.2.2.2.1 offU.2.1, h1, h2, h3, us, hS.eff F₉.eff offU.2.1 offU.1, by with_reducible exact Nat.le_succ_of_le (by assumption), fun y => ?_⟩
      rw [hum y, List.take_add_one, hk, List.filterMap_append, List.mem_append]
      show _ ↔ _ ∨ y ∈ List.filterMap _ [kv.1]
      rw [List.filterMap_cons, if_neg (by rw [hb]; decide)]
      exact ⟨.inl, fun q => q.elim id fun q => nomatch q⟩
  · rintro m' h' ⟨_, _, h3, us, hS, hul, hum⟩
    rw [List.take_of_length_le (Nat.le_refl _)] at hum
    exact ⟨h3, us, hS, hul, hum⟩
  · intro f m' s' F' hO
    cases f with
    | ret v => exact hO.elim
    | brk => exact hO.elim
    | cont => exact hO.elim
    | next =>
      obtain ⟨h3, us, hS, hul, hum⟩ := hO
      have Fn := F'.only
      have et : Eff w (frs (A.deeper (envP (p_subkeys w) L))) ([U] ++ own (envP (p_subkeys w) L)) s₁ s' := (e14.mono (fun _ q => q) fun b q => List.mem_append_right _ q).trans F'.eff
      have et' := et.shrink fun b q => List.mem_singleton.mp q ▸ hfU.1
      refine sRet (ldl Fn h3 ⟨by rw [List.append_nil]; exact et', fun e => h U us s' e hS (fun y => ?_) (by with_reducible exact Nat.le_trans (by assumption) (by assumption)) (hfU.back e1)⟩)
      rw [hum y]
      unfold subP
      simp only [List.mem_filterMap]
      exact ⟨fun ⟨z, hz, q⟩ => ⟨z, (hm z).mp (hp.mem_iff.mp hz), q⟩, fun ⟨z, hz, q⟩ => ⟨z, hp.mem_iff.mpr ((hm z).mpr hz), q⟩⟩
end
end Mine
end
section
open PySem PySem.W PyProof.Rows PySem.Calls
namespace Mine
section
variable {w : World} {mu mu' : List Addr} {env : Env} {n : Nat} {A : Around} {g s s' : Shared} {m : Str → Option Value} {E : Value → Shared → Prop} {t u : Tok} {Q : Value → Shared → Prop} {x dx d : Addr} {kvs : KV} {o a b : Expr} {pos apos : Pos} {k v base : By}
noncomputable def keysP (kvs : KV) : Option By → List By
  | none => kvs.map (·.1)
  | some base => subP kvs base
noncomputable def p_keys (w : World) : FnPk w 153 := ⟨_, _, rfl, by kernel_rfl, rfl, ⟨⟨rfl, rfl, rfl⟩, rfl, rfl, rfl⟩⟩
theorem i_keys : IsMeth w "keys" 153 := ⟨by kernel_rfl, by kernel_rfl, by kernel_rfl, by decide, by decide⟩
theorem s_keys {ob : Option By} {bv : Value} (hb : OptB ob bv) (C : Cx w (n + 3) A s) (R : Rep w A s.heap x dx d kvs) (K : KOk kvs) (hz : ∀ base, ob = some base → base.length ≤ 8192) {args : Args} (hbind : BindsTo s (p_keys w).fd args [("self", .ref x), ("base", bv)])
    (h : ∀ D ls s', Eff w (frs A) [] s s' → SetB w s'.heap D ls → (∀ y, y ∈ ls ↔ y ∈ keysP kvs ob) → ls.length ≤ kvs.length → Fresh w s D → Q (.ref D) s') : codeAny (model prg w) A (.call (.ref 153) args) (fun r s' => match r with | .ok (.ret v) => Q v s' | .ok _ => False | .error e => E e s') s := by
  refine run (p_keys w) [] [("self", .ref x), ("base", bv)] C (fun _ h => nomatch h) hbind rfl fun L s₁ hL e1 F => ?_
  rw [List.append_nil] at F
  obtain ⟨R₁, off⟩ := R.deep' (p := p_keys w) C hL e1
  have cz : ∀ p ∈ (envP (p_keys w) L).cells, (envP (p_keys w) L).cells.lookup p.1 = some p.2 := fun _ h => nomatch h
  refine xIf F (tCmp (eL rfl hb) eN cIsNotO) (fun hs s₂ F₂ => ?_) fun hs s₂ F₂ => ?_
  · obtain ⟨base, rfl⟩ : ∃ base, ob = some base := by cases ob with | none => cases hs | some p => exact ⟨p, rfl⟩
    obtain ⟨tb, rfl⟩ := hb
    have R₂ := R₁.eff F₂.eff off
    exact sRet (evI1 i_subkeys (ldl F₂ rfl ⟨x, dx, d, rfl, F₂.ww, R₂.inst, ldl F₂ rfl ⟨F₂.ww, s_subkeys F₂.cx R₂ K (hz base rfl) fun D ls s₃ e3 hD hm hl hf => ⟨by rw [List.append_nil]; exact (F₂.go e3).eff, fun e => h D ls s₃ e hD hm hl ((hf.back F₂.eff (F₂.fresh_off (F₂.alive cz) hf).1).back e1)⟩⟩⟩))
  · obtain rfl : ob = none := by cases ob with | none => rfl | some p => cases hs
    have R₂ := R₁.eff F₂.eff off
    exact sRet (evI0 i_allkeys (ldl F₂ rfl ⟨x, dx, d, rfl, F₂.ww, R₂.inst, s_allkeys F₂.cx R₂ K fun D ls s₃ e3 hD hm hl hf => ⟨by rw [List.append_nil]; exact (F₂.go e3).eff, fun e => h D ls s₃ e hD hm hl ((hf.back F₂.eff (F₂.fresh_off (F₂.alive cz) hf).1).back e1)⟩⟩))
end
end Mine
end
section
open PySem PySem.W PyProof.Rows PySem.Calls
namespace Mine
section
variable {w : World} {mu : List Addr} {env : Env} {n : Nat} {A : Around} {g s s' : Shared} {m : Str → Option Value} {e : Addr} {cls : Value} {p1 p2 pos : Pos}
theorem g_SL : nsIn (KK w) mainGlobals "SymrefLoop" = some (some (.ref 107)) := by kernel_rfl
theorem clauseK {kk : Nat} (F : Fm w mu env n A g m s) (hc : cls = .type "KeyError") (h1 : autoParam (env.kindOf "SymrefLoop" = some .globalImplicit) byRfl) (h2 : autoParam (env.kindOf "KeyError" = some .globalImplicit) byRfl) :
    ∀ s₃, Thrown w A [] s s₃ e cls → WW w s₃.heap → wpAny (model prg w) (A.mark (some (.ref e))) (eval (.Tuple [.Name "SymrefLoop" p1, .Name "KeyError" p2] kk pos) env) (fun c s₄ => Thrown w A [] s s₄ e cls ∧ Looks (model prg w) s₄.heap (excMatches (.ref e) c) true) (fun _ _ => False) s₃ :=
  fun s₃ T W => by
    subst hc
    refine wpAny_Tuple ?_
    refine wpAny_items_cons (gl' F W g_SL ?_ h1)
    refine wpAny_items_cons (bu' F W no_KE boot_KE ?_ h2)
    refine wpAny_items_nil ⟨by size_fits, ?_⟩
    have kp : ∀ q o, s₃.heap.get? q = some o → (s₃.heap.push { cls := .type "tuple", data := .seq [Value.ref 107, .type "KeyError"].toArray }).get? q = some o := fun _ _ z => Heap.get?_push_of_some _ z
    have T' := T.keeps (tk := s₃.toks) kp
    have LT : Looks (model prg w) (s₃.heap.push { cls := .type "tuple", data := .seq [Value.ref 107, .type "KeyError"].toArray }) (typeOf (.ref e)) (.type "KeyError") := by
      obtain ⟨oe, he, hc⟩ := T'.has
      have := (Looks.ld (M := model prg w) (part := none) he).andThen (f := fun o => pure o.cls) .now
      rw [hc] at this
      exact this
    exact ⟨T', exm_tup2 (W.kin.keeps kp) LT (Heap.get?_push_size _ rfl) exK⟩
end
end Mine
end
section
open PySem PySem.W PyProof.Rows PySem.Calls
namespace Mine
section
variable {w : World} {mu mu' : List Addr} {env : Env} {n : Nat} {A : Around} {g s s' : Shared} {m : Str → Option Value} {E : Value → Shared → Prop} {t u : Tok} {Q : Value → Shared → Prop} {x dx d : Addr} {kvs : KV} {o a b : Expr} {pos apos : Pos} {k v base : By}
noncomputable def baseB : Option By → By
  | none => []
  | some base => rstripB [47] base
theorem baseB_len {ob : Option By} {z : Nat} (h : ∀ base, ob = some base → base.length ≤ z) : (baseB ob).length ≤ z := by
  cases ob with
  | none => exact Nat.zero_le _
  | some base => exact Nat.le_trans (rstripB_len _ _) (h base rfl)
noncomputable def fullP (ob : Option By) (y : By) : By := stripB [47] (baseB ob ++ [47] ++ y)
noncomputable def p_asdict (w : World) : FnPk w 168 := ⟨_, _, rfl, by kernel_rfl, rfl, ⟨⟨rfl, rfl, rfl⟩, rfl, rfl, rfl⟩⟩
theorem i_asdict : IsMeth w "as_dict" 168 := ⟨by kernel_rfl, by kernel_rfl, by kernel_rfl, by decide, by decide⟩
theorem get2_cons (a b y : By) (r : KV) : get2 ((a, b) :: r) y = if a = y then some b else get2 r y := by
  unfold get2; rw [List.find?_cons]
  by_cases h : a = y <;> simp [h]
theorem get2_map (k v y : By) : ∀ kvs : KV, get2 (kvs.map fun kv => if kv.1 = k then (kv.1, v) else kv) y = if y = k then (get2 kvs y).map fun _ => v else get2 kvs y
  | [] => by simp [get2]
  | (a, b) :: r => by
    have ih := get2_map k v y r
    rw [List.map_cons, get2_cons]
    by_cases h : a = k
    · rw [if_pos (show (a, b).1 = k from h), get2_cons, ih]
      by_cases h2 : a = y
      · simp [h2, ← h]
      · simp [h2]
    · rw [if_neg (show ¬ (a, b).1 = k from h), get2_cons, ih]
      by_cases h2 : a = y
      · subst h2; simp [h]
      · simp [h2]
theorem put_get (kvs : KV) (k v y : By) : get2 (put kvs k v) y = if y = k then some v else get2 kvs y := by
  unfold put
  split
  · rename_i h
    rw [get2_map]
    split
    · rename_i e
      subst e
      have : ∃ p, get2 kvs y = some p := by
        obtain ⟨kv, h1, h2⟩ := List.any_eq_true.mp h
        unfold get2
        cases hf : kvs.find? fun kv => decide (kv.1 = y) with
        | none => have := List.find?_eq_none.mp hf kv h1; simp at this h2; exact absurd h2 this
        | some q => exact ⟨_, rfl⟩
      obtain ⟨p, hp⟩ := this
      rw [hp]; rfl
    · rfl
  · rename_i h
    have hn : ∀ kv ∈ kvs, kv.1 ≠ k := fun kv hkv e => h (List.any_eq_true.mpr ⟨kv, hkv, by simpa using e⟩)
    unfold get2
    rw [List.find?_append]
    by_cases e : y = k
    · subst e
      have : kvs.find? (fun kv => decide (kv.1 = y)) = none := List.find?_eq_none.mpr fun kv hkv => by simpa using hn kv hkv
      rw [this]; simp
    · have : List.find? (fun kv : By × By => decide (kv.1 = y)) [(k, v)] = none := by simp [Ne.symm e]
      rw [this]; simp [e]
theorem b_keys2 {v : Value} (W : WW w s.heap) : BindsTo s (p_keys w).fd ⟨[.ref x, v], []⟩ [("self", .ref x), ("base", v)] := binds_K (T := 146) W.kin rfl rfl rfl rfl rfl
theorem b_keys1 (W : WW w s.heap) : BindsTo s (p_keys w).fd ⟨[.ref x], []⟩ [("self", .ref x), ("base", .none)] := binds_K (T := 146) W.kin rfl rfl rfl rfl rfl
theorem c_keys2 {ob : Option By} {bv : Value} (hb : OptB ob bv) (C : Cx w (n + 3) A s) (R : Rep w A s.heap x dx d kvs) (K : KOk kvs) (hz : ∀ base, ob = some base → base.length ≤ 8192)
    (h : ∀ D ls s', Eff w (frs A) [] s s' → SetB w s'.heap D ls → (∀ y, y ∈ ls ↔ y ∈ keysP kvs ob) → ls.length ≤ kvs.length → Fresh w s D → Q (.ref D) s') : wpAny (model prg w) A (call (.ref 153) [.ref x, bv]) Q E s :=
  wpAny_call (s_keys hb C R K hz (b_keys2 C.ww) h)
theorem c_keys1 (C : Cx w (n + 3) A s) (R : Rep w A s.heap x dx d kvs) (K : KOk kvs)
    (h : ∀ D ls s', Eff w (frs A) [] s s' → SetB w s'.heap D ls → (∀ y, y ∈ ls ↔ y ∈ keysP kvs none) → ls.length ≤ kvs.length → Fresh w s D → Q (.ref D) s') : wpAny (model prg w) A (call (.ref 153) [.ref x]) Q E s :=
  wpAny_call (s_keys (ob := none) rfl C R K (fun _ q => nomatch q) (b_keys1 C.ww) h)
inductive asdictJ (w : World) (x : Addr) (U : Addr) (ob : Option By) (tb : Tok) (ord : List By) (f : By → Option By) (i : Nat) (m : Str → Option Value) (h : Heap) : Prop
  | mk (h1 : m "self" = some (.ref x)) (h2 : m "ret" = some (.ref U)) (h3 : m "base_bytes" = some (.bytes (baseB ob).toArray tb)) (out : KV) (db : DB w h U out) (len : out.length ≤ i) (mem : ∀ y, get2 out y = if y ∈ ord.take i then f y else none) : asdictJ w x U ob tb ord f i m h
noncomputable def asdictO (w : World) (U : Addr) (ord : List By) (f : By → Option By) : Flow → (Str → Option Value) → Heap → Prop := fun f' m h => match f' with | .next => m "ret" = some (.ref U) ∧ ∃ out, DB w h U out ∧ out.length ≤ ord.length ∧ ∀ y, get2 out y = if y ∈ ord then f y else none | _ => False
theorem s_asdict {ob : Option By} {bv : Value} {f : By → Option By} (hb : OptB ob bv) (C : Cx w (n + 6) A s) (R : Rep w A s.heap x dx d kvs) (K : KOk kvs) (hz : ∀ base, ob = some base → base.length ≤ 8192)
    (hfull : ∀ y ∈ keysP kvs ob, y.length ≤ 8192 ∧ (fullP ob y).length ≤ 8192 ∧ ∃ names, Fol kvs (fullP ob y) names (f y) ∧ names.length ≤ 5) {args : Args} (hbind : BindsTo s (p_asdict w).fd args [("self", .ref x), ("base", bv)])
    (h : ∀ D out s', Eff w (frs A) [] s s' → DB w s'.heap D out → (∀ y, get2 out y = if y ∈ keysP kvs ob then f y else none) → out.length ≤ kvs.length → Fresh w s D → Q (.ref D) s') : codeAny (model prg w) A (.call (.ref 168) args) (fun r s' => match r with | .ok (.ret v) => Q v s' | .ok _ => False | .error e => E e s') s := by
  refine run (p_asdict w) [] [("self", .ref x), ("base", bv)] C (fun _ h => nomatch h) hbind rfl fun L s₁ hL e1 F => ?_
  rw [List.append_nil] at F
  have cz : ∀ p ∈ (envP (p_asdict w) L).cells, (envP (p_asdict w) L).cells.lookup p.1 = some p.2 := fun _ h => nomatch h
  obtain ⟨R₁, off⟩ := R.deep' (p := p_asdict w) C hL e1
  refine sAsg (dNew fun U s₂ e2 hU hfU => ?_) rfl
  have F₂ := F.go e2
  have offU := F.fresh_off (F.alive cz) hfU
  refine st F₂.base (fun s₃ F₃ => ?_) rfl
  have e13 : Eff w (frs (A.deeper (envP (p_asdict w) L))) (own (envP (p_asdict w) L)) s₁ s₃ := F₂.eff.trans F₃.eff
  have R₃ := R₁.eff e13 off
  refine sAsg (evI1 i_keys (ldl F₃ rfl ⟨x, dx, d, rfl, F₃.ww, R₃.inst, ldl F₃ rfl ⟨F₃.ww, c_keys2 (n := n + 2) hb F₃.cx R₃ K hz fun D ls s₄ e4 hD hm hl hfD => ?_⟩⟩)) rfl
  have F₄ := F₃.go e4
  have offD := F₃.fresh_off (F₃.alive cz) hfD
  refine st F₄.base (fun s₅ F₅ => ?_) rfl
  have hD₅ := hD.eff F₅.eff offD.2.1 offD.1
  have hU₅ := (hU.eff (F₃.go e4).eff offU.2.1 offU.1).eff F₅.eff offU.2.1 offU.1
  have e15 : Eff w (frs (A.deeper (envP (p_asdict w) L))) (own (envP (p_asdict w) L)) s₁ s₅ := (e13.trans (F₃.base.go e4).eff).trans F₅.eff
  have main : ∀ (tb : Tok) (s₆ : Shared) m', m' "self" = some (.ref x) → m' "ret" = some (.ref U) → m' "keys" = some (.ref D) → m' "base_bytes" = some (.bytes (baseB ob).toArray tb) → Fm w (own (envP (p_asdict w) L)) (envP (p_asdict w) L) (n + 5) (A.deeper (envP (p_asdict w) L)) s₄ m' s₆ →
      wpAny (model prg w) (A.deeper (envP (p_asdict w) L)) (execs ((p_asdict w).body.drop 4) (envP (p_asdict w) L)) (Left w A (envP (p_asdict w) L) [] s s₁ Q) (fun _ _ => False) s₆ := by
    intro tb s₆ m' h1 h2 h3 h4 F₆
    have e46 := F₆.eff
    have e14 : Eff w (frs (A.deeper (envP (p_asdict w) L))) (own (envP (p_asdict w) L)) s₁ s₄ := e13.trans (F₃.base.go e4).eff
    have e16 := e14.trans e46
    have hD₆ := hD.eff e46 offD.2.1 offD.1
    have hU₆ := (hU.eff (F₃.go e4).eff offU.2.1 offU.1).eff e46 offU.2.1 offU.1
    have R₆ := R₁.eff e16 off
    have Fw := F₆.base.with1 offU.2.2.2.1 offU.2.1
    have neU : ∀ b o, s₁.heap.get? b = some o → b ≠ U := fun b o hb q => by rw [q, hfU.1] at hb; cases hb
    have offw : x ∉ U :: own (envP (p_asdict w) L) ∧ dx ∉ U :: own (envP (p_asdict w) L) ∧ d ∉ U :: own (envP (p_asdict w) L) := by
      obtain ⟨es', n', hdx, _⟩ := R₁.inst.own
      obtain ⟨od, hod⟩ := R₁.db.alive
      exact ⟨fun q => (List.mem_cons.mp q).elim (neU _ _ R₁.inst.at_) off.1, fun q => (List.mem_cons.mp q).elim (neU _ _ hdx) off.2.1, fun q => (List.mem_cons.mp q).elim (neU _ _ hod) off.2.2⟩
    have hDU : D ≠ U := fun q => by
      obtain ⟨o, ho⟩ := (hU.eff F₃.eff offU.2.1 offU.1).alive
      rw [← q, hfD.1] at ho; cases ho
    have hDm : D ∉ U :: own (envP (p_asdict w) L) := fun q => (List.mem_cons.mp q).elim hDU offD.1
    have alive := F₆.alive1 cz hU₆.alive
    refine sForT Fw alive (ldl Fw h3 (it_set (B := [D]) hD₆ Fw alive (.inr (.head _)) fun it ord s₇ F₇ keep hp T => ?_))
    have hN : ord.length ≤ kvs.length := by rw [hp.length_eq]; exact hl
    have hK1 := K.1
    refine ⟨[D], _, _, F₇, T _ _, all1 ⟨hDm, offD.2.1, offD.2.2.1⟩, (asdictJ w x U ob tb ord f),
      (asdictO w U ord f),
      fun i m h h' hk ⟨a1, a2, a3, us, a, b, c⟩ => ⟨a1, a2, a3, us, a.at fun o e => hk U o (.head _) e, b, c⟩, ⟨h1, h2, h4, [], hU₆.at fun o e => keep _ _ e, by simp, fun y => by simp [get2]⟩, ?_, ?_, ?_⟩
    · rintro i v m₁ s₈ hi ⟨k, tk, hk, rfl⟩ ⟨h1, h2, h4, out, hO, hol, hom⟩ F₈
      have hkm : k ∈ keysP kvs ob := (hm k).mp (hp.mem_iff.mp (List.mem_of_getElem? hk))
      obtain ⟨hkz, hfz, names, hF, hnl⟩ := hfull k hkm
      have R₈ := R₆.eff F₈.eff offw
      have hmem : ∀ y, y ∈ ord.take (i + 1) ↔ y ∈ ord.take i ∨ y = k := fun y => by
        rw [List.take_add_one, hk, List.mem_append]; simp
      refine asgName (st F₈.only fun s₉ F₉ => ?_)
      obtain ⟨lf, hlf, _⟩ := C.fx
      refine xTry (mu := own (envP (p_asdict w) L)) (n := n + 5) (g := s₈) (Around.frames_deeper hlf) rfl ?_
      have hbl := baseB_len hz
      refine sCons (wpAny_Assign_Subscript (evSubI (ldl F₉ h1 (F₉.ev (eRef (eM1 m_strip (eAddB (eAddB (eL (V := IsB _) h4 ⟨_, rfl⟩) eB (by simp; with_reducible exact leK (by assumption) rfl)) (eL (V := IsB k) rfl ⟨_, rfl⟩) (by simp; with_reducible exact leT (by assumption) (by assumption) rfl)) eB (dStrip (by rw [sizeLine_eq]; simp; omega)))) fun v s₁₀ F₁₀ ⟨tv, hv⟩ => ?_))) (by rfl))
      subst hv
      have R₁₀ := R₈.eff F₁₀.eff off
      refine ⟨x, dx, d, rfl, F₁₀.ww, R₁₀.inst, s_item (A := (A.deeper (envP (p_asdict w) L)).in1) F₁₀.cx.in1 ⟨R₁₀.inst, R₁₀.db, R₁₀.off, R₁₀.nb, R₁₀.ne⟩ K hfz hF hnl (fun p v s₁₁ hr hv e₁₁ => ?_) fun hr e cls s₁₁ hc T' => ?_⟩
      · obtain ⟨tv', rfl⟩ := hv
        have F₁₁ := F₁₀.go e₁₁
        refine ldl F₁₁ h2 (ldl F₁₁ rfl (dPut (hO.eff F₁₁.eff offU.2.1 offU.1) offU.2.2.2.1 (by omega) fun s₁₂ hU₁₂ e12 => sNil (sNil (sNil ?_))))
        refine ⟨_, (F₁₁.with1 offU.2.2.2.1 offU.2.1).step (e12.mono (fun _ q => nomatch q) fun _ q => q) (fun b q => List.mem_singleton.mp q ▸ .head _) (fun b q => List.mem_singleton.mp q ▸ offU.1), h1, h2, h4, _, hU₁₂, Nat.le_trans (put_len _ _ _) (by with_reducible exact Nat.add_le_add_right (by assumption) _), fun y => ?_⟩
        rw [put_get, hom y]
        by_cases hy : y = k
        · subst hy; rw [if_pos rfl, if_pos ((hmem y).mpr (.inr rfl)), hr]
        · rw [if_neg hy]
          by_cases hq : y ∈ ord.take i
          · rw [if_pos hq, if_pos ((hmem y).mpr (.inl hq))]
          · rw [if_neg hq, if_neg fun q => ((hmem y).mp q).elim hq hy]
      · refine ⟨e, cls, _, _, rfl, F₁₀, T', clauseK F₁₀ hc, fun s₁₂ F₁₂ => sCons (wpAny_Continue ?_)⟩
        refine ⟨_, F₁₂.with1 offU.2.2.2.1 offU.2.1, h1, h2, h4, out, hO.eff F₁₂.eff offU.2.1 offU.1, by with_reducible exact Nat.le_succ_of_le (by assumption), fun y => ?_⟩
        rw [hom y]
        by_cases hy : y = k
        · subst hy; rw [if_pos ((hmem y).mpr (.inr rfl)), hr]; split <;> rfl
        · by_cases hq : y ∈ ord.take i
          · rw [if_pos hq, if_pos ((hmem y).mpr (.inl hq))]
          · rw [if_neg hq, if_neg fun q => ((hmem y).mp q).elim hq hy]
    · rintro m' h' ⟨_, h2, _, out, hO, hol, hom⟩
      rw [List.take_of_length_le (Nat.le_refl _)] at hom
      exact ⟨h2, out, hO, hol, hom⟩
    · intro f' m' s' F' hO
      cases f' with
      | ret v => exact hO.elim
      | brk => exact hO.elim
      | cont => exact hO.elim
      | next =>
        obtain ⟨h2, out, hO, hol, hom⟩ := hO
        have et : Eff w (frs (A.deeper (envP (p_asdict w) L))) ([U] ++ own (envP (p_asdict w) L)) s₁ s' := (e16.mono (fun _ q => q) fun b q => List.mem_append_right _ q).trans F'.eff
        have et' := et.shrink fun b q => List.mem_singleton.mp q ▸ hfU.1
        refine sRet (ldl F'.only h2 ⟨by rw [List.append_nil]; exact et', fun e => h U out s' e hO (fun y => ?_) (by with_reducible exact Nat.le_trans (by assumption) (by assumption)) (hfU.back e1)⟩)
        rw [hom y]
        by_cases hy : y ∈ keysP kvs ob
        · rw [if_pos hy, if_pos (hp.mem_iff.mpr ((hm y).mpr hy))]
        · rw [if_neg hy, if_neg fun q => hy ((hm y).mp (hp.mem_iff.mp q))]
  refine sCons (wpAny_AnnAssign_bare ?_)
  refine xIf F₅ (tCmp (eL rfl hb) eN cIsO) (fun hs s₆ F₆ => ?_) fun hs s₆ F₆ => ?_
  · obtain rfl : ob = none := by cases ob with | none => rfl | some p => cases hs
    exact xAsg F₆ eB fun v s₇ ⟨tb, hv⟩ F₇ => by subst hv; exact sNil (main tb s₇ _ rfl rfl rfl rfl F₇)
  · obtain ⟨base, rfl⟩ : ∃ base, ob = some base := by cases ob with | none => cases hs | some p => exact ⟨p, rfl⟩
    have := hz base rfl
    exact xAsg F₆ (eM1 m_rstrip (eL (V := IsB base) rfl hb) eB (dRstrip (by rw [sizeLine_eq]; with_reducible exact leK (by assumption) rfl))) fun v s₇ ⟨tb, hv⟩ F₇ => by subst hv; exact sNil (main tb s₇ _ rfl rfl rfl rfl F₇)
end
end Mine
end
section
open PySem PySem.W PyProof.Rows PySem.Calls PySem.Builtin
namespace Mine
theorem slot_bytes_lt : Slot "bytes" "__lt__" "bytes.__lt__" :=
  .of (owner := "bytes") (n := "__lt__") (by rw [typeLookup_type, builtinLookup_eq_fast]; kernel_rfl) (by decide +kernel) (by decide +kernel) (by decide +kernel)
    (by first | exact .inl (by decide +kernel) | exact .inr (by decide +kernel)) (by rw [isSubtype_type]; kernel_rfl)
theorem entry_bytes_lt : entryFor table "bytes.__lt__" = some Builtin.«bytes.__lt__» := entryFor_of_tree (by kernel_rfl)
theorem args_bytes_lt (a b : Value) : argsOk "bytes.__lt__" ⟨[a, b], []⟩ := by unfold argsOk; kernel_rfl
theorem order_lt : ∀ a b : List UInt8, (Bytes.order a b == .lt) = decide (a < b)
  | [], [] => rfl
  | [], _ :: _ => rfl
  | _ :: _, [] => rfl
  | x :: a, y :: b => by
    rw [Bool.eq_iff_iff, decide_eq_true_eq, List.cons_lt_cons_iff]
    simp only [Bytes.order]
    by_cases h1 : x < y
    · simp [h1]
    · by_cases h2 : x > y
      · have : x ≠ y := fun e => by subst e; exact h1 h2
        simp [h1, h2, this]
      · have : x = y := UInt8.le_antisymm (UInt8.not_lt.mp h2) (UInt8.not_lt.mp h1)
        have ih := order_lt a b
        rw [Bool.eq_iff_iff, decide_eq_true_eq] at ih
        subst this
        simp only [h1, if_false, ih]
        simp
abbrev bytesSK : PyProof.Rows.KeyKind where
  α := List UInt8
  blt a b := decide (a < b)
  irrefl a := by simpa using List.lt_irrefl a
  trans a b c h1 h2 := by simp only [decide_eq_true_eq] at *; exact List.lt_trans h1 h2
  negTrans a b c h := by
    simp only [decide_eq_true_eq] at *
    by_cases hab : a < b
    · exact .inl hab
    · exact .inr (List.lt_of_le_of_lt (List.not_lt.mp hab) h)
  total a b h1 h2 := by simp only [decide_eq_false_iff_not] at *; exact List.le_antisymm (List.not_lt.mp h2) (List.not_lt.mp h1)
  keyOf v := match v with | .bytes x _ => some x.toList | _ => none
  dflt := []
theorem bytesSK_oneLt : bytesSK.OneLt := by
  intro prog w A E s x y a b Q ha hb h
  cases x <;> simp only [bytesSK, reduceCtorEq, Option.some.injEq] at ha
  cases y <;> simp only [bytesSK, reduceCtorEq, Option.some.injEq] at hb
  rename_i x t y u
  cases ha; cases hb
  rw [oneLt'_eq]
  simp only [if_true]
  refine wpAny_bind (wpAny_cRoomFor_byValue rfl ?_)
  refine wpAny_bind (wpAny_callSpecialIfBound?_slot (typeIs_bytes s x t) slot_bytes_lt ?_)
  refine wpAny_call_entry slot_bytes_lt (typeIs_bytes s x t) entry_bytes_lt ?_ (args_bytes_lt _ _)
  show wpAny _ _ (isInstance (.bytes y u) (.type "bytes") >>= fun r => _) _ _ s
  refine wpAny_bind (wpAny_isInstance (typeIs_bytes s y u) F.sub_bytes_bytes ?_)
  refine wpAny_pure ⟨_, rfl, ?_⟩
  show wpAny _ _ (truthy (.bool (Bytes.order x.toList y.toList == .lt))) _ _ _
  rw [order_lt]
  exact wpAny_truthy_bool h
abbrev By' := List UInt8
noncomputable def Srt (os ls : List (List UInt8)) : Prop := os.Perm ls ∧ os.Pairwise fun a b => ¬ b < a
theorem Srt.eq {a b l l' : List (List UInt8)} (x : Srt a l) (y : Srt b l') (h : l.Perm l') : a = b :=
  ((x.1.trans h).trans y.1.symm).eq_of_pairwise (fun p q _ _ h1 h2 => List.le_antisymm (List.not_lt.mp h1) (List.not_lt.mp h2)) x.2 y.2
theorem BytesAre.all : ∀ {vs : List Value} {ls : List (List UInt8)}, BytesAre vs ls → ∀ v ∈ vs, ∃ (k : List UInt8) (t : Tok), v = .bytes k.toArray t
  | _, _, .nil, v, hv => by simp at hv
  | _, _, .cons h, v, hv => by
    rcases List.mem_cons.mp hv with rfl | hv
    · exact ⟨_, _, rfl⟩
    · exact BytesAre.all h v hv
noncomputable def byOf : Value → List UInt8
  | .bytes x _ => x.toList
  | _ => []
theorem BytesAre.bys : ∀ {vs : List Value} {ls : List (List UInt8)}, BytesAre vs ls → vs.map byOf = ls
  | _, _, .nil => rfl
  | _, _, .cons h => by rw [List.map_cons, BytesAre.bys h]; simp [byOf]
theorem bytesAre_map : ∀ (vs : List Value), (∀ v ∈ vs, ∃ (k : List UInt8) (t : Tok), v = .bytes k.toArray t) → BytesAre vs (vs.map byOf)
  | [], _ => .nil
  | v :: vs, h => by
    obtain ⟨k, t, rfl⟩ := h v (.head _)
    have := bytesAre_map vs fun u hu => h u (.tail _ hu)
    rw [List.map_cons, show byOf (.bytes k.toArray t) = k by simp [byOf]]
    exact .cons this
theorem BytesAre.keysOf {vs : List Value} {ls : List (List UInt8)} (hS : BytesAre vs ls) : KeysOf bytesSK (pairsOf vs) := by
  intro p hp
  rw [pairsOf_toList] at hp
  obtain ⟨x, t, e⟩ := BytesAre.all hS _ (mem_zip_self hp).2
  exact ⟨x, by rw [e]⟩
theorem KK_by {xs : Array Keyed} {i : Nat} (hi : i < xs.size) {x : List UInt8} {t : Tok} {q : Value} (hx : xs[i] = (.bytes x.toArray t, q)) : PyProof.Rows.KK bytesSK xs i = x := by
  unfold PyProof.Rows.KK; rw [getElem?_pos xs i hi, hx]; simp
theorem firstOfTuple'_by (x : Array UInt8) (t : Tok) : firstOfTuple' (.bytes x t) = pure none := rfl
theorem mapM_first_by : ∀ {vs : List Value} {ls : List (List UInt8)}, BytesAre vs ls → vs.mapM firstOfTuple' = pure (vs.map fun _ => none)
  | _, _, .nil => by simp
  | _, _, .cons h => by rw [List.mapM_cons, firstOfTuple'_by, mapM_first_by h]; simp
theorem mapM_typeOf_by : ∀ {vs : List Value} {ls : List (List UInt8)}, BytesAre vs ls → vs.mapM typeOf = pure (vs.map fun _ => Value.type "bytes")
  | _, _, .nil => by simp
  | _, _, .cons h => by
    rw [List.mapM_cons, mapM_typeOf_by h]
    show (pure (Value.type "bytes") >>= fun b => pure _ >>= fun bs => pure (b :: bs)) = _
    simp
theorem keyKind_by {v₁ v₂ : Value} {vs : List Value} {ls : List (List UInt8)} (hS : BytesAre (v₁ :: v₂ :: vs) ls) : keyKind' (v₁ :: v₂ :: vs).toArray = pure oneType' := by
  rw [keyKind'_eq, List.mapM_toArray, mapM_first_by hS]
  simp only [map_pure, pure_bind]
  rw [if_neg (by simp), if_neg (by simp)]
  rw [oneTypeOnly'_eq, List.mapM_toArray, mapM_typeOf_by hS]
  simp only [map_pure, pure_bind]
  have hall : ((List.map (fun _ => Value.type "bytes") (v₁ :: v₂ :: vs)).toArray.all fun x => x == Value.type "bytes") = true := by
    simp only [List.all_toArray, List.all_map, List.all_eq_true]
    intro _ _
    rfl
  have h0 : (List.map (fun _ => Value.type "bytes") (v₁ :: v₂ :: vs)).toArray[0]? = some (Value.type "bytes") := by simp
  rw [h0]
  simp only [hall, if_true, pure_bind, Option.isSome_some]
theorem sorted_out_by {vs : List Value} {ls : List (List UInt8)} (hS : BytesAre vs ls) {xs : Array Keyed} (hp : xs.Perm (pairsOf vs)) (hs : SortedToK bytesSK xs (pairsOf vs).size) :
    ∃ os, BytesAre (xs.map (·.2)).toList os ∧ Srt os ls := by
  have hl : xs.toList.Perm (vs.zip vs) := by rw [← pairsOf_toList]; exact Array.perm_iff_toList_perm.mp hp
  have hmem : ∀ p, p ∈ xs.toList → p.1 = p.2 ∧ p.1 ∈ vs := fun p hp' => mem_zip_self (hl.mem_iff.mp hp')
  refine ⟨xs.toList.map (fun p => byOf p.1), ?_, ?_, ?_⟩
  · have e : (xs.map (·.2)).toList = xs.toList.map (·.1) := by
      rw [Array.toList_map]; exact List.map_congr_left fun p hp' => (hmem p hp').1.symm
    rw [e]
    have h1 := bytesAre_map (xs.toList.map (·.1)) (by
      intro v hv
      obtain ⟨p, hp', rfl⟩ := List.mem_map.mp hv
      exact BytesAre.all hS _ (hmem p hp').2)
    rwa [List.map_map] at h1
  · have h1 := hl.map (fun p => byOf p.1)
    have e2 : (vs.zip vs).map (fun p => byOf p.1) = ls := by
      have : (vs.zip vs).map (fun p => byOf p.1) = ((vs.zip vs).map Prod.fst).map byOf := by rw [List.map_map]; rfl
      rw [this, List.map_fst_zip (Nat.le_refl _), BytesAre.bys hS]
    rwa [e2] at h1
  · rw [List.pairwise_iff_getElem]
    intro i j hi hj hij
    have hi' : i < xs.size := by simpa using hi
    have hj' : j < xs.size := by simpa using hj
    have h1 := hs i j (Nat.le_of_lt hij) (by rw [← hp.size_eq]; exact hj')
    obtain ⟨x, t, ex⟩ := BytesAre.all hS _ (hmem xs[i] (by simp)).2
    obtain ⟨y, u, ey⟩ := BytesAre.all hS _ (hmem xs[j] (by simp)).2
    rw [KK_by hi' (x := x) (t := t) (q := xs[i].2) (Prod.ext ex rfl), KK_by hj' (x := y) (t := u) (q := xs[j].2) (Prod.ext ey rfl)] at h1
    have h1 : decide (y < x) = false := h1
    simp only [List.getElem_map, Array.getElem_toList]
    rw [show byOf xs[i].1 = x by rw [ex]; simp [byOf], show byOf xs[j].1 = y by rw [ey]; simp [byOf]]
    simpa using h1
end Mine
end
section
open PySem PySem.W PyProof.Rows PySem.Calls PySem.Builtin
namespace Mine
section
variable {w : World} {mu : List Addr} {env : Env} {n : Nat} {A : Around} {g s s' : Shared} {m : Str → Option Value} {E : Value → Shared → Prop} {t u : Tok} {Q : Value → Shared → Prop} {a d v : Addr} {ls : List By} {k : By} {kvs : KV}
theorem sortedOf {r : Addr} (hc : ∀ {R : List Value → Shared → Prop}, (∀ s' vs ord, (∀ b o, s.heap.get? b = some o → s'.heap.get? b = some o) → Eff w [] [] s s' → List.Perm ord ls → BytesAre vs ord → R vs s') → wpAny (model prg w) A.in1 (collect (.ref r)) R E s) (h64 : ls.length < 64)
    (h : ∀ D vs os s', Eff w [] [] s s' → s'.heap.PlainList D vs.toArray → BytesAre vs os → Srt os ls → Fresh w s D → Q (.ref D) s') : wpAny (model prg w) A (call (.builtin "sorted") [.ref r]) Q E s := by
  refine Calls.call_function_entry kind_sorted plain_sorted entry_sorted (args_sorted1 _) ?_
  unfold Builtin.«sorted»
  refine wpAny_bind (m := checkCount "sorted" 1 1 _) (wpAny_pure ?_)
  refine wpAny_bind (hc fun s₁ vs ord hk e1 hpo hb => ?_)
  have hl := hb.length
  have hl' := hpo.length_eq
  refine wpAny_bind (wpAny_newList ?_ (by rw [sizeLine_eq]; omega))
  have hoL : (s₁.heap.push (seqObj "list" vs.toArray 0)).get? s₁.heap.objs.size = some (seqObj "list" vs.toArray 0) := Heap.get?_push_size _ rfl
  refine wpAny_bind (wpAny_holding (wpAny_call_entry slot_list_sort ⟨_, hoL, rfl⟩ entry_list_sort (list_sort_treeK bytesSK_oneLt hoL (BytesAre.keysOf hb) (fun v₁ v₂ rest e => keyKind_by (by rw [← e]; exact hb)) (by omega) fun st' a1 a2 => ⟨_, rfl, ?_⟩) (args_list_sort _)))
  obtain ⟨os, hbo, hs⟩ := sorted_out_by hb a1 a2
  have hkk : ∀ b o, s₁.heap.get? b = some o → (sortedHeap (s₁.heap.push (seqObj "list" vs.toArray 0)) s₁.heap.objs.size vs ((arrOf st').map (·.2))).get? b = some o := fun b o e => by
    have hb' := Heap.lt_size e
    unfold sortedHeap
    rw [Heap.get?_update_other _ _ (Nat.ne_of_gt hb')]
    refine Heap.get?_push_of_some _ (Heap.get?_push_of_some _ ?_)
    rw [Heap.get?_update_other _ _ (Nat.ne_of_gt hb')]
    exact Heap.get?_push_of_some _ e
  have hD : ∃ n', (sortedHeap (s₁.heap.push (seqObj "list" vs.toArray 0)) s₁.heap.objs.size vs ((arrOf st').map (·.2))).get? s₁.heap.objs.size = some (seqObj "list" ((arrOf st').map (·.2)) n') := by
    unfold sortedHeap
    exact ⟨_, get?_update_seq (Heap.get?_push_of_some _ (Heap.get?_push_of_some _ (get?_update_seq hoL _))) _⟩
  refine wpAny_pure ⟨_, rfl, ?_⟩
  have e2 : Eff w [] [] s₁ { s₁ with heap := sortedHeap (s₁.heap.push (seqObj "list" vs.toArray 0)) s₁.heap.objs.size vs ((arrOf st').map (·.2)) } := .keeps hkk rfl rfl
  obtain ⟨n', hD⟩ := hD
  exact h _ ((arrOf st').map (·.2)).toList os _ (e1.trans e2) ⟨n', by rw [Array.toArray_toList]; exact hD⟩ hbo ⟨hs.1.trans hpo, hs.2⟩ ((Fresh.size w s₁).back e1)
theorem sorted_list {l : Addr} {vs : List Value} (hl : s.heap.PlainList l vs.toArray) (hb : BytesAre vs ls) (h64 : ls.length < 64)
    (h : ∀ D vs os s', Eff w [] [] s s' → s'.heap.PlainList D vs.toArray → BytesAre vs os → Srt os ls → Fresh w s D → Q (.ref D) s') : wpAny (model prg w) A (call (.builtin "sorted") [.ref l]) Q E s := by
  refine sortedOf (ls := ls) (fun {R} hR => ?_) h64 h
  have hlen := hb.length
  obtain ⟨n', ho⟩ := hl
  refine collect_list ⟨_, ho, rfl, n', rfl⟩ ?_ (by rw [sizeLine_eq]; omega)
  have hkk : ∀ b o, s.heap.get? b = some o → ((s.heap.push (seqObj "list" #[] 0)).update s.heap.objs.size (Obj.mapSeq (· ++ vs.toArray))).get? b = some o := fun b o e => by
    rw [Heap.get?_update_other _ _ (Nat.ne_of_gt (Heap.lt_size e))]
    exact Heap.get?_push_of_some _ e
  exact hR _ vs ls hkk (.keeps hkk rfl rfl) (.refl _) hb
theorem items_bytes {P : Nat → Value → Prop} {acc : Array Value} {ord : List By} (hacc : ItemsOf P acc ord.length) (hP : ∀ i v, P i v → ∃ k t, ord[i]? = some k ∧ v = .bytes k.toArray t) : BytesAre acc.toList ord := by
  have hl : acc.toList.length = ord.length := by rw [Array.length_toList]; exact hacc.1
  have : acc.toList.map byOf = ord := by
    apply List.ext_getElem?
    intro i
    rw [List.getElem?_map]
    by_cases hi : i < ord.length
    · have hi' : i < acc.toList.length := by omega
      obtain ⟨k, t, h1, h2⟩ := hP i _ (hacc.2 i acc.toList[i] (by rw [← Array.getElem?_toList]; exact List.getElem?_eq_getElem hi'))
      rw [List.getElem?_eq_getElem hi', h1, Option.map_some, h2]; simp [byOf]
    · rw [List.getElem?_eq_none (by omega), List.getElem?_eq_none (by omega)]; rfl
  rw [← this]
  refine bytesAre_map _ fun v hv => ?_
  obtain ⟨i, hi⟩ := List.getElem?_of_mem hv
  obtain ⟨k, t, _, h2⟩ := hP i _ (hacc.2 i v (by rw [← Array.getElem?_toList]; exact hi))
  exact ⟨k, t, h2⟩
theorem sorted_db (hd : DB w s.heap d kvs) (hn : NB ≤ d) (hh : A.handled = none) (h64 : kvs.length < 64)
    (h : ∀ D vs os s', Eff w [] [] s s' → s'.heap.PlainList D vs.toArray → BytesAre vs os → Srt os (kvs.map (·.1)) → Fresh w s D → Q (.ref D) s') : wpAny (model prg w) A (call (.builtin "sorted") [.ref d]) Q E s := by
  refine sortedOf (ls := kvs.map (·.1)) (fun {R} hR => ?_) (by simpa using h64) h
  obtain ⟨ps, hm, hp⟩ := hd
  obtain ⟨ep, ha⟩ := hm.dictAt
  have hpl := hp.length
  refine kdu_collect (A := A.in1) (kdl_dict (lo_of hn)) hh ha (by rw [sizeLine_eq]; omega) fun h' tk acc hk hacc => ?_
  refine hR _ _ _ hk (.keeps hk rfl rfl) (.refl _) ?_
  have : (kvs.map (·.1)).length = ps.length := by rw [List.length_map, hp.length]
  rw [← this] at hacc
  refine items_bytes hacc fun i v ⟨k, x, h1, h2⟩ => ?_
  obtain ⟨t, rfl⟩ := isBytes_shape h2
  exact ⟨k, t, by rw [← hp.keys, List.getElem?_map, h1]; rfl, rfl⟩
end
end Mine
end
section
open PySem PySem.W PyProof.Rows PySem.Calls PySem.Builtin
namespace Mine
theorem slot_set_len : Slot "set" "__len__" "set.__len__" :=
  .of (owner := "set") (n := "__len__") (by rw [typeLookup_type, builtinLookup_eq_fast]; kernel_rfl) (by decide +kernel) (by decide +kernel) (by decide +kernel)
    (by first | exact .inl (by decide +kernel) | exact .inr (by decide +kernel)) (by rw [isSubtype_type]; kernel_rfl)
theorem hint_set {M : Model} {A : Around} {E : Value → Shared → Prop} {s : Shared} {r : Addr} {Q : Bool → Shared → Prop} (hT : s.TypeIs (.ref r) "set") (h : Q false s) : wpAny M A (Builtin.List.listLengthHint (.ref r)) Q E s := by
  unfold Builtin.List.listLengthHint
  refine wpAny_bind (wpAny_specialOf hT slot_set_len.lookup ?_)
  generalize hid : ("set.__len__" : String) = id0
  wp_delta
  rw [show splitId id0 = some ("set", "__len__") from by subst hid; decide +kernel]
  subst hid
  refine wpAny_bind (wpAny_isInstance (T := "set") (b := true) hT (by rw [isSubtype_type]; kernel_rfl) ?_)
  refine wpAny_ite_split (fun hab => absurd hab (by decide)) (fun _ => ?_)
  refine wpAny_ite_split (fun _ => ?_) (fun hab => absurd (by decide +kernel) hab)
  refine wpAny_bind (wpAny_typeOf hT ?_)
  exact wpAny_pure h
section
variable {w : World} {mu : List Addr} {env : Env} {n : Nat} {A : Around} {g s s' : Shared} {m : Str → Option Value} {E : Value → Shared → Prop} {t u : Tok} {Q : Value → Shared → Prop} {a d v : Addr} {ls : List By} {k : By} {kvs : KV}
theorem collect_set {R : List Value → Shared → Prop} (x : SetB w s.heap a ls) (hh : A.handled = none) (hz : ls.length ≤ 1000)
    (h : ∀ s' vs ord, (∀ b o, s.heap.get? b = some o → s'.heap.get? b = some o) → Eff w [] [] s s' → List.Perm ord ls → BytesAre vs ord → R vs s') : wpAny (model prg w) A (collect (.ref a)) R E s := by
  have hlt : a < s.heap.objs.size := by obtain ⟨o, ho⟩ := x.alive; exact Heap.lt_size ho
  unfold collect
  refine wpAny_bind (wpAny_runValue (codeAny_builtin entry_proto_collect' ?_))
  rw [Around.under_plainId PySem.F.plain_proto_collect _]
  show wpAny _ A.in1 (newList [] >>= fun l => again (.builtin "list.__iadd__" ⟨[l, .ref a], []⟩)) _ _ s
  refine wpAny_bind (wpAny_newObj_type ?_)
  refine wpAny_pure ⟨plainId_quiet PySem.F.plain_list_iadd _, codeAny_builtin entry_list_iadd' ?_⟩
  rw [Around.under_plainId PySem.F.plain_list_iadd _]
  have hS₁ : (s.heap.push { cls := .type "list", data := .seq ([] : List Value).toArray }).get? s.heap.objs.size = some { cls := .type "list", data := .seq #[] } := Heap.get?_push_size _ rfl
  generalize hs₁ : ({ s with heap := s.heap.push { cls := .type "list", data := .seq ([] : List Value).toArray } } : Shared) = s₁
  have hk₁ : ∀ b o, s.heap.get? b = some o → s₁.heap.get? b = some o := fun b o e => by rw [← hs₁]; exact Heap.get?_push_of_some _ e
  have e₁ : Eff w [] [] s s₁ := by rw [← hs₁]; exact .push _
  have hS₁ : s₁.heap.get? s.heap.objs.size = some { cls := .type "list", data := .seq #[] } := by rw [← hs₁]; exact hS₁
  have hz₁ : s₁.heap.objs.size = s.heap.objs.size + 1 := by rw [← hs₁]; exact Heap.size_push ..
  have x₁ : SetB w s₁.heap a ls := x.at fun o e => hk₁ _ o e
  have hSn : s.heap.get? s.heap.objs.size = none := Heap.get?_none_of_le (Nat.le_refl _)
  generalize s.heap.objs.size = S at hS₁ hz₁ hlt hSn ⊢
  show wpAny _ A.in1 (Builtin.List.listExtendWith (.ref S) (.ref a) (.ref S)) _ _ _
  have hSa : S ≠ a := Nat.ne_of_gt hlt
  unfold Builtin.List.listExtendWith
  refine wpAny_bind (wpAny_typeOf x₁.typeIs.1 ?_)
  have h1 : Builtin.List.listSameRef (.ref S) (.ref a) = false := by simp [Builtin.List.listSameRef, hSa]
  have h2 : (Value.type "set" == Value.type "list") = false := by decide
  have h3 : (Value.type "set" == Value.type "tuple") = false := by decide
  simp only [h1, h2, h3, Bool.or_false, Bool.false_eq_true, if_false]
  refine wpAny_bind (sIter x₁ fun it ord s₂ fp e₂ keep hp ⟨m1, m2, m3, m4⟩ st => ?_)
  have m5 : S + 1 ≤ it := hz₁ ▸ m4
  have hit : a ≠ it := Nat.ne_of_lt (Nat.lt_of_lt_of_le hlt (Nat.le_of_succ_le m5))
  have hSf : S ∉ fp := fun q => by
    rcases m3 S q with q | ⟨q, _⟩
    · exact hSa q
    · rw [hz₁] at q; exact Nat.not_succ_le_self _ q
  have W := setWalks (w := w) (A := A.in1) (ord := ord) (fp := fp) (by simp [hh]) hit m1 m2
  have x₂ : SetB w s₂.heap a ls := x₁.at fun o e => keep _ o e
  have hS₂ := keep _ _ hS₁
  refine wpAny_bind (wpAny_holding (hint_set x₂.typeIs.1 ?_))
  have hN : ord.length ≤ 1000 := by rw [hp.length_eq]; exact hz
  have go : ∀ (h' : Heap) (c : Nat), SetIt w fp it a ord 0 h' → (∀ b o, b ≠ S → s₂.heap.get? b = some o → h'.get? b = some o) → h'.get? S = some { cls := .type "list", data := .seq #[] c } →
      codeAny (model prg w) A (.builtin "list.extend.loop" ⟨[.ref S, .ref it, .ref S], []⟩) (fun q s' => ∃ (h'' : Heap) (tk : Nat) (acc' : Array Value) (c' : Nat), q = .ok (.ret (.ref S)) ∧ s' = { s₂ with heap := h'', toks := tk } ∧
        (∀ b o, b ≠ S → s₁.heap.get? b = some o → h''.get? b = some o) ∧ h''.get? S = some { cls := .type "list", dict := none, data := .seq acc' c', slots := #[] } ∧ ItemsOf (fun i v => ∃ k t, ord[i]? = some k ∧ v = .bytes k.toArray t) acc' ord.length) { s₂ with heap := h' } := by
    intro h' c hst hk hSh
    refine codeAny_extend_loopS W.toS (by rw [sizeLine_eq]; with_reducible exact leK (by assumption) rfl) S hSf (.ref S) ord.length 0 _ #[] c rfl (Nat.zero_le _) hst hSh (ItemsOf.nil _) fun s' acc' c' hm hS' hacc => ?_
    have e := Moved.eq_with hm
    rw [e]
    refine ⟨s'.heap, s'.toks, acc', c', rfl, rfl, fun b o hb he => hm.heap b o (fun hmem => ?_) (hk b o hb (keep b o he)), hS', hacc⟩
    rcases List.mem_cons.mp hmem with e' | hmem
    · exact hb e'
    · rw [List.mem_singleton.mp hmem] at he; have := Heap.lt_size he; rw [hz₁] at this; exact absurd (Nat.lt_of_le_of_lt m5 this) (Nat.lt_irrefl _)
  have fin : ∀ (q : Result) (s' : Shared), (∃ (h'' : Heap) (tk : Nat) (acc' : Array Value) (c' : Nat), q = .ok (.ret (.ref S)) ∧ s' = { s₂ with heap := h'', toks := tk } ∧
        (∀ b o, b ≠ S → s₁.heap.get? b = some o → h''.get? b = some o) ∧ h''.get? S = some { cls := .type "list", dict := none, data := .seq acc' c', slots := #[] } ∧ ItemsOf (fun i v => ∃ k t, ord[i]? = some k ∧ v = .bytes k.toArray t) acc' ord.length) →
      ∃ acc' c', q = .ok (.ret (.ref S)) ∧ s'.heap.get? S = some { cls := .type "list", dict := none, data := .seq acc' c', slots := #[] } ∧ R acc'.toList s' := fun q s' ⟨h'', tk, acc', c', e, es, hk, hS', hacc⟩ => by
    subst es
    have keepAll : ∀ b o, s.heap.get? b = some o → h''.get? b = some o := fun b o hbo => hk b o (fun q => by rw [q, hSn] at hbo; cases hbo) (hk₁ b o hbo)
    refine ⟨acc', c', e, hS', h _ _ ord keepAll ?_ hp (items_bytes hacc fun i v hv => hv)⟩
    have e12 := e₁.trans e₂
    exact ⟨fun b o _ e _ => ⟨o.slots, keepAll b o e, fun _ => rfl⟩, fun b o _ e => ⟨o, keepAll b o e⟩, e12.os, e12.bare, fun h0 _ _ q => q.step_keeps keepAll, fun W => W.keeps keepAll⟩
  have last : ∀ (h' : Heap) (c : Nat), SetIt w fp it a ord 0 h' → (∀ b o, b ≠ S → s₂.heap.get? b = some o → h'.get? b = some o) → h'.get? S = some { cls := .type "list", data := .seq #[] c } →
      codeAny (model prg w) A (.builtin "list.extend.loop" ⟨[.ref S, .ref it, .ref S], []⟩) (fun q s' => ∃ acc' c', q = .ok (.ret (.ref S)) ∧ s'.heap.get? S = some { cls := .type "list", dict := none, data := .seq acc' c', slots := #[] } ∧ R acc'.toList s') { s₂ with heap := h' } :=
    fun h' c a1 a2 a3 => codeAny_mono (go h' c a1 a2 a3) fun q s' x => fin q s' x
  refine wpAny_ite_split (fun _ => ?_) (fun _ => ?_)
  · refine wpAny_bind (wpAny_rule ?_)
    refine wpAny_bind ?_
    show wpAny _ _ (updateSeq S (·.push .none) >>= fun _ => updateSeq S (·.pop)) _ _ _
    refine wpAny_bind (wpAny_updateSeq hS₂ rfl ?_)
    have hS₃ := Heap.get?_update_self (Obj.mapSeq (·.push Value.none)) hS₂ rfl
    refine wpAny_updateSeq (hz := by seq_fits) hS₃ rfl ?_
    have hS₄ := Heap.get?_update_self (Obj.mapSeq (·.pop)) hS₃ rfl
    refine wpAny_pure ⟨plainId_quiet PySem.F.plain_extend_loop _, codeAny_mono (last _ _ ?_ (fun b o hb e => ?_) hS₄) fun q s' y => ?_⟩
    · refine W.frame 0 _ _ st fun b hb o e => ?_
      have hbS : b ≠ S := fun h => hSf (h ▸ hb)
      exact (Heap.get?_update_other _ _ (Ne.symm hbS)).trans ((Heap.get?_update_other _ _ (Ne.symm hbS)).trans e)
    · exact (Heap.get?_update_other _ _ (Ne.symm hb)).trans ((Heap.get?_update_other _ _ (Ne.symm hb)).trans e)
    · obtain ⟨acc', c', rfl, hS', hR⟩ := y
      show wpAny _ A (load S >>= _) _ _ _
      refine wpAny_bind (wpAny_load hS' ?_)
      exact wpAny_pure hR
  · refine wpAny_pure ⟨plainId_quiet PySem.F.plain_extend_loop _, codeAny_mono (last _ _ st (fun b o hb e => e) hS₂) fun q s' y => ?_⟩
    obtain ⟨acc', c', rfl, hS', hR⟩ := y
    show wpAny _ A (load S >>= _) _ _ _
    refine wpAny_bind (wpAny_load hS' ?_)
    exact wpAny_pure hR
theorem sorted_set (x : SetB w s.heap a ls) (hh : A.handled = none) (h64 : ls.length < 64)
    (h : ∀ D vs os s', Eff w [] [] s s' → s'.heap.PlainList D vs.toArray → BytesAre vs os → Srt os ls → Fresh w s D → Q (.ref D) s') : wpAny (model prg w) A (call (.builtin "sorted") [.ref a]) Q E s := by
  refine sortedOf (ls := ls) (fun {R} hR => ?_) h64 h
  exact collect_set x (by simp [hh]) (by with_reducible exact ltE (by assumption) rfl) hR
end
end Mine
end
section
open PySem PySem.W PyProof.Rows PySem.Calls PySem.Builtin
namespace Mine
theorem get2_none {kvs : KV} {y : By} (h : y ∉ kvs.map (·.1)) : get2 kvs y = none := by
  unfold get2
  rw [Option.map_eq_none_iff, List.find?_eq_none]
  intro kv hkv e
  exact h (List.mem_map.mpr ⟨kv, hkv, by simpa using e⟩)
theorem get2_some {kvs : KV} {y : By} (h : y ∈ kvs.map (·.1)) : ∃ p, get2 kvs y = some p := by
  obtain ⟨kv, hkv, rfl⟩ := List.mem_map.mp h
  unfold get2
  cases hf : kvs.find? fun x => decide (x.1 = kv.1) with
  | none => have := List.find?_eq_none.mp hf kv hkv; simp at this
  | some q => exact ⟨_, rfl⟩
theorem get2_iff {kvs : KV} {y : By} : y ∈ kvs.map (·.1) ↔ (get2 kvs y).isSome = true := by
  constructor
  · intro h; obtain ⟨p, hp⟩ := get2_some h; rw [hp]; rfl
  · intro h
    cases hq : get2 kvs y with
    | none => rw [hq] at h; cases h
    | some p => exact List.mem_map.mpr ⟨_, get2_mem hq, rfl⟩
theorem get2_of_mem {kvs : KV} (hn : (kvs.map (·.1)).Nodup) {k v : By} (h : (k, v) ∈ kvs) : get2 kvs k = some v := by
  obtain ⟨i, hi⟩ := List.getElem?_of_mem h
  exact get2_at hn hi
theorem perm_of_mem {a b : List By} (ha : a.Nodup) (hb : b.Nodup) (h : ∀ y, y ∈ a ↔ y ∈ b) : a.Perm b := (List.perm_ext_iff_of_nodup ha hb).mpr h
theorem keys_perm {ka kb : KV} (ha : (ka.map (·.1)).Nodup) (hb : (kb.map (·.1)).Nodup) (h : ∀ y, get2 ka y = get2 kb y) : (ka.map (·.1)).Perm (kb.map (·.1)) :=
  perm_of_mem ha hb fun y => by rw [get2_iff, get2_iff, h y]
theorem all_t (n : Nat) : ((List.range n).all fun _ => true) = true := by simp
theorem hitsB {w : World} {A : Around} {s : Shared} {psb : List (By × Value)} {kb : KV} (hpb : PairsB psb kb) : ∀ {psa : List (By × Value)} {ka : KV}, PairsB psa ka → (∀ k v, (k, v) ∈ ka → get2 kb k = some v) → KeqHits A s psb psa true
  | _, _, .nil, _ => .nil
  | _, _, .cons (k := k) (v := v) (t := t) h, hk => by
    have h1 := hk k v (.head _)
    rcases hpb.get k with ⟨_, h2⟩ | ⟨v', t', h2, h3⟩
    · rw [h1] at h2; cases h2
    · rw [h1] at h3; cases h3
      have := KeqHits.hit (A := A) (s := s) h2 (eqAtB (y := v) (x := v) (t := t') (u := t)) (hitsB (w := w) hpb h fun k v hkv => hk k v (.tail _ hkv))
      simpa using this
section
variable {w : World} {mu : List Addr} {env : Env} {n : Nat} {A : Around} {g s s' : Shared} {m : Str → Option Value} {E : Value → Shared → Prop} {Q : Value → Shared → Prop} {a b : Addr} {ka kb : KV}
theorem eqD (ha : DB w s.heap a ka) (hb : DB w s.heap b kb) (na : NB ≤ a) (nb : NB ≤ b) (hu : A.units + 100 < cLine) (hs : ∀ y, get2 ka y = get2 kb y) (h : Q (.bool true) s) : wpAny (model prg w) A (compareOp .Eq (.ref a) (.ref b)) Q E s := by
  have hp := (keys_perm ha.nodup hb.nodup hs).length_eq
  simp only [List.length_map] at hp
  have na' := ha.nodup
  obtain ⟨psa, hma, hpa⟩ := ha
  obtain ⟨psb, hmb, hpb⟩ := hb
  refine keq_eq (r := true) (lo_of na) (lo_of nb) hma hmb (Nat.lt_of_le_of_lt (Nat.le_add_right _ _) hu) (fun _ => hitsB (w := w) hpb hpa fun k v hkv => ?_) ?_
  · rw [← hs]; exact get2_of_mem na' hkv
  · rw [show psa.length = psb.length by rw [hpa.length, hpb.length, hp]]; simpa using h
theorem neD (ha : DB w s.heap a ka) (hb : DB w s.heap b kb) (na : NB ≤ a) (nb : NB ≤ b) (hu : A.units + 100 < cLine) (hs : ∀ y, get2 ka y = get2 kb y) (h : Q (.bool false) s) : wpAny (model prg w) A (compareOp .NotEq (.ref a) (.ref b)) Q E s := by
  have hp := (keys_perm ha.nodup hb.nodup hs).length_eq
  simp only [List.length_map] at hp
  have na' := ha.nodup
  obtain ⟨psa, hma, hpa⟩ := ha
  obtain ⟨psb, hmb, hpb⟩ := hb
  refine keq_ne (r := true) (lo_of na) (lo_of nb) hma hmb (Nat.lt_of_le_of_lt (Nat.le_add_right _ _) hu) (fun _ => hitsB (w := w) hpb hpa fun k v hkv => ?_) ?_
  · rw [← hs]; exact get2_of_mem na' hkv
  · rw [show psa.length = psb.length by rw [hpa.length, hpb.length, hp]]; simpa using h
theorem neT {vs us : List Value} {ls : List By} (ha : s.heap.IsTuple a vs.toArray) (hv : BytesAre vs ls) (hb : s.heap.IsTuple b us.toArray) (hw : BytesAre us ls) (hu : A.units + 100 < cLine) (h : Q (.bool false) s) : wpAny (model prg w) A (compareOp .NotEq (.ref a) (.ref b)) Q E s := by
  refine SeqAt.RcNeAt.tuples (e := fun _ => true) ha hb (Nat.lt_of_le_of_lt (Nat.le_add_right _ _) hu) (fun j h1 h2 => ?_) prg w E Q (by
    have e : vs.toArray.size = us.toArray.size := by simp [hv.length, hw.length]
    rw [e, all_t]; simpa using h)
  obtain ⟨t, e1⟩ := hv.at h1
  obtain ⟨t', e2⟩ := hw.at h2
  rw [e1, e2]
  have := eqAtB (A := A.in1) (s := s) (x := ls.getD j []) (y := ls.getD j []) (t := t') (u := t)
  rwa [show (ls.getD j [] == ls.getD j []) = true by simp] at this
theorem eqAtO {s : Shared} {ob : Option By} {u v : Value} (hu : OptB ob u) (hv : OptB ob v) : SeqAt.EqAt A s u v true := by
  cases ob with
  | none => have hu : u = .none := hu; have hv : v = .none := hv; subst hu hv; exact SeqAt.EqAt.same _
  | some p =>
    obtain ⟨t, rfl⟩ := hu
    obtain ⟨t', rfl⟩ := hv
    have := eqAtB (A := A) (s := s) (x := p) (y := p) (t := t') (u := t)
    rwa [show (p == p) = true by simp] at this
theorem eqAtL {s : Shared} {vs us : List Value} {ls : List By} (hne : a ≠ b) (ha : s.heap.IsList a vs.toArray) (hv : BytesAre vs ls) (hb : s.heap.IsList b us.toArray) (hw : BytesAre us ls) (hu : A.units < cLine) : SeqAt.EqAt A s (.ref a) (.ref b) true := by
  refine SeqAt.EqAt.of_refs hne ?_
  have := SeqAt.RcAt.lists (A := A) (s := s) (e := fun _ => true) ha hb (by simp [hv.length, hw.length]) hu (fun j h1 h2 => by
    obtain ⟨t, e1⟩ := hv.at h1
    obtain ⟨t', e2⟩ := hw.at h2
    rw [e1, e2]
    have := eqAtB (A := A.in1) (s := s) (x := ls.getD j []) (y := ls.getD j []) (t := t') (u := t)
    rwa [show (ls.getD j [] == ls.getD j []) = true by simp] at this)
  rwa [all_t] at this
theorem neTF {U U' : Addr} {vs us : List Value} {ls : List By} {ob : Option By} {u v : Value} (ha : s.heap.IsTuple a #[.ref U, u]) (hb : s.heap.IsTuple b #[.ref U', v]) (hne : U ≠ U') (hU : s.heap.IsList U vs.toArray) (hv : BytesAre vs ls) (hU' : s.heap.IsList U' us.toArray) (hw : BytesAre us ls)
    (h1 : OptB ob u) (h2 : OptB ob v) (hu : A.units + 100 < cLine) (h : Q (.bool false) s) : wpAny (model prg w) A (compareOp .NotEq (.ref a) (.ref b)) Q E s := by
  refine SeqAt.RcNeAt.tuples (e := fun _ => true) ha hb (Nat.lt_of_le_of_lt (Nat.le_add_right _ _) hu) (fun j h1' h2' => ?_) prg w E Q (by rw [all_t]; simpa using h)
  match j, h1', h2' with
  | 0, _, _ => exact eqAtL hne hU hv hU' hw (by show A.units + 1 < cLine; omega)
  | 1, _, _ => exact eqAtO h1 h2
  | j + 2, q, _ => exact absurd (show j + 2 < 2 from q) (by omega)
end
end Mine
end
section
open PySem PySem.W PyProof.Rows PySem.Calls PySem.Builtin
namespace Mine
section
variable {w : World} {mu : List Addr} {env : Env} {n : Nat} {A : Around} {g s s' : Shared} {m : Str → Option Value} {E : Value → Shared → Prop} {Q : Value → Shared → Prop} {a b x dx d C : Addr} {rest : List Value} {kw : List (Str × Value)}
theorem tc_envs : (Code.builtin "type.__call__" ⟨.ref C :: rest, kw⟩).envs = [] := rfl
theorem tc_units : (Code.builtin "type.__call__" ⟨.ref C :: rest, kw⟩).cUnits ≤ 5 := by first | exact Nat.le_of_ble_eq_true (by rfl) | exact Nat.le_of_ble_eq_true (by with_unfolding_all rfl)
theorem underT_frames : (A.under (Code.builtin "type.__call__" ⟨.ref C :: rest, kw⟩)).frames = A.frames := by
  unfold Around.under
  rw [tc_envs]
  show pushEnvs [] A.frames = A.frames
  cases A.frames <;> simp [pushEnvs]
theorem underT_frs : frs (A.under (Code.builtin "type.__call__" ⟨.ref C :: rest, kw⟩)) = frs A := by unfold frs; rw [underT_frames]
theorem Cx.underT (H : Cx w (n + 1) A s) : Cx w n (A.under (Code.builtin "type.__call__" ⟨.ref C :: rest, kw⟩)) s := by
  refine ⟨H.ww, H.bare, H.hh, ?_, ?_, ?_⟩
  · have := H.depth; show A.depth + 1 + n < 900; omega
  · have := H.units; have := tc_units (C := C) (rest := rest) (kw := kw); show A.units + _ + 20 * n < 9000; omega
  · obtain ⟨l, hl, h⟩ := H.fx; exact ⟨l, by rw [underT_frames]; exact hl, h⟩
theorem sa311 : findIn (KK w) (.ref 311) "__setattr__" = some (some (.builtin "object.__setattr__")) := by kernel_rfl
theorem po311 : plainOver (KK w) 311 = true := by kernel_rfl
theorem ti311a : takerIn (KK w) 311 "_refs" = some none := by kernel_rfl
theorem ti311b : takerIn (KK w) 311 "_peeled" = some none := by kernel_rfl
theorem osaOwn {name : Str} {v : Value} {es : List DictEntry} {k : Nat} {tk : Tok} {R : Result → Shared → Prop} (W : WW w s.heap) (hx : s.heap.get? x = some (instObj 311 dx)) (hdx : s.heap.get? dx = some (dictOf es k)) (ht : takerIn (KK w) 311 name = some none) (hl : (getL name es).isSome = true) (hz : es.length ≤ 100) (ndx : NB ≤ dx)
    (h : ∀ tk s', Eff w [] [dx] s s' → s'.heap.get? dx = some (dictOf (putL name (PyData.keyHash w.params name) (.str name tk) v es) (putN name es k)) → (∀ b o, b ≠ dx → s.heap.get? b = some o → s'.heap.get? b = some o) → R (.ok (.ret .none)) s') :
    codeAny (model prg w) A (.call (.builtin "object.__setattr__") ⟨[.ref x, .str name tk, v], []⟩) R s := by
  have I : InstAt s.heap x (instObj 311 dx) 311 (some (dictOf es k)) := ⟨hx, rfl, rfl, hdx⟩
  refine osa_open W.kin I po311 ht fun b => ?_
  obtain ⟨cd, hc, hd'⟩ := any_some (show (clsIn (KK w) 311).any (·.hasDict) = true from hasD311)
  refine wpAny_bind (wpAny_pure (wpAny_bind (wpAny_bind (wpAny_loadPart hx (wpAny_bind ((looks_clsIn W.kin hc).here ?_))))))
  rw [hd']
  refine wpAny_pure (a := some dx) (wpAny_bind (wpAny_pure (wpAny_bind ?_)))
  unfold nsSet
  refine wpAny_bind (wpAny_bind (wpAny_askSetting (wpAny_pure (wpAny_bind (wpAny_mkText (wpAny_bind (wpAny_loadPart hdx ?_)))))))
  have D' := Heap.get?_update_self (Obj.putName name (PyData.keyHash w.params name) (.str name s.toks) v) hdx (by rw [putName_dict]; rfl)
  have c : (!es.toArray.any (·.key.isStr name) && es.toArray.any (·.refKey)) = false := by
    unfold getL at hl
    rw [List.any_toArray, List.any_toArray]
    split at hl
    · rename_i en he
      rw [List.any_eq_true.mpr ⟨en, List.mem_of_find?_eq_some he, List.find?_some he⟩]; rfl
    · split at hl
      · cases hl
      · rename_i z; rw [Bool.not_eq_true] at z; rw [z, Bool.and_false]
  dsimp only [dictOf]
  rw [aRefKeyMayBeTheName_at, c]
  refine wpAny_updatePart hdx ?_
  rw [putName_dict] at D'
  have hlen : (putL name (PyData.keyHash w.params name) (.str name s.toks) v es).length ≤ es.length + 1 := by
    clear hl hz c D' hdx I h
    induction es with
    | nil => simp [putL]
    | cons e r ih => unfold putL; split <;> simp; omega
  refine wpAny_bind (wpAny_lookBehind D' (pastItsLine_dict (by rw [List.size_toArray, sizeLine_eq]; omega)) ?_)
  refine wpAny_pure (h s.toks _ (Eff.but (fun b hb => List.mem_singleton.mp hb ▸ ndx) (fun b o hb e => ?_) rfl rfl) D' fun b o hb e => ?_)
  · exact (Heap.get?_update_other _ _ (fun q => hb (by simp [q]))).trans e
  · exact (Heap.get?_update_other _ _ (Ne.symm hb)).trans e
theorem setOwn {name : Str} {v : Value} {es : List DictEntry} {k : Nat} {Q : Unit → Shared → Prop} (W : WW w s.heap) (hx : s.heap.get? x = some (instObj 311 dx)) (hdx : s.heap.get? dx = some (dictOf es k)) (ht : takerIn (KK w) 311 name = some none) (hl : (getL name es).isSome = true) (hz : es.length ≤ 100) (ndx : NB ≤ dx)
    (h : ∀ tk s', Eff w [] [dx] s s' → s'.heap.get? dx = some (dictOf (putL name (PyData.keyHash w.params name) (.str name tk) v es) (putN name es k)) → (∀ b o, b ≠ dx → s.heap.get? b = some o → s'.heap.get? b = some o) → Q () s') : wpAny (model prg w) A (setAttr (.ref x) name v) Q E s :=
  set_plain W.kin (⟨hx, rfl, rfl, hdx⟩ : InstAt s.heap x (instObj 311 dx) 311 (some (dictOf es k))) sa311 (osaOwn (s := { s with toks := s.toks + 1 }) W hx hdx ht hl hz ndx fun tk s' e h1 h2 => h tk s' (((Eff.toks (w := w) (s := s) (s.toks + 1)).of).trans e) h1 h2)
end
end Mine
end
section
open PySem PySem.W PyProof.Rows PySem.Calls PySem.Builtin
namespace Mine
section
variable {w : World} {mu : List Addr} {env : Env} {n : Nat} {A : Around} {g s s' : Shared} {m : Str → Option Value} {E : Value → Shared → Prop} {Q : Value → Shared → Prop} {a b x dx d C : Addr} {kvs : KV} {o value : Expr} {pos p' : Pos}
theorem xSetA {name : Str} {es : List DictEntry} {k : Nat} {rest : List Stmt} {Q : Flow → Shared → Prop} {q : Pos} (ho : m "self" = some (.ref x)) (hdo : dx ∉ own env) (hdm : dx ∈ mu)
    (ht : takerIn (KK w) 311 name = some none) (hl : (getL name es).isSome = true) (hz : es.length ≤ 100)
    (hv : wpAny (model prg w) A (eval value env) (fun v s₁ => Fm w mu env n A g m s₁ ∧ s₁.heap.get? x = some (instObj 311 dx) ∧ s₁.heap.get? dx = some (dictOf es k) ∧
      ∀ tk s₂, Fm w mu env n A g m s₂ → Eff w [] [dx] s₁ s₂ → s₂.heap.get? x = some (instObj 311 dx) → s₂.heap.get? dx = some (dictOf (putL name (PyData.keyHash w.params name) (.str name tk) v es) (putN name es k)) → wpAny (model prg w) A (execs rest env) Q E s₂) E s)
    (hk : autoParam (env.kindOf "self" = some .local) byRfl) (hs' : autoParam (swapsWith value (some (.Attribute (.Name "self" p') name q)) pos.line env = pure false) byRfl) :
    wpAny (model prg w) A (execs (.Assign [.Attribute (.Name "self" p') name q] value pos :: rest) env) Q E s := by
  refine sCons (plainObj_wpAny_Assign_Attribute (wpAny_mono hv (fun v s₁ ⟨F₁, h1, h2, go⟩ => ?_) fun _ _ e => e) hs')
  have hne : x ≠ dx := fun e => by rw [e] at h1; rw [h1] at h2; cases h2
  refine ldl F₁ ho (setOwn F₁.ww h1 h2 ht hl hz (F₁.low _ hdm) fun tk s₂ e h3 h4 => ?_) hk
  exact go tk s₂ (F₁.step (e.mono (fun _ q => nomatch q) fun _ q => q) (fun b q => List.mem_singleton.mp q ▸ hdm) (fun b q => List.mem_singleton.mp q ▸ hdo)) e (h4 _ _ hne h1) h3
noncomputable def p_init (w : World) : FnPk w 252 := ⟨_, _, rfl, by kernel_rfl, rfl, ⟨⟨rfl, rfl, rfl⟩, rfl, rfl, rfl⟩⟩
theorem get_at {fr : List Addr} {b : Addr} {o : Obj} (e : Eff w fr mu s s') (hb : s.heap.get? b = some o) (hs : solid o = true) (hf : b ∉ fr) (hm : b ∉ mu) : s'.heap.get? b = some o := by
  obtain ⟨sl, a, c⟩ := e.keep b o hm hb (.inl hs)
  have := c hf
  subst this
  exact a
theorem s_init (C : Cx w (n + 1) A s) (hx : s.heap.get? x = some (instObj 311 dx)) (hdx : s.heap.get? dx = some (dictOf [] 0)) (nx : NB ≤ dx) (fx : x ∉ frs A) (fdx : dx ∉ frs A)
    (h : ∀ s', Eff w (frs A) [dx] s s' → s'.heap.get? x = some (instObj 311 dx) → (∃ es k, s'.heap.get? dx = some (dictOf es k) ∧ OwnD es d) → Q .none s') :
    codeAny (model prg w) A (.call (.ref 252) ⟨[.ref x, .ref d], []⟩) (fun r s' => match r with | .ok (.ret v) => Q v s' | .ok _ => False | .error e => E e s') s := by
  have ldx := Heap.lt_size hdx
  refine run (p_init w) [dx] [("self", .ref x), ("refs", .ref d)] C (fun b hb => List.mem_singleton.mp hb ▸ ⟨nx, ldx, fdx⟩) (BindsTo.of_eq rfl) rfl fun L s₁ hL e1 F => ?_
  have hx₁ := get_at e1 hx rfl (fun q => nomatch q) (fun q => nomatch q)
  have hdx₁ := get_at e1 hdx rfl (fun q => nomatch q) (fun q => nomatch q)
  have hdo : dx ∉ own (envP (p_init w) L) := Fm.own_size hL hdx
  have hxo : x ∉ own (envP (p_init w) L) := Fm.own_size hL hx
  have hdm : dx ∈ own (envP (p_init w) L) ++ [dx] := List.mem_append_right _ (.head _)
  refine xSetA (k := 0) (es := []) (x := x) rfl hdo hdm ti311a rfl (by simp) (ldl F rfl ⟨F, hx₁, hdx₁, fun tk s₂ F₂ e2 hx₂ hdx₂ => ?_⟩)
  refine xSetA (x := x) (g := s₁) (n := n) (m := bindM [("self", .ref x), ("refs", .ref d)] fun _ => none) (es := [⟨PyData.keyHash w.params "_refs", .str "_refs" tk, .ref d⟩]) (k := 1) rfl hdo hdm ti311b rfl (by simp) (dNew fun U s₃ e3 hU hfU => ?_)
  have hx₃ := get_at e3 hx₂ rfl (fun q => nomatch q) (fun q => nomatch q)
  have hdx₃ := get_at e3 hdx₂ rfl (fun q => nomatch q) (fun q => nomatch q)
  refine ⟨F₂.go e3, hx₃, hdx₃, fun tk' s₄ F₄ e4 hx₄ hdx₄ => sNil ⟨F₄.eff, fun e => h s₄ e hx₄ ⟨_, _, hdx₄, rfl, fun name h1 h2 => ?_⟩⟩⟩
  have g1 : (("_refs" : Str) == name) = false := by rw [BEq.comm]; exact h1
  have g2 : (("_peeled" : Str) == name) = false := by rw [BEq.comm]; exact h2
  show getL name [_, _] = _
  unfold getL
  have k1 : (Value.str "_refs" tk).isStr name = false := g1
  have k2 : (Value.str "_peeled" tk').isStr name = false := g2
  simp only [List.find?_cons, k1, k2, List.find?_nil]
  rfl
theorem mk311 : makesIn (KK w) 311 = true := by kernel_rfl
theorem in311 : findIn (KK w) (.ref 311) "__init__" = some (some (.ref 252)) := by kernel_rfl
theorem ty252 : typeIn (KK w) (.ref 252) = some (.type "function") := by kernel_rfl
theorem d_C311 : IsDef w "DictRefsContainer" 311 := ⟨by kernel_rfl, by kernel_rfl⟩
theorem newC (C : Cx w (n + 2) A s) (hd : DB w s.heap d kvs) (nd : NB ≤ d) (fd : d ∉ frs A)
    (h : ∀ x dx s', Eff w (frs A) [] s s' → Rep w A s'.heap x dx d kvs → Fresh w s x → Fresh w s dx → Q (.ref x) s') : wpAny (model prg w) A (call (.ref 311) [.ref d]) Q E s := by
  refine wpAny_call ?_
  obtain ⟨hp, gg, dr, t, os⟩ := s
  refine make_core (makes_of C.ww.kin mk311) (looks_findIn C.ww.kin in311) (fun self => bind_fn C.ww.kin self ty252) (.inl rfl) ?_
  have e0 : Eff w [] [] ⟨hp, gg, dr, t, os⟩ ⟨(hp.push emptyDict).push (instObj 311 hp.objs.size), gg, dr, t, os⟩ := (Eff.push (s := ⟨hp, gg, dr, t, os⟩) emptyDict).trans (Eff.push (s := ⟨hp.push emptyDict, gg, dr, t, os⟩) (instObj 311 hp.objs.size))
  have C' := (C.eff0 (e0.of (fr := frs A))).underT (C := 311) (rest := [.ref d]) (kw := [])
  have hx : ((hp.push emptyDict).push (instObj 311 hp.objs.size)).get? (hp.objs.size + 1) = some (instObj 311 hp.objs.size) := by heap_get
  have hdx : ((hp.push emptyDict).push (instObj 311 hp.objs.size)).get? hp.objs.size = some emptyDict := Heap.get?_push_of_some _ (Heap.get?_push_size _ rfl)
  have noF : ∀ b, hp.objs.size ≤ b → b ∉ frs A := fun b hb q => by
    obtain ⟨_, mm, hm⟩ := C.fx2 b q
    exact Nat.lt_irrefl _ (Nat.lt_of_lt_of_le hm.lt hb)
  have fd1 : Fresh w ⟨hp, gg, dr, t, os⟩ hp.objs.size := Fresh.size w _
  have fx1 : Fresh w ⟨hp, gg, dr, t, os⟩ (hp.objs.size + 1) := ⟨get_none_of_size (Nat.le_succ _), fun W => Nat.le_succ_of_le W.nb⟩
  obtain ⟨od, hod⟩ := hd.alive
  have hdlt := Heap.lt_size hod
  refine codeAny_mono (s_init (d := d) (Q := fun v s' => v = .none ∧ Q (.ref (hp.objs.size + 1)) s') (E := E) (n := n) C' hx hdx (fd1.2 C.ww) (by rw [underT_frs]; exact noF _ (Nat.le_succ _)) (by rw [underT_frs]; exact noF _ (Nat.le_refl _)) fun s' e1 hx' ⟨es, k, hdx', hO⟩ => ⟨rfl, ?_⟩) fun r s' q => ?_
  · rw [underT_frs] at e1
    have e : Eff w (frs A) [] ⟨hp, gg, dr, t, os⟩ s' := by
      refine Eff.shrink (nw := [hp.objs.size]) (mu := []) ?_ fun b q => List.mem_singleton.mp q ▸ fd1.1
      exact ((e0.of (fr := frs A) (mu := [hp.objs.size])).trans e1)
    have hdb := hd.eff e fd (fun q => nomatch q)
    exact h _ _ s' e ⟨⟨hx', es, k, hdx', hO⟩, hdb, ⟨noF _ (Nat.le_succ _), noF _ (Nat.le_refl _), fd⟩, ⟨fx1.2 C.ww, fd1.2 C.ww, nd⟩, ⟨fun q => by rw [q] at hdlt; exact absurd hdlt (by show ¬ hp.objs.size + 1 < hp.objs.size; omega), fun q => by rw [q] at hdlt; exact absurd hdlt (Nat.lt_irrefl _)⟩⟩ fx1 fd1
  · rcases r with e | (v | _ | _ | _)
    · exact q
    · exact q.elim
    · exact q.elim
    · exact q.elim
    · exact ⟨q.1, q.2⟩
end
end Mine
end
section
open PySem PySem.W PyProof.Rows PySem.Calls PySem.Builtin
namespace Mine
section
variable {w : World} {mu : List Addr} {env : Env} {n : Nat} {A : Around} {g s s' : Shared} {m : Str → Option Value} {E : Value → Shared → Prop} {Q : Value → Shared → Prop} {a b x dx d C : Addr} {kvs : KV} {o value e₁ e₂ e₃ : Expr} {pos p' apos : Pos} {t : Tok} {i j k : Int}
theorem tLeLe (h₁ : Ev w mu env n A g m (IsI i) e₁) (h₂ : Ev w mu env n A g m (IsI j) e₂) (h₃ : Ev w mu env n A g m (IsI k) e₃) (hm : autoParam (lastMarks [CmpOp.LtE, .LtE] [e₂, e₃] = false) byUnf) : Tt w mu env n A g m (decide (i ≤ j) && decide (j ≤ k)) (.Compare e₁ [.LtE, .LtE] [e₂, e₃] pos) := fun s F Q E q => by
  refine isTrue_chain (h₁ s F _ _ fun a s₁ F₁ ⟨t1, ha⟩ => test_link (h₂ s₁ F₁ _ _ fun b s₂ F₂ ⟨t2, hb⟩ => ?_)) hm
  subst ha hb
  refine P.le_int (wpAny_truthy_bool ?_)
  by_cases h : i ≤ j
  · rw [show decide (i ≤ j) = true by simpa using h, if_pos rfl]
    refine test_last (h₃ s₂ F₂ _ _ fun c s₃ F₃ ⟨t3, hc⟩ => ?_)
    subst hc
    refine P.le_int (wpAny_truthy_bool ?_)
    have := q s₃ F₃
    rwa [show decide (i ≤ j) = true by simpa using h, Bool.true_and] at this
  · rw [show decide (i ≤ j) = false by simpa using h, if_neg (by decide)]
    have := q s₂ F₂
    rwa [show decide (i ≤ j) = false by simpa using h, Bool.false_and] at this
noncomputable def p_digit (w : World) : FnPk w 41 := ⟨_, _, rfl, by kernel_rfl, rfl, ⟨⟨rfl, rfl, rfl⟩, rfl, rfl, rfl⟩⟩
theorem d_digit : IsDef w "_digit" 41 := ⟨by kernel_rfl, by kernel_rfl⟩
theorem s_digit {c : Int} (C : Cx w (n + 1) A s) (h1 : 48 ≤ c) (h2 : c ≤ 57) (h : ∀ t' s', Eff w (frs A) [] s s' → Q (.int (c - 48) t') s') : wpAny (model prg w) A (call (.ref 41) [.int c t]) Q E s := by
  refine wpAny_call (run (p_digit w) [] [("octet", .int c t)] C (fun _ h => nomatch h) (BindsTo.of_eq rfl) rfl fun L s₁ hL e1 F => ?_)
  rw [List.append_nil] at F
  refine xIf1 F (tLeLe (eI (i := 48)) (eL (V := IsI c) rfl ⟨_, rfl⟩) (eI (i := 57))) (fun hb s₂ F₂ => ?_) fun hb s₂ F₂ => ?_
  · exact xRet F₂ (eSubI (eL (V := IsI c) rfl ⟨_, rfl⟩) eI) fun v s₃ ⟨tv, hv⟩ F₃ => by subst hv; exact ⟨by rw [List.append_nil]; exact F₃.eff, fun e => h _ _ e⟩
  · exfalso; simp [h1, h2] at hb
theorem IntsAre'.to : ∀ {vs : List Value} {ls : List Int}, IntsAre' vs ls → IntsAre vs ls
  | _, _, .nil => .nil
  | _, _, .cons h => .cons _ _ h.to
theorem evBytesL {pd pc : Pos} {el : Expr} (F : Fm w mu env n A g m s)
    (h : wpAny (model prg w) A (eval el env) (fun v s₁ => Fm w mu env n A g m s₁ ∧ ∃ D vs ls, v = .ref D ∧ s₁.heap.IsList D vs.toArray ∧ IntsAre' vs ls ∧ (∀ n ∈ ls, 0 ≤ n ∧ n < 256) ∧ ls.length ≤ 1000 ∧ ∀ l : By, ∀ v s', Fm w mu env n A g m s' → IsB l v → Q v s') E s)
    (hs2 : autoParam (starEach [el] env = (false, eval el env) :: starEach [] env) byRfl) (hk : autoParam (env.kindOf "bytes" = some .globalImplicit) byRfl) : wpAny (model prg w) A (eval (.Call (.Name "bytes" pd) [el] [] pc) env) Q E s := by
  refine wpAny_Call_Name_kw (bu F no_bytes boot_bytes (PySem.Pv.callWith_type1 ?_ hs2) hk)
  rw [hs2]
  refine Calls.spliced_cons (wpAny_mono h (fun v s₁ ⟨F₁, D, vs, ls, hv, hl, hi, hr, hz, go⟩ => ?_) fun _ _ e => e)
  subst hv
  refine Calls.spliced_nil ?_
  have hvl := hi.length
  refine call_bytes_ints hl hi.to (fun n hn => hr n hn) (by rw [sizeLine_eq]; with_reducible exact leE (by assumption) (by assumption) rfl) F.hh fun h' t' k' hk' => ?_
  exact go (byteArr ls).toList _ _ (F₁.go (.keeps (s' := { s₁ with heap := h', toks := k' }) hk' rfl rfl)) ⟨t', by simp⟩
theorem eDig {c : UInt8} {row : By} {px p2 : Pos} (ho : Ev w mu env (n + 1) A g m (IsB row) e₁) (hi : Ev w mu env (n + 1) A g m (IsI k) e₂) (hz : row.length ≤ 100) (h0 : 0 ≤ k) (hy : row[k.toNat]? = some c) (h1 : 48 ≤ c.toNat) (h2 : c.toNat ≤ 57)
    (hs : autoParam (starEach [.Subscript e₁ e₂ p2] env = [(false, eval (.Subscript e₁ e₂ p2) env)]) byRfl) (hx : autoParam (env.kindOf "_digit" = some .globalImplicit) byRfl) (hsu : autoParam (∀ o i, ∃ ops, subscripted e₂ false o i = operate ops (getItem o i)) byEx) :
    Ev w mu env (n + 1) A g m (IsI ((c.toNat : Int) - 48)) (.Call (.Name "_digit" px) [.Subscript e₁ e₂ p2] [] pos) :=
  eCall1 d_digit (eItem (y := c) ho hi (by with_reducible exact leK (by assumption) rfl) h0 hy hsu) (fun v ⟨tv, hv⟩ s F Q E q => by subst hv; exact s_digit F.cx (by omega) (by with_reducible exact inK (by assumption) rfl) fun t' s' e => q _ _ (F.go e) ⟨_, rfl⟩) hs hx
noncomputable def p_unhex (w : World) : FnPk w 60 := ⟨_, _, rfl, by kernel_rfl, rfl, ⟨⟨rfl, rfl, rfl⟩, rfl, rfl, rfl⟩⟩
theorem s_unhex {c : UInt8} {sv : Value} (C : Cx w (n + 2) A s) (h1 : 48 ≤ c.toNat) (h2 : c.toNat ≤ 57) (h : ∀ l v s', Eff w (frs A) [] s s' → IsB l v → Q v s') : wpAny (model prg w) A (call (.ref 60) [sv, .bytes (List.replicate 40 c).toArray t]) Q E s := by
  refine wpAny_call (run (p_unhex w) [] [("self", sv), ("text", .bytes (List.replicate 40 c).toArray t)] C (fun _ h => nomatch h) (BindsTo.of_eq rfl) rfl fun L s₁ hL e1 F => ?_)
  rw [List.append_nil] at F
  have cz : ∀ p ∈ (envP (p_unhex w) L).cells, (envP (p_unhex w) L).cells.lookup p.1 = some p.2 := lookup_of_nodup (by show List.Nodup [("text" : Str)]; decide)
  have hlen : (List.replicate 40 c).length = 40 := List.length_replicate ..
  generalize hrow : List.replicate 40 c = row at *
  have hget : ∀ i, i < 40 → row[i]? = some c := fun i hi => by rw [← hrow, List.getElem?_replicate, if_pos hi]
  have eln : ∀ {g : Shared} {m' : Str → Option Value} {px pos pn : Pos}, m' "text" = some (.bytes row.toArray t) → Ev w (own (envP (p_unhex w) L)) (envP (p_unhex w) L) (n + 1) (A.deeper (envP (p_unhex w) L)) g m' (IsI 40) (.Call (.Name "len" px) [.Name "text" pn] [] pos) := fun hm =>
    (eLen (e' := no_len) (l := row) (eC hm ⟨_, rfl⟩) (by omega)).mono fun v ⟨tv, hv⟩ => ⟨tv, by rw [hv, hlen]; rfl⟩
  refine xIf1 F (b := false) (tPlain (V := IsI 0) (eOp (V := IsI 0) (eln rfl) (eI (i := 2)) fun a b ⟨ta, ha⟩ ⟨tb, hb⟩ s F Q E q => by subst ha hb; exact mod_int' (by decide) (q _ _ (F.toks _) ⟨_, rfl⟩)) (truth_int (i := 0))) (fun hb => nomatch hb) fun _ s₂ F₂ => ?_
  have Fb := F₂.base
  refine sRet (evBytesL Fb ?_)
  refine lcomp Fb (CompOk.of (cl := [("text", L + 1)]) Fb rfl rfl (all1 rfl)) ?_
  refine wpAny_Call_Name_kw (bu Fb no_range boot_range (PyProof.Rows.callWith_type rfl (Calls.evalArgs_plain (Calls.spliced_cons (Fb.ev (eI (i := 0)) fun v1 s₃ F₃ ⟨t1, hv1⟩ => Calls.spliced_cons (F₃.ev (eln rfl) fun v2 s₄ F₄ ⟨t2, hv2⟩ => Calls.spliced_cons (F₄.ev (eI (i := 2)) fun v3 s₅ F₅ ⟨t3, hv3⟩ => Calls.spliced_nil ?_)))))))
  subst hv1 hv2 hv3
  refine call_range_3 (by decide) ?_
  have F₆ : Fm w (own (envP (p_unhex w) L)) (envP (p_unhex w) L) (n + 1) (A.deeper (envP (p_unhex w) L)) s₂ _ { s₅ with heap := s₅.heap.push { cls := .type "range", data := .fields #[.int 0 t1, .int 40 t2, .int 2 t3] }, toks := s₅.toks } := (F₅.go (.push _)).toks _
  refine it_range (k := 20) (IsRange.new _ _ _ _ _ _ _) (by decide) (by decide) F₆ (F₆.alive cz) fun it s₇ F₇ T => ?_
  refine compT Fb cz F₇ (T _ _) (fun _ h => nomatch h) (by rw [sizeLine_eq]; decide) (fun i ys => ∃ zs, IntsAre' ys zs ∧ zs.length = i ∧ ∀ z ∈ zs, 0 ≤ z ∧ z < 256) (fun i ys hk => by obtain ⟨zs, h1, h2, _⟩ := hk; rw [h1.length, h2]; exact Nat.le_refl _) ⟨[], .nil, rfl, by simp⟩ ?_ ?_
  · intro i v ys Cc m₁ s₈ hi ⟨ti, hv⟩ ⟨zs, hz1, hz2, hz3⟩ F₈ Fc hm
    subst hv
    have hm1 : m₁ "text" = some (.bytes row.toArray t) := hm ("text", L + 1) (by simp)
    refine asgName (st Fc fun s₉ F₉ => wpAny_tests_nil ?_)
    rw [if_pos rfl]
    have hi' : i < 20 := hi
    refine F₉.ev (eAddI (eMulI (eDig (c := c) (row := row) (eC hm1 ⟨_, rfl⟩) (eL (V := IsI (0 + (i : Int) * 2)) rfl ⟨_, rfl⟩) (by omega) (by omega) (hget _ (by omega)) h1 h2) (eI (i := 16)) ?_) (eDig (c := c) (row := row) (eC hm1 ⟨_, rfl⟩) (eAddI (eL (V := IsI (0 + (i : Int) * 2)) rfl ⟨_, rfl⟩) (eI (i := 1))) (by omega) (by omega) (hget _ (by omega)) h1 h2)) fun v s₁₀ F₁₀ ⟨tv, hv⟩ => ⟨⟨_, F₁₀, all1 hm1⟩, ?_⟩
    · exact .of_right (by decide)
    · subst hv
      exact ⟨_, hz1.app (.cons .nil), by simp [hz2], fun z hz => by
        rcases List.mem_append.mp hz with hz | hz
        · exact hz3 z hz
        · rw [List.mem_singleton.mp hz]; omega⟩
  · intro D ys s₈ ⟨zs, hz1, hz2, hz3⟩ F₈ hD hfD hnD
    exact ⟨F₈, D, ys, zs, rfl, ⟨_, hD, rfl, _, rfl⟩, hz1, hz3, by omega, fun l v s' F' hv => ⟨by rw [List.append_nil]; exact F₂.eff.trans F'.eff, fun e => h l v s' e hv⟩⟩
end
end Mine
end
section
open PySem PySem.W PyProof.Rows PySem.Calls PySem.Builtin
namespace Mine
noncomputable def sameI (x : Int) : Value → Bool
  | .int b _ => b == x
  | _ => false
theorem any_sameI (x : Int) : ∀ {vs : List Value} {ls : List Int}, IntsAre' vs ls → vs.any (sameI x) = ls.contains x
  | _, _, .nil => rfl
  | _, _, .cons (i := b) h => by
    rw [List.any_cons, any_sameI x h]
    simp only [sameI, List.contains_cons]
    rw [BEq.comm (a := b)]
theorem IntsAre'.mem : ∀ {vs : List Value} {ls : List Int}, IntsAre' vs ls → ∀ y ∈ vs, ∃ b t, y = .int b t
  | _, _, .nil, y, h => by cases h
  | _, _, .cons k, y, h => by
    rcases List.mem_cons.mp h with rfl | h
    · exact ⟨_, _, rfl⟩
    · exact k.mem y h
section
variable {w : World} {mu : List Addr} {env : Env} {n : Nat} {A : Around} {g s s' : Shared} {m : Str → Option Value} {E : Value → Shared → Prop} {Q : Value → Shared → Prop} {a b x dx d C : Addr} {kvs : KV} {o value e₁ e₂ e₃ : Expr} {pos p' apos : Pos} {t : Tok} {i j k : Int} {l : By}
theorem ninTI {vs : List Value} {ls : List Int} (hl : s.heap.IsTuple a vs.toArray) (hb : IntsAre' vs ls) (h : Q (.bool (!ls.contains i)) s) : wpAny (model prg w) A (compareOp .NotIn (.int i t) (.ref a)) Q E s := by
  refine SeqAt.notIn_tupleAt (sameI i) hl (fun y hy => ?_) (by simpa [any_sameI i hb] using h)
  obtain ⟨l, tl, rfl⟩ := hb.mem y (by simpa using hy)
  exact SeqAt.EqAt.int_int _ _ _ _
theorem find63 : findIn (KK w) (.ref 63) "unhexlify" = some (some (.ref 60)) := by kernel_rfl
theorem ga63 : findIn (KK w) (.ref 63) "__getattribute__" = some (some (.builtin "object.__getattribute__")) := by kernel_rfl
theorem gk63 : findIn (KK w) (.ref 63) "__getattr__" = some none := by kernel_rfl
theorem ty60 : typeIn (KK w) (.ref 60) = some (.type "function") := by kernel_rfl
theorem keep60 : keepIn (KK w) (.ref 60) = true := by kernel_rfl
theorem look69 : ∃ sl, (KK w).lookup 69 = some ⟨.ref 63, some 68, .plain, sl⟩ := ⟨_, rfl⟩
theorem look68 : ∃ es k, (KK w).lookup 68 = some (dictOf es k) ∧ getL "unhexlify" es = some none := ⟨[], 0, rfl, rfl⟩
theorem g_bin : nsIn (KK w) mainGlobals "binascii" = some (some (.ref 69)) := by kernel_rfl
theorem getU {pl : Sem Bool} {Q : Value × List Value → Shared → Prop} (W : WW w s.heap) (h : Q (.ref 60, [.ref 69]) s) : wpAny (model prg w) A (getMethod (.ref 69) "unhexlify" pl) Q E s := by
  obtain ⟨sl, h1⟩ := look69 (w := w)
  obtain ⟨es, k, h2, h3⟩ := look68 (w := w)
  refine method_fn W.kin (InstAt.of_K W.kin h1 h2) ga63 gk63 find63 ty60 ?_ h
  show (lookIn "unhexlify" (dictOf es k)).map _ = _
  rw [lookIn_dict, h3]; rfl
noncomputable def p_hexsha (w : World) : FnPk w 83 := ⟨_, _, rfl, by kernel_rfl, rfl, ⟨⟨rfl, rfl, rfl⟩, rfl, rfl, rfl⟩⟩
theorem d_hexsha : IsDef w "valid_hexsha" 83 := ⟨by kernel_rfl, by kernel_rfl⟩
theorem s_hexsha {c : UInt8} (C : Cx w (n + 3) A s) (h1 : 48 ≤ c.toNat) (h2 : c.toNat ≤ 57) (h : ∀ s', Eff w (frs A) [] s s' → Q (.bool true) s') : wpAny (model prg w) A (call (.ref 83) [.bytes (List.replicate 40 c).toArray t]) Q E s := by
  refine wpAny_call (run (p_hexsha w) [] [("hex", .bytes (List.replicate 40 c).toArray t)] C (fun _ h => nomatch h) (BindsTo.of_eq rfl) rfl fun L s₁ hL e1 F => ?_)
  rw [List.append_nil] at F
  have hlen : (List.replicate 40 c).length = 40 := List.length_replicate ..
  generalize hrow : List.replicate 40 c = row at *
  refine sIf1 (wpAny_isTrue_Compare1 (F.ev (eLen (e' := no_len) (l := row) (eL rfl ⟨_, rfl⟩) (by omega)) fun v s₂ F₂ ⟨tv, hv⟩ => ?_))
  subst hv
  refine dispT F₂ (eaI (eI (i := 40)) (eaI (eI (i := 64)) eaI0)) (fun vs hv => by rw [hv.length]; simp) fun T vs s₃ s₄ F₃ e4 hT hfT hvs => ?_
  refine ninTI hT hvs (wpAny_truthy_bool ?_)
  rw [show (!([40, 64] : List Int).contains (row.length : Int)) = false by rw [hlen]; rfl, if_neg (by decide)]
  have F₄ := F₃.go e4
  obtain ⟨lf, hlf, _⟩ := C.fx
  refine xTry (mu := own (envP (p_hexsha w) L)) (n := n + 2) (g := s₁) (Around.frames_deeper hlf) rfl ?_
  refine sExp (methodCall_KW (gl F₄ g_bin ?_) (by rfl)) (by rfl) (by rfl)
  refine getU F₄.ww (callWith_K F₄.ww.kin keep60 ?_ (by rfl) rfl)
  refine Calls.spliced_cons (ldl F₄ rfl (Calls.spliced_nil ⟨F₄.ww.kin, ?_⟩))
  rw [← hrow]
  refine s_unhex F₄.cx h1 h2 fun l v s₅ e5 hv => sNil ?_
  exact xRet (F₄.go e5) eT fun v s₆ hv F₆ => by
    have hv : v = .bool true := hv
    subst hv
    exact ⟨by rw [List.append_nil]; exact F₆.eff, fun e => h s₆ e⟩
end
end Mine
end
section
open PySem PySem.W PyProof.Rows PySem.Calls
namespace Mine
theorem splitB_cons (c x : UInt8) (r : By) : splitB c (x :: r) = if x = c then [] :: splitB c r else match splitB c r with | h :: t => (x :: h) :: t | [] => [[x]] := rfl
theorem splitB_sep (c : UInt8) (y : By) : ∀ q : By, splitB c (q ++ c :: y) = splitB c q ++ splitB c y
  | [] => by simp [splitB]
  | x :: r => by
    have ih := splitB_sep c y r
    rw [List.cons_append, splitB_cons, splitB_cons]
    by_cases h : x = c
    · rw [if_pos h, if_pos h, ih]; rfl
    · rw [if_neg h, if_neg h, ih]
      have := splitB_ne c r
      cases hs : splitB c r with
      | nil => exact absurd hs this
      | cons a t => rfl
theorem splitB_no {c : UInt8} : ∀ {y : By}, c ∉ y → splitB c y = [y]
  | [], _ => rfl
  | x :: r, h => by
    have hx : x ≠ c := fun e => h (e ▸ .head _)
    rw [splitB_cons, if_neg hx, splitB_no fun q => h (.tail _ q)]
theorem splitB_free {c : UInt8} : ∀ {l f : By}, f ∈ splitB c l → c ∉ f
  | [], f, h => by rw [List.mem_singleton.mp h]; simp
  | x :: r, f, h => by
    rw [splitB_cons] at h
    by_cases hx : x = c
    · rw [if_pos hx] at h
      rcases List.mem_cons.mp h with rfl | h
      · simp
      · exact splitB_free h
    · rw [if_neg hx] at h
      cases hs : splitB c r with
      | nil => exact absurd hs (splitB_ne c r)
      | cons a t =>
        rw [hs] at h
        rcases List.mem_cons.mp h with rfl | h
        · have : c ∉ a := splitB_free (l := r) (hs ▸ .head _)
          exact fun q => (List.mem_cons.mp q).elim (fun e => hx e.symm) this
        · exact splitB_free (l := r) (hs ▸ .tail _ h)
theorem joinB_cons (p x : By) {ls : List By} (h : ls ≠ []) : joinB p (x :: ls) = x ++ p ++ joinB p ls := by
  cases ls with
  | nil => exact absurd rfl h
  | cons y r => rfl
theorem join_split (c : UInt8) : ∀ l : By, joinB [c] (splitB c l) = l
  | [] => rfl
  | x :: r => by
    have ih := join_split c r
    have hn := splitB_ne c r
    rw [splitB_cons]
    by_cases hx : x = c
    · rw [if_pos hx, joinB_cons _ _ hn, ih, hx]; rfl
    · rw [if_neg hx]
      cases hs : splitB c r with
      | nil => exact absurd hs hn
      | cons a t =>
        rw [hs] at ih
        cases t with
        | nil => simpa [joinB] using ih
        | cons b t => simpa [joinB] using ih
theorem split_join {c : UInt8} : ∀ {ls : List By}, ls ≠ [] → (∀ f ∈ ls, c ∉ f) → splitB c (joinB [c] ls) = ls
  | [], h, _ => absurd rfl h
  | [x], _, hc => splitB_no (hc x (.head _))
  | x :: y :: r, _, hc => by
    rw [joinB_cons _ _ (by simp), List.append_assoc]
    show splitB c (x ++ c :: joinB [c] (y :: r)) = _
    rw [splitB_sep, splitB_no (hc x (.head _)), split_join (by simp) fun f hf => hc f (.tail _ hf)]
    rfl
theorem join_app (c : UInt8) : ∀ {a b : List By}, a ≠ [] → b ≠ [] → joinB [c] (a ++ b) = joinB [c] a ++ c :: joinB [c] b
  | [], _, h, _ => absurd rfl h
  | [x], b, _, hb => by rw [List.singleton_append, joinB_cons _ _ hb]; simp [joinB]
  | x :: y :: r, b, _, hb => by
    rw [List.cons_append, joinB_cons _ _ (by simp), join_app c (a := y :: r) (by simp) hb, joinB_cons _ x (ls := y :: r) (by simp)]
    simp
theorem splitB_len2 (c : UInt8) (l : By) : 1 < (splitB c l).length ↔ c ∈ l := by
  constructor
  · intro h
    have hj := join_split c l
    match hs : splitB c l, h with
    | x :: y :: r, _ =>
      rw [hs, joinB_cons _ _ (by simp)] at hj
      rw [← hj]; simp
  · intro h
    obtain ⟨q, y, rfl⟩ := List.append_of_mem h
    rw [splitB_sep, List.length_append]
    have h1 := List.length_pos_iff.mpr (splitB_ne c q)
    have h2 := List.length_pos_iff.mpr (splitB_ne c y)
    omega
theorem mem_split {c : UInt8} {l : By} {x : UInt8} (hx : x ≠ c) : x ∈ l ↔ ∃ f ∈ splitB c l, x ∈ f := by
  induction l with
  | nil => simp [splitB]
  | cons y r ih =>
    rw [splitB_cons]
    by_cases hy : y = c
    · rw [if_pos hy]
      simp only [List.mem_cons, exists_eq_or_imp, List.not_mem_nil, false_or, ← ih]
      exact ⟨fun h => h.resolve_left fun e => hx (e.trans hy), .inr⟩
    · rw [if_neg hy]
      cases hs : splitB c r with
      | nil => exact absurd hs (splitB_ne c r)
      | cons a t =>
        rw [hs] at ih
        simp only [List.mem_cons, exists_eq_or_imp] at ih ⊢
        rw [ih, or_assoc]
theorem joinSum_filter : ∀ ls : List By, joinSum [47] (ls.filter neP) ≤ joinSum [47] ls
  | [] => Nat.le_refl _
  | x :: r => by
    have ih := joinSum_filter r
    have hl := List.length_filter_le neP r
    have hx : neP x = false → x.length = 0 := fun h => by cases x with | nil => rfl | cons => simp [neP] at h
    rw [List.filter_cons]
    unfold joinSum at ih ⊢
    cases h : neP x with
    | true =>
      simp only [if_true, List.map_cons, List.sum_cons, List.length_cons, List.length_nil] at ih ⊢
      have : (List.map List.length (List.filter neP r)).sum + (List.filter neP r).length ≤ (List.map List.length r).sum + r.length := by
        clear ih hl hx h
        induction r with
        | nil => simp
        | cons y r ih =>
          rw [List.filter_cons]
          cases h : neP y <;> simp [h] <;> omega
      rw [Nat.zero_add, Nat.one_mul, Nat.one_mul, Nat.add_sub_cancel, Nat.add_sub_cancel, Nat.add_assoc, Nat.add_assoc]; exact Nat.add_le_add_left this _
    | false =>
      simp only [Bool.false_eq_true, if_false, List.map_cons, List.sum_cons, List.length_cons, List.length_nil] at ih ⊢
      omega
theorem colP_len (l : By) : (colP l).length ≤ l.length := by
  unfold colP
  rw [joinB_len]
  refine Nat.le_trans (joinSum_filter _) ?_
  rw [← joinB_len, join_split]; exact Nat.le_refl _
end Mine
end
section
open PySem PySem.W PyProof.Rows PySem.Calls PySem.Builtin
namespace Mine
noncomputable def HEADB : By := [72, 69, 65, 68]
noncomputable def STASH : By := [114, 101, 102, 115, 47, 115, 116, 97, 115, 104]
noncomputable def REFS : By := [114, 101, 102, 115, 47]
noncomputable def okN (name : By) : Bool := [HEADB, STASH].contains name || (REFS.isPrefixOf name && (crf (name.drop 5) || (hasB [47, 47] name && crf (colP (name.drop 5)))))
noncomputable def IsRE (v : Value) : Prop := v = .ref 31
section
variable {w : World} {mu : List Addr} {env : Env} {n : Nat} {A : Around} {g s s' : Shared} {m : Str → Option Value} {E : Value → Shared → Prop} {Q : Value → Shared → Prop} {a b x dx d C : Addr} {kvs : KV} {o value e₁ e₂ e₃ : Expr} {pos p' apos px : Pos} {t : Tok} {i j k : Int} {l : By}
theorem g_HEAD : ∃ t, nsIn (KK w) mainGlobals "HEADREF" = some (some (.bytes HEADB.toArray t)) := ⟨280, by kernel_rfl⟩
theorem no_RE : nsIn (KK w) mainGlobals "RefFormatError" = some (some (.ref 31)) := by kernel_rfl
theorem eCrf (h : Ev w mu env (n + 1) A g m (IsB l) e₁) (hz : l.length ≤ 4096) (hs : autoParam (starEach [e₁] env = [(false, eval e₁ env)]) byRfl) (hx : autoParam (env.kindOf "check_ref_format" = some .globalImplicit) byRfl) : Ev w mu env (n + 1) A g m (IsT (crf l)) (.Call (.Name "check_ref_format" px) [e₁] [] pos) :=
  eCall1 d_crf h (fun v ⟨tv, hv⟩ s F Q E q => by subst hv; exact s_crf F.cx hz fun s' e => q _ _ (F.go e) rfl) hs hx
theorem eCol (h : Ev w mu env (n + 1) A g m (IsB l) e₁) (hz : l.length ≤ 1000) (hs : autoParam (starEach [e₁] env = [(false, eval e₁ env)]) byRfl) (hx : autoParam (env.kindOf "_collapse_slashes" = some .globalImplicit) byRfl) : Ev w mu env (n + 1) A g m (IsB (colP l)) (.Call (.Name "_collapse_slashes" px) [e₁] [] pos) :=
  eCall1 d_col h (fun v ⟨tv, hv⟩ s F Q E q => by subst hv; exact s_col F.cx hz fun t' s' e => q _ _ (F.go e) ⟨_, rfl⟩) hs hx
theorem tInT {ls : List By} {es : List Expr} {kk : Nat} {tp : Pos} (hx : Ev w mu env n A g m (IsB l) e₁) (h : EvAll w mu env n A g m (fun vs => BytesAre vs ls) es) (hz : ls.length ≤ 100) (hm : autoParam (behindInMarks .In (.Tuple es kk tp) = false) byUnf) :
    Tt w mu env n A g m (ls.contains l) (.Compare e₁ [.In] [.Tuple es kk tp] pos) := fun s F Q E q => by
  refine wpAny_isTrue_Compare1 (hx s F _ _ fun v s₁ F₁ ⟨tv, hv⟩ => ?_) hm
  subst hv
  exact dispT F₁ h (fun vs hv => by rw [hv.length]; with_reducible exact leK (by assumption) rfl) fun T vs s₂ s₃ F₂ e3 hT hfT hvs => inT hT hvs (wpAny_truthy_bool (q _ (F₂.go e3)))
noncomputable def p_refname (w : World) : FnPk w 175 := ⟨_, _, rfl, by kernel_rfl, rfl, ⟨⟨rfl, rfl, rfl⟩, rfl, rfl, rfl⟩⟩
theorem i_refname : IsMeth w "_check_refname" 175 := ⟨by kernel_rfl, by kernel_rfl, by kernel_rfl, by decide, by decide⟩
theorem s_refname {sv : Value} (C : Cx w (n + 2) A s) (hz : l.length ≤ 900) (h : ∀ s', okN l = true → Eff w (frs A) [] s s' → Q .none s') (hE : okN l = false → ∀ e cls s', IsRE cls → Thrown w A [] s s' e cls → E (.ref e) s') :
    wpAny (model prg w) A (call (.ref 175) [sv, .bytes l.toArray t]) Q E s := by
  refine wpAny_call (codeAny_mono (runE (p_refname w) [] [("self", sv), ("name", .bytes l.toArray t)] (Q := Q) (E := E) (fun v => IsRE v ∧ okN l = false) C (fun _ h => nomatch h) (BindsTo.of_eq rfl) rfl (fun e cls s' hK T => hE hK.2 e cls s' hK.1 T) fun L s₁ hL e1 F => ?_) fun r s' q => q)
  rw [List.append_nil] at F ⊢
  have ok : ∀ {m : Str → Option Value} {s' : Shared}, okN l = true → Fm w (own (envP (p_refname w) L)) (envP (p_refname w) L) (n + 1) (A.deeper (envP (p_refname w) L)) s₁ m s' → Left w A (envP (p_refname w) L) [] s s₁ Q (.ret .none) s' := fun {m s'} h1 F' => ⟨by rw [List.append_nil]; exact F'.eff, fun e => h s' h1 e⟩
  refine xIf1 F (tInT (l := l) (eL rfl ⟨_, rfl⟩) (eaB (eG g_HEAD.choose_spec ⟨_, rfl⟩) (eaB (eRef (l := STASH) eB) eaB0)) (by simp)) (fun h1 s₂ F₂ => sRet0 (ok (by unfold okN; rw [h1]; rfl) F₂)) fun h1 s₂ F₂ => ?_
  refine xIf1 F₂ (tNot (tPlain (eM1 m_startswith (eL (V := IsB l) rfl ⟨_, rfl⟩) (eB (l := REFS)) dStarts) truth_bool)) (fun h2 s₃ F₃ => ?_) fun h2 s₃ F₃ => ?_
  · exact xRaiseR F₃ no_RE (eL (V := fun _ => True) rfl trivial) ⟨rfl, by unfold okN; rw [h1]; simp at h2; simp [h2]⟩
  have h2 : REFS.isPrefixOf l = true := by simpa using h2
  refine xAsg F₃ (eRef (eSlE (cut_from l 5) (eL rfl ⟨_, rfl⟩) (pSome eI) pNone (by with_reducible exact leK (by assumption) rfl))) fun v s₄ ⟨tv, hv⟩ F₄ => ?_
  subst hv
  have hdl : (l.drop 5).length ≤ 900 := by simp; with_reducible exact leK (by assumption) rfl
  refine xIf1 F₄ (tPlain (eCrf (eL (V := IsB (l.drop 5)) rfl ⟨_, rfl⟩) (by with_reducible exact leK (by assumption) rfl)) truth_bool) (fun h3 s₅ F₅ => sRet0 (ok (by unfold okN; rw [h2, h3]; simp) F₅)) fun h3 s₅ F₅ => ?_
  refine xIf1 F₅ (tAnd2 (tCmp (eB (l := [47, 47])) (eL (V := IsB l) rfl ⟨_, rfl⟩) (cInB F₅.hh)) fun _ => tPlain (eCrf (eRef (eCol (eL (V := IsB (l.drop 5)) rfl ⟨_, rfl⟩) (by with_reducible exact leK (by assumption) rfl))) (by have := colP_len (l.drop 5); with_reducible exact leC (by assumption) (by assumption) rfl)) truth_bool) (fun h4 s₆ F₆ => sRet0 (ok (by unfold okN; rw [h2, h4]; simp) F₆)) fun h4 s₆ F₆ => ?_
  exact xRaiseR F₆ no_RE (eL (V := fun _ => True) rfl trivial) ⟨rfl, by unfold okN; rw [h1, h3, h4]; simp⟩
noncomputable def p_refvalue (w : World) : FnPk w 182 := ⟨_, _, rfl, by kernel_rfl, rfl, ⟨⟨rfl, rfl, rfl⟩, rfl, rfl, rfl⟩⟩
theorem i_refvalue : IsMeth w "_check_ref_value" 182 := ⟨by kernel_rfl, by kernel_rfl, by kernel_rfl, by decide, by decide⟩
theorem s_refvalue {sv : Value} {c : UInt8} (C : Cx w (n + 4) A s) (h1 : 48 ≤ c.toNat) (h2 : c.toNat ≤ 57) (h : ∀ s', Eff w (frs A) [] s s' → Q .none s') : wpAny (model prg w) A (call (.ref 182) [sv, .bytes (List.replicate 40 c).toArray t]) Q E s := by
  refine wpAny_call (run (p_refvalue w) [] [("self", sv), ("ref", .bytes (List.replicate 40 c).toArray t)] C (fun _ h => nomatch h) (BindsTo.of_eq rfl) rfl fun L s₁ hL e1 F => ?_)
  rw [List.append_nil] at F
  refine xIf1 F (b := !(true || true)) (tNot (tOr2 (tPlain (eCall1 (V := IsT true) (Va := IsB (List.replicate 40 c)) d_hexsha (eL rfl ⟨_, rfl⟩) fun v ⟨tv, hv⟩ s F Q E q => by subst hv; exact s_hexsha F.cx h1 h2 fun s' e => q _ _ (F.go e) rfl) truth_bool) fun h => nomatch h)) (fun h => nomatch h) fun _ s₂ F₂ => ?_
  exact sNil ⟨by rw [List.append_nil]; exact F₂.eff, fun e => h s₂ e⟩
end
end Mine
end
section
open PySem PySem.W PyProof.Rows PySem.Calls PySem.Builtin
namespace Mine
noncomputable def ZERO : By := List.replicate 40 48
section
variable {w : World} {mu mu0 : List Addr} {env : Env} {n : Nat} {A : Around} {g s s' : Shared} {m : Str → Option Value} {E : Value → Shared → Prop} {Q : Value → Shared → Prop} {a b x dx d C : Addr} {kvs : KV} {o value e₁ e₂ e₃ : Expr} {pos p' apos px : Pos} {t u : Tok} {i j : Int} {l k v : By} {arg : Expr}
theorem Fm.nar (F : Fm w (Mine.own env ++ mu0) env n A g m s) : Fm w (Mine.own env) env n A s m s := F.narrow (fun b q => q) fun b q => List.mem_append_left _ q
theorem Fm.bak {m₁ : Str → Option Value} {s₁ : Shared} (F : Fm w (Mine.own env ++ mu0) env n A g m₁ s₁) (G : Fm w (Mine.own env) env n A s₁ m s) : Fm w (Mine.own env ++ mu0) env n A g m s := F.rejoin G fun b q => List.mem_append_left _ q
theorem bGet1 (hd : DB w s.heap d kvs) (hn : NB ≤ d) (h : ∀ v s', Eff w [] [] s s' → OptB (get2 kvs k) v → Q v s') : wpAny (model prg w) A (call (.builtin "dict.get") [.ref d, .bytes k.toArray t]) Q E s := by
  obtain ⟨ps, hm, hp⟩ := hd
  refine callM PySem.F.slot_dict_get PySem.F.entry_dict_get hm.mapOf.typeIs (PySem.F.args_dict_get_2 _ _) (meets_dict_get _ d (bk k t) (lo_of hn)) ⟨_, hm.mapOf, h _ _ (.toks _) ?_⟩
  rcases hp.get k with ⟨h1, h2⟩ | ⟨v', t', h1, h2⟩
  · rw [h1, h2]; rfl
  · rw [h1, h2]; exact ⟨_, rfl⟩
theorem eGet1 (hd : DB w g.heap d kvs) (hf : d ∉ frs A) (hm : d ∉ mu) (hn : NB ≤ d) (ho : Ev w mu env n A g m (IsV (.ref d)) o) (hi : Ev w mu env n A g m (IsB k) arg)
    (hbase : autoParam (attributeBase o "get" env (eval o env) = eval o env) byRfl) (ha : autoParam (starEach [arg] env = [(false, eval arg env)]) byRfl) (hline : autoParam ((apos.endLine == pos.line) = true) byRfl) :
    Ev w mu env n A g m (OptB (get2 kvs k)) (.Call (.Attribute o "get" apos) [arg] [] pos) := fun s F Q E q => by
  refine evm1 m_get (ho s F _ _ fun ov s₁ F₁ h1 => ?_) hbase ha hline
  have h1 : ov = .ref d := h1
  subst h1
  have hd₁ := hd.eff F₁.eff hf hm
  refine ⟨⟨hd₁.typeIs, hd₁.noDict⟩, hi _ F₁ _ _ fun kv s₂ F₂ ⟨t, h2⟩ => ?_⟩
  subst h2
  exact bGet1 (hd.eff F₂.eff hf hm) hn fun v s' e y => q _ _ (F₂.go e) y
noncomputable def p_set (w : World) : FnPk w 287 := ⟨_, _, rfl, by kernel_rfl, rfl, ⟨⟨rfl, rfl, rfl⟩, rfl, rfl, rfl⟩⟩
theorem i_set : IsMeth w "set_if_equals" 287 := ⟨by kernel_rfl, by kernel_rfl, by kernel_rfl, by decide, by decide⟩
theorem s_setT {c : UInt8} (C : Cx w (n + 5) A s) (R : Rep w A s.heap x dx d kvs) (hlen : kvs.length ≤ 1000) (hz : l.length ≤ 900) (h1 : 48 ≤ c.toNat) (h2 : c.toNat ≤ 57) (hok : okN l = true)
    (h : ∀ s', Eff w (frs A) [d] s s' → DB w s'.heap d (put kvs l (List.replicate 40 c)) → Q (.bool true) s') :
    wpAny (model prg w) A (call (.ref 287) [.ref x, .bytes l.toArray t, .none, .bytes (List.replicate 40 c).toArray u]) Q E s := by
  obtain ⟨od, hod⟩ := R.db.alive
  refine wpAny_call (run (p_set w) [d] [("self", .ref x), ("name", .bytes l.toArray t), ("old_ref", .none), ("new_ref", .bytes (List.replicate 40 c).toArray u)] C (fun b hb => List.mem_singleton.mp hb ▸ ⟨R.nb.2.2, Heap.lt_size hod, R.off.2.2⟩) (BindsTo.of_eq rfl) rfl fun L s₁ hL e1 F => ?_)
  obtain ⟨R₁, off⟩ := R.deep' (p := p_set w) C hL e1
  have G := F.nar
  generalize hc : List.replicate 40 c = vl at *
  refine sExp (evI1 i_refvalue (ldl G rfl ⟨x, dx, d, rfl, G.ww, R₁.inst, ldl G rfl ⟨G.ww, hc ▸ s_refvalue G.cx h1 h2 fun s₂ e2 => ?_⟩⟩)) (by rfl) (by rfl)
  have G₂ := G.go e2
  refine xIf1 G₂ (b := false && true) (tAnd2 (tCmp (eL (V := OptB none) rfl rfl) eN (cIsNotO (ob := none))) fun q => nomatch q) (fun q => nomatch q) fun _ s₃ G₃ => ?_
  have R₃ := R₁.eff G₃.eff off
  refine sExp (evI1 i_refname (ldl G₃ rfl ⟨x, dx, d, rfl, G₃.ww, R₃.inst, ldl G₃ rfl ⟨G₃.ww, s_refname (n := n + 2) G₃.cx hz (fun s₄ _ e4 => ?_) fun hno e cls s₄ hcls T => by rw [hok] at hno; cases hno⟩⟩)) (by rfl) (by rfl)
  have G₄ := G₃.go e4
  refine xAsg G₄ (eGet1 (k := l) R₁.db R₁.off.2.2 off.2.2 R₁.nb.2.2 (eRefs R₁ off (eL rfl rfl)) (eL rfl ⟨_, rfl⟩)) fun v s₅ hv G₅ => ?_
  refine xPut G₅ (v := vl) (eL rfl ⟨_, rfl⟩) (eRefs R₁ off (eL rfl rfl)) (eL (V := IsB l) rfl ⟨_, rfl⟩) R₁.db R₁.off.2.2 off.2.2 R₁.nb.2.2 (by with_reducible exact leK (by assumption) rfl) fun s₆ s₇ G₆ e7 hd₇ => ?_
  have F₇ := (F.bak G₆).step (e7.mono (fun _ q => nomatch q) fun _ q => q) (fun b q => List.mem_singleton.mp q ▸ List.mem_append_right _ (.head _)) fun b q => List.mem_singleton.mp q ▸ off.2.2
  exact xRet F₇.nar eT fun v s₈ hv G₈ => by
    have hv : v = .bool true := hv
    subst hv
    exact ⟨(F₇.bak G₈).eff, fun e => h s₈ e (hd₇.eff G₈.eff R₁.off.2.2 off.2.2)⟩
theorem s_setF {c : UInt8} (C : Cx w (n + 5) A s) (R : Rep w A s.heap x dx d kvs) (hz : l.length ≤ 900) (h1 : 48 ≤ c.toNat) (h2 : c.toNat ≤ 57) (hok : okN l = false)
    (hE : ∀ e cls s', IsRE cls → Thrown w A [] s s' e cls → E (.ref e) s') :
    wpAny (model prg w) A (call (.ref 287) [.ref x, .bytes l.toArray t, .none, .bytes (List.replicate 40 c).toArray u]) Q E s := by
  refine wpAny_call (codeAny_mono (runE (p_set w) [] [("self", .ref x), ("name", .bytes l.toArray t), ("old_ref", .none), ("new_ref", .bytes (List.replicate 40 c).toArray u)] (Q := Q) (E := E) IsRE C (fun _ h => nomatch h) (BindsTo.of_eq rfl) rfl (fun e cls s' hK T => hE e cls s' hK T) fun L s₁ hL e1 F => ?_) fun r s' q => q)
  rw [List.append_nil] at F ⊢
  obtain ⟨R₁, off⟩ := R.deep' (p := p_set w) C hL e1
  generalize hc : List.replicate 40 c = vl at *
  refine sExp (evI1 i_refvalue (ldl F rfl ⟨x, dx, d, rfl, F.ww, R₁.inst, ldl F rfl ⟨F.ww, hc ▸ s_refvalue F.cx h1 h2 fun s₂ e2 => ?_⟩⟩)) (by rfl) (by rfl)
  have G₂ := F.go e2
  refine xIf1 G₂ (b := false && true) (tAnd2 (tCmp (eL (V := OptB none) rfl rfl) eN (cIsNotO (ob := none))) fun q => nomatch q) (fun q => nomatch q) fun _ s₃ G₃ => ?_
  have R₃ := R₁.eff G₃.eff off
  refine sExp (evI1 i_refname (ldl G₃ rfl ⟨x, dx, d, rfl, G₃.ww, R₃.inst, ldl G₃ rfl ⟨G₃.ww, s_refname (n := n + 2) G₃.cx hz (fun s₄ hno e4 => by rw [hok] at hno; cases hno) fun _ e cls s₄ hcls T => ?_⟩⟩)) (by rfl) (by rfl)
  exact ⟨e, cls, rfl, hcls, .inr ⟨_, s₃, G₃, T⟩⟩
noncomputable def p_rem (w : World) : FnPk w 301 := ⟨_, _, rfl, by kernel_rfl, rfl, ⟨⟨rfl, rfl, rfl⟩, rfl, rfl, rfl⟩⟩
theorem i_rem : IsMeth w "remove_if_equals" 301 := ⟨by kernel_rfl, by kernel_rfl, by kernel_rfl, by decide, by decide⟩
theorem g_ZERO : ∃ t, nsIn (KK w) mainGlobals "ZERO_SHA" = some (some (.bytes ZERO.toArray t)) := ⟨269, by kernel_rfl⟩
noncomputable def hitO (ob : Option By) (v : By) : Bool := match ob with | none => true | some r => v == r
theorem s_rem {ob : Option By} {ov : Value} (hb : OptB ob ov) (C : Cx w (n + 2) A s) (R : Rep w A s.heap x dx d kvs) (hlen : kvs.length ≤ 1000) (hv : get2 kvs l = some v)
    (h : ∀ s', Eff w (frs A) [d] s s' → DB w s'.heap d (if hitO ob v then wo kvs l else kvs) → Q (.bool (hitO ob v)) s') :
    wpAny (model prg w) A (call (.ref 301) [.ref x, .bytes l.toArray t, ov]) Q E s := by
  obtain ⟨od, hod⟩ := R.db.alive
  refine wpAny_call (run (p_rem w) [d] [("self", .ref x), ("name", .bytes l.toArray t), ("old_ref", ov)] C (fun b hb => List.mem_singleton.mp hb ▸ ⟨R.nb.2.2, Heap.lt_size hod, R.off.2.2⟩) (BindsTo.of_eq rfl) rfl fun L s₁ hL e1 F => ?_)
  obtain ⟨R₁, off⟩ := R.deep' (p := p_rem w) C hL e1
  have G := F.nar
  obtain ⟨lf, hlf, _⟩ := C.fx
  refine xIf1 G (b := ob.isSome && !hitO ob v) (tAnd2 (tCmp (eL rfl hb) eN cIsNotO) fun hs => ?_) (fun hq s₂ G₂ => ?_) fun hq s₂ G₂ => ?_
  · obtain ⟨r, rfl⟩ : ∃ r, ob = some r := by cases ob with | none => cases hs | some p => exact ⟨p, rfl⟩
    exact tCmp (Va := IsB v) ((eGet R₁.db R₁.off.2.2 off.2.2 R₁.nb.2.2 (eRefs R₁ off (eL rfl rfl)) (eL (V := IsB l) rfl ⟨_, rfl⟩) (eG g_ZERO.choose_spec rfl)).mono fun u hu => hu.2 v hv) (eL (V := IsB r) rfl hb) cNeB
  · have hh : hitO ob v = false := by cases ob with | none => cases hq | some r => simpa [hitO] using hq
    refine xRet G₂ eT fun u s₃ hu G₃ => ?_
    have hu : u = .bool false := hu
    subst hu
    have := R₁.db.eff G₃.eff R₁.off.2.2 off.2.2
    exact ⟨(F.bak G₃).eff, fun e => by have := h s₃ e (by rw [hh]; exact this); rwa [hh] at this⟩
  · have hh : hitO ob v = true := by cases ob with | none => rfl | some r => simpa [hitO] using hq
    refine xTry (mu := own (envP (p_rem w) L)) (n := n + 1) (g := s₁) (Around.frames_deeper hlf) rfl ?_
    refine sAsg (evm1 m_pop (G₂.ev (eRefs R₁ off (eL rfl rfl)) fun dv s₃ G₃ hd => ?_) (by rfl) (by rfl) (by rfl)) (by rfl)
    have hd : dv = .ref d := hd
    subst hd
    have hdb := R₁.db.eff G₃.eff R₁.off.2.2 off.2.2
    refine ⟨⟨hdb.typeIs, hdb.noDict⟩, ldl G₃ rfl (bPop hdb R₁.nb.2.2 hv (by with_reducible exact leK (by assumption) rfl) fun s₄ hd₄ e4 pv => ?_)⟩
    have F₄ := (F.bak G₃).step (e4.mono (fun _ q => nomatch q) fun _ q => q) (fun b q => List.mem_singleton.mp q ▸ List.mem_append_right _ (.head _)) fun b q => List.mem_singleton.mp q ▸ off.2.2
    refine st F₄.nar (fun s₅ G₅ => sNil (sNil ?_)) rfl
    refine xRet G₅ eT fun u s₆ hu G₆ => ?_
    have hu : u = .bool true := hu
    subst hu
    exact ⟨(F₄.bak G₆).eff, fun e => by have := h s₆ e (by rw [hh]; exact hd₄.eff G₆.eff R₁.off.2.2 off.2.2); rwa [hh] at this⟩
end
end Mine
end
section
open PySem PySem.W PyProof.Rows PySem.Calls PySem.Builtin
namespace Mine
section
variable {w : World} {mu mu0 : List Addr} {env : Env} {n : Nat} {A : Around} {g s s' : Shared} {m : Str → Option Value} {E : Value → Shared → Prop} {Q : Value → Shared → Prop} {a b x dx d C : Addr} {kvs : KV} {o value e₁ e₂ e₃ : Expr} {pos p' apos px : Pos} {t u : Tok} {i j : Int} {l k v : By} {arg : Expr}
noncomputable def p_taken (w : World) : FnPk w 379 := ⟨_, _, rfl, by kernel_rfl, rfl, ⟨⟨rfl, rfl, rfl⟩, rfl, rfl, rfl⟩⟩
theorem d_taken : IsDef w "_law_taken" 379 := ⟨by kernel_rfl, by kernel_rfl⟩
theorem s_taken {c : UInt8} (C : Cx w (n + 6) A s) (R : Rep w A s.heap x dx d kvs) (hlen : kvs.length ≤ 1000) (hz : l.length ≤ 900) (h1 : 48 ≤ c.toNat) (h2 : c.toNat ≤ 57)
    (h : ∀ s', Eff w (frs A) [d] s s' → DB w s'.heap d (if okN l then put kvs l (List.replicate 40 c) else kvs) → Q (.bool (okN l)) s') :
    wpAny (model prg w) A (call (.ref 379) [.ref x, .bytes l.toArray t, .bytes (List.replicate 40 c).toArray u]) Q E s := by
  obtain ⟨od, hod⟩ := R.db.alive
  refine wpAny_call (run (p_taken w) [d] [("refs", .ref x), ("name", .bytes l.toArray t), ("value", .bytes (List.replicate 40 c).toArray u)] C (fun b hb => List.mem_singleton.mp hb ▸ ⟨R.nb.2.2, Heap.lt_size hod, R.off.2.2⟩) (BindsTo.of_eq rfl) rfl fun L s₁ hL e1 F => ?_)
  obtain ⟨R₁, off⟩ := R.deep' (p := p_taken w) C hL e1
  obtain ⟨lf, hlf, _⟩ := C.fx
  have G := F.nar
  generalize hc : List.replicate 40 c = vl at *
  refine xTry (mu := own (envP (p_taken w) L)) (n := n + 5) (g := s₁) (Around.frames_deeper hlf) rfl ?_
  refine sRet (evI3 i_set (ldl G rfl ⟨x, dx, d, rfl, G.ww, R₁.inst, ldl G rfl (kNone (ldl G rfl ⟨G.ww, ?_⟩))⟩))
  rw [← hc]
  cases hok : okN l with
  | true =>
    refine s_setT G.cx R₁ hlen hz h1 h2 hok fun s₂ e2 hd₂ => ?_
    have F₂ := F.step (e2.mono (fun _ q => q) fun _ q => q) (fun b q => List.mem_singleton.mp q ▸ List.mem_append_right _ (.head _)) fun b q => List.mem_singleton.mp q ▸ off.2.2
    exact ⟨F₂.eff, fun e => by have := h s₂ e (by rw [hok, ← hc]; exact hd₂); rwa [hok] at this⟩
  | false =>
    refine s_setF G.cx R₁ hz h1 h2 hok fun e cls s₂ hcls T => ?_
    have hcls : cls = .ref 31 := hcls
    subst hcls
    refine ⟨e, _, _, _, rfl, G, T, clauseO G no_RE exR, fun s₃ G₃ => sRet (kBool ?_)⟩
    exact ⟨(F.bak G₃).eff, fun e => by have := h s₃ e (by rw [hok]; exact R₁.db.eff G₃.eff R₁.off.2.2 off.2.2); rwa [hok] at this⟩
noncomputable def p_syms (w : World) : FnPk w 231 := ⟨_, _, rfl, by kernel_rfl, rfl, ⟨⟨rfl, rfl, rfl⟩, rfl, rfl, rfl⟩⟩
theorem i_syms : IsMeth w "get_symrefs" 231 := ⟨by kernel_rfl, by kernel_rfl, by kernel_rfl, by decide, by decide⟩
inductive symsJ (w : World) (x : Addr) (U : Addr) (ord : List By) (kvs : KV) (i : Nat) (m : Str → Option Value) (h : Heap) : Prop
  | mk (h1 : m "self" = some (.ref x)) (h2 : m "ret" = some (.ref U)) (out : KV) (db : DB w h U out) (len : out.length ≤ i) (mem : ∀ y, get2 out y = if y ∈ ord.take i then (get2 kvs y).bind psv else none) : symsJ w x U ord kvs i m h
noncomputable def symsO (w : World) (U : Addr) (ord : List By) (kvs : KV) : Flow → (Str → Option Value) → Heap → Prop := fun f m h => match f with | .next => m "ret" = some (.ref U) ∧ ∃ out, DB w h U out ∧ ∀ y, get2 out y = if y ∈ ord then (get2 kvs y).bind psv else none | _ => False
theorem s_syms (C : Cx w (n + 4) A s) (R : Rep w A s.heap x dx d kvs) (K : KOk kvs) (hz : ∀ kv ∈ kvs, kv.2.length ≤ 4096)
    (h : ∀ D out s', Eff w (frs A) [] s s' → DB w s'.heap D out → (∀ y, get2 out y = (get2 kvs y).bind psv) → Fresh w s D → Q (.ref D) s') : wpAny (model prg w) A (call (.ref 231) [.ref x]) Q E s := by
  refine wpAny_call (run (p_syms w) [] [("self", .ref x)] C (fun _ h => nomatch h) (BindsTo.of_eq rfl) rfl fun L s₁ hL e1 F => ?_)
  rw [List.append_nil] at F
  have cz : ∀ p ∈ (envP (p_syms w) L).cells, (envP (p_syms w) L).cells.lookup p.1 = some p.2 := fun _ h => nomatch h
  obtain ⟨R₁, off⟩ := R.deep' (p := p_syms w) C hL e1
  refine sAsg (dNew fun U s₂ e2 hU hfU => ?_) rfl
  have F₂ := F.go e2
  have offU := F.fresh_off (F.alive cz) hfU
  refine st F₂.base (fun s₃ F₃ => ?_) rfl
  have e13 : Eff w (frs (A.deeper (envP (p_syms w) L))) (own (envP (p_syms w) L)) s₁ s₃ := F₂.eff.trans F₃.eff
  have hU₃ := hU.eff F₃.eff offU.2.1 offU.1
  have R₃ := R₁.eff e13 off
  have Fw := F₃.base.with1 offU.2.2.2.1 offU.2.1
  have neU : ∀ b o, s₁.heap.get? b = some o → b ≠ U := fun b o hb q => by rw [q, hfU.1] at hb; cases hb
  have offw : x ∉ U :: own (envP (p_syms w) L) ∧ dx ∉ U :: own (envP (p_syms w) L) ∧ d ∉ U :: own (envP (p_syms w) L) := by
    obtain ⟨es', n', hdx, _⟩ := R₁.inst.own
    obtain ⟨od, hod⟩ := R₁.db.alive
    exact ⟨fun q => (List.mem_cons.mp q).elim (neU _ _ R₁.inst.at_) off.1, fun q => (List.mem_cons.mp q).elim (neU _ _ hdx) off.2.1, fun q => (List.mem_cons.mp q).elim (neU _ _ hod) off.2.2⟩
  refine sForT Fw (F₃.alive1 cz hU₃.alive) (evI0 i_allkeys (ldl Fw rfl ⟨x, dx, d, rfl, Fw.ww, R₃.inst, s_allkeys Fw.cx R₃ K fun D ls s₅ e5 hD hm hl hfD => ?_⟩))
  have F₅ := Fw.go e5
  refine it_set (B := []) hD F₅ (fun b hb => let ⟨o, ho⟩ := F₃.alive1 cz hU₃.alive b hb; e5.alive b o (fun q => nomatch q) ho) (.inl hfD) fun it ord s₆ F₆ keep hp T => ?_
  have hN : ord.length ≤ kvs.length := by rw [hp.length_eq]; exact hl
  have hK1 := K.1
  have hU₆ : DB w s₆.heap U [] := (hU₃.eff e5 offU.2.1 (fun q => nomatch q)).at fun o e => keep _ _ e
  obtain ⟨lf, hlf, _⟩ := C.fx
  refine ⟨[], _, _, F₆, T _ _, (fun _ q => nomatch q), (symsJ w x U ord kvs),
    (symsO w U ord kvs),
    fun i m h h' hk ⟨a1, a2, us, a, b, c⟩ => ⟨a1, a2, us, a.at fun o e => hk U o (.head _) e, b, c⟩, ⟨rfl, rfl, [], hU₆, by simp, fun y => by simp [get2]⟩, ?_, ?_, ?_⟩
  · rintro i v m₁ s₇ hi ⟨k, tk, hk, rfl⟩ ⟨h1, h2, out, hO, hol, hom⟩ F₇
    have hkm : k ∈ kvs.map (·.1) := (hm k).mp (hp.mem_iff.mp (List.mem_of_getElem? hk))
    obtain ⟨p, hpk⟩ := get2_some hkm
    have hpz := hz _ (get2_mem hpk)
    have hmem : ∀ y, y ∈ ord.take (i + 1) ↔ y ∈ ord.take i ∨ y = k := fun y => by
      rw [List.take_add_one, hk, List.mem_append]; simp
    have R₇ := R₃.eff F₇.eff offw
    refine asgName (st F₇.only fun s₈ F₈ => ?_)
    have R₈ := R₇.eff F₈.eff off
    refine xTry (mu := own (envP (p_syms w) L)) (n := n + 3) (g := s₇) (Around.frames_deeper hlf) rfl ?_
    refine sAsg (evI1 i_read (ldl F₈ h1 ⟨x, dx, d, rfl, F₈.ww, R₈.inst, ldl F₈ rfl ⟨F₈.ww, s_read (k := k) (t := tk) F₈.cx R₈ K fun v s₉ e9 hv => ?_⟩⟩)) rfl
    rw [hpk] at hv
    refine st (F₈.go e9) (fun s₁₀ F₁₀ => ?_) rfl
    refine sCons (wpAny_Assert_holds (F₁₀.tt (tCmp (eL (V := OptB (some p)) rfl hv) eN cIsNotO) fun s₁₁ F₁₁ => ⟨rfl, ?_⟩))
    obtain ⟨tv, rfl⟩ := hv
    have same : ∀ y, y ≠ k → (if y ∈ ord.take (i + 1) then (get2 kvs y).bind psv else none) = if y ∈ ord.take i then (get2 kvs y).bind psv else none := fun y hy => by
      by_cases hq : y ∈ ord.take i
      · rw [if_pos hq, if_pos ((hmem y).mpr (.inl hq))]
      · rw [if_neg hq, if_neg fun q => ((hmem y).mp q).elim hq hy]
    refine sAsg (evc1 F₁₁ d_psv (ldl F₁₁ rfl ⟨F₁₁.ww, s_psv (n := n + 2) F₁₁.cx hpz (fun q v s₁₂ hq hv e12 => ?_) fun hq e cls s₁₂ hcls T' => ?_⟩)) rfl
    · refine st (F₁₁.go e12) (fun s₁₃ F₁₃ => sNil ?_) rfl
      refine sCons (wpAny_Assign_Subscript (F₁₃.ev (eRef (l := q) (eL rfl hv)) fun u s₁₄ F₁₄ ⟨tu, hu⟩ => ldl F₁₄ h2 (ldl F₁₄ rfl ?_)) (by rfl))
      subst hu
      refine dPut (hO.eff F₁₄.eff offU.2.1 offU.1) offU.2.2.2.1 (by omega) fun s₁₅ hU₁₅ e15 => sNil (sNil ?_)
      refine ⟨_, (F₁₄.with1 offU.2.2.2.1 offU.2.1).step (e15.mono (fun _ q => nomatch q) fun _ q => q) (fun b q => List.mem_singleton.mp q ▸ .head _) (fun b q => List.mem_singleton.mp q ▸ offU.1), h1, h2, _, hU₁₅, Nat.le_trans (put_len _ _ _) (by with_reducible exact Nat.add_le_add_right (by assumption) _), fun y => ?_⟩
      rw [put_get]
      by_cases hy : y = k
      · subst hy; rw [if_pos rfl, if_pos ((hmem y).mpr (.inr rfl)), hpk]; exact hq.symm
      · rw [if_neg hy, hom y, same y hy]
    · have hcls : cls = .type "ValueError" := hcls
      subst hcls
      refine ⟨e, _, _, _, rfl, F₁₁, T', clause1 F₁₁ no_VE boot_VE exT, fun s₁₂ F₁₂ => sPass (sNil (sNil ?_))⟩
      refine ⟨_, F₁₂.with1 offU.2.2.2.1 offU.2.1, h1, h2, out, hO.eff F₁₂.eff offU.2.1 offU.1, by with_reducible exact Nat.le_succ_of_le (by assumption), fun y => ?_⟩
      rw [hom y]
      by_cases hy : y = k
      · subst hy
        rw [if_pos ((hmem y).mpr (.inr rfl)), hpk]
        have : psv p = none := hq
        rw [Option.bind_some, this]; split <;> rfl
      · rw [same y hy]
  · rintro m' h' ⟨_, h2, out, hO, _, hom⟩
    rw [List.take_of_length_le (Nat.le_refl _)] at hom
    exact ⟨h2, out, hO, hom⟩
  · intro f m' s' F' hO
    cases f with
    | ret v => exact hO.elim
    | brk => exact hO.elim
    | cont => exact hO.elim
    | next =>
      obtain ⟨h2, out, hO, hom⟩ := hO
      have et : Eff w (frs (A.deeper (envP (p_syms w) L))) ([U] ++ own (envP (p_syms w) L)) s₁ s' := (e13.mono (fun _ q => q) fun b q => List.mem_append_right _ q).trans F'.eff
      have et' := et.shrink fun b q => List.mem_singleton.mp q ▸ hfU.1
      refine sRet (ldl F'.only h2 ⟨by rw [List.append_nil]; exact et', fun e => h U out s' e hO (fun y => ?_) (hfU.back e1)⟩)
      rw [hom y]
      by_cases hy : y ∈ kvs.map (·.1)
      · rw [if_pos (hp.mem_iff.mpr ((hm y).mpr hy))]
      · rw [if_neg fun q => hy ((hm y).mp (hp.mem_iff.mp q)), get2_none hy]; rfl
end
end Mine
end
section
open PySem PySem.W PyProof.Rows PySem.Calls PySem.Builtin
namespace Mine
theorem SetB.nodup {w : World} {h : Heap} {a : Addr} {ls : List By} (x : SetB w h a ls) : ls.Nodup := by obtain ⟨_, _, _, _, _, hn, _⟩ := x; exact hn
noncomputable def EvX (w : World) (mu : List Addr) (env : Env) (n : Nat) (A : Around) (g : Shared) (m : Str → Option Value) (K : Shared → Value → Shared → Prop) (e : Expr) : Prop :=
  ∀ s, Fm w mu env n A g m s → ∀ (Q : Value → Shared → Prop) (E : Value → Shared → Prop), (∀ v s', Eff w (frs A) [] s s' → K s v s' → Q v s') → wpAny (model prg w) A (eval e env) Q E s
inductive IsSrt (w : World) (l : List By) (s : Shared) (v : Value) (s' : Shared) : Prop
  | mk (D : Addr) (vs : List Value) (os : List By) (e : v = .ref D) (pl : s'.heap.PlainList D vs.toArray) (b : BytesAre vs os) (srt : Srt os l) (fr : Fresh w s D) : IsSrt w l s v s'
inductive IsSet (w : World) (ks : List By) (N : Nat) (s : Shared) (v : Value) (s' : Shared) : Prop
  | mk (D : Addr) (ls : List By) (e : v = .ref D) (b : SetB w s'.heap D ls) (m : ∀ y, y ∈ ls ↔ y ∈ ks) (len : ls.length ≤ N) (fr : Fresh w s D) : IsSet w ks N s v s'
noncomputable def IsDct (w : World) (A : Around) (kvs : KV) (s : Shared) (v : Value) (s' : Shared) : Prop := ∃ D, v = .ref D ∧ DB w s'.heap D kvs ∧ NB ≤ D ∧ D ∉ frs A
noncomputable def IsLst (ls : List By) (s : Shared) (v : Value) (s' : Shared) : Prop := ∃ D vs, v = .ref D ∧ s'.heap.PlainList D vs.toArray ∧ BytesAre vs ls
section
variable {w : World} {mu mu0 : List Addr} {env : Env} {n : Nat} {A : Around} {g s s' : Shared} {m : Str → Option Value} {E : Value → Shared → Prop} {Q : Value → Shared → Prop} {a b x dx d C : Addr} {kvs : KV} {o value e e₁ e₂ e₃ : Expr} {pos p' apos px : Pos} {t u : Tok} {i j : Int} {l l₁ l₂ ks : List By} {k v base : By} {arg : Expr} {N : Nat}
theorem no_sorted : nsIn (KK w) mainGlobals "sorted" = some none := by kernel_rfl
theorem boot_sorted : bootBuiltins "sorted" = some (.builtin "sorted") := by decide +kernel
theorem evSorted (F : Fm w mu env n A g m s) (h : wpAny (model prg w) A (eval e env) (fun v s₁ => wpAny (model prg w) A (call (.builtin "sorted") [v]) Q E s₁) E s)
    (hs : autoParam (starEach [e] env = [(false, eval e env)]) byRfl) (hx : autoParam (env.kindOf "sorted" = some .globalImplicit) byRfl) : wpAny (model prg w) A (eval (.Call (.Name "sorted" px) [e] [] pos) env) Q E s :=
  wpAny_Call_Name_kw (bu F no_sorted boot_sorted (by
    rw [hs]
    exact Calls.callWith_builtin rfl (Calls.evalArgs_plain (Calls.spliced_cons (wpAny_mono h (fun _ _ q => Calls.spliced_nil q) fun _ _ x => x)))) hx)
theorem xSortSet (h : EvX w mu env n A g m (IsSet w ks N) e) (hN : N < 64) (hl : l.Nodup) (hm : ∀ y, y ∈ ks ↔ y ∈ l) (hs : autoParam (starEach [e] env = [(false, eval e env)]) byRfl) (hx : autoParam (env.kindOf "sorted" = some .globalImplicit) byRfl) : EvX w mu env n A g m (IsSrt w l) (.Call (.Name "sorted" px) [e] [] pos) := fun s F Q E q => by
  refine evSorted F (h s F _ _ fun v s₁ e1 ⟨D, ls, hv, hD, hls, hlen, hf⟩ => ?_) hs hx
  subst hv
  have hn := hD.nodup
  refine sorted_set hD F.hh (by with_reducible exact Nat.lt_of_le_of_lt (by assumption) (by assumption)) fun D' vs os s₂ e2 hP hb hS hf' => q _ s₂ (e1.trans e2.of) ⟨D', vs, os, rfl, hP, hb, ⟨hS.1.trans (perm_of_mem hn hl fun y => (hls y).trans (hm y)), hS.2⟩, hf'.back e1⟩
theorem xSortDct (h : EvX w mu env n A g m (IsDct w A kvs) e) (hN : kvs.length < 64) (hs : autoParam (starEach [e] env = [(false, eval e env)]) byRfl) (hx : autoParam (env.kindOf "sorted" = some .globalImplicit) byRfl) : EvX w mu env n A g m (IsSrt w (kvs.map (·.1))) (.Call (.Name "sorted" px) [e] [] pos) := fun s F Q E q => by
  refine evSorted F (h s F _ _ fun v s₁ e1 ⟨D, hv, hD, hn, _⟩ => ?_) hs hx
  subst hv
  exact sorted_db hD hn F.hh hN fun D' vs os s₂ e2 hP hb hS hf' => q _ s₂ (e1.trans e2.of) ⟨D', vs, os, rfl, hP, hb, hS, hf'.back e1⟩
theorem xSortLst (h : EvX w mu env n A g m (IsLst l) e) (hN : l.length < 64) (hs : autoParam (starEach [e] env = [(false, eval e env)]) byRfl) (hx : autoParam (env.kindOf "sorted" = some .globalImplicit) byRfl) : EvX w mu env n A g m (IsSrt w l) (.Call (.Name "sorted" px) [e] [] pos) := fun s F Q E q => by
  refine evSorted F (h s F _ _ fun v s₁ e1 ⟨D, vs, hv, hD, hb⟩ => ?_) hs hx
  subst hv
  exact sorted_list hD hb hN fun D' vs os s₂ e2 hP hb hS hf' => q _ s₂ (e1.trans e2.of) ⟨D', vs, os, rfl, hP, hb, hS, hf'.back e1⟩
theorem plList {h : Heap} {U : Addr} {items : Array Value} (x : h.PlainList U items) : h.IsList U items := let ⟨n, ho⟩ := x; ⟨_, ho, rfl, n, rfl⟩
theorem cmpSrt {op : CmpOp} {bb : Bool} {Q : Value → Shared → Prop} (F : Fm w mu env n A g m s) (h₁ : EvX w mu env n A g m (IsSrt w l₁) e₁) (h₂ : EvX w mu env n A g m (IsSrt w l₂) e₂) (hp : l₁.Perm l₂) (hop : (op = .NotEq ∧ bb = false) ∨ (op = .Eq ∧ bb = true)) (q : ∀ s', Fm w mu env n A g m s' → Q (.bool bb) s') :
    wpAny (model prg w) A (eval e₁ env) (fun a s₁ => wpAny (model prg w) A (eval e₂ env) (fun b s₂ => wpAny (model prg w) A (compareOp op a b) Q E s₂) E s₁) E s := by
  refine h₁ s F _ _ fun v₁ s₁ e1 ⟨D₁, vs₁, os₁, hv₁, hP₁, hb₁, hS₁, hf₁⟩ => ?_
  have F₁ := F.go e1
  refine h₂ s₁ F₁ _ _ fun v₂ s₂ e2 ⟨D₂, vs₂, os₂, hv₂, hP₂, hb₂, hS₂, hf₂⟩ => ?_
  subst hv₁ hv₂
  have hno : D₁ ∉ frs A := fun hq => by
    obtain ⟨_, mm, hm⟩ := F.fx2 _ hq
    obtain ⟨o, _, _, ho, _⟩ := hm
    rw [hf₁.1] at ho; cases ho
  have hP₁' := plEff hP₁ e2 hno (fun q => nomatch q)
  have he : os₁ = os₂ := hS₁.eq hS₂ hp
  subst he
  rcases hop with ⟨rfl, rfl⟩ | ⟨rfl, rfl⟩
  · exact neL F.line (plList hP₁') hb₁ (plList hP₂) hb₂ (by rw [show (os₁ != os₁) = false by simp]; exact q _ (F₁.go e2))
  · exact eqL F.line (plList hP₁') hb₁ (plList hP₂) hb₂ (by rw [show (os₁ == os₁) = true by simp]; exact q _ (F₁.go e2))
theorem tSrtNe (h₁ : EvX w mu env n A g m (IsSrt w l₁) e₁) (h₂ : EvX w mu env n A g m (IsSrt w l₂) e₂) (hp : l₁.Perm l₂) (hm : autoParam (behindInMarks .NotEq e₂ = false) byUnf) : Tt w mu env n A g m false (.Compare e₁ [.NotEq] [e₂] pos) :=
  fun s F Q E q => wpAny_isTrue_Compare1 (cmpSrt F h₁ h₂ hp (.inl ⟨rfl, rfl⟩) fun s' F' => wpAny_truthy_bool (q s' F')) hm
theorem eSrtEq (h₁ : EvX w mu env n A g m (IsSrt w l₁) e₁) (h₂ : EvX w mu env n A g m (IsSrt w l₂) e₂) (hp : l₁.Perm l₂) (hm : autoParam (behindInMarks .Eq e₂ = false) byUnf) : Ev w mu env n A g m (IsT true) (.Compare e₁ [.Eq] [e₂] pos) :=
  fun s F Q E q => wpAny_Compare1 (cmpSrt F h₁ h₂ hp (.inr ⟨rfl, rfl⟩) fun s' F' => q _ s' F' rfl) hm
theorem Cx.new (C : Cx w n A s) {D : Addr} (h : Fresh w s D) : D ∉ frs A := fun q => by
  obtain ⟨_, mm, o, _, _, ho, _⟩ := C.fx2 D q
  rw [h.1] at ho; cases ho
theorem Fm.newD (F : Fm w mu env n A g m s) {D : Addr} (h : Fresh w s D) : D ∉ frs A := F.cx.new h
noncomputable def EvN (w : World) (mu : List Addr) (env : Env) (n : Nat) (A : Around) (g : Shared) (m : Str → Option Value) (v : Value) (e : Expr) : Prop :=
  ∀ s, Fm w mu env n A g m s → ∀ (Q : Value → Shared → Prop) (E : Value → Shared → Prop), Q v s → wpAny (model prg w) A (eval e env) Q E s
theorem nL {x : Str} {v : Value} (hm : m x = some v) (hl : autoParam (env.kindOf x = some .local) byRfl) (hd : autoParam ((x == ("__debug__" : Str)) = false) byDecide) : EvN w mu env n A g m v (.Name x pos) := fun s F Q E q => ldl F hm q hl hd
theorem nC {x : Str} {v : Value} {c : Addr} (hm : m x = some v) (hc : autoParam (env.cells.lookup x = some c) byRfl) (hl : autoParam (env.kindOf x = some .cell) byRfl) (hd : autoParam ((x == ("__debug__" : Str)) = false) byDecide) : EvN w mu env n A g m v (.Name x pos) := fun s F Q E q => ldc F hm q hc hl hd
theorem nDct (h : EvN w mu env n A g m (.ref d) e) (hd : DB w g.heap d kvs) (hf : d ∉ frs A) (hmu : d ∉ mu) (hn : NB ≤ d) : EvX w mu env n A g m (IsDct w A kvs) e := fun s F Q E q => h s F _ _ (q _ s (.refl ..) ⟨d, rfl, hd.eff F.eff hf hmu, hn, hf⟩)
variable {pl : Sem Bool}
abbrev MethE0 (env : Env) (o : Expr) (name : Str) (apos pos : Pos) (pl : Sem Bool) : Prop := eval (.Call (.Attribute o name apos) [] [] pos) env = (do
      let ov ← eval o env
      standAt apos.atName
      let (f, first) ← holding [ov] (getMethod ov name pl)
      callWith pos f first (backTo pos (starEach [] env)) (backToKw pos (keywordEach [] env)))
abbrev MethE1 (env : Env) (o arg : Expr) (name : Str) (apos pos : Pos) (pl : Sem Bool) : Prop := eval (.Call (.Attribute o name apos) [arg] [] pos) env = (do
      let ov ← eval o env
      standAt apos.atName
      let (f, first) ← holding [ov] (getMethod ov name pl)
      callWith pos f first (backTo pos (starEach [arg] env)) (backToKw pos (keywordEach [] env)))
theorem xKeys1 (R : Rep w A g.heap x dx d kvs) (off : x ∉ mu ∧ dx ∉ mu ∧ d ∉ mu) (K : KOk kvs) (hb : base.length ≤ 8192) (ho : EvN w mu env (n + 3) A g m (.ref x) o) (ha : EvN w mu env (n + 3) A g m (.bytes base.toArray t) arg)
    (h2 : autoParam (starEach [arg] env = [(false, eval arg env)]) byRfl) (he : autoParam (MethE1 env o arg "keys" apos pos pl) byRfl) : EvX w mu env (n + 3) A g m (IsSet w (subP kvs base) kvs.length) (.Call (.Attribute o "keys" apos) [arg] [] pos) := fun s F Q E q => by
  have R' := R.eff F.eff off
  exact evI1 i_keys (ho s F _ _ ⟨x, dx, d, rfl, F.ww, R'.inst, ha s F _ _ ⟨F.ww, c_keys2 (n := n) (ob := some base) ⟨t, rfl⟩ F.cx R' K (fun _ e => by cases e; exact hb) fun D ls s' e4 hD hm hl hf => q _ s' e4 ⟨D, ls, rfl, hD, hm, hl, hf⟩⟩⟩) h2 he
theorem xSub1 (R : Rep w A g.heap x dx d kvs) (off : x ∉ mu ∧ dx ∉ mu ∧ d ∉ mu) (K : KOk kvs) (hb : base.length ≤ 8192) (ho : EvN w mu env (n + 3) A g m (.ref x) o) (ha : EvN w mu env (n + 3) A g m (.bytes base.toArray t) arg)
    (h2 : autoParam (starEach [arg] env = [(false, eval arg env)]) byRfl) (he : autoParam (MethE1 env o arg "subkeys" apos pos pl) byRfl) : EvX w mu env (n + 3) A g m (IsSet w (subP kvs base) kvs.length) (.Call (.Attribute o "subkeys" apos) [arg] [] pos) := fun s F Q E q => by
  have R' := R.eff F.eff off
  exact evI1 i_subkeys (ho s F _ _ ⟨x, dx, d, rfl, F.ww, R'.inst, ha s F _ _ ⟨F.ww, s_subkeys (n := n + 1) F.cx R' K hb fun D ls s' e4 hD hm hl hf => q _ s' e4 ⟨D, ls, rfl, hD, hm, hl, hf⟩⟩⟩) h2 he
theorem xKeys0 (R : Rep w A g.heap x dx d kvs) (off : x ∉ mu ∧ dx ∉ mu ∧ d ∉ mu) (K : KOk kvs) (ho : EvN w mu env (n + 3) A g m (.ref x) o)
    (he : autoParam (MethE0 env o "keys" apos pos pl) byRfl) : EvX w mu env (n + 3) A g m (IsSet w (kvs.map (·.1)) kvs.length) (.Call (.Attribute o "keys" apos) [] [] pos) := fun s F Q E q => by
  have R' := R.eff F.eff off
  exact evI0 i_keys (ho s F _ _ ⟨x, dx, d, rfl, F.ww, R'.inst, c_keys1 (n := n) F.cx R' K fun D ls s' e4 hD hm hl hf => q _ s' e4 ⟨D, ls, rfl, hD, hm, hl, hf⟩⟩) he
theorem xAll0 (R : Rep w A g.heap x dx d kvs) (off : x ∉ mu ∧ dx ∉ mu ∧ d ∉ mu) (K : KOk kvs) (ho : EvN w mu env (n + 3) A g m (.ref x) o)
    (he : autoParam (MethE0 env o "allkeys" apos pos pl) byRfl) : EvX w mu env (n + 3) A g m (IsSet w (kvs.map (·.1)) kvs.length) (.Call (.Attribute o "allkeys" apos) [] [] pos) := fun s F Q E q => by
  have R' := R.eff F.eff off
  exact evI0 i_allkeys (ho s F _ _ ⟨x, dx, d, rfl, F.ww, R'.inst, s_allkeys (n := n + 2) F.cx R' K fun D ls s' e4 hD hm hl hf => q _ s' e4 ⟨D, ls, rfl, hD, hm, hl, hf⟩⟩) he
inductive IsDctF (w : World) (A : Around) (f : By → Option By) (N : Nat) (s : Shared) (v : Value) (s' : Shared) : Prop
  | mk (D : Addr) (out : KV) (e : v = .ref D) (b : DB w s'.heap D out) (m : ∀ y, get2 out y = f y) (len : out.length ≤ N) (nb : NB ≤ D) (nf : D ∉ frs A) (fr : Fresh w s D) : IsDctF w A f N s v s'
theorem b_asd2 {v : Value} (W : WW w s.heap) : BindsTo s (p_asdict w).fd ⟨[.ref x, v], []⟩ [("self", .ref x), ("base", v)] := binds_K (T := 161) W.kin rfl rfl rfl rfl rfl
theorem b_asd1 (W : WW w s.heap) : BindsTo s (p_asdict w).fd ⟨[.ref x], []⟩ [("self", .ref x), ("base", .none)] := binds_K (T := 161) W.kin rfl rfl rfl rfl rfl
theorem xAsD1 {f : By → Option By} (R : Rep w A g.heap x dx d kvs) (off : x ∉ mu ∧ dx ∉ mu ∧ d ∉ mu) (K : KOk kvs) (hb : base.length ≤ 8192)
    (hfull : ∀ y ∈ subP kvs base, y.length ≤ 8192 ∧ (fullP (some base) y).length ≤ 8192 ∧ ∃ names, Fol kvs (fullP (some base) y) names (f y) ∧ names.length ≤ 5)
    (ho : EvN w mu env (n + 6) A g m (.ref x) o) (ha : EvN w mu env (n + 6) A g m (.bytes base.toArray t) arg)
    (h2 : autoParam (starEach [arg] env = [(false, eval arg env)]) byRfl) (he : autoParam (MethE1 env o arg "as_dict" apos pos pl) byRfl) : EvX w mu env (n + 6) A g m (IsDctF w A (fun y => if y ∈ subP kvs base then f y else none) kvs.length) (.Call (.Attribute o "as_dict" apos) [arg] [] pos) := fun s F Q E q => by
  have R' := R.eff F.eff off
  exact evI1 i_asdict (ho s F _ _ ⟨x, dx, d, rfl, F.ww, R'.inst, ha s F _ _ ⟨F.ww, wpAny_call (s_asdict (n := n) (ob := some base) ⟨t, rfl⟩ F.cx R' K (fun _ e => by cases e; exact hb) hfull (b_asd2 F.ww) fun D out s' e4 hD hm hl hf => q _ s' e4 ⟨D, out, rfl, hD, hm, hl, hf.2 F.ww, F.newD hf, hf⟩)⟩⟩) h2 he
theorem xAsD0 {f : By → Option By} (R : Rep w A g.heap x dx d kvs) (off : x ∉ mu ∧ dx ∉ mu ∧ d ∉ mu) (K : KOk kvs)
    (hfull : ∀ y ∈ kvs.map (·.1), y.length ≤ 8192 ∧ (fullP none y).length ≤ 8192 ∧ ∃ names, Fol kvs (fullP none y) names (f y) ∧ names.length ≤ 5)
    (ho : EvN w mu env (n + 6) A g m (.ref x) o) (he : autoParam (MethE0 env o "as_dict" apos pos pl) byRfl) : EvX w mu env (n + 6) A g m (IsDctF w A (fun y => if y ∈ kvs.map (·.1) then f y else none) kvs.length) (.Call (.Attribute o "as_dict" apos) [] [] pos) := fun s F Q E q => by
  have R' := R.eff F.eff off
  exact evI0 i_asdict (ho s F _ _ ⟨x, dx, d, rfl, F.ww, R'.inst, wpAny_call (s_asdict (n := n) (ob := none) rfl F.cx R' K (fun _ e => by cases e) hfull (b_asd1 F.ww) fun D out s' e4 hD hm hl hf => q _ s' e4 ⟨D, out, rfl, hD, hm, hl, hf.2 F.ww, F.newD hf, hf⟩)⟩) he
theorem cmpDctF {op : CmpOp} {bb : Bool} {f : By → Option By} {N : Nat} {kb : KV} {Q : Value → Shared → Prop} (F : Fm w mu env n A g m s) (h₁ : EvX w mu env n A g m (IsDctF w A f N) e₁) (h₂ : EvX w mu env n A g m (IsDct w A kb) e₂) (hp : ∀ y, f y = get2 kb y) (hop : (op = .NotEq ∧ bb = false) ∨ (op = .Eq ∧ bb = true)) (q : ∀ s', Fm w mu env n A g m s' → Q (.bool bb) s') :
    wpAny (model prg w) A (eval e₁ env) (fun a s₁ => wpAny (model prg w) A (eval e₂ env) (fun b s₂ => wpAny (model prg w) A (compareOp op a b) Q E s₂) E s₁) E s := by
  refine h₁ s F _ _ fun v₁ s₁ e1 ⟨D₁, out, hv₁, hD₁, ho, _, hn₁, hno, _⟩ => ?_
  have F₁ := F.go e1
  refine h₂ s₁ F₁ _ _ fun v₂ s₂ e2 ⟨D₂, hv₂, hD₂, hn₂, _⟩ => ?_
  subst hv₁ hv₂
  have hD₁' := hD₁.eff e2 hno (fun q => nomatch q)
  have hp' : ∀ y, get2 out y = get2 kb y := fun y => (ho y).trans (hp y)
  rcases hop with ⟨rfl, rfl⟩ | ⟨rfl, rfl⟩
  · exact neD hD₁' hD₂ hn₁ hn₂ F.line hp' (q _ (F₁.go e2))
  · exact eqD hD₁' hD₂ hn₁ hn₂ F.line hp' (q _ (F₁.go e2))
theorem tDctNe {f : By → Option By} {N : Nat} {kb : KV} (h₁ : EvX w mu env n A g m (IsDctF w A f N) e₁) (h₂ : EvX w mu env n A g m (IsDct w A kb) e₂) (hp : ∀ y, f y = get2 kb y) (hm : autoParam (behindInMarks .NotEq e₂ = false) byUnf) : Tt w mu env n A g m false (.Compare e₁ [.NotEq] [e₂] pos) :=
  fun s F Q E q => wpAny_isTrue_Compare1 (cmpDctF F h₁ h₂ hp (.inl ⟨rfl, rfl⟩) fun s' F' => wpAny_truthy_bool (q s' F')) hm
theorem eDctEq {f : By → Option By} {N : Nat} {kb : KV} (h₁ : EvX w mu env n A g m (IsDctF w A f N) e₁) (h₂ : EvX w mu env n A g m (IsDct w A kb) e₂) (hp : ∀ y, f y = get2 kb y) (hm : autoParam (behindInMarks .Eq e₂ = false) byUnf) : Ev w mu env n A g m (IsT true) (.Compare e₁ [.Eq] [e₂] pos) :=
  fun s F Q E q => wpAny_Compare1 (cmpDctF F h₁ h₂ hp (.inr ⟨rfl, rfl⟩) fun s' F' => q _ s' F' rfl) hm
end
end Mine
end
section
open PySem PySem.W PyProof.Rows PySem.Calls PySem.Builtin
namespace Mine
structure SameB (kvs H : KV) (base : By) (f : By → Option By) : Prop where
  mem : ∀ y, y ∈ subP kvs base ↔ y ∈ (underP H base).map (·.1)
  full : ∀ y ∈ subP kvs base, y.length ≤ 8192 ∧ (fullP (some base) y).length ≤ 8192 ∧ ∃ names, Fol kvs (fullP (some base) y) names (f y) ∧ names.length ≤ 5
  val : ∀ y, (if y ∈ subP kvs base then f y else none) = get2 (underP H base) y
section
variable {w : World} {mu mu0 : List Addr} {env : Env} {n : Nat} {A : Around} {g s s' : Shared} {m : Str → Option Value} {E : Value → Shared → Prop} {Q : Value → Shared → Prop} {a b x dx d hd C : Addr} {kvs H : KV} {o value e e₁ e₂ e₃ : Expr} {pos p' apos px : Pos} {t u : Tok} {i j : Int} {l l₁ l₂ ks : List By} {k v base : By} {arg : Expr} {N : Nat} {f : By → Option By}
noncomputable def p_same (w : World) : FnPk w 405 := ⟨_, _, rfl, by kernel_rfl, rfl, ⟨⟨rfl, rfl, rfl⟩, rfl, rfl, rfl⟩⟩
theorem d_same : IsDef w "_law_same" 405 := ⟨by kernel_rfl, by kernel_rfl⟩
theorem s_same (S : SameB kvs H base f) (C : Cx w (n + 7) A s) (R : Rep w A s.heap x dx d kvs) (K : KOk kvs) (h64 : kvs.length < 64) (hH : DB w s.heap hd H) (hn : NB ≤ hd) (hfr : hd ∉ frs A) (hb : base.length ≤ 4096) (hHk : ∀ kv ∈ H, kv.1.length ≤ 4096) (hHl : H.length < 64)
    (h : ∀ s', Eff w (frs A) [] s s' → Q (.bool true) s') :
    wpAny (model prg w) A (call (.ref 405) [.ref x, .ref hd, .bytes base.toArray t]) Q E s := by
  refine wpAny_call (run (p_same w) [] [("refs", .ref x), ("held", .ref hd), ("base", .bytes base.toArray t)] C (fun _ h => nomatch h) (BindsTo.of_eq rfl) rfl fun L s₁ hL e1 F => ?_)
  rw [List.append_nil] at F
  have cz : ∀ p ∈ (envP (p_same w) L).cells, (envP (p_same w) L).cells.lookup p.1 = some p.2 := fun _ h => nomatch h
  obtain ⟨oh, hoh⟩ := hH.alive
  obtain ⟨R₁, off⟩ := R.deep' (p := p_same w) C hL e1
  have hH₁ := hH.eff e1 (fun q => nomatch q) (fun q => nomatch q)
  have hho : hd ∉ own (envP (p_same w) L) := Fm.own_size hL hoh
  have hhf : hd ∉ frs (A.deeper (envP (p_same w) L)) := frs_deep C hL hoh hfr
  refine sAsg (evc2 F d_under (ldl F rfl (ldl F rfl ⟨F.ww, s_under (n := n + 5) F.cx hH₁ hn hhf hb hHk (by with_reducible exact ltE (by assumption) rfl) fun D s₂ e2 hD hfD => ?_⟩))) rfl
  have F₂ := F.go e2
  have offD := F.fresh_off (F.alive cz) hfD
  refine st F₂.base (fun s₃ F₃ => ?_) rfl
  have hD₃ := hD.eff F₃.eff offD.2.1 offD.1
  have e13 := F₂.eff.trans F₃.eff
  have R₃ := R₁.eff e13 off
  have Fb := F₃.base
  have hul : (underP H base).length < 64 := by
    have := underP_len base H []
    unfold underP
    simp at this ⊢
    with_reducible exact Nat.lt_of_le_of_lt (by assumption) (by assumption)
  refine xIf1 Fb (b := false || false) (tOr2 (tSrtNe (xSortSet (xKeys1 (n := n + 3) R₃ off K (by with_reducible exact leK (by assumption) rfl) (nL rfl) (nL rfl)) h64 hD₃.nodup S.mem) (xSortDct (nDct (nL rfl) hD₃ offD.2.1 offD.1 offD.2.2.2.1) hul) (.refl _)) fun _ => tSrtNe (xSortSet (xSub1 (n := n + 3) R₃ off K (by with_reducible exact leK (by assumption) rfl) (nL rfl) (nL rfl)) h64 hD₃.nodup S.mem) (xSortDct (nDct (nL rfl) hD₃ offD.2.1 offD.1 offD.2.2.2.1) hul) (.refl _)) (fun h => nomatch h) fun _ s₄ F₄ => ?_
  exact xRet F₄ (eDctEq (xAsD1 (n := n) R₃ off K (by with_reducible exact leK (by assumption) rfl) S.full (nL rfl) (nL rfl)) (nDct (nL rfl) hD₃ offD.2.1 offD.1 offD.2.2.2.1) S.val) fun v s₅ hv F₅ => by
    have hv : v = .bool true := hv
    subst hv
    exact ⟨by rw [List.append_nil]; exact e13.trans F₅.eff, fun e => h s₅ e⟩
end
end Mine
end
section
open PySem PySem.W PyProof.Rows PySem.Calls PySem.Builtin
namespace Mine
section
variable {w : World} {mu mu0 us : List Addr} {env : Env} {n : Nat} {A : Around} {g s s' : Shared} {m : Str → Option Value} {E : Value → Shared → Prop} {Q : Value → Shared → Prop} {a b x dx d hd C U : Addr} {kvs H : KV} {o value e e₁ e₂ e₃ k₁ k₂ v₁ v₂ : Expr} {pos p' apos px : Pos} {t u : Tok} {i j : Int} {l l₁ l₂ ks : List By} {k v base : By} {arg : Expr} {N : Nat} {f : By → Option By}
theorem asg2s {x y : Str} {T : Addr} {a b : Value} {R : Unit → Shared → Prop} (F : Fm w mu env n A g m s) (hT : s.heap.IsTuple T #[a, b]) (h : ∀ s', Fm w mu env n A g (upd (upd m y b) x a) s' → R () s')
    (hx : autoParam (env.kindOf x = some .local) byRfl) (hy : autoParam (env.kindOf y = some .local) byRfl) :
    wpAny (model prg w) A (unpackItems (.ref T) [x, y].length none) (fun items s₂ => wpAny (model prg w) A (assignInOrder ([x, y].reverse.map fun n => bindName env n) items.reverse) R E s₂) E s := by
  have key : ∀ (Q' : List Value → Shared → Prop), (∀ h', Heap.ExtBut s.heap.objs.size s.heap h' → Q' [a, b] { s with heap := h' }) → wpAny (model prg w) A (unpackItems (.ref T) 2 none) Q' E s := fun Q' h => unpackItems_tuple (items := #[a, b]) F.hh hT h
  refine key _ fun h' hk => ?_
  have F' : Fm w mu env n A g m { s with heap := h' } := F.go (fr := []) (.keeps (fun b o e => hk b o (fun q => Nat.lt_irrefl _ (q ▸ Heap.lt_size e)) e) rfl rfl)
  show wpAny _ A (do holding [a] (bindName env y b); assignInOrder [bindName env x] [a]) R E _
  refine wpAny_bind (wpAny_holding (bindName_ (st F' (fun s₁ F₁ => ?_) hy)))
  show wpAny _ A (do holding [] (bindName env x a); assignInOrder [] []) R E _
  refine wpAny_bind (wpAny_holding (bindName_ (st F₁ (fun s₂ F₂ => ?_) hx)))
  exact wpAny_pure (h s₂ F₂)
theorem dbNil {h : Heap} : DB w (h.push { cls := .type "dict", data := .dict #[] }) h.objs.size [] := ⟨[], ⟨_, #[], 0, Heap.get?_push_size _ rfl, ⟨rfl, rfl, rfl⟩, rfl, fun _ he => by simp at he, .nil, by simp⟩, .nil⟩
theorem dDisp1 (F : Fm w mu env n A g m s) (hmu : ∀ b ∈ mu, ∃ o, s.heap.get? b = some o) (hk : ∀ g, Ev w mu env n A g m (IsB k) k₁) (hv : ∀ g, Ev w mu env n A g m (IsB v) v₁)
    (h : ∀ D s', Fm w mu env n A g m s' → DB w s'.heap D [(k, v)] → Fresh w g D → Q (.ref D) s') : wpAny (model prg w) A (eval (.Dict [some k₁] [v₁] pos) env) Q E s := by
  refine wpAny_Dict_pairs (knd := bytesKind prg w) (pairs := [(eval k₁ env, do let x ← eval v₁ env; standAt pos; pure x)]) rfl (by simp) (by simp) ?_
  have e0 : Eff w [] [] s { s with heap := s.heap.push { cls := .type "dict", data := .dict #[] } } := .push _
  have F₀ := F.go e0
  have hf : Fresh w s s.heap.objs.size := Fresh.size w s
  have off := F.fresh_off hmu hf
  refine evalPairs_cons (F₀.base.ev (hk _) fun kv s₁ F₁ ⟨tk, h1⟩ => ?_)
  refine wpAny_bind (F₁.ev (hv _) fun vv s₂ F₂ ⟨tv, h2⟩ => wpAny_bind (wpAny_standAt (wpAny_pure ?_)))
  subst h1 h2
  have hd1 : DB w s₂.heap s.heap.objs.size [] := (dbNil (w := w) (h := s.heap)).eff F₂.eff off.2.1 off.1
  refine evalPairs_nil ⟨[(k, .bytes v.toArray tv)], ⟨bk k tk, rfl, trivial⟩, ?_, fun h' hm hs => ?_⟩
  · obtain ⟨ps, hm, hp⟩ := hd1
    cases hp
    exact hm
  · refine h _ _ ((F₀.after F₂).other (nw := [s.heap.objs.size]) (fun b q => List.mem_singleton.mp q ▸ off.2.2.2.1) (fun b q => List.mem_singleton.mp q ▸ off.2.2.2.2) (fun b q => List.mem_singleton.mp q ▸ off.1) fun b o hb e => (hs.2 b fun q => hb (by simp [q])).trans e) ?_ ⟨off.2.2.2.2, fun _ => off.2.2.2.1⟩
    refine ⟨_, hm, ?_⟩
    have := (PairsB.nil).stored k v tv
    exact this
theorem dDisp2 {k' v' : By} (F : Fm w mu env n A g m s) (hmu : ∀ b ∈ mu, ∃ o, s.heap.get? b = some o) (hk : ∀ g, Ev w mu env n A g m (IsB k) k₁) (hv : ∀ g, Ev w mu env n A g m (IsB v) v₁) (hk2 : ∀ g, Ev w mu env n A g m (IsB k') k₂) (hv2 : ∀ g, Ev w mu env n A g m (IsB v') v₂)
    (h : ∀ D s', Fm w mu env n A g m s' → DB w s'.heap D (put [(k, v)] k' v') → Fresh w g D → Q (.ref D) s') : wpAny (model prg w) A (eval (.Dict [some k₁, some k₂] [v₁, v₂] pos) env) Q E s := by
  refine wpAny_Dict_pairs (knd := bytesKind prg w) (pairs := [(eval k₁ env, do let x ← eval v₁ env; standAt pos; pure x), (eval k₂ env, do let x ← eval v₂ env; standAt pos; pure x)]) rfl (by simp) (by simp) ?_
  have e0 : Eff w [] [] s { s with heap := s.heap.push { cls := .type "dict", data := .dict #[] } } := .push _
  have F₀ := F.go e0
  have hf : Fresh w s s.heap.objs.size := Fresh.size w s
  have off := F.fresh_off hmu hf
  refine evalPairs_cons (F₀.base.ev (hk _) fun kv s₁ F₁ ⟨tk, h1⟩ => ?_)
  refine wpAny_bind (F₁.ev (hv _) fun vv s₂ F₂ ⟨tv, h2⟩ => wpAny_bind (wpAny_standAt (wpAny_pure ?_)))
  refine evalPairs_cons (F₂.ev (hk2 _) fun kv2 s₃ F₃ ⟨tk2, h3⟩ => ?_)
  refine wpAny_bind (F₃.ev (hv2 _) fun vv2 s₄ F₄ ⟨tv2, h4⟩ => wpAny_bind (wpAny_standAt (wpAny_pure ?_)))
  subst h1 h2 h3 h4
  have hd1 : DB w s₄.heap s.heap.objs.size [] := (dbNil (w := w) (h := s.heap)).eff F₄.eff off.2.1 off.1
  refine evalPairs_nil ⟨[(k, .bytes v.toArray tv), (k', .bytes v'.toArray tv2)], ⟨bk k tk, rfl, bk k' tk2, rfl, trivial⟩, ?_, fun h' hm hs => ?_⟩
  · obtain ⟨ps, hm, hp⟩ := hd1
    cases hp
    exact hm
  · refine h _ _ ((F₀.after F₄).other (nw := [s.heap.objs.size]) (fun b q => List.mem_singleton.mp q ▸ off.2.2.2.1) (fun b q => List.mem_singleton.mp q ▸ off.2.2.2.2) (fun b q => List.mem_singleton.mp q ▸ off.1) fun b o hb e => (hs.2 b fun q => hb (by simp [q])).trans e) ?_ ⟨off.2.2.2.2, fun _ => off.2.2.2.1⟩
    refine ⟨_, hm, ?_⟩
    exact ((PairsB.nil).stored k v tv).stored k' v' tv2
theorem Fm.withL (F : Fm w (Mine.own env) env n A g m s) (h : ∀ U ∈ us, NB ≤ U ∧ U ∉ frs A) : Fm w (us ++ Mine.own env) env n A g m s := F.wide (fun b q => List.mem_append_right _ q) fun b q => by
  rcases List.mem_append.mp q with q | q
  · exact .inr (h b q)
  · exact .inl q
theorem Fm.onlyL (F : Fm w (us ++ Mine.own env) env n A g m s) : Fm w (Mine.own env) env n A s m s := F.narrow (fun b q => q) fun b q => List.mem_append_right _ q
theorem Fm.aliveL (F : Fm w (Mine.own env) env n A g m s) (cz : ∀ p ∈ env.cells, env.cells.lookup p.1 = some p.2) (hu : ∀ U ∈ us, ∃ o, s.heap.get? U = some o) : ∀ b ∈ us ++ Mine.own env, ∃ o, s.heap.get? b = some o := fun b q => by
  rcases List.mem_append.mp q with q | q
  · exact hu b q
  · exact F.alive cz b q
theorem Fm.backL {m₁ : Str → Option Value} {s₁ : Shared} (F : Fm w (us ++ Mine.own env) env n A g m₁ s₁) (G : Fm w (Mine.own env) env n A s₁ m s) : Fm w (us ++ Mine.own env) env n A g m s := F.rejoin G fun b q => List.mem_append_right _ q
theorem Fm.stepL (F : Fm w (us ++ Mine.own env) env n A g m s) (e : Eff w [] [U] s s') (h1 : U ∈ us) (h2 : U ∉ Mine.own env) : Fm w (us ++ Mine.own env) env n A g m s' :=
  F.step (e.mono (fun _ q => nomatch q) fun _ q => q) (fun b q => List.mem_singleton.mp q ▸ List.mem_append_left _ h1) fun b q => List.mem_singleton.mp q ▸ h2
theorem nLst {vs : List Value} (h : EvN w mu env n A g m (.ref U) e) (hd : g.heap.PlainList U vs.toArray) (hb : BytesAre vs l) (hf : U ∉ frs A) (hmu : U ∉ mu) : EvX w mu env n A g m (IsLst l) e := fun s F Q E q => h s F _ _ (q _ s (.refl ..) ⟨U, vs, rfl, plEff hd F.eff hf hmu, hb⟩)
theorem tInD (hk : Ev w mu env n A g m (IsB k) e₁) (h : EvN w mu env n A g m (.ref d) e₂) (hd : DB w g.heap d kvs) (hf : d ∉ frs A) (hmu : d ∉ mu) (hn : NB ≤ d) (hm : autoParam (behindInMarks .In e₂ = false) byUnf) : Tt w mu env n A g m (get2 kvs k).isSome (.Compare e₁ [.In] [e₂] pos) :=
  fun s F Q E q => wpAny_isTrue_Compare1 (hk s F _ _ fun v s₁ F₁ ⟨tv, hv⟩ => by
    subst hv
    exact h s₁ F₁ _ _ (dIn (hd.eff F₁.eff hf hmu) (lo_of hn) fun s₂ e2 => wpAny_truthy_bool (q s₂ (F₁.go e2)))) hm
end
end Mine
end
section
open PySem PySem.W PyProof.Rows PySem.Calls PySem.Builtin
namespace Mine
noncomputable def endsP (H : KV) (head : By) : KV := match get2 H head with | some v => put H HEADB v | none => H
structure SecB (K2 H : KV) (head : By) (f : By → Option By) : Prop where
  noH : HEADB ∉ H.map (·.1)
  keys : ∀ y, y ∈ K2.map (·.1) ↔ y ∈ HEADB :: H.map (·.1)
  fol : Fol K2 HEADB [HEADB, head] (get2 H head)
  sym : ∀ y, (get2 K2 y).bind psv = get2 [(HEADB, head)] y
  full : ∀ y ∈ K2.map (·.1), y.length ≤ 8192 ∧ (fullP none y).length ≤ 8192 ∧ ∃ names, Fol K2 (fullP none y) names (f y) ∧ names.length ≤ 5
  val : ∀ y, (if y ∈ K2.map (·.1) then f y else none) = get2 (endsP H head) y
section
variable {w : World} {mu mu0 us : List Addr} {env : Env} {n : Nat} {A : Around} {g s s' : Shared} {m : Str → Option Value} {E : Value → Shared → Prop} {Q : Value → Shared → Prop} {a b x dx d hd C U : Addr} {K2 H : KV} {head : By} {t u : Tok} {f : By → Option By}
noncomputable def p_second (w : World) : FnPk w 412 := ⟨_, _, rfl, by kernel_rfl, rfl, ⟨⟨rfl, rfl, rfl⟩, rfl, rfl, rfl⟩⟩
theorem d_second : IsDef w "_law_second" 412 := ⟨by kernel_rfl, by kernel_rfl⟩
theorem take_kv {kvs : KV} (hn : (kvs.map (·.1)).Nodup) {i : Nat} {k v : By} (h : kvs[i]? = some (k, v)) : put (kvs.take i) k v = kvs.take (i + 1) := by
  rw [put_new, take_succ' h]
  intro q
  obtain ⟨x, hx, rfl⟩ := List.mem_map.mp q
  obtain ⟨j, hj⟩ := List.getElem?_of_mem hx
  have hji : j < i := by
    have := (List.getElem?_eq_some_iff.mp hj).1
    simp at this; omega
  rw [List.getElem?_take, if_pos hji] at hj
  have h1 : (kvs.map (·.1))[j]? = some x.1 := by rw [List.getElem?_map, hj]; rfl
  have h2 : (kvs.map (·.1))[i]? = some x.1 := by rw [List.getElem?_map, h]; rfl
  obtain ⟨a1, b1⟩ := List.getElem?_eq_some_iff.mp h1
  obtain ⟨a2, b2⟩ := List.getElem?_eq_some_iff.mp h2
  exact List.pairwise_iff_getElem.mp hn j i a1 a2 hji (b1.trans b2.symm)
theorem tupEff {fr : List Addr} {T : Addr} {items : Array Value} (x : s.heap.IsTuple T items) (e : Eff w fr mu s s') (hm : T ∉ mu) : s'.heap.IsTuple T items := by
  obtain ⟨o, ho, hc, n', hd⟩ := x
  obtain ⟨sl, a, c⟩ := e.keep T o hm ho (.inl (by unfold solid; rw [hd]))
  exact ⟨_, a, hc, n', hd⟩
set_option maxHeartbeats 1000000 in
inductive secondJ (w : World) (x : Addr) (hd : Addr) (head : By) (t : Tok) (U : Addr) (V : Addr) (H : KV) (i : Nat) (m : Str → Option Value) (h : Heap) : Prop
  | mk (h1 : m "second" = some (.ref x)) (h2 : m "kept" = some (.ref hd)) (h3 : m "head" = some (.bytes head.toArray t)) (h4 : m "names" = some (.ref U)) (h5 : m "ends" = some (.ref V)) (pl : ∃ vs, h.PlainList U vs.toArray ∧ BytesAre vs (HEADB :: (H.take i).map (·.1))) (db : DB w h V (H.take i)) : secondJ w x hd head t U V H i m h
noncomputable def secondO (w : World) (x : Addr) (hd : Addr) (head : By) (t : Tok) (U : Addr) (V : Addr) (H : KV) : Flow → (Str → Option Value) → Heap → Prop := fun f m h => match f with | .next => m "second" = some (.ref x) ∧ m "kept" = some (.ref hd) ∧ m "head" = some (.bytes head.toArray t) ∧ m "names" = some (.ref U) ∧ m "ends" = some (.ref V) ∧ (∃ vs, h.PlainList U vs.toArray ∧ BytesAre vs (HEADB :: H.map (·.1))) ∧ DB w h V H | _ => False
theorem s_second (S : SecB K2 H head f) (C : Cx w (n + 7) A s) (R : Rep w A s.heap x dx d K2) (K : KOk K2) (hKz : ∀ kv ∈ K2, kv.2.length ≤ 4096) (h64 : K2.length < 60) (hH : DB w s.heap hd H) (hn : NB ≤ hd) (hfr : hd ∉ frs A) (hHl : H.length < 60)
    (h : ∀ s', Eff w (frs A) [] s s' → Q (.bool true) s') :
    wpAny (model prg w) A (call (.ref 412) [.ref x, .ref hd, .bytes head.toArray t]) Q E s := by
  refine wpAny_call (run (p_second w) [] [("second", .ref x), ("kept", .ref hd), ("head", .bytes head.toArray t)] C (fun _ h => nomatch h) (BindsTo.of_eq rfl) rfl fun L s₁ hL e1 F => ?_)
  rw [List.append_nil] at F
  have cz : ∀ p ∈ (envP (p_second w) L).cells, (envP (p_second w) L).cells.lookup p.1 = some p.2 := fun _ h => nomatch h
  obtain ⟨oh, hoh⟩ := hH.alive
  obtain ⟨R₁, off⟩ := R.deep' (p := p_second w) C hL e1
  have hH₁ := hH.eff e1 (fun q => nomatch q) (fun q => nomatch q)
  have hho : hd ∉ own (envP (p_second w) L) := Fm.own_size hL hoh
  have hhf : hd ∉ frs (A.deeper (envP (p_second w) L)) := frs_deep C hL hoh hfr
  refine sCons (Assign_Tuple_swapped (names := ["names", "ends"]) (wpAny_Tuple (wpAny_items_cons (disp F (eaB (l := HEADB) eB eaB0) (fun vs hv => by rw [hv.length]; simp) fun U vs₀ s₂ s₃ F₂ e3 hU hfU hb₀ => ?_))))
  have F₃ := F₂.go e3
  refine wpAny_items_cons (dNew fun V s₄ e4 hV hfV => wpAny_items_nil ⟨by size_fits, ?_⟩)
  have F₄ := F₃.go e4
  have offU := F₂.fresh_off (F₂.alive cz) hfU
  have offV := F₃.fresh_off (F₃.alive cz) hfV
  have hUV : U ≠ V := fun q => by obtain ⟨o, ho⟩ := plAlive hU; rw [q, hfV.1] at ho; cases ho
  have hU₄ := plEff hU e4 (fun q => nomatch q) (fun q => nomatch q)
  have e5 : Eff w [] [] s₄ { s₄ with heap := s₄.heap.push { cls := .type "tuple", data := .seq [Value.ref U, Value.ref V].toArray } } := .push _
  have F₅ := F₄.go e5
  refine asg2s (b := .ref V) F₅.base ⟨_, Heap.get?_push_size _ rfl, rfl, _, rfl⟩ fun s₆ F₆ => ?_
  have hU₆ := plEff (plEff hU₄ e5 (fun q => nomatch q) (fun q => nomatch q)) F₆.eff offU.2.1 offU.1
  have hV₆ := (hV.eff e5 (fun q => nomatch q) (fun q => nomatch q)).eff F₆.eff offV.2.1 offV.1
  have e16 : Eff w (frs (A.deeper (envP (p_second w) L))) (own (envP (p_second w) L)) s₁ s₆ := F₅.eff.trans F₆.eff
  have hH₆ := hH₁.eff e16 hhf hho
  have R₆ := R₁.eff e16 off
  have FL := F₆.base.withL (us := [U, V]) (all2 ⟨offU.2.2.2.1, offU.2.1⟩ ⟨offV.2.2.2.1, offV.2.1⟩)
  have al := F₆.aliveL (us := [U, V]) cz (all2 (plAlive hU₆) hV₆.alive)
  have neA : ∀ b o, s₁.heap.get? b = some o → b ≠ U ∧ b ≠ V := fun b o hb => by
    have hfU1 := (hfU.back F₂.eff offU.1).1
    have hfV1 := (hfV.back F₃.eff offV.1).1
    exact ⟨fun q => (by rw [q, hfU1] at hb; cases hb), fun q => (by rw [q, hfV1] at hb; cases hb)⟩
  have offL : ∀ b, (∃ o, s₁.heap.get? b = some o) → b ∉ own (envP (p_second w) L) → b ∉ [U, V] ++ own (envP (p_second w) L) := fun b ⟨o, hb⟩ h1 q => by
    rcases List.mem_append.mp q with q | q
    · simp only [List.mem_cons, List.not_mem_nil, or_false] at q
      exact q.elim (neA b o hb).1 (neA b o hb).2
    · exact h1 q
  have hhm := offL hd hH₁.alive hho
  have hHn := hH₆.nodup
  refine sForT FL al (ldl FL rfl (it_db hH₆ hn FL al (B := [hd]) (.inr (.head _)) fun it s₇ F₇ keep T => ?_))
  refine ⟨[hd], _, _, F₇, T _ _, all1 ⟨hhm, hhf, fun q => absurd (q ▸ hn) (by decide)⟩, (secondJ w x hd head t U V H),
    (secondO w x hd head t U V H),
    fun i m h h' hk ⟨a1, a2, a3, a4, a5, ⟨vs, ⟨n', a⟩, b⟩, c⟩ => ⟨a1, a2, a3, a4, a5, ⟨vs, ⟨n', hk U _ (.head _) a⟩, b⟩, c.at fun o e => hk V o (.tail _ (.head _)) e⟩, ⟨rfl, rfl, rfl, rfl, rfl, ⟨vs₀, let ⟨n', a⟩ := hU₆; ⟨n', keep _ _ a⟩, hb₀⟩, hV₆.at fun o e => keep _ _ e⟩, ?_, ?_, ?_⟩
  · rintro i v m₁ s₈ hi ⟨k, u, tk, hk, rfl⟩ ⟨h1, h2, h3, h4, h5, ⟨vs, hUv, hvs⟩, hVv⟩ F₈
    have hi' : i < H.length := hi
    have hH₈ := hH₆.eff F₈.eff hhf hhm
    have B₈ := F₈.base
    refine asgName (st F₈.onlyL fun s₉ F₉ => ?_)
    have hvl := hvs.length
    refine xAppend (l := k) F₉ hUv offU.2.1 offU.1 offU.2.2.2.1 (by simp at hvl; omega) (eL h4 rfl) (eL rfl ⟨_, rfl⟩) fun s₁₀ s₁₁ tl F₁₀ e11 hU₁₁ => ?_
    have B₁₁ := (B₈.backL F₁₀).stepL e11 (.head _) offU.1
    have G := B₁₁.onlyL
    have hH₁₁ := hH₈.eff B₁₁.eff hhf hhm
    have hV₁₁ : DB w s₁₁.heap V (H.take i) := (hVv.eff F₁₀.eff offV.2.1 offV.1).eff e11 (fun q => nomatch q) fun q => hUV (List.mem_singleton.mp q).symm
    refine xPut G (k := k) (v := u) (eDGet hH₁₁ hhf hho (get2_at hHn hk) (eL h2 rfl) (eL rfl ⟨_, rfl⟩)) (eL h5 rfl) (eL rfl ⟨_, rfl⟩) hV₁₁ offV.2.1 offV.1 offV.2.2.2.1 (by simp; omega) fun s₁₂ s₁₃ F₁₂ e13 hV₁₃ => sNil ?_
    have B₁₃ := (B₁₁.backL F₁₂).stepL e13 (.tail _ (.head _)) offV.1
    refine ⟨_, B₁₃, h1, h2, h3, h4, h5, ⟨_, plEff (plEff hU₁₁ F₁₂.eff offU.2.1 offU.1) e13 (fun q => nomatch q) (fun q => hUV (List.mem_singleton.mp q)), ?_⟩, by rw [take_kv hHn hk] at hV₁₃; exact hV₁₃⟩
    rw [take_succ' hk, List.map_append]
    exact hvs.app (.cons .nil)
  · rintro m' h' ⟨h1, h2, h3, h4, h5, hU, hV⟩
    rw [List.take_of_length_le (Nat.le_refl _)] at hU hV
    exact ⟨h1, h2, h3, h4, h5, hU, hV⟩
  · intro f' m' s₈ F₈ hO
    cases f' with
    | ret v => exact hO.elim
    | brk => exact hO.elim
    | cont => exact hO.elim
    | next =>
      obtain ⟨h1, h2, h3, h4, h5, ⟨vs, hUv, hvs⟩, hVv⟩ := hO
      have hH₈ := hH₆.eff F₈.eff hhf hhm
      have last : ∀ (s₉ : Shared) m₉, m₉ "second" = some (.ref x) → m₉ "kept" = some (.ref hd) → m₉ "head" = some (.bytes head.toArray t) → m₉ "names" = some (.ref U) → m₉ "ends" = some (.ref V) →
          s₉.heap.PlainList U vs.toArray → DB w s₉.heap V (endsP H head) → Fm w ([U, V] ++ own (envP (p_second w) L)) (envP (p_second w) L) (n + 6) (A.deeper (envP (p_second w) L)) s₆ m₉ s₉ →
          wpAny (model prg w) (A.deeper (envP (p_second w) L)) (execs ((p_second w).body.drop 3) (envP (p_second w) L)) (Left w A (envP (p_second w) L) [] s s₁ Q) (fun _ _ => False) s₉ := by
        intro s₉ m₉ k1 k2 k3 k4 k5 hU₉ hV₉ B₉
        have G := B₉.onlyL
        have hH₉ := hH₆.eff B₉.eff hhf hhm
        obtain ⟨es', n', hdx, _⟩ := R₁.inst.own
        have R₉ := R₆.eff B₉.eff ⟨offL x ⟨_, R₁.inst.at_⟩ off.1, offL dx ⟨_, hdx⟩ off.2.1, offL d R₁.db.alive off.2.2⟩
        refine xIf1 G (b := false || false) (tOr2 (fun s F Q E q => wpAny_isTrue_Compare1 (evI1 i_follow (ldl F k1 ⟨x, dx, d, rfl, F.ww, (R₉.eff F.eff off).inst, kBytes F fun tk s₁₀ F₁₀ => ⟨F₁₀.ww, s_follow (n := n + 3) F₁₀.cx (R₉.eff F₁₀.eff off) K (by decide) S.fol (by simp) fun T U1 v vs1 s₂ e2 hT hU1 hb1 hv hfU1 hfT => ?_⟩⟩))) fun _ => fun s F Q E q => wpAny_isTrue_Compare1 (evI0 i_syms (ldl F k1 ⟨x, dx, d, rfl, F.ww, (R₉.eff F.eff off).inst, s_syms (n := n + 2) F.cx (R₉.eff F.eff off) K hKz fun D out s₂ e2 hD hout hfD => ?_⟩))) (fun q => nomatch q) fun _ s₁₀ G₁₀ => ?_
        · have F₂ := F₁₀.go e2
          have offT := F₁₀.fresh_off (F₁₀.alive cz) hfT
          have offU1 := F₁₀.fresh_off (F₁₀.alive cz) hfU1
          refine wpAny_Tuple (wpAny_items_cons (disp F₂.base (eaB (l := HEADB) eB (eaB (l := head) (eL k3 ⟨_, rfl⟩) eaB0)) (fun vs hv => by rw [hv.length]; simp) fun U2 vs2 s₃ s₄ F₃ e4 hU2 hfU2 hb2 => ?_))
          have F₄ := F₃.go e4
          have hH₄ := (hH₉.eff F₂.eff hhf hho).eff F₄.eff hhf hho
          refine wpAny_items_cons (F₄.base.ev (eGet1 (k := head) hH₄ hhf hho hn (eL k2 rfl) (eL k3 ⟨_, rfl⟩)) fun v2 s₅ F₅ hv2 => wpAny_items_nil ⟨by size_fits, ?_⟩)
          have offU2 := F₃.fresh_off (F₃.alive cz) hfU2
          have e56 : Eff w [] [] s₅ { s₅ with heap := s₅.heap.push { cls := .type "tuple", data := .seq [Value.ref U2, v2].toArray } } := .push _
          have F₆ := F₅.go e56
          have hne : U1 ≠ U2 := fun q => by
            obtain ⟨o, ho⟩ := plAlive (plEff hU1 F₃.eff offU1.2.1 offU1.1)
            rw [q, hfU2.1] at ho; cases ho
          refine neTF (ob := get2 H head) (tupEff (tupEff (tupEff hT F₃.eff offT.1) e4 (fun q => nomatch q)) F₆.eff offT.1) ⟨_, Heap.get?_push_size _ rfl, rfl, _, rfl⟩ hne (plList (plEff (plEff (plEff hU1 F₃.eff offU1.2.1 offU1.1) e4 (fun q => nomatch q) (fun q => nomatch q)) F₆.eff offU1.2.1 offU1.1)) hb1 (plList (plEff hU2 F₆.eff offU2.2.1 offU2.1)) hb2 hv hv2 F₆.line (wpAny_truthy_bool (q _ ((F₂.after F₄).after F₆)))
        · have F₂ := F.go e2
          have offD := F.fresh_off (F.alive cz) hfD
          refine dDisp1 (k := HEADB) (v := head) F₂.base (F₂.alive cz) (fun g => eB) (fun g => eL k3 ⟨_, rfl⟩) fun D2 s₃ F₃ hD2 hfD2 => ?_
          have hD₃ := hD.eff F₃.eff offD.2.1 offD.1
          exact neD hD₃ hD2 offD.2.2.2.1 (hfD2.2 F₂.ww) F₃.line (fun y => (hout y).trans (S.sym y)) (wpAny_truthy_bool (q _ (F₂.after F₃)))
        · have hnd : (HEADB :: H.map (·.1)).Nodup := List.nodup_cons.mpr ⟨S.noH, hHn⟩
          refine xRet G₁₀ (eAnd2 (eSrtEq (xSortSet (xKeys0 (n := n + 3) R₉ off K (nL k1)) (by with_reducible exact ltK (by assumption) rfl) hnd S.keys) (xSortLst (nLst (nL k4) hU₉ hvs offU.2.1 offU.1) (by simp; omega)) (.refl _)) fun _ => eDctEq (xAsD0 (n := n) R₉ off K S.full (nL k1)) (nDct (nL k5) hV₉ offV.2.1 offV.1 offV.2.2.2.1) S.val) fun v s₁₁ hv G₁₁ => ?_
          have hv : v = .bool true := hv
          subst hv
          have et : Eff w (frs (A.deeper (envP (p_second w) L))) ([U, V] ++ own (envP (p_second w) L)) s₁ s₁₁ := (e16.mono (fun _ q => q) fun b q => List.mem_append_right _ q).trans (B₉.backL G₁₁).eff
          have et' := et.shrink fun b q => by
            simp only [List.mem_cons, List.not_mem_nil, or_false] at q
            rcases q with rfl | rfl
            · exact (hfU.back F₂.eff offU.1).1
            · exact (hfV.back F₃.eff offV.1).1
          exact ⟨by rw [List.append_nil]; exact et', fun e => h s₁₁ e⟩
      refine xIf1 F₈.onlyL (tInD (k := head) (eL h3 ⟨_, rfl⟩) (nL h2) hH₈ hhf hho hn) (fun hb s₉ G₉ => ?_) fun hb s₉ G₉ => ?_
      · obtain ⟨v, hv⟩ := Option.isSome_iff_exists.mp hb
        refine xPut G₉ (k := HEADB) (v := v) (eDGet hH₈ hhf hho hv (eL h2 rfl) (eL h3 ⟨_, rfl⟩)) (eL h5 rfl) eB hVv offV.2.1 offV.1 offV.2.2.2.1 (by with_reducible exact ltE (by assumption) rfl) fun s₁₀ s₁₁ G₁₀ e11 hV₁₁ => sNil ?_
        have B₁₁ := (F₈.backL G₁₀).stepL e11 (.tail _ (.head _)) offV.1
        refine last s₁₁ _ h1 h2 h3 h4 h5 (plEff (plEff hUv G₁₀.eff offU.2.1 offU.1) e11 (fun q => nomatch q) fun q => hUV (List.mem_singleton.mp q)) (by unfold endsP; rw [hv]; exact hV₁₁) B₁₁
      · have hv : get2 H head = none := by cases hq : get2 H head with | none => rfl | some p => rw [hq] at hb; cases hb
        exact last s₉ _ h1 h2 h3 h4 h5 (plEff hUv G₉.eff offU.2.1 offU.1) (by unfold endsP; rw [hv]; exact hVv.eff G₉.eff offV.2.1 offV.1) (F₈.backL G₉)
end
end Mine
end
section
open PySem PySem.W PyProof.Rows PySem.Calls PySem.Builtin
namespace Mine
section
variable {w : World} {mu mu0 us : List Addr} {env : Env} {n : Nat} {A : Around} {g s s' : Shared} {m : Str → Option Value} {E : Value → Shared → Prop} {Q : Value → Shared → Prop} {a b x dx d hd C U : Addr} {K2 H : KV} {head : By} {t u : Tok} {f : By → Option By} {e e₁ e₂ : Expr} {pos px : Pos} {i j : Int}
noncomputable def p_law (w : World) : FnPk w 417 := ⟨_, _, rfl, by kernel_rfl, rfl, ⟨⟨rfl, rfl, rfl⟩, rfl, rfl, rfl⟩⟩
theorem IntsAre'.of : ∀ {vs : List Value} {ls : List Int}, IntsAre vs ls → IntsAre' vs ls
  | _, _, .nil => .nil
  | _, _, .cons _ _ h => .cons (IntsAre'.of h)
theorem IntsAre'.cut {vs : List Value} {ls : List Int} (h : IntsAre' vs ls) (lo hi : Option Int) : IntsAre' (cutL vs lo hi) (cutL ls lo hi) := by
  have td : ∀ {vs : List Value} {ls : List Int}, IntsAre' vs ls → ∀ k, IntsAre' (vs.drop k) (ls.drop k) := by
    intro vs ls h
    induction h with
    | nil => intro k; simp; exact .nil
    | cons h' ih => intro k; cases k with
      | zero => exact .cons h'
      | succ k => exact ih k
  have tt : ∀ {vs : List Value} {ls : List Int}, IntsAre' vs ls → ∀ k, IntsAre' (vs.take k) (ls.take k) := by
    intro vs ls h
    induction h with
    | nil => intro k; simp; exact .nil
    | cons h' ih => intro k; cases k with
      | zero => exact .nil
      | succ k => exact .cons (ih k)
  unfold cutL
  rw [h.length]
  exact tt (td h _) _
theorem Fm.joinL {m' : Str → Option Value} (F : Fm w (Mine.own env) env n A g m s) (B : Fm w (us ++ Mine.own env) env n A s m' s') (h : ∀ U ∈ us, g.heap.get? U = none) : Fm w (Mine.own env) env n A g m' s' :=
  ⟨((F.eff.mono (fun _ q => q) fun b q => List.mem_append_right us q).trans B.eff).shrink h, B.here, fun _ q => q, B.ww, B.bare, B.hh, B.depth, B.units, F.fx, F.low, B.kind, B.glob, B.bui, trivial⟩
theorem eMod (h₁ : Ev w mu env n A g m (IsI i) e₁) (h₂ : Ev w mu env n A g m (IsI j) e₂) (hj : j ≠ 0) : Ev w mu env n A g m (IsI (i.fmod j)) (.BinOp e₁ .Mod e₂ pos) :=
  eOp h₁ h₂ fun a b ⟨ta, ha⟩ ⟨tb, hb⟩ s F Q E q => by subst ha hb; exact mod_int' hj (q _ _ (F.toks _) ⟨_, rfl⟩)
theorem ePow (h₁ : Ev w mu env n A g m (IsI i) e₁) (h₂ : Ev w mu env n A g m (IsI j) e₂) (hj : 0 ≤ j) (hj2 : j ≤ 1000000) (hi : i.natAbs < 2 ^ 64) : Ev w mu env n A g m (IsI (i ^ j.toNat)) (.BinOp e₁ .Pow e₂ pos) :=
  eOp h₁ h₂ fun a b ⟨ta, ha⟩ ⟨tb, hb⟩ s F Q E q => by subst ha hb; exact PyProof.Rows.pow_int_small hj hj2 hi (q _ _ (F.toks _) ⟨_, rfl⟩)
theorem tLst {vs : List Value} (h : EvN w mu env n A g m (.ref U) e) (hd : g.heap.PlainList U vs.toArray) (hf : U ∉ frs A) (hmu : U ∉ mu) (hz : vs.length ≤ 1000000) (he : autoParam (isTrue e env (eval e env) = (do let v ← eval e env; standAt e.pos; holding [v] (truthy v))) byRfl) : Tt w mu env n A g m (!vs.isEmpty) e :=
  fun s F Q E q => isTrue_plain (h s F _ _ (wpAny_truthy_list (plList (plEff hd F.eff hf hmu)) (by simp; omega) (by
    have := q _ (F.toks (s.toks + 1 + 1))
    cases vs with
    | nil => exact this
    | cons a r => exact this))) he
theorem eItemI {vs : List Value} {zs : List Int} {k : Nat} {z : Int} (h : EvN w mu env n A g m (.ref U) e₁) (hd : g.heap.PlainList U vs.toArray) (hv : IntsAre' vs zs) (hf : U ∉ frs A) (hmu : U ∉ mu) (hk : zs[k]? = some z) (hz : k < 1000000) (hi : Ev w mu env n A g m (IsI (k : Int)) e₂)
    (hs : autoParam (∀ o i, ∃ ops, subscripted e₂ false o i = operate ops (getItem o i)) byEx) : Ev w mu env n A g m (IsI z) (.Subscript e₁ e₂ pos) := fun s F Q E q => by
  refine evSub gi_list (h s F _ _ (hi s F _ _ fun i s₂ F₂ ⟨u, hu⟩ => ?_)) hs
  subst hu
  have hl₂ := plList (plEff hd F₂.eff hf hmu)
  have h1 : k < zs.length := (List.getElem?_eq_some_iff.mp hk).1
  have h2 : vs[k]? = some (vs[k]'(by rw [hv.length]; exact h1)) := List.getElem?_eq_getElem _
  obtain ⟨l', t', hl', e⟩ := hv.get h2
  rw [hk] at hl'; cases hl'
  exact ⟨hl₂.typeIs, wpAny_getItem_list hl₂ (by with_reducible exact Int.natCast_nonneg _) (by omega) (by simpa using h2) (e ▸ q _ s₂ F₂ ⟨_, rfl⟩)⟩
set_option maxHeartbeats 1000000 in
theorem law0 {l : Addr} {vs : List Value} {ns : List Int} {L : Nat} {R : Flow → Shared → Prop} {E : Value → Shared → Prop} {s₁ : Shared} (F : Fm w (own (envP (p_law w) L)) (envP (p_law w) L) n A s₁ m s₁) (cz : ∀ p ∈ (envP (p_law w) L).cells, (envP (p_law w) L).cells.lookup p.1 = some p.2)
    (hm : m "script" = some (.ref l)) (hl : s₁.heap.IsList l vs.toArray) (hlo : l ∉ own (envP (p_law w) L)) (hlf : l ∉ frs A) (hi : IntsAre vs ns) (hz : ns.length ≤ 63)
    (h : ∀ s' m' (N : Addr) us zs (first rest : Int) (kind : Nat) (spot deep gone : Int), Fm w (own (envP (p_law w) L)) (envP (p_law w) L) n A s₁ m' s' → s'.heap.PlainList N us.toArray → N ∉ own (envP (p_law w) L) → N ∉ frs A → IntsAre' us zs → zs.length ≤ 4 → (∀ z ∈ zs, 0 ≤ z) →
      m' "numbers" = some (.ref N) → (∃ t, m' "first" = some (.int first t)) → 0 ≤ first → (∃ t, m' "rest" = some (.int rest t)) → 0 ≤ rest → (∃ t, m' "kind" = some (.int (kind : Int) t)) → kind < 12 → (∃ t, m' "spot" = some (.int spot t)) → 0 ≤ spot → (∃ t, m' "deep" = some (.int deep t)) → 0 ≤ deep → (∃ t, m' "gone" = some (.int gone t)) → 0 ≤ gone →
      wpAny (model prg w) A (execs ((p_law w).body.drop 6) (envP (p_law w) L)) R E s') :
    wpAny (model prg w) A (execs (p_law w).body (envP (p_law w) L)) R E s₁ := by
  have hvl : vs.length = ns.length := hi.length
  refine lcompA (y := "numbers") F (CompOk.of (cl := []) F rfl rfl (fun _ h => nomatch h)) ?_ (by rfl) (.inl rfl)
  refine slL F hl hlo (by with_reducible exact leE (by assumption) (by assumption) rfl) (eL hm rfl) pNone (pSome (eI (i := 4))) fun b s₂ s₃ F₂ e3 hb hfb => ?_
  have F₃ := F₂.go e3
  have offb := F₂.fresh_off (F₂.alive cz) hfb
  have hc4 : cutL vs none (some 4) = vs.take 4 := cut_to vs 4
  rw [hc4] at hb
  have hi4 : IntsAre' (vs.take 4) (ns.take 4) := by
    have := (IntsAre'.of hi).cut none (some 4)
    rw [hc4, show cutL ns none (some 4) = ns.take 4 from cut_to ns 4] at this
    exact this
  refine it_list hb F₃ (F₃.alive cz) (B := []) (.inl (F₂.freshB hfb offb.1)) fun it s₄ F₄ keep T => ?_
  have hlen4 : (vs.take 4).length ≤ 4 := by simp; omega
  refine compT F cz F₄ (T _ _) (fun _ h => nomatch h) (by rw [sizeLine_eq]; with_reducible exact leK (by assumption) rfl) (fun i ys => ∃ zs, IntsAre' ys zs ∧ zs.length = i ∧ ∀ z ∈ zs, 0 ≤ z) (fun i ys hk => by obtain ⟨zs, h1, h2, _⟩ := hk; rw [h1.length, h2]; exact Nat.le_refl _) ⟨[], .nil, rfl, by simp⟩ ?_ ?_
  · intro i v ys Cc m₁ s₅ hi' hv ⟨zs, hz1, hz2, hz3⟩ F₅ Fc hmm
    obtain ⟨q, tq, hq, rfl⟩ := hi4.get hv
    refine asgName (st Fc fun s₆ F₆ => wpAny_tests_nil ?_)
    rw [if_pos rfl]
    refine F₆.ev (eMod (eL (V := IsI q) rfl ⟨_, rfl⟩) (ePow (eI (i := 3)) (eI (i := 60)) (by decide) (by decide) (by decide)) (by decide)) fun v s₇ F₇ ⟨tv, hv'⟩ => ⟨⟨_, F₇, fun _ h => nomatch h⟩, ?_⟩
    subst hv'
    refine ⟨_, hz1.app (.cons .nil), by simp [hz2], fun z hz => ?_⟩
    rcases List.mem_append.mp hz with hz | hz
    · exact hz3 z hz
    · rw [List.mem_singleton.mp hz]; exact Int.fmod_nonneg_of_pos _ (by decide)
  · intro D ys s₅ ⟨zs, hz1, hz2, hz3⟩ F₅ hD hfD hnD
    refine ⟨F₅, hnD, hfD, hD, fun s₆ F₆ hD₆ => ?_⟩
    have hP₆ : s₆.heap.PlainList D ys.toArray := ⟨_, hD₆⟩
    have hzl : zs.length ≤ 4 := by with_reducible exact leE (by assumption) (by assumption) rfl
    have hyl := hz1.length
    have hDf : D ∉ frs A := fun q => by
      obtain ⟨_, mm, o, _, _, ho, _⟩ := F.fx2 D q
      rw [hfD.1] at ho; cases ho
    have Fb := F₆.base
    -- first
    refine xAsg (V := fun v => ∃ i, 0 ≤ i ∧ IsI i v) Fb (eIfE (b := !ys.isEmpty) (tLst (nL rfl) hP₆ hDf hnD (by with_reducible exact leE (by assumption) (by assumption) rfl)) (fun hb => ?_) fun hb => (eI (i := 0)).mono fun v hv => ⟨0, Int.le_refl _, hv⟩) fun v s₇ ⟨first, hf0, tf, hv⟩ F₇ => ?_
    · obtain ⟨z, hz0⟩ : ∃ z, zs[0]? = some z := by
        cases zs with
        | nil => have : ys = [] := List.length_eq_zero_iff.mp hyl; subst this; cases hb
        | cons z r => exact ⟨z, rfl⟩
      exact (eItemI (k := 0) (nL rfl) hP₆ hz1 hDf hnD hz0 (by decide) (eI (i := 0))).mono fun v hv => ⟨z, hz3 z (List.mem_of_getElem? hz0), hv⟩
    subst hv
    refine xDivmod F₇ (eL rfl ⟨_, rfl⟩) (eI (i := 12)) (by decide) (by decide) fun t1 t2 s₈ F₈ => ?_
    obtain ⟨q1, kind, hk1, hk2⟩ := fdm (b := 12) hf0 (by decide)
    refine xDivmod F₈ (eL rfl ⟨_, rfl⟩) (eI (i := 4)) (by decide) (by decide) fun t3 t4 s₉ F₉ => ?_
    obtain ⟨q2, spot, hs1, hs2⟩ := fdm (b := 4) q1 (by decide)
    refine xDivmod F₉ (eL rfl ⟨_, rfl⟩) (eI (i := 8)) (by decide) (by decide) fun t5 t6 s₁₀ F₁₀ => ?_
    obtain ⟨q3, deep, hd1, hd2⟩ := fdm (b := 8) q2 (by decide)
    refine xDivmod F₁₀ (eL rfl ⟨_, rfl⟩) (eI (i := 4)) (by decide) (by decide) fun t7 t8 s₁₁ F₁₁ => ?_
    obtain ⟨q4, gone, hg1, hg2⟩ := fdm (b := 4) q3 (by decide)
    refine h s₁₁ _ D ys zs first _ kind spot deep gone (F₆.after F₁₁) (plEff hP₆ F₁₁.eff hDf hnD) hnD hDf hz1 hzl hz3 rfl ⟨_, rfl⟩ hf0 ⟨_, rfl⟩ q4 ⟨t2, ?_⟩ hk2 ⟨t4, ?_⟩ (by with_reducible exact Int.natCast_nonneg _) ⟨t6, ?_⟩ (by with_reducible exact Int.natCast_nonneg _) ⟨t8, ?_⟩ (by with_reducible exact Int.natCast_nonneg _)
    · rw [← hk1]; rfl
    · rw [← hs1]; rfl
    · rw [← hd1]; rfl
    · rw [← hg1]; rfl
end
end Mine
end
section
open PySem PySem.W PyProof.Rows PySem.Calls PySem.Builtin
namespace Mine
section
variable {w : World} {mu mu0 us : List Addr} {env : Env} {n : Nat} {A : Around} {g s s' s₁ : Shared} {m : Str → Option Value} {E : Value → Shared → Prop} {Q : Value → Shared → Prop} {a b x dx d hd C U : Addr} {K2 H : KV} {head : By} {t u : Tok} {f : By → Option By} {e e₁ e₂ : Expr} {pos px : Pos} {i j : Int} {L : Nat} {R : Flow → Shared → Prop}
theorem asg2c {x y : Str} {px py p : Pos} {k : Nat} {T c : Addr} {a b : Value} {R : Unit → Shared → Prop} (F : Fm w mu env n A g m s) (hT : s.heap.IsTuple T #[a, b]) (h : ∀ s', Fm w mu env n A g (upd (upd m x a) y b) s' → R () s')
    (hx : autoParam (env.kindOf x = some .local) byRfl) (hc : autoParam (env.cells.lookup y = some c) byRfl) (hy : autoParam (env.kindOf y = some .cell) byRfl) : wpAny (model prg w) A (assign (tgt2 x y px py k p) env (.ref T)) R E s := by
  refine wpAny_assign_Tuple F.hh hT rfl rfl fun h' hk => ?_
  have F' : Fm w mu env n A g m { s with heap := h' } := F.go (fr := []) (.keeps (fun b o e => hk b o (fun q => Nat.lt_irrefl _ (q ▸ Heap.lt_size e)) e) rfl rfl)
  show wpAny _ A (do holding [b] (assign (.Name x px) env a); assignInOrder [assign (.Name y py) env] [b]) R E _
  refine wpAny_bind (wpAny_holding (asgName (st F' (fun s₁ F₁ => ?_) hx)))
  show wpAny _ A (do holding [] (assign (.Name y py) env b); assignInOrder [] []) R E _
  refine wpAny_bind (wpAny_holding (asgName (stc F₁ (fun s₂ F₂ => ?_) hc hy)))
  exact wpAny_pure (h s₂ F₂)
theorem asg2cl {x y : Str} {px py p : Pos} {k : Nat} {T c : Addr} {a b : Value} {R : Unit → Shared → Prop} (F : Fm w mu env n A g m s) (hT : s.heap.IsTuple T #[a, b]) (h : ∀ s', Fm w mu env n A g (upd (upd m x a) y b) s' → R () s')
    (hc : autoParam (env.cells.lookup x = some c) byRfl) (hx : autoParam (env.kindOf x = some .cell) byRfl) (hy : autoParam (env.kindOf y = some .local) byRfl) : wpAny (model prg w) A (assign (tgt2 x y px py k p) env (.ref T)) R E s := by
  refine wpAny_assign_Tuple F.hh hT rfl rfl fun h' hk => ?_
  have F' : Fm w mu env n A g m { s with heap := h' } := F.go (fr := []) (.keeps (fun b o e => hk b o (fun q => Nat.lt_irrefl _ (q ▸ Heap.lt_size e)) e) rfl rfl)
  show wpAny _ A (do holding [b] (assign (.Name x px) env a); assignInOrder [assign (.Name y py) env] [b]) R E _
  refine wpAny_bind (wpAny_holding (asgName (stc F' (fun s₁ F₁ => ?_) hc hx)))
  show wpAny _ A (do holding [] (assign (.Name y py) env b); assignInOrder [] []) R E _
  refine wpAny_bind (wpAny_holding (asgName (st F₁ (fun s₂ F₂ => ?_) hy)))
  exact wpAny_pure (h s₂ F₂)
theorem law6 (F : Fm w (own (envP (p_law w) L)) (envP (p_law w) L) (n + 2) A s₁ m s) (cz : ∀ p ∈ (envP (p_law w) L).cells, (envP (p_law w) L).cells.lookup p.1 = some p.2)
    (h : ∀ s' x dx d hd, Fm w (own (envP (p_law w) L)) (envP (p_law w) L) (n + 2) A s₁ (upd (upd m "refs" (.ref x)) "held" (.ref hd)) s' → Eff w (frs A) (own (envP (p_law w) L)) s s' → Rep w A s'.heap x dx d [] → DB w s'.heap hd [] → (∀ b ∈ [x, dx, d, hd], Fresh w s₁ b ∧ b ∉ own (envP (p_law w) L)) → d ≠ hd → x ≠ hd → dx ≠ hd → hd ∉ frs A → NB ≤ hd →
      wpAny (model prg w) A (execs ((p_law w).body.drop 7) (envP (p_law w) L)) R E s') :
    wpAny (model prg w) A (execs ((p_law w).body.drop 6) (envP (p_law w) L)) R E s := by
  refine sCons (Assign_Tuple (wpAny_Tuple (wpAny_items_cons (evc1 F d_C311 (dNew fun d s₂ e2 hD hfd => ?_)))))
  have F₂ := F.go e2
  have offd := F.fresh_off (F.alive cz) hfd
  refine ⟨F₂.ww, newC (n := n) F₂.cx hD offd.2.2.2.1 offd.2.1 fun x dx s₃ e3 R₃ hfx hfdx => ?_⟩
  have F₃ := F₂.go e3
  have offx := F₂.fresh_off (F₂.alive cz) hfx
  have offdx := F₂.fresh_off (F₂.alive cz) hfdx
  refine wpAny_items_cons (dNew fun hd s₄ e4 hH hfh => wpAny_items_nil ⟨by size_fits, ?_⟩)
  have F₄ := F₃.go e4
  have offh := F₃.fresh_off (F₃.alive cz) hfh
  have R₄ := R₃.eff0 e4.of
  have e5 : Eff w [] [] s₄ { s₄ with heap := s₄.heap.push { cls := .type "tuple", data := .seq [Value.ref x, Value.ref hd].toArray } } := .push _
  have F₅ := F₄.go e5
  have R₅ := R₄.eff0 e5.of
  have hH₅ := hH.eff e5 (fun q => nomatch q) (fun q => nomatch q)
  refine asg2c (b := .ref hd) F₅.base ⟨_, Heap.get?_push_size _ rfl, rfl, _, rfl⟩ fun s₆ F₆ => ?_
  have ne : ∀ b o, s₃.heap.get? b = some o → b ≠ hd := fun b o hb q => by rw [q, hfh.1] at hb; cases hb
  obtain ⟨es', n', hdx, _⟩ := R₃.inst.own
  obtain ⟨od, hod⟩ := R₃.db.alive
  refine h s₆ x dx d hd (F₅.after F₆) ((((e2.of.trans (e3.mono (fun _ q => q) fun _ q => nomatch q)).trans e4.of).trans e5.of).trans F₆.eff) (R₅.eff F₆.eff ⟨offx.1, offdx.1, offd.1⟩) (hH₅.eff F₆.eff offh.2.1 offh.1) ?_ (ne _ _ hod) (ne _ _ R₃.inst.at_) (ne _ _ hdx) offh.2.1 offh.2.2.2.1
  exact List.forall_mem_cons.mpr ⟨⟨⟨offx.2.2.2.2, fun _ => offx.2.2.2.1⟩, offx.1⟩, List.forall_mem_cons.mpr ⟨⟨⟨offdx.2.2.2.2, fun _ => offdx.2.2.2.1⟩, offdx.1⟩, List.forall_mem_cons.mpr ⟨⟨⟨offd.2.2.2.2, fun _ => offd.2.2.2.1⟩, offd.1⟩, List.forall_mem_cons.mpr ⟨⟨⟨offh.2.2.2.2, fun _ => offh.2.2.2.1⟩, offh.1⟩, fun _ q => nomatch q⟩⟩⟩⟩
end
end Mine
end
section
open PySem PySem.W PyProof.Rows PySem.Calls PySem.Builtin
namespace Mine
section
variable {w : World} {mu mu0 us : List Addr} {env : Env} {n : Nat} {A : Around} {g s s' s₁ : Shared} {m : Str → Option Value} {E : Value → Shared → Prop} {Q : Value → Shared → Prop} {a b x dx d hd C U : Addr} {K2 H : KV} {head : By} {t u : Tok} {f : By → Option By} {e e₁ e₂ e₃ it : Expr} {pos px p1 p2 p3 p4 p5 p6 apos : Pos} {i j : Int} {L : Nat} {R : Flow → Shared → Prop} {b1 b2 b3 : Bool} {ob : Option By} {l : By} {ls ms : List By} {vs : List Value} {V W : Value → Prop}
theorem cNeT : Cmp w mu env n A g m .NotEq (IsT b1) (IsT b2) (b1 != b2) := fun u v hu hv s F Q E q => by
  have hu : u = .bool b1 := hu
  have hv : v = .bool b2 := hv
  subst hu hv
  exact PyProof.Rows.ne_bool (q _ _ F rfl)
theorem cNeO : Cmp w mu env n A g m .NotEq (OptB ob) (OptB ob) false := fun u v hu hv s F Q E q => by
  cases ob with
  | none => have hu : u = .none := hu; have hv : v = .none := hv; subst hu hv; exact PySem.EqNone.ne_none_none (q _ _ F rfl)
  | some p =>
    obtain ⟨t, rfl⟩ := hu
    obtain ⟨t', rfl⟩ := hv
    have := q (.bool (p != p)) s F (by show _ = _; rw [show (p != p) = false by simp])
    exact neB this
theorem eAnd3 (h₁ : Ev w mu env n A g m (IsT b1) e₁) (h₂ : b1 = true → Ev w mu env n A g m (IsT b2) e₂) (h₃ : b1 = true → b2 = true → Ev w mu env n A g m (IsT b3) e₃) : Ev w mu env n A g m (IsT (b1 && b2 && b3)) (.BoolOp .And [e₁, e₂, e₃] pos) :=
  fun s F Q E q => BoolOp_and (h₁ s F _ _ fun v s' F' hv => truth_bool v hv s' F' _ _ fun s₁ F₁ => by
    cases b1
    · exact q v s₁ F₁ hv
    · exact BoolOp_and (h₂ rfl s₁ F₁ _ _ fun v s' F' hv => truth_bool v hv s' F' _ _ fun s₂ F₂ => by
        cases b2
        · exact q v s₂ F₂ hv
        · exact BoolOp_one (h₃ rfl rfl s₂ F₂ _ _ q)))
theorem no_isinstance : nsIn (KK w) mainGlobals "isinstance" = some none := by kernel_rfl
theorem boot_isinstance : bootBuiltins "isinstance" = some (.builtin "isinstance") := by decide +kernel
theorem no_bool : nsIn (KK w) mainGlobals "bool" = some none := by kernel_rfl
theorem boot_bool : bootBuiltins "bool" = some (.type "bool") := by decide +kernel
theorem eIsBool (h : Ev w mu env n A g m (IsT b1) e) (hs : autoParam (starEach [e, .Name "bool" p1] env = (false, eval e env) :: starEach [.Name "bool" p1] env) byRfl) (hs' : autoParam (starEach [.Name "bool" p1] env = [(false, eval (.Name "bool" p1) env)]) byRfl) (hx : autoParam (env.kindOf "isinstance" = some .globalImplicit) byRfl) (hx' : autoParam (env.kindOf "bool" = some .globalImplicit) byRfl) : Ev w mu env n A g m (IsT true) (.Call (.Name "isinstance" px) [e, .Name "bool" p1] [] pos) := fun s F Q E q =>
  wpAny_Call_Name_kw (bu F no_isinstance boot_isinstance (by
    rw [hs, hs']
    refine Calls.callWith_builtin rfl (Calls.evalArgs_plain (Calls.spliced_cons (h s F _ _ fun v s₁ F₁ hv => Calls.spliced_cons (bu F₁ no_bool boot_bool (Calls.spliced_nil ?_) hx'))))
    have hv : v = .bool b1 := hv
    subst hv
    exact call_isinstance_yes (Tx := "bool") rfl (by first | rfl | (show builtinType _ = _; rw [builtinType_eq_fast]; kernel_rfl)) (by rw [isSubtype_type]; kernel_rfl) (q _ s₁ F₁ rfl)) hx)
theorem eMulB {c : UInt8} {k : Nat} (h₁ : Ev w mu env n A g m (IsB [c]) e₁) (h₂ : Ev w mu env n A g m (IsI (k : Int)) e₂) (hk : k ≤ 1000) : Ev w mu env n A g m (IsB (List.replicate k c)) (.BinOp e₁ .Mult e₂ pos) :=
  eOp h₁ h₂ fun a b ⟨ta, ha⟩ ⟨tb, hb⟩ s F Q E q => by
    subst ha hb
    refine bytes_mul_any (by simp) (by omega) (by with_reducible exact inK (by assumption) rfl) (by simp) fun t' kk => ?_
    have e : (List.replicate (k : Int).toNat [c]).flatten = List.replicate k c := by simp
    rw [e]
    exact q _ _ (F.toks _) ⟨_, rfl⟩
theorem frontItem {k : Nat} {fr : By} {mu : List Addr} (hk : FRONTS[k]? = some fr) (hmu : ∀ g s, Fm w mu env (n + 1) A g m s → ∀ b ∈ mu, ∃ o, s.heap.get? b = some o) (hi : ∀ g, Ev w mu env (n + 1) A g m (IsI (k : Int)) e₂) (hs : autoParam (∀ o i, ∃ ops, subscripted e₂ false o i = operate ops (getItem o i)) byEx) (hx : autoParam (env.kindOf "_law_fronts" = some .globalImplicit) byRfl) : Ev w mu env (n + 1) A g m (IsB fr) (.Subscript (.Call (.Name "_law_fronts" px) [] [] p1) e₂ pos) := fun s F Q E q => by
  refine evSub gi_list (evc0 F d_fronts (s_fronts F.cx fun a vs s₁ e1 hl hv hf => ?_) hx) hs
  have F₁ := F.go e1
  have off := F.fresh_off (hmu _ _ F) hf
  refine hi s₁ s₁ F₁.base _ _ fun i s₂ F₂ ⟨ti, h2⟩ => ?_
  subst h2
  have hl₂ := F₂.eff.keep.list off.1 hl
  have hk' : k < FRONTS.length := (List.getElem?_eq_some_iff.mp hk).1
  have : FRONTS.length = 11 := rfl
  exact ⟨hl₂.typeIs, itemL hl₂ hv hk (by with_reducible exact ltK (by assumption) rfl) fun t' => q _ s₂ (F₁.after F₂) ⟨_, rfl⟩⟩
theorem remoteItem {k : Nat} {mu : List Addr} (hk : k < 12) (hmu : ∀ g s, Fm w mu env (n + 1) A g m s → ∀ b ∈ mu, ∃ o, s.heap.get? b = some o) (hi : ∀ g, Ev w mu env (n + 1) A g m (IsI (k : Int)) e₂) (hs : autoParam (∀ o i, ∃ ops, subscripted e₂ false o i = operate ops (getItem o i)) byEx) (hx : autoParam (env.kindOf "_law_remotes" = some .globalImplicit) byRfl) : Ev w mu env (n + 1) A g m (fun v => ∃ l : By, l.length ≤ 9 ∧ IsB l v) (.Subscript (.Call (.Name "_law_remotes" px) [] [] p1) e₂ pos) := fun s F Q E q => by
  refine evSub gi_list (evc0 F d_remotes (s_remotes F.cx fun a vs ls s₁ e1 hl hv h12 hz hf => ?_) hx) hs
  have F₁ := F.go e1
  have off := F.fresh_off (hmu _ _ F) hf
  refine hi s₁ s₁ F₁.base _ _ fun i s₂ F₂ ⟨ti, h2⟩ => ?_
  subst h2
  have hl₂ := F₂.eff.keep.list off.1 hl
  have hk' : ls[k]? = some (ls[k]'(by omega)) := List.getElem?_eq_getElem _
  exact ⟨hl₂.typeIs, itemL hl₂ hv hk' (by with_reducible exact ltK (by assumption) rfl) fun t' => q _ s₂ (F₁.after F₂) ⟨_, hz _ (List.getElem_mem _), _, rfl⟩⟩
theorem dispItem {es : List Expr} {k : Nat} {N : Nat} (he : EvAll w mu env n A g m (fun vs => BytesAre vs ls) es) (hk : k < ls.length) (hz : ls.length ≤ 1000) (hmu : ∀ g s, Fm w mu env n A g m s → ∀ b ∈ mu, ∃ o, s.heap.get? b = some o) (hi : ∀ g, Ev w mu env n A g m (IsI (k : Int)) e₂) (hN : ∀ x ∈ ls, x.length ≤ N) (hs : autoParam (∀ o i, ∃ ops, subscripted e₂ false o i = operate ops (getItem o i)) byEx) : Ev w mu env n A g m (fun v => ∃ l : By, l.length ≤ N ∧ l ∈ ls ∧ IsB l v) (.Subscript (.List es p1) e₂ pos) := fun s F Q E q => by
  refine evSub gi_list (disp F he (fun vs hv => by rw [hv.length]; with_reducible exact leK (by assumption) rfl) fun a vs s₁ s₂ F₁ e2 hl hf hv => ?_) hs
  have F₂ := F₁.go e2
  have off := F₁.fresh_off (hmu _ _ F₁) hf
  refine hi s₂ s₂ F₂.base _ _ fun i s₃ F₃ ⟨ti, h2⟩ => ?_
  subst h2
  have hl₂ := F₃.eff.keep.list off.1 hl.isList
  have hk' : ls[k]? = some ls[k] := List.getElem?_eq_getElem hk
  exact ⟨hl₂.typeIs, itemL hl₂ hv hk' (by omega) fun t' => q _ s₃ (F₂.after F₃) ⟨_, hN _ (List.getElem_mem _), List.getElem_mem _, _, rfl⟩⟩
theorem eTail {r : Int} (h : Ev w mu env (n + 2) A g m (IsI r) e) (h0 : 0 ≤ r) (hs : autoParam (starEach [e] env = [(false, eval e env)]) byRfl) (hx : autoParam (env.kindOf "_law_tail" = some .globalImplicit) byRfl) : Ev w mu env (n + 2) A g m (fun v => ∃ l : By, l.length ≤ 25 ∧ IsB l v) (.Call (.Name "_law_tail" px) [e] [] pos) :=
  eCall1 d_tail h (fun v ⟨tv, hv⟩ s F Q E q => by subst hv; exact s_tail F.cx h0 fun l t' s' hl e => q _ _ (F.go e) ⟨l, hl, _, rfl⟩) hs hx
theorem eInT {es : List Expr} {kk : Nat} {tp : Pos} (hx : Ev w mu env n A g m (IsB l) e₁) (h : EvAll w mu env n A g m (fun vs => BytesAre vs ls) es) (hz : ls.length ≤ 100) (hm : autoParam (behindInMarks .In (.Tuple es kk tp) = false) byUnf) :
    Ev w mu env n A g m (IsT (ls.contains l)) (.Compare e₁ [.In] [.Tuple es kk tp] pos) := fun s F Q E q => by
  refine wpAny_Compare1 (hx s F _ _ fun v s₁ F₁ ⟨tv, hv⟩ => ?_) hm
  subst hv
  exact dispT F₁ h (fun vs hv => by rw [hv.length]; with_reducible exact leK (by assumption) rfl) fun T vs s₂ s₃ F₂ e3 hT hfT hvs => inT hT hvs (q _ _ (F₂.go e3) rfl)
theorem eNinT {es : List Expr} {kk : Nat} {tp : Pos} (hx : Ev w mu env n A g m (IsB l) e₁) (h : EvAll w mu env n A g m (fun vs => BytesAre vs ls) es) (hz : ls.length ≤ 100) (hm : autoParam (behindInMarks .NotIn (.Tuple es kk tp) = false) byUnf) :
    Ev w mu env n A g m (IsT (!ls.contains l)) (.Compare e₁ [.NotIn] [.Tuple es kk tp] pos) := fun s F Q E q => by
  refine wpAny_Compare1 (hx s F _ _ fun v s₁ F₁ ⟨tv, hv⟩ => ?_) hm
  subst hv
  exact dispT F₁ h (fun vs hv => by rw [hv.length]; with_reducible exact leK (by assumption) rfl) fun T vs s₂ s₃ F₂ e3 hT hfT hvs => ninT hT hvs (q _ _ (F₂.go e3) rfl)
theorem eSounds {scope : Scope} {kk : Nat} (cz : ∀ p ∈ env.cells, env.cells.lookup p.1 = some p.2) (ok : ∀ g s, Fm w (Mine.own env) env (n + 2) A g m s → CompOk scope [] env) (hit : ∀ g, EvN w (Mine.own env) env (n + 2) A g m (.ref a) it) (hl : g.heap.IsList a vs.toArray) (hv : BytesAre vs ls) (hz : ls.length ≤ 1000) (hzz : ∀ x ∈ ls, x.length ≤ 4096) (hao : a ∉ Mine.own env) (haf : a ∉ frs A) (hn : NB ≤ a)
    (k1 : autoParam (∀ C, (compEnvC scope [] C env).kindOf "part" = some .local) byIntro) (k2 : autoParam (∀ C, (compEnvC scope [] C env).kindOf "_law_sound" = some .globalImplicit) byIntro) (hs : autoParam (∀ x, foldedSetIterable it env x = pure x) byIntro)
    (k3 : autoParam (∀ C, starEach [.Name "part" p2] (compEnvC scope [] C env) = [(false, eval (.Name "part" p2) (compEnvC scope [] C env))]) byIntro)
    (hm : autoParam (behindInMarks .NotIn (.ListComp (.Call (.Name "_law_sound" p1) [.Name "part" p2] [] p3) [⟨.Name "part" p4, it, [], 0⟩] scope p5) = false) byUnf) :
    Ev w (Mine.own env) env (n + 2) A g m (IsT (ls.all soundP)) (.Compare (.Constant (.bool false) kk p6) [.NotIn] [.ListComp (.Call (.Name "_law_sound" p1) [.Name "part" p2] [] p3) [⟨.Name "part" p4, it, [], 0⟩] scope p5] pos) := fun s F Q E q => by
  refine wpAny_Compare1 (kBool ?_) hm
  have Fb := F.base
  have hl₁ := F.eff.keep.list hao hl
  have hvl := hv.length
  refine lcomp Fb (ok _ _ Fb) ?_ hs
  refine hit _ s Fb _ _ ?_
  refine it_list hl₁ Fb (Fb.alive cz) (B := [a]) (.inr (.head _)) fun itv s₁ F₁ keep T => ?_
  refine compT Fb cz F₁ (T _ _) (all1 ⟨hao, haf, fun q => absurd (q ▸ hn) (by decide)⟩) (by rw [sizeLine_eq]; with_reducible exact leE (by assumption) (by assumption) rfl) (fun i ys => BoolsAre ys ((ls.take i).map soundP)) (fun i ys hk => by rw [hk.length]; simp; omega) .nil ?_ ?_
  · intro i v ys Cc m₁ s₂ hi hv' hK F₂ Fc hmm
    obtain ⟨p, tp, hp, rfl⟩ := hv.get hv'
    refine asgName (st Fc (fun s₃ F₃ => wpAny_tests_nil ?_) (k1 _))
    rw [if_pos rfl]
    refine F₃.ev (eCall1 (V := IsT (soundP p)) (Va := IsB p) d_sound (eL rfl ⟨_, rfl⟩ (k1 _)) (fun v ⟨tv, hv⟩ s F Q E q => by subst hv; exact s_sound F.cx (hzz p (List.mem_of_getElem? hp)) fun s' e => q _ _ (F.go e) rfl) (k3 _) (k2 _)) fun v s₄ F₄ hv => ⟨⟨_, F₄, fun _ h => nomatch h⟩, ?_⟩
    have hv : v = .bool (soundP p) := hv
    subst hv
    show BoolsAre _ ((ls.take (i + 1)).map soundP)
    rw [take_succ' hp, List.map_append]
    exact hK.app (.cons .nil)
  · intro D ys s₂ hK F₂ hD hfD hnD
    have hK : BoolsAre ys ((ls.take vs.length).map soundP) := hK
    rw [hvl, List.take_of_length_le (Nat.le_refl _)] at hK
    refine ninBools ⟨_, hD, rfl, _, rfl⟩ hK ?_
    have : (!(ls.map soundP).contains false) = ls.all soundP := by
      rw [Bool.eq_iff_iff]; simp
    rw [this]
    exact q _ s₂ (F.after F₂) rfl
theorem eSounds2 {scope : Scope} {kk kk' : Nat} {p7 p8 p9 : Pos} (cz : ∀ p ∈ env.cells, env.cells.lookup p.1 = some p.2) (ok : ∀ g s, Fm w (Mine.own env) env (n + 2) A g m s → CompOk scope [] env) (hit : ∀ g, EvN w (Mine.own env) env (n + 2) A g m (.ref a) it) (hl : g.heap.IsList a vs.toArray) (hv : BytesAre vs ls) (hz : ls.length ≤ 1000) (hzz : ∀ x ∈ ls, x.length ≤ 4096) (hao : a ∉ Mine.own env) (haf : a ∉ frs A) (hn : NB ≤ a)
    (k1 : autoParam (∀ C, (compEnvC scope [] C env).kindOf "part" = some .local) byIntro) (k2 : autoParam (∀ C, (compEnvC scope [] C env).kindOf "_law_sound" = some .globalImplicit) byIntro) (hs : autoParam (∀ x, foldedSetIterable it env x = pure x) byIntro)
    (k3 : autoParam (∀ C, starEach [.Name "part" p2] (compEnvC scope [] C env) = [(false, eval (.Name "part" p2) (compEnvC scope [] C env))]) byIntro)
    (hm : autoParam (behindInMarks .NotIn (.ListComp (.Call (.Name "_law_sound" p1) [.Name "part" p2] [] p3) [⟨.Name "part" p4, it, [.Compare (.Name "part" p7) [.NotEq] [.Constant (.bytes []) kk' p8] p9], 0⟩] scope p5) = false) byUnf) :
    Ev w (Mine.own env) env (n + 2) A g m (IsT ((ls.filter neP).all soundP)) (.Compare (.Constant (.bool false) kk p6) [.NotIn] [.ListComp (.Call (.Name "_law_sound" p1) [.Name "part" p2] [] p3) [⟨.Name "part" p4, it, [.Compare (.Name "part" p7) [.NotEq] [.Constant (.bytes []) kk' p8] p9], 0⟩] scope p5] pos) := fun s F Q E q => by
  refine wpAny_Compare1 (kBool ?_) hm
  have Fb := F.base
  have hl₁ := F.eff.keep.list hao hl
  have hvl := hv.length
  refine lcomp Fb (ok _ _ Fb) ?_ hs
  refine hit _ s Fb _ _ ?_
  refine it_list hl₁ Fb (Fb.alive cz) (B := [a]) (.inr (.head _)) fun itv s₁ F₁ keep T => ?_
  refine compT Fb cz F₁ (T _ _) (all1 ⟨hao, haf, fun q => absurd (q ▸ hn) (by decide)⟩) (by rw [sizeLine_eq]; with_reducible exact leE (by assumption) (by assumption) rfl) (fun i ys => BoolsAre ys (((ls.take i).filter neP).map soundP)) (fun i ys hk => by rw [hk.length]; simp; exact Nat.le_trans (List.length_filter_le _ _) (by simp; omega)) .nil ?_ ?_
  · intro i v ys Cc m₁ s₂ hi hv' hK F₂ Fc hmm
    obtain ⟨p, tp, hp, rfl⟩ := hv.get hv'
    refine asgName (st Fc (fun s₃ F₃ => wpAny_tests_one ?_) (k1 _))
    refine F₃.tt (tCmp (eL (V := IsB p) rfl ⟨_, rfl⟩ (k1 _)) (eB (l := [])) cNeB) fun s₄ F₄ => ?_
    have hne : (p != []) = neP p := by cases p <;> rfl
    rw [hne]
    cases hp' : neP p with
    | true =>
      rw [if_pos rfl]
      refine F₄.ev (eCall1 (V := IsT (soundP p)) (Va := IsB p) d_sound (eL rfl ⟨_, rfl⟩ (k1 _)) (fun v ⟨tv, hv⟩ s F Q E q => by subst hv; exact s_sound F.cx (hzz p (List.mem_of_getElem? hp)) fun s' e => q _ _ (F.go e) rfl) (k3 _) (k2 _)) fun v s₅ F₅ hv => ⟨⟨_, F₅, fun _ h => nomatch h⟩, ?_⟩
      have hv : v = .bool (soundP p) := hv
      subst hv
      show BoolsAre _ (((ls.take (i + 1)).filter neP).map soundP)
      rw [take_succ' hp, List.filter_append, List.map_append, show List.filter neP [p] = [p] by simp [hp']]
      exact hK.app (.cons .nil)
    | false =>
      rw [if_neg (by decide)]
      refine ⟨⟨_, F₄, fun _ h => nomatch h⟩, ?_⟩
      show BoolsAre _ (((ls.take (i + 1)).filter neP).map soundP)
      rw [take_succ' hp, List.filter_append, show List.filter neP [p] = [] by simp [hp'], List.append_nil]
      exact hK
  · intro D ys s₂ hK F₂ hD hfD hnD
    have hK : BoolsAre ys (((ls.take vs.length).filter neP).map soundP) := hK
    rw [hvl, List.take_of_length_le (Nat.le_refl _)] at hK
    refine ninBools ⟨_, hD, rfl, _, rfl⟩ hK ?_
    have : (!((ls.filter neP).map soundP).contains false) = (ls.filter neP).all soundP := by
      generalize ls.filter neP = ms
      rw [Bool.eq_iff_iff]; simp
    rw [this]
    exact q _ s₂ (F.after F₂) rfl
end
end Mine
end
section
open PySem PySem.W PyProof.Rows PySem.Calls PySem.Builtin
namespace Mine
noncomputable def RHA : By := [114, 101, 102, 115, 47, 104, 101, 97, 100, 115, 47, 97]
noncomputable def REMS : By := [114, 101, 109, 111, 116, 101, 115]
noncomputable def REF4 : By := [114, 101, 102, 115]
noncomputable def lastS (name : By) : By := cutL name (some (-1)) none
noncomputable def solidP (name : By) : List By := (splitB 47 name).filter neP
noncomputable def soundN (name : By) : Bool := (solidP name).all soundP && !([[47], [46]] : List By).contains (lastS name)
noncomputable def goodN (name : By) : Bool := [HEADB, STASH].contains name || (soundN name && ((splitB 47 name).headD [] == REF4) && decide ((2 : Int) < ((solidP name).length : Int)))
noncomputable def skipN (name : By) : Bool := hasB [47, 47] name && (lastS name == [47])
structure NameLaw (name : By) : Prop where
  crf : crf name = (soundN name && decide ((1 : Int) < ((splitB 47 name).length : Int)) && (((splitB 47 name).length : Int) == ((solidP name).length : Int)))
  acc : skipN name = false → okN name = goodN name
  far : ((splitB 47 name).take 2 != [REF4, REMS] || decide (((splitB 47 name).length : Int) < 4)) = true → prr name = none
  near : ((splitB 47 name).take 2 != [REF4, REMS] || decide (((splitB 47 name).length : Int) < 4)) = false → prr name = some ((splitB 47 name).getD 2 [], joinB [47] ((splitB 47 name).drop 3))
noncomputable def putN' (K : KV) (name v : By) : KV := if skipN name then K else if goodN name then put K name v else K
noncomputable def Keep (m m' : Str → Option Value) : Prop := m' "numbers" = m "numbers" ∧ m' "first" = m "first" ∧ m' "rest" = m "rest" ∧ m' "kind" = m "kind" ∧ m' "spot" = m "spot" ∧ m' "deep" = m "deep" ∧ m' "gone" = m "gone" ∧ m' "refs" = m "refs" ∧ m' "held" = m "held"
section
variable {w : World} {mu mu0 us : List Addr} {env : Env} {n : Nat} {A : Around} {g s s' s₁ : Shared} {m : Str → Option Value} {E : Value → Shared → Prop} {Q : Value → Shared → Prop} {a b x dx d hd C U : Addr} {K H : KV} {head : By} {t u : Tok} {f : By → Option By} {e e₁ e₂ e₃ it : Expr} {pos px p1 p2 p3 p4 p5 p6 apos : Pos} {i j : Int} {L : Nat} {R : Flow → Shared → Prop} {b1 b2 b3 : Bool} {ob : Option By} {l : By} {ls ms : List By} {vs : List Value} {V W : Value → Prop}
noncomputable def TurnFor (w : World) : List Stmt := match (p_law w).body.drop 7 with | .For _ _ b _ _ :: _ => b | _ => []
theorem eJoinL (hl : g.heap.IsList a vs.toArray) (hv : BytesAre vs ls) (ham : a ∉ mu) (hz : joinSum [47] ls ≤ 16777216) (hn : ls.length ≤ 16777216) (h : EvN w mu env n A g m (.ref a) e) {kk : Nat} (hbase : autoParam (attributeBase (.Constant (.bytes [47]) kk p1) "join" env (eval (.Constant (.bytes [47]) kk p1) env) = eval (.Constant (.bytes [47]) kk p1) env) byRfl) (hs : autoParam (starEach [e] env = [(false, eval e env)]) byRfl) (hline : autoParam ((apos.endLine == pos.line) = true) byRfl) :
    Ev w mu env n A g m (IsB (joinB [47] ls)) (.Call (.Attribute (.Constant (.bytes [47]) kk p1) "join" apos) [e] [] pos) := fun s F Q E q =>
  evm1 m_join (kBytes F fun t s₁ F₁ => ⟨isB, h s₁ F₁ _ _ (b_join (F₁.eff.keep.list ham hl) hv hz hn fun t' s₂ e2 => q _ s₂ (F₁.go e2) ⟨_, rfl⟩)⟩) hbase hs hline
theorem one1234 {turn : Nat} (h : turn < 4) : cutL ([49, 50, 51, 52] : By) (some (turn : Int)) (some ((turn : Int) + 1)) = [(49 + turn).toUInt8] := by
  rw [show (turn : Int) + 1 = ((turn + 1 : Nat) : Int) by omega, cut_nn]
  match turn, h with
  | 0, _ => rfl
  | 1, _ => rfl
  | 2, _ => rfl
  | 3, _ => rfl
theorem hmuOwn (cz : ∀ p ∈ env.cells, env.cells.lookup p.1 = some p.2) : ∀ g s, Fm w (Mine.own env) env n A g m s → ∀ b ∈ Mine.own env, ∃ o, s.heap.get? b = some o := fun g s F => F.alive cz
set_option maxHeartbeats 4000000 in
theorem turn0 {turn : Nat} {number first : Int} (cz : ∀ p ∈ (envP (p_law w) L).cells, (envP (p_law w) L).cells.lookup p.1 = some p.2)
    (G : Fm w (own (envP (p_law w) L)) (envP (p_law w) L) (n + 8) A s m s) (ht : turn < 4) (h0 : 0 ≤ number) (hm1 : ∃ t, m "turn" = some (.int (turn : Int) t)) (hm2 : ∃ t, m "number" = some (.int number t))
    (h : ∀ s' (name : By) tn tv P S vsp vss tm tp more pick, name.length ≤ 60 → (number = 0 → name = RHA) → Fm w (own (envP (p_law w) L)) (envP (p_law w) L) (n + 8) A s (upd (upd (upd (upd (upd (upd m "value" (.bytes (List.replicate 40 ((49 + turn).toUInt8)).toArray tv)) "more" (.int more tm)) "pick" (.int pick tp)) "name" (.bytes name.toArray tn)) "parts" (.ref P)) "solid" (.ref S)) s' →
      s'.heap.IsList P vsp.toArray → BytesAre vsp (splitB 47 name) → s'.heap.IsList S vss.toArray → BytesAre vss (solidP name) → P ∉ own (envP (p_law w) L) → P ∉ frs A → NB ≤ P → S ∉ own (envP (p_law w) L) → S ∉ frs A → NB ≤ S →
      wpAny (model prg w) A (execs ((TurnFor w).drop 5) (envP (p_law w) L)) R E s') :
    wpAny (model prg w) A (execs (TurnFor w) (envP (p_law w) L)) R E s := by
  obtain ⟨tt, hm1⟩ := hm1
  obtain ⟨tn0, hm2⟩ := hm2
  refine xAsg G (eMulB (c := (49 + turn).toUInt8) (k := 40) (eSlE (one1234 ht) eB (pSome (eL hm1 ⟨_, rfl⟩)) (pSome (eAddI (eL hm1 ⟨_, rfl⟩) (eI (i := 1)))) (by simp)) (eI (i := 40)) (by decide)) fun v s₂ ⟨tv, hv⟩ G₂ => ?_
  subst hv
  refine xDivmod G₂ (eL hm2 ⟨_, rfl⟩) (eI (i := 11)) (by decide) (by decide) fun tm tp s₃ G₃ => ?_
  obtain ⟨hmore, pick, hp1, hp2⟩ := fdm (b := 11) h0 (by decide)
  rw [show ((11 : Nat) : Int) = 11 from rfl] at hp1 hmore
  rw [hp1] at G₃
  obtain ⟨fr, hfr⟩ : ∃ fr, FRONTS[pick]? = some fr := ⟨FRONTS[pick]'(by show pick < 11; exact hp2), List.getElem?_eq_getElem _⟩
  have hfl : fr.length ≤ 16 := by
    have : ∀ x ∈ FRONTS, x.length ≤ 16 := by decide
    exact this fr (List.mem_of_getElem? hfr)
  have hn0 : number = 0 → pick = 0 ∧ number.fdiv 11 = 0 := fun e => by subst e; simp at hp1; exact ⟨by omega, by decide⟩
  refine xAsg G₃ (V := fun v => ∃ name : By, name.length ≤ 60 ∧ (number = 0 → name = RHA) ∧ IsB name v) (eOp (frontItem hfr (hmuOwn cz) (fun g => eL (V := IsI (pick : Int)) rfl ⟨_, rfl⟩)) (eIfE (V := fun v => ∃ l : By, l.length ≤ 25 ∧ (number = 0 → l = [97]) ∧ IsB l v) (tAnd2 (tCmp (eL (V := IsI (number.fdiv 11)) rfl ⟨_, rfl⟩) (eI (i := 0)) cEqI) fun _ => tCmp (eL (V := IsI (pick : Int)) rfl ⟨_, rfl⟩) (eI (i := 5)) cLtI) (fun hb => (eB (l := [97])).mono fun v hv => ⟨[97], by simp, fun _ => rfl, hv⟩) fun hb => (eTail (n := n + 6) (eL (V := IsI (number.fdiv 11)) rfl ⟨_, rfl⟩) hmore).mono fun v ⟨l, hl, hv⟩ => ⟨l, hl, fun e => ?_, hv⟩) fun a b ⟨ta, ha⟩ ⟨l, hl, hl0, tb, hb⟩ s F Q E q => ?_) fun v s₄ ⟨name, hnl, hnz, tnm, hv⟩ G₄ => ?_
  · obtain ⟨e1, e2⟩ := hn0 e
    rw [e2] at hb
    have : ((pick : Int) < 5) := by omega
    simp [this] at hb
  · subst ha hb
    refine addB (by with_reducible exact leS (by assumption) (by assumption) rfl) fun t' s' e' => q _ _ (F.go e') ⟨fr ++ l, by simp; with_reducible exact leS (by assumption) (by assumption) rfl, fun e => ?_, _, rfl⟩
    obtain ⟨e1, _⟩ := hn0 e
    subst e1
    rw [hl0 e]
    have : fr = [114, 101, 102, 115, 47, 104, 101, 97, 100, 115, 47] := (Option.some.inj hfr).symm
    subst this; rfl
  subst hv
  refine sAsg (evc2 G₄ d_cut (ldl G₄ rfl (kInt G₄ fun t₁ s₅ G₅ => ⟨G₅.ww, s_cut (n := n + 7) (c := 47) G₅.cx (by with_reducible exact leK (by assumption) rfl) fun P vsp s₆ e6 hP hvp hfP => ?_⟩))) rfl
  have G₆ := G₅.go e6
  have offP := G₅.fresh_off (G₅.alive cz) hfP
  refine stc G₆.base (fun s₇ G₇ => ?_)
  have hP₇ := G₇.eff.keep.list offP.1 hP
  have Gb := G₇.base
  have hpl := splitB_len 47 name
  have hvl := hvp.length
  refine lcompA (y := "solid") Gb (CompOk.of (cl := []) Gb rfl rfl (fun _ h => nomatch h)) ?_ (by rfl) (.inl rfl)
  refine ldc Gb rfl (it_list hP₇ Gb (Gb.alive cz) (B := [P]) (.inr (.head _)) fun itv s₈ G₈ keep T => ?_)
  refine compT Gb cz G₈ (T _ _) (all1 ⟨offP.1, offP.2.1, offP.2.2.1⟩) (by rw [sizeLine_eq]; omega) (fun i ys => BytesAre ys (((splitB 47 name).take i).filter neP)) (fun i ys hk => by rw [hk.length]; exact Nat.le_trans (List.length_filter_le _ _) (by simp; omega)) .nil ?_ ?_
  · intro i v ys Cc m₁ s₉ hi hv' hK G₉ Fc hmm
    obtain ⟨p, tpp, hp, rfl⟩ := hvp.get hv'
    refine asgName (st Fc fun s₁₀ F₁₀ => wpAny_tests_one ?_)
    refine F₁₀.tt (tCmp (eL (V := IsB p) rfl ⟨_, rfl⟩) (eB (l := [])) cNeB) fun s₁₁ F₁₁ => ?_
    have hne : (p != []) = neP p := by cases p <;> rfl
    rw [hne]
    cases hp' : neP p with
    | true =>
      rw [if_pos rfl]
      refine F₁₁.ev (eL (V := IsB p) rfl ⟨_, rfl⟩) fun v s₁₂ F₁₂ ⟨tv', hv'⟩ => ⟨⟨_, F₁₂, fun _ h => nomatch h⟩, ?_⟩
      subst hv'
      show BytesAre _ (((splitB 47 name).take (i + 1)).filter neP)
      rw [take_succ' hp, List.filter_append, show List.filter neP [p] = [p] by simp [hp']]
      exact hK.app (.cons .nil)
    | false =>
      rw [if_neg (by decide)]
      refine ⟨⟨_, F₁₁, fun _ h => nomatch h⟩, ?_⟩
      show BytesAre _ (((splitB 47 name).take (i + 1)).filter neP)
      rw [take_succ' hp, List.filter_append, show List.filter neP [p] = [] by simp [hp'], List.append_nil]
      exact hK
  · intro D ys s₉ hK G₉ hD hfD hnD
    have hK : BytesAre ys (((splitB 47 name).take vsp.length).filter neP) := hK
    rw [hvl, List.take_of_length_le (Nat.le_refl _)] at hK
    refine ⟨G₉, hnD, hfD, hD, fun s₁₀ G₁₀ hD₁₀ => ?_⟩
    have offD := G₇.fresh_off (G₇.alive cz) hfD
    exact h s₁₀ name tnm tv P D vsp ys tm tp _ _ hnl hnz (G₆.after (G₇.after G₁₀)) (G₁₀.eff.keep.list offP.1 hP₇) hvp ⟨_, hD₁₀, rfl, _, rfl⟩ hK offP.1 offP.2.1 offP.2.2.2.1 hnD offD.2.1 offD.2.2.2.1
end
end Mine
end
section
open PySem PySem.W PyProof.Rows PySem.Calls PySem.Builtin
namespace Mine
section
variable {w : World} {mu mu0 us : List Addr} {env : Env} {n : Nat} {A : Around} {g s s' s₁ : Shared} {m : Str → Option Value} {E : Value → Shared → Prop} {Q : Value → Shared → Prop} {a b x dx d hd C U : Addr} {K H : KV} {head : By} {t u : Tok} {f : By → Option By} {e e₁ e₂ e₃ it : Expr} {pos px p1 p2 p3 p4 p5 p6 apos : Pos} {i j : Int} {L : Nat} {R : Flow → Shared → Prop} {b1 b2 b3 : Bool} {ob : Option By} {l name : By} {ls ms : List By} {vs : List Value} {V W : Value → Prop}
theorem eJoinSl {lower upper : Option Expr} {lo hi : Option Int} {pp ps : Pos} {kk : Nat} (hl : g.heap.IsList a vs.toArray) (hv : BytesAre vs ls) (ham : a ∉ mu) (hz : ∀ x ∈ ls, x.length ≤ 4096) (hn : ls.length ≤ 1000) (h : Ev w mu env n A g m (IsV (.ref a)) e) (h₁ : EvP w mu env n A g m lo lower) (h₂ : EvP w mu env n A g m hi upper) (hbase : autoParam (attributeBase (.Constant (.bytes [47]) kk p1) "join" env (eval (.Constant (.bytes [47]) kk p1) env) = eval (.Constant (.bytes [47]) kk p1) env) byRfl) (hs : autoParam (starEach [.Subscript e (.Slice lower upper none pp) ps] env = [(false, eval (.Subscript e (.Slice lower upper none pp) ps) env)]) byRfl) (hline : autoParam ((apos.endLine == pos.line) = true) byRfl) :
    Ev w mu env n A g m (IsB (joinB [47] (cutL ls lo hi))) (.Call (.Attribute (.Constant (.bytes [47]) kk p1) "join" apos) [.Subscript e (.Slice lower upper none pp) ps] [] pos) := fun s F Q E q => by
  have hvl := hv.length
  refine evm1 m_join (kBytes F fun t s₁ F₁ => ⟨isB, slL F₁ hl ham (by with_reducible exact leE (by assumption) (by assumption) rfl) h h₁ h₂ fun b s' s'' F' e' hb hf => ?_⟩) hbase hs hline
  have hcl : (cutL ls lo hi).length ≤ ls.length := cut_len ls lo hi
  have hj : joinSum [47] (cutL ls lo hi) ≤ 16777216 := by
    have : ∀ (xs : List By), (∀ x ∈ xs, x.length ≤ 4096) → (xs.map List.length).sum ≤ 4096 * xs.length := fun xs hx => by
      induction xs with
      | nil => simp
      | cons y r ih =>
        have := hx y (.head _)
        have := ih fun x hx' => hx x (.tail _ hx')
        simp only [List.map_cons, List.sum_cons, List.length_cons]; omega
    have hsub : ∀ x ∈ cutL ls lo hi, x.length ≤ 4096 := fun x hx => hz x (by unfold cutL at hx; exact List.mem_of_mem_drop (List.mem_of_mem_take hx))
    have h1 := this _ hsub
    unfold joinSum
    simp only [List.length_cons, List.length_nil]
    omega
  exact b_join hb (hv.cut lo hi) hj (by with_reducible exact leC (by assumption) (by assumption) rfl) fun t' s₂ e2 => q _ s₂ ((F'.go e').go e2) ⟨_, rfl⟩
theorem tSlNe {lower upper : Option Expr} {lo hi : Option Int} {pp ps pd : Pos} {es : List Expr} (cz : ∀ p ∈ env.cells, env.cells.lookup p.1 = some p.2) (hl : g.heap.IsList a vs.toArray) (hv : BytesAre vs ls) (ham : a ∉ Mine.own env) (hz : ls.length ≤ 1000) (h : Ev w (Mine.own env) env n A g m (IsV (.ref a)) e) (h₁ : EvP w (Mine.own env) env n A g m lo lower) (h₂ : EvP w (Mine.own env) env n A g m hi upper) (he : ∀ g, EvAll w (Mine.own env) env n A g m (fun vs => BytesAre vs ms) es) (hmz : ms.length ≤ 1000) (hm : autoParam (behindInMarks .NotEq (.List es pd) = false) byUnf) :
    Tt w (Mine.own env) env n A g m (cutL ls lo hi != ms) (.Compare (.Subscript e (.Slice lower upper none pp) ps) [.NotEq] [.List es pd] pos) := fun s F Q E q => by
  have hvl := hv.length
  refine wpAny_isTrue_Compare1 (slL F hl ham (by with_reducible exact leE (by assumption) (by assumption) rfl) h h₁ h₂ fun b s' s'' F' e' hb hf => ?_) hm
  have F'' := F'.go e'
  have offb := F'.fresh_off (F'.alive cz) hf
  refine disp F''.base (he _) (fun vs hv => by rw [hv.length]; with_reducible exact leK (by assumption) rfl) fun D ws s₂ s₃ F₂ e3 hD hfD hw => ?_
  refine neL F₂.line (e3.keep.list (fun q => nomatch q) (F₂.eff.keep.list offb.1 hb)) (hv.cut lo hi) hD.isList hw (wpAny_truthy_bool (q _ ((F''.after F₂).go e3)))
theorem EvAll.mono {R R' : List Value → Prop} {es : List Expr} (h : EvAll w mu env n A g m R es) (k : ∀ vs, R vs → R' vs) : EvAll w mu env n A g m R' es := fun pos s F Q E q => h pos s F Q E fun vs s' F' hR => q vs s' F' (k vs hR)
noncomputable def TextOk (v : Value) : Prop := ∃ l : By, l.length ≤ 100 ∧ IsB l v
set_option maxHeartbeats 4000000 in
theorem turn1 {turn : Nat} {first : Int} {P S : Addr} {vsp vss : List Value} (NL : NameLaw name) (PL : ∀ l, psv l = pointsP l) (cz : ∀ p ∈ (envP (p_law w) L).cells, (envP (p_law w) L).cells.lookup p.1 = some p.2)
    (G : Fm w (own (envP (p_law w) L)) (envP (p_law w) L) (n + 8) A s m s) (hnl : name.length ≤ 60) (hm1 : ∃ t, m "turn" = some (.int (turn : Int) t)) (hm2 : ∃ t, m "name" = some (.bytes name.toArray t)) (hm3 : m "parts" = some (.ref P)) (hm4 : m "solid" = some (.ref S)) (hm5 : ∃ t, m "first" = some (.int first t)) (hf0 : 0 ≤ first)
    (hP : s.heap.IsList P vsp.toArray) (hvp : BytesAre vsp (splitB 47 name)) (hS : s.heap.IsList S vss.toArray) (hvs : BytesAre vss (solidP name)) (oP : P ∉ own (envP (p_law w) L)) (fP : P ∉ frs A) (nP : NB ≤ P) (oS : S ∉ own (envP (p_law w) L)) (fS : S ∉ frs A) (nS : NB ≤ S)
    (h : ∀ s' m', Fm w (own (envP (p_law w) L)) (envP (p_law w) L) (n + 8) A s m' s' → (∀ y : Str, y ≠ "sound" → y ≠ "right" → y ≠ "text" → y ≠ "good" → m' y = m y) → m' "good" = some (.bool (goodN name)) → wpAny (model prg w) A (execs ((TurnFor w).drop 12) (envP (p_law w) L)) R E s') :
    wpAny (model prg w) A (execs ((TurnFor w).drop 5) (envP (p_law w) L)) R E s := by
  obtain ⟨tt, hm1⟩ := hm1
  obtain ⟨tn, hm2⟩ := hm2
  obtain ⟨tf, hm5⟩ := hm5
  have hpl := splitB_len 47 name
  have hpz : ∀ x ∈ splitB 47 name, x.length ≤ 4096 := fun x hx => by have := hpl.2 x hx; with_reducible exact leC (by assumption) (by assumption) rfl
  have hsz : ∀ x ∈ solidP name, x.length ≤ 4096 := fun x hx => hpz x (List.mem_filter.mp hx).1
  have hsl : (solidP name).length ≤ (splitB 47 name).length := List.length_filter_le _ _
  have hpvl := hvp.length
  have hsvl := hvs.length
  have hls : cutL name (some (-1)) none = lastS name := rfl
  refine xAsg G (eAnd2 (eSounds (n := n + 6) cz (fun g s F => CompOk.of (cl := []) F rfl rfl (fun _ h => nomatch h)) (fun g => nL hm4) hS hvs (by omega) hsz oS fS nS) fun _ => eNinT (ls := [[47], [46]]) (eSlE hls (eL hm2 ⟨_, rfl⟩) (pSome (eNeg (eI (i := 1)))) pNone (by with_reducible exact leK (by assumption) rfl)) (eaB eB (eaB eB eaB0)) (by simp)) fun v s₂ hv G₂ => ?_
  have hv : v = .bool (soundN name) := hv
  subst hv
  refine xAsg G₂ (eCrf (n := n + 7) (eL (V := IsB name) hm2 ⟨_, rfl⟩) (by with_reducible exact leK (by assumption) rfl)) fun v s₃ hv G₃ => ?_
  have hv : v = .bool (crf name) := hv
  subst hv
  refine xIf1 G₃ (tOr2 (tCmp (eL (V := IsT (crf name)) rfl rfl) (eAnd3 (eL (V := IsT (soundN name)) rfl rfl) (fun _ => eCmp (eLenL (e' := no_len) hP oP (by omega) (eC (V := IsV (.ref P)) hm3 rfl)) (eI (i := 1)) cGtI) fun _ _ => eCmp (eLenL (e' := no_len) hP oP (by omega) (eC (V := IsV (.ref P)) hm3 rfl)) (eLenL (e' := no_len) hS oS (by omega) (eL (V := IsV (.ref S)) hm4 rfl)) cEqI) cNeT) fun _ => tNot (tPlain (eIsBool (b1 := crf name) (eL rfl rfl)) truth_bool)) (fun hb => ?_) fun _ s₄ G₄ => ?_
  · exfalso
    rw [hpvl, hsvl, NL.crf] at hb
    simp at hb
  have Gb := G₄.base
  obtain ⟨_, k, hk1, hk2⟩ := fdm (a := first + turn) (b := 4) (by omega) (by decide)
  have hk1 : (first + (turn : Int)).fmod 4 = (k : Int) := hk1
  refine sForT Gb (Gb.alive cz) (dispT Gb (R := fun vs => ∃ u1 u2, vs = [u1, u2] ∧ TextOk u1 ∧ TextOk u2) (EvAll.mono (eaCons (V := TextOk) (eOp (eAddB (l := REF) eB (eL (V := IsB name) hm2 ⟨_, rfl⟩) (by have : REF.length = 5 := rfl; with_reducible exact leB (by assumption) rfl)) (dispItem (ls := [[], [10], [13, 10], [10, 13, 10]]) (k := k) (N := 3) (eaB eB (eaB eB (eaB eB (eaB eB eaB0)))) (by simpa using hk2) (by simp) (hmuOwn cz) (fun g => by rw [← hk1]; exact eMod (eAddI (eL (V := IsI first) hm5 ⟨_, rfl⟩) (eL (V := IsI (turn : Int)) hm1 ⟨_, rfl⟩)) (eI (i := 4)) (by decide)) (by decide)) fun a b ⟨ta, ha⟩ ⟨l, hl, _, tb, hb⟩ s F Q E q => by
      subst ha hb
      have hr : REF.length = 5 := rfl
      exact addB (by simp; omega) fun t' s' e' => q _ _ (F.go e') ⟨_, by simp; omega, _, rfl⟩) (eaCons (V := TextOk) (eL hm2 ⟨name, by with_reducible exact leK (by assumption) rfl, _, rfl⟩) eaNil)) fun vs hR => by obtain ⟨u1, us, rfl, h1, u2, us', rfl, h2, rfl⟩ := hR; exact ⟨u1, u2, rfl, h1, h2⟩) (fun vs hv => by obtain ⟨u1, u2, rfl, _⟩ := hv; simp) fun T vs s₅ s₆ G₅ e6 hT hfT hR => ?_)
  have G₆ := G₅.go e6
  have offT := G₅.fresh_off (G₅.alive cz) hfT
  refine it_tuple hT G₆ (G₆.alive cz) (B := []) (.inl (G₅.freshB hfT offT.1)) fun itv s₇ G₇ keep T' => ?_
  refine ⟨[], _, _, G₇, T' _ _, (fun _ q => nomatch q), fun i m' _ => ∀ y : Str, y ≠ "text" → m' y = upd (upd m "sound" (.bool (soundN name))) "right" (.bool (crf name)) y, fun f m' _ => match f with | .next => ∀ y : Str, y ≠ "text" → m' y = upd (upd m "sound" (.bool (soundN name))) "right" (.bool (crf name)) y | _ => False,
    fun _ _ _ _ _ x => x, fun y _ => rfl, ?_, ?_, ?_⟩
  · rintro i v m₁ s₈ hi hv hJ G₈
    have hv' : TextOk v := by
      obtain ⟨u1, u2, rfl, h1, h2⟩ := hR
      rcases i with _ | _ | i
      · simp at hv; subst hv; exact h1
      · simp at hv; subst hv; exact h2
      · simp at hv
    obtain ⟨tx, htx, ttx, rfl⟩ := hv'
    refine asgName (st G₈.base fun s₉ G₉ => ?_)
    refine xIf1 G₉ (b := false) (tCmp (Va := OptB (psv tx)) (Vb := OptB (psv tx)) (eCall1 d_pointed (eL (V := IsB tx) rfl ⟨_, rfl⟩) fun v ⟨tv, hv⟩ s F Q E q => by subst hv; exact s_pointed (n := n + 6) F.cx (by with_reducible exact leK (by assumption) rfl) fun v s' e' hv => q _ _ (F.go e') hv) (eCall1 d_points (eL (V := IsB tx) rfl ⟨_, rfl⟩) fun v ⟨tv, hv⟩ s F Q E q => by subst hv; exact s_points (n := n + 7) F.cx (by with_reducible exact leK (by assumption) rfl) fun v s' e' hv => q _ _ (F.go e') (by rw [PL]; exact hv)) cNeO) (fun q => nomatch q) fun _ s₁₀ G₁₀ => sNil ⟨_, G₁₀, fun y hy => ?_⟩
    have : upd m₁ "text" (.bytes tx.toArray ttx) y = m₁ y := if_neg hy
    rw [this]; exact hJ y hy
  · exact fun m' h' x => x
  · intro f m' s₈ G₈ hO
    cases f with
    | ret v => exact hO.elim
    | brk => exact hO.elim
    | cont => exact hO.elim
    | next =>
      have hO : ∀ y : Str, y ≠ "text" → m' y = upd (upd m "sound" (.bool (soundN name))) "right" (.bool (crf name)) y := hO
      have k2 : m' "name" = some (.bytes name.toArray tn) := (hO _ (by decide)).trans hm2
      have k3 : m' "parts" = some (.ref P) := (hO _ (by decide)).trans hm3
      have k4 : m' "solid" = some (.ref S) := (hO _ (by decide)).trans hm4
      have k6 : m' "sound" = some (.bool (soundN name)) := (hO _ (by decide)).trans rfl
      have H₈ := G₄.after G₈
      have hP₈ := H₈.eff.keep.list oP hP
      have hS₈ := H₈.eff.keep.list oS hS
      have Hb := H₈.base
      obtain ⟨hd0, hh0⟩ : ∃ hd0, (splitB 47 name)[0]? = some hd0 ∧ (splitB 47 name).headD [] = hd0 := by
        cases hq : splitB 47 name with
        | nil => exact absurd hq (splitB_ne 47 name)
        | cons a r => exact ⟨a, rfl, rfl⟩
      refine xIf1 Hb (tAnd3 (tCmp (eSlE (cut_to name 1) (eL k2 ⟨_, rfl⟩) pNone (pSome (eI (i := 1))) (by with_reducible exact leK (by assumption) rfl)) (eB (l := [47])) cNeB) (fun _ => tCmp (eSlE hls (eL k2 ⟨_, rfl⟩) (pSome (eNeg (eI (i := 1)))) pNone (by with_reducible exact leK (by assumption) rfl)) (eB (l := [47])) cNeB) fun _ _ => tCmp (eCol (n := n + 7) (eL (V := IsB name) k2 ⟨_, rfl⟩) (by with_reducible exact leK (by assumption) rfl)) (eJoinL hS₈ hvs oS (by
        have h1 := joinSum_filter (splitB 47 name)
        rw [← joinB_len, ← joinB_len, join_split] at h1
        have h2 := joinB_len [47] (solidP name)
        have h3 : (joinB [47] (solidP name)).length ≤ name.length := h1
        omega) (by omega) (nL k4)) cNeB) (fun hb => ?_) fun _ s₉ G₉ => ?_
      · exfalso
        have : colP name = joinB [47] (solidP name) := rfl
        rw [this] at hb
        simp at hb
      refine xAsg G₉ (eOr2 (eInT (l := name) (ls := [HEADB, STASH]) (eL k2 ⟨_, rfl⟩) (eaB eB (eaB eB eaB0)) (by simp)) fun _ => eAnd3 (eL (V := IsT (soundN name)) k6 rfl) (fun _ => eCmp (eItemL (k := 0) hP₈ oP hvp hh0.1 (by decide) (eC (V := IsV (.ref P)) k3 rfl) (eI (i := 0))) (eB (l := REF4)) cEqB) fun _ _ => eCmp (eLenL (e' := no_len) hS₈ oS (by omega) (eL (V := IsV (.ref S)) k4 rfl)) (eI (i := 2)) cGtI) fun v s₁₀ hv G₁₀ => ?_
      have hgood : v = .bool (goodN name) := by
        have hv : v = .bool ([HEADB, STASH].contains name || (soundN name && (hd0 == REF4) && decide ((vss.length : Int) > 2))) := hv
        rw [hv, hsvl]
        unfold goodN
        rw [hh0.2]
      subst hgood
      have fin : ∀ s₁₁, Fm w (own (envP (p_law w) L)) (envP (p_law w) L) (n + 8) A s₈ (upd m' "good" (.bool (goodN name))) s₁₁ → wpAny (model prg w) A (execs ((TurnFor w).drop 12) (envP (p_law w) L)) R E s₁₁ := fun s₁₁ G₁₁ => by
        refine h s₁₁ _ (H₈.after G₁₁) (fun y h1 h2 h3 h4 => ?_) rfl
        have e1 : upd m' "good" (.bool (goodN name)) y = m' y := if_neg h4
        have e2 : upd (upd m "sound" (.bool (soundN name))) "right" (.bool (crf name)) y = m y := (if_neg h2).trans (if_neg h1)
        rw [e1, hO y h3, e2]
      have whs : ∀ {g : Shared} {px pos pn : Pos} {m₀ : Str → Option Value}, m₀ "name" = some (.bytes name.toArray tn) → ∀ s₀, Fm w (own (envP (p_law w) L)) (envP (p_law w) L) (n + 8) A g m₀ s₀ → ∀ (Q : Value → Shared → Prop) (E : Value → Shared → Prop), (∀ a b T vs s', prr name = some (a, b) → s'.heap.IsTuple T vs.toArray → BytesAre vs [a, b] → Fresh w s₀ T → Eff w (frs A) [] s₀ s' → Q (.ref T) s') → (∀ s', prr name = none → Eff w (frs A) [] s₀ s' → Q .none s') →
          wpAny (model prg w) A (eval (.Call (.Name "_law_whose" px) [.Name "name" pn] [] pos) (envP (p_law w) L)) Q E s₀ := fun hm₀ s₀ F₀ Q E q1 q2 => evc1 F₀ d_whose (ldl F₀ hm₀ ⟨F₀.ww, s_whose (n := n + 6) F₀.cx (by with_reducible exact leK (by assumption) rfl) q1 q2⟩)
      refine xIf G₁₀ (tOr2 (tSlNe cz hP₈ hvp oP (by omega) (eC (V := IsV (.ref P)) k3 rfl) pNone (pSome (eI (i := 2))) (fun g => eaB eB (eaB eB eaB0)) (by simp)) fun _ => tCmp (eLenL (e' := no_len) hP₈ oP (by omega) (eC (V := IsV (.ref P)) k3 rfl)) (eI (i := 4)) cLtI) (fun hb s₁₁ G₁₁ => ?_) fun hb s₁₁ G₁₁ => ?_
      · rw [hpvl, show cutL (splitB 47 name) none (some 2) = (splitB 47 name).take 2 from cut_to _ 2] at hb
        have hnone := NL.far hb
        refine xIf1 G₁₁ (b := false) (fun s₀ F₀ Q E q => wpAny_isTrue_Compare1 (whs (m₀ := upd m' "good" (.bool (goodN name))) k2 s₀ F₀ _ _ (fun a b T vs s' hp => by rw [hnone] at hp; cases hp) fun s' _ e' => kNone ?_)) (fun q => nomatch q) fun _ s₁₂ G₁₂ => sNil (fin s₁₂ G₁₂)
        refine cIsNotO (ob := none) .none .none rfl rfl s' (F₀.go e') _ _ fun v s₃ F₃ hv => ?_
        have hv : v = .bool false := hv
        subst hv
        exact wpAny_truthy_bool (q s₃ F₃)
      · rw [hpvl, show cutL (splitB 47 name) none (some 2) = (splitB 47 name).take 2 from cut_to _ 2] at hb
        have hsome := NL.near hb
        have h4 : 4 ≤ (splitB 47 name).length := by
          simp only [Bool.or_eq_false_iff, decide_eq_false_iff_not] at hb
          omega
        have h2' : (splitB 47 name)[2]? = some ((splitB 47 name).getD 2 []) := by
          rw [List.getD_eq_getElem?_getD, List.getElem?_eq_getElem (by omega)]; rfl
        refine xIf1 G₁₁ (b := goodN name && ((splitB 47 name).getD 2 [] != []) && false) (tAnd3 (tPlain (eL (V := IsT (goodN name)) rfl rfl) truth_bool) (fun _ => tCmp (eItemL (k := 2) hP₈ oP hvp h2' (by decide) (eC (V := IsV (.ref P)) k3 rfl) (eI (i := 2))) (eB (l := [])) cNeB) fun _ _ => ?_) (fun q => by simp at q) fun _ s₁₂ G₁₂ => sNil (fin s₁₂ G₁₂)
        refine fun s₀ F₀ Q E q => wpAny_isTrue_Compare1 (whs (m₀ := upd m' "good" (.bool (goodN name))) k2 s₀ F₀ _ _ (fun a b T vs s' hp hT hv hf e' => ?_) fun s' hp => by rw [hsome] at hp; cases hp)
        rw [hsome] at hp
        cases hp
        have F₁ := F₀.go e'
        have offT := F₀.fresh_off (F₀.alive cz) hf
        have hP₁ := F₁.eff.keep.list oP hP₈
        refine dispT F₁.base (eaB (eItemL (k := 2) hP₁ oP hvp h2' (by decide) (eC (V := IsV (.ref P)) k3 rfl) (eI (i := 2))) (eaB (eJoinSl hP₁ hvp oP hpz (by omega) (eC (V := IsV (.ref P)) k3 rfl) (pSome (eI (i := 3))) pNone) eaB0)) (fun vs hv => by rw [hv.length]; simp) fun T2 us s₂ s₃ F₂ e3 hT2 hfT2 hus => ?_
        rw [show cutL (splitB 47 name) (some 3) none = (splitB 47 name).drop 3 from cut_from _ 3] at hus
        exact neT (tupEff (tupEff hT F₂.eff offT.1) e3 (fun q => nomatch q)) hv hT2 hus F₀.line (wpAny_truthy_bool (q _ ((F₁.after F₂).go e3)))
end
end Mine
end
section
open PySem PySem.W PyProof.Rows PySem.Calls PySem.Builtin
namespace Mine
section
variable {w : World} {mu mu0 us : List Addr} {env : Env} {n : Nat} {A : Around} {g s s' s₁ : Shared} {m : Str → Option Value} {E : Value → Shared → Prop} {Q : Value → Shared → Prop} {a b x dx d hd C U : Addr} {K H : KV} {head : By} {t u : Tok} {f : By → Option By} {e e₁ e₂ e₃ it : Expr} {pos px p1 p2 p3 p4 p5 p6 apos : Pos} {i j : Int} {L : Nat} {R : Flow → Shared → Prop} {b1 b2 b3 : Bool} {ob : Option By} {l name : By} {ls ms : List By} {vs : List Value} {V W : Value → Prop}
theorem Fm.stepL' (F : Fm w (us ++ Mine.own env) env n A g m s) (e : Eff w (frs A) [U] s s') (h1 : U ∈ us) (h2 : U ∉ Mine.own env) : Fm w (us ++ Mine.own env) env n A g m s' :=
  F.step (e.mono (fun _ q => q) fun _ q => q) (fun b q => List.mem_singleton.mp q ▸ List.mem_append_left _ h1) fun b q => List.mem_singleton.mp q ▸ h2
set_option maxHeartbeats 2000000 in
theorem turn2 {c : UInt8} (NL : NameLaw name) (cz : ∀ p ∈ (envP (p_law w) L).cells, (envP (p_law w) L).cells.lookup p.1 = some p.2)
    (G : Fm w (own (envP (p_law w) L)) (envP (p_law w) L) (n + 8) A s m s) (hnl : name.length ≤ 60) (hm1 : ∃ t, m "value" = some (.bytes (List.replicate 40 c).toArray t)) (hm2 : ∃ t, m "name" = some (.bytes name.toArray t)) (hm3 : m "refs" = some (.ref x)) (hm4 : m "held" = some (.ref hd)) (hm5 : m "good" = some (.bool (goodN name)))
    (h1 : 48 ≤ c.toNat) (h2 : c.toNat ≤ 57) (R₀ : Rep w A s.heap x dx d K) (hH : DB w s.heap hd K) (hKl : K.length ≤ 100) (off : x ∉ own (envP (p_law w) L) ∧ dx ∉ own (envP (p_law w) L) ∧ d ∉ own (envP (p_law w) L) ∧ hd ∉ own (envP (p_law w) L)) (hdf : hd ∉ frs A) (nh : NB ≤ hd) (ne : d ≠ hd)
    (h : ∀ fl s', fl = .next ∨ fl = .cont → Fm w ([d, hd] ++ own (envP (p_law w) L)) (envP (p_law w) L) (n + 8) A s m s' → DB w s'.heap d (putN' K name (List.replicate 40 c)) → DB w s'.heap hd (putN' K name (List.replicate 40 c)) → R fl s') :
    wpAny (model prg w) A (execs ((TurnFor w).drop 12) (envP (p_law w) L)) R E s := by
  obtain ⟨tv, hm1⟩ := hm1
  obtain ⟨tn, hm2⟩ := hm2
  have wl : ∀ {m' : Str → Option Value} {s'}, Fm w (own (envP (p_law w) L)) (envP (p_law w) L) (n + 8) A s m' s' → Fm w ([d, hd] ++ own (envP (p_law w) L)) (envP (p_law w) L) (n + 8) A s m' s' := fun F => F.withL (all2 ⟨R₀.nb.2.2, R₀.off.2.2⟩ ⟨nh, hdf⟩)
  have hls : cutL name (some (-1)) none = lastS name := rfl
  refine xIf1 G (b := skipN name) (tAnd2 (tCmp (eB (l := [47, 47])) (eL (V := IsB name) hm2 ⟨_, rfl⟩) (cInB G.hh)) fun _ => tCmp (eSlE hls (eL hm2 ⟨_, rfl⟩) (pSome (eNeg (eI (i := 1)))) pNone (by with_reducible exact leK (by assumption) rfl)) (eB (l := [47])) cEqB) (fun hb s₂ G₂ => ?_) fun hb s₂ G₂ => ?_
  · refine sCons (wpAny_Continue ?_)
    refine h .cont s₂ (.inr rfl) (wl G₂) ?_ ?_
    · unfold putN'; rw [if_pos hb]; exact R₀.db.eff G₂.eff R₀.off.2.2 off.2.2.1
    · unfold putN'; rw [if_pos hb]; exact hH.eff G₂.eff hdf off.2.2.2
  · have hacc := NL.acc hb
    have R₂ := R₀.eff G₂.eff ⟨off.1, off.2.1, off.2.2.1⟩
    refine sIf1 (wpAny_isTrue_Compare1 (evc3 G₂ d_taken (ldl G₂ hm3 (ldl G₂ hm2 (ldl G₂ hm1 ⟨G₂.ww, s_taken (n := n + 2) (c := c) G₂.cx R₂ (by with_reducible exact leK (by assumption) rfl) (by with_reducible exact leK (by assumption) rfl) h1 h2 fun s₃ e3 hd₃ => ?_⟩)))))
    have B₃ := (wl G₂).stepL' e3 (.head _) off.2.2.1
    refine ldl B₃ hm5 (PyProof.Rows.ne_bool (wpAny_truthy_bool ?_))
    rw [hacc, show (goodN name != goodN name) = false by simp, if_neg (by decide)]
    rw [hacc] at hd₃
    have hH₃ : DB w s₃.heap hd K := (hH.eff G₂.eff hdf off.2.2.2).eff e3 hdf fun q => ne (List.mem_singleton.mp q).symm
    have Gb := B₃.onlyL
    refine xIf1 Gb (tPlain (eL (V := IsT (goodN name)) hm5 rfl) truth_bool) (fun hg s₄ G₄ => ?_) fun hg s₄ G₄ => ?_
    · refine xPut G₄ (k := name) (v := List.replicate 40 c) (eL hm1 ⟨_, rfl⟩) (eC (V := IsV (.ref hd)) hm4 rfl) (eL hm2 ⟨_, rfl⟩) hH₃ hdf off.2.2.2 nh (by with_reducible exact leK (by assumption) rfl) fun s₅ s₆ G₅ e6 hH₆ => sNil (sNil ?_)
      have B₆ := (B₃.backL G₅).stepL e6 (.tail _ (.head _)) off.2.2.2
      refine h .next s₆ (.inl rfl) B₆ ?_ ?_
      · unfold putN'; rw [if_neg (by rw [hb]; decide)]
        exact (hd₃.eff G₅.eff R₀.off.2.2 off.2.2.1).eff e6 (fun q => nomatch q) fun q => ne (List.mem_singleton.mp q)
      · unfold putN'; rw [if_neg (by rw [hb]; decide), if_pos hg]; exact hH₆
    · refine sNil (h .next s₄ (.inl rfl) (B₃.backL G₄) ?_ ?_)
      · unfold putN'; rw [if_neg (by rw [hb]; decide)]
        exact hd₃.eff G₄.eff R₀.off.2.2 off.2.2.1
      · unfold putN'; rw [if_neg (by rw [hb]; decide), if_neg (by rw [hg]; decide)]
        exact hH₃.eff G₄.eff hdf off.2.2.2
end
end Mine
end
section
open PySem PySem.W PyProof.Rows PySem.Calls PySem.Builtin
namespace Mine
noncomputable def TN : List Str := ["turn", "number", "value", "more", "pick", "name", "parts", "solid", "sound", "right", "text", "good"]
structure GoodKV (K : KV) : Prop where
  len : K.length ≤ 4
  nodup : (K.map (·.1)).Nodup
  all : ∀ kv ∈ K, goodN kv.1 = true ∧ skipN kv.1 = false ∧ kv.1.length ≤ 60 ∧ ∃ c : UInt8, 49 ≤ c.toNat ∧ c.toNat ≤ 52 ∧ kv.2 = List.replicate 40 c
theorem upd_ne {m : Str → Option Value} {x y : Str} {v : Value} (h : y ≠ x) : upd m x v y = m y := if_neg h
theorem put_mem {K : KV} {k v : By} {kv : By × By} (h : kv ∈ put K k v) : kv = (k, v) ∨ kv ∈ K := by
  unfold put at h
  split at h
  · obtain ⟨q, hq, rfl⟩ := List.mem_map.mp h
    by_cases e : q.1 = k
    · rw [if_pos e, e]; exact .inl rfl
    · rw [if_neg e]; exact .inr hq
  · rcases List.mem_append.mp h with h | h
    · exact .inr h
    · exact .inl (List.mem_singleton.mp h)
theorem put_keys {K : KV} {k v y : By} : y ∈ (put K k v).map (·.1) ↔ y = k ∨ y ∈ K.map (·.1) := by
  rw [get2_iff, put_get, get2_iff]
  by_cases e : y = k
  · simp [e]
  · rw [if_neg e]; simp [e]
theorem c49 {i : Nat} (h : i < 4) : ((49 + i).toUInt8).toNat = 49 + i := by
  match i, h with
  | 0, _ => rfl
  | 1, _ => rfl
  | 2, _ => rfl
  | 3, _ => rfl
theorem put_nodup {K : KV} {k v : By} (h : (K.map (·.1)).Nodup) : ((put K k v).map (·.1)).Nodup := by
  unfold put
  split
  · rename_i q
    have : (K.map fun kv => if kv.1 = k then (kv.1, v) else kv).map (·.1) = K.map (·.1) := by
      rw [List.map_map]
      apply List.map_congr_left
      intro kv _
      show (if kv.1 = k then (kv.1, v) else kv).1 = kv.1
      split <;> rfl
    rw [this]; exact h
  · rename_i q
    rw [List.map_append, List.nodup_append]
    refine ⟨h, by simp, ?_⟩
    intro a ha b hb e
    have hb : b = k := by simpa using hb
    subst e hb
    obtain ⟨kv, hkv, e⟩ := List.mem_map.mp ha
    exact q (List.any_eq_true.mpr ⟨kv, hkv, by simpa using e⟩)
theorem goodRHA : goodN RHA = true ∧ skipN RHA = false := by decide +kernel
section
variable {w : World} {mu mu0 us : List Addr} {env : Env} {n : Nat} {A : Around} {g s s' s₁ : Shared} {m : Str → Option Value} {E : Value → Shared → Prop} {Q : Value → Shared → Prop} {a b x dx d hd C U : Addr} {K H : KV} {head : By} {t u : Tok} {f : By → Option By} {e e₁ e₂ e₃ it : Expr} {pos px p1 p2 p3 p4 p5 p6 apos : Pos} {i j : Int} {L : Nat} {R : Flow → Shared → Prop} {b1 b2 b3 : Bool} {ob : Option By} {l name : By} {ls ms : List By} {vs : List Value} {V W : Value → Prop}
set_option maxHeartbeats 1000000 in
inductive law7J (w : World) (m : Str → Option Value) (d : Addr) (hd : Addr) (i : Nat) (m' : Str → Option Value) (h : Heap) : Prop
  | mk (ag : ∀ y : Str, y ∉ TN → m' y = m y) (K : KV) (db : DB w h d K) (dh : DB w h hd K) (len : K.length ≤ i) (gk : GoodKV K) (rh : 0 < i → RHA ∈ K.map (·.1)) : law7J w m d hd i m' h
noncomputable def law7O (w : World) (m : Str → Option Value) (d : Addr) (hd : Addr) : Flow → (Str → Option Value) → Heap → Prop := fun f m' h => match f with | .next => (∀ y : Str, y ∉ TN → m' y = m y) ∧ ∃ K, DB w h d K ∧ DB w h hd K ∧ GoodKV K ∧ RHA ∈ K.map (·.1) | _ => False
theorem law7 {N : Addr} {us : List Value} {zs : List Int} {first : Int} (NL : ∀ name, name.length ≤ 60 → NameLaw name) (PL : ∀ l, psv l = pointsP l) (cz : ∀ p ∈ (envP (p_law w) L).cells, (envP (p_law w) L).cells.lookup p.1 = some p.2)
    (F : Fm w (own (envP (p_law w) L)) (envP (p_law w) L) (n + 8) A s₁ m s) (hN : s.heap.PlainList N us.toArray) (oN : N ∉ own (envP (p_law w) L)) (fN : N ∉ frs A) (hus : IntsAre' us zs) (hzl : zs.length ≤ 4) (hz0 : ∀ z ∈ zs, 0 ≤ z)
    (hm1 : m "numbers" = some (.ref N)) (hm2 : ∃ t, m "first" = some (.int first t)) (hf0 : 0 ≤ first) (hm3 : m "refs" = some (.ref x)) (hm4 : m "held" = some (.ref hd))
    (R₀ : Rep w A s.heap x dx d []) (hH : DB w s.heap hd []) (fr : ∀ b ∈ [x, dx, d, hd], Fresh w s₁ b ∧ b ∉ own (envP (p_law w) L)) (ne : d ≠ hd) (nex : x ≠ hd) (nedx : dx ≠ hd) (hdf : hd ∉ frs A) (nh : NB ≤ hd)
    (h : ∀ s' m' K, Fm w (own (envP (p_law w) L)) (envP (p_law w) L) (n + 8) A s₁ m' s' → (∀ y : Str, y ∉ TN → m' y = m y) → Rep w A s'.heap x dx d K → DB w s'.heap hd K → GoodKV K → RHA ∈ K.map (·.1) → wpAny (model prg w) A (execs ((p_law w).body.drop 8) (envP (p_law w) L)) R E s') :
    wpAny (model prg w) A (execs ((p_law w).body.drop 7) (envP (p_law w) L)) R E s := by
  obtain ⟨tf, hm2⟩ := hm2
  have fx := fr x (by simp)
  have fdx := fr dx (by simp)
  have fd := fr d (by simp)
  have fh := fr hd (by simp)
  have hul := hus.length
  have FL := F.base.withL (us := [d, hd]) (all2 ⟨R₀.nb.2.2, R₀.off.2.2⟩ ⟨nh, hdf⟩)
  have al := F.aliveL (us := [d, hd]) cz (all2 R₀.db.alive hH.alive)
  refine sForT FL al ?_
  refine wpAny_Call_Name_kw (bu FL no_enum boot_enumerate (PySem.Pv.callWith_type1 (Calls.spliced_cons (wpAny_BinOp ?_))))
  have Gb := F.base
  have hNl := plList hN
  refine disp Gb (eaI (eI (i := 0)) eaI0) (fun vs hv => by rw [hv.length]; simp) fun a₁ v₁ s₂ s₃ F₂ e3 hl₁ hf₁ hv₁ => ?_
  have F₃ := F₂.go e3
  have off1 := F₂.fresh_off (F₂.alive cz) hf₁
  refine slL F₃.base (F₃.eff.keep.list oN hNl) oN (by with_reducible exact leE (by assumption) (by assumption) rfl) (eL hm1 rfl) (pSome (eI (i := 1))) pNone fun b s₄ s₅ F₄ e5 hb hfb => ?_
  have F₅ := F₄.go e5
  have hl₁' := e5.keep.list (fun q => nomatch q) (F₄.eff.keep.list off1.1 hl₁.isList)
  have hcl : (cutL us (some 1) none).length ≤ 4 := Nat.le_trans (cut_len _ _ _) (by with_reducible exact leE (by assumption) (by assumption) rfl)
  have hv1l := hv₁.length
  refine addLists hl₁' hb (by simp at hv1l; omega) fun l₂ s₆ e6 hl₂ hf₂ => Calls.spliced_nil ?_
  have F₆ := F₅.go e6
  have hI : IntsAre' (v₁ ++ cutL us (some 1) none) ([0] ++ cutL zs (some 1) none) := hv₁.app (hus.cut _ _)
  have hIl := hI.length
  have hItl : ([0] ++ cutL zs (some 1) none).length ≤ 4 := by
    rw [show cutL zs (some 1) none = zs.drop 1 from cut_from zs 1]
    simp; with_reducible exact leK (by assumption) rfl
  have hI0 : ∀ z ∈ ([0] ++ cutL zs (some 1) none), 0 ≤ z := fun z hz => by
    rw [show cutL zs (some 1) none = zs.drop 1 from cut_from zs 1] at hz
    rcases List.mem_append.mp hz with hz | hz
    · rw [List.mem_singleton.mp hz]; exact Int.le_refl _
    · exact hz0 z (List.mem_of_mem_drop hz)
  have hfirst : ([0] ++ cutL zs (some 1) none)[0]? = some 0 := rfl
  generalize ([0] ++ cutL zs (some 1) none) = xs at hI hIl hItl hI0 hfirst
  generalize (v₁ ++ cutL us (some 1) none) = ys at hl₂ hI hIl
  have FA := F₃.after F₆
  have FLA : Fm w ([d, hd] ++ own (envP (p_law w) L)) (envP (p_law w) L) (n + 8) A s m s₆ := FL.backL FA
  have offl := F₅.fresh_off (F₅.alive cz) hf₂
  have hl2s : s.heap.get? l₂ = none := by
    have := ((hf₂.back F₅.eff offl.1).back F₃.eff offl.1).1
    exact this
  have offlL : l₂ ∉ [d, hd] ++ own (envP (p_law w) L) := fun q => by
    rcases List.mem_append.mp q with q | q
    · simp only [List.mem_cons, List.not_mem_nil, or_false] at q
      rcases q with rfl | rfl
      · obtain ⟨o, ho⟩ := R₀.db.alive; rw [hl2s] at ho; cases ho
      · obtain ⟨o, ho⟩ := hH.alive; rw [hl2s] at ho; cases ho
    · exact offl.1 q
  have hd₆ := R₀.db.eff FA.eff R₀.off.2.2 fd.2
  have hH₆ := hH.eff FA.eff hdf fh.2
  have al₆ := FA.aliveL (us := [d, hd]) cz (all2 hd₆.alive hH₆.alive)
  obtain ⟨es', n', hdx, _⟩ := R₀.inst.own
  have offLx : x ∉ [d, hd] ++ own (envP (p_law w) L) := fun q => by
    rcases List.mem_append.mp q with q | q
    · simp only [List.mem_cons, List.not_mem_nil, or_false] at q
      exact q.elim (Ne.symm R₀.ne.1) nex
    · exact fx.2 q
  have offLdx : dx ∉ [d, hd] ++ own (envP (p_law w) L) := fun q => by
    rcases List.mem_append.mp q with q | q
    · simp only [List.mem_cons, List.not_mem_nil, or_false] at q
      exact q.elim (Ne.symm R₀.ne.2) nedx
    · exact fdx.2 q
  refine it_enumL hl₂ FLA al₆ (B := []) (.inl ⟨hl2s, fun _ => offl.2.2.2.1⟩) fun ev s₇ hz => wpAny_mono hz (fun it s₈ kk => kk _ fun F₈ keep T => ?_) fun _ _ q => q.elim
  refine ⟨[], _, _, F₈, T _ _ _ _ _ _, (fun _ q => nomatch q), (law7J w m d hd),
    (law7O w m d hd),
    fun i m' h h' hk ⟨a1, K, a, b, c1, c2, c3⟩ => ⟨a1, K, a.at fun o e => hk d o (.head _) e, b.at fun o e => hk hd o (.tail _ (.head _)) e, c1, c2, c3⟩,
    ⟨fun y _ => rfl, [], hd₆.at fun o e => keep _ _ e, hH₆.at fun o e => keep _ _ e, by simp, ⟨by simp, by simp, fun kv q => nomatch q⟩, fun q => absurd q (by decide)⟩, ?_, ?_, ?_⟩
  · rintro i v m₁ s₉ hi ⟨ti, u, hu, T, rfl, hT⟩ ⟨hag, K, hdK, hhK, hKl, hKG, hKR⟩ F₉
    obtain ⟨number, tnu, hnum, rfl⟩ := hI.get hu
    have hi4 : i < 4 := by
      have := (List.getElem?_eq_some_iff.mp hnum).1
      with_reducible exact Nat.lt_of_lt_of_le (by assumption) (by assumption)
    have hn0 : 0 ≤ number := hI0 _ (List.mem_of_getElem? hnum)
    have hi0 : i = 0 → number = 0 := fun e => by subst e; rw [hfirst] at hnum; cases hnum; rfl
    refine asg2 F₉.onlyL hT fun s₁₀ F₁₀ => ?_
    have B₁₀ := F₉.base.backL F₁₀
    have R₁₀ : Rep w A s₁₀.heap x dx d K := by
      have e := (F₉.after B₁₀).eff
      exact ⟨R₀.inst.eff e ⟨R₀.off.1, offLx⟩ ⟨R₀.off.2.1, offLdx⟩, hdK.eff F₁₀.eff R₀.off.2.2 fd.2, R₀.off, R₀.nb, R₀.ne⟩
    have hH₁₀ := hhK.eff F₁₀.eff hdf fh.2
    refine turn0 (n := n) (turn := i) (number := number) (first := first) cz F₁₀.base hi4 hn0 ⟨ti, rfl⟩ ⟨tnu, rfl⟩ fun s₁₁ name tn tv P S vsp vss tm tp more pick hnl hnz G₁₁ hP hvp hS hvs oP fP nP oS fS nS => ?_
    have ag : ∀ y : Str, y ∉ TN → m₁ y = m y := hag
    have k1 : m₁ "first" = some (.int first tf) := (ag _ (by decide)).trans hm2
    have k2 : m₁ "refs" = some (.ref x) := (ag _ (by decide)).trans hm3
    have k3 : m₁ "held" = some (.ref hd) := (ag _ (by decide)).trans hm4
    refine turn1 (n := n) (turn := i) (first := first) (NL name hnl) PL cz G₁₁.base hnl ⟨ti, rfl⟩ ⟨tn, rfl⟩ rfl rfl ⟨tf, k1⟩ hf0 hP hvp hS hvs oP fP nP oS fS nS fun s₁₂ m' G₁₂ hag' hgood => ?_
    have hc1 := c49 hi4
    have R₁₂ := (R₁₀.eff (F₁₀.base.after G₁₁).eff ⟨fx.2, fdx.2, fd.2⟩).eff G₁₂.eff ⟨fx.2, fdx.2, fd.2⟩
    have hH₁₂ := (hH₁₀.eff (F₁₀.base.after G₁₁).eff hdf fh.2).eff G₁₂.eff hdf fh.2
    refine turn2 (n := n) (c := (49 + i).toUInt8) (NL name hnl) cz G₁₂.base hnl ⟨tv, (hag' _ (by decide) (by decide) (by decide) (by decide)).trans rfl⟩ ⟨tn, (hag' _ (by decide) (by decide) (by decide) (by decide)).trans rfl⟩ ((hag' _ (by decide) (by decide) (by decide) (by decide)).trans k2) ((hag' _ (by decide) (by decide) (by decide) (by decide)).trans k3) hgood (by omega) (by omega) R₁₂ hH₁₂ (by omega) ⟨fx.2, fdx.2, fd.2, fh.2⟩ hdf nh ne fun fl s₁₃ hfl B₁₃ hd₁₃ hh₁₃ => ?_
    have BB : Fm w ([d, hd] ++ own (envP (p_law w) L)) (envP (p_law w) L) (n + 8) A s₉ m' s₁₃ := ((B₁₀.backL G₁₁).backL G₁₂).after B₁₃
    have agf : ∀ y : Str, y ∉ TN → m' y = m y := fun y hy => by
      have hy' : y ≠ "turn" ∧ y ≠ "number" ∧ y ≠ "value" ∧ y ≠ "more" ∧ y ≠ "pick" ∧ y ≠ "name" ∧ y ≠ "parts" ∧ y ≠ "solid" ∧ y ≠ "sound" ∧ y ≠ "right" ∧ y ≠ "text" ∧ y ≠ "good" := by
        simpa [TN] using hy
      obtain ⟨a1, a2, a3, a4, a5, a6, a7, a8, a9, a10, a11, a12⟩ := hy'
      rw [hag' y a9 a10 a11 a12, upd_ne a8, upd_ne a7, upd_ne a6, upd_ne a5, upd_ne a4, upd_ne a3, upd_ne a2, upd_ne a1, hag y hy]
    have hput : GoodKV (putN' K name (List.replicate 40 (49 + i).toUInt8)) ∧ (putN' K name (List.replicate 40 (49 + i).toUInt8)).length ≤ i + 1 ∧ RHA ∈ (putN' K name (List.replicate 40 (49 + i).toUInt8)).map (·.1) := by
      unfold putN'
      have hnd := put_nodup (k := name) (v := List.replicate 40 (49 + i).toUInt8) hKG.nodup
      cases hsk : skipN name with
      | true =>
        rw [if_pos rfl]
        refine ⟨hKG, by with_reducible exact Nat.le_succ_of_le (by assumption), hKR ?_⟩
        rcases Nat.eq_zero_or_pos i with e | e
        · rw [hnz (hi0 e), goodRHA.2] at hsk; cases hsk
        · exact e
      | false =>
        rw [if_neg (by decide)]
        cases hg : goodN name with
        | false =>
          rw [if_neg (by decide)]
          refine ⟨hKG, by with_reducible exact Nat.le_succ_of_le (by assumption), hKR ?_⟩
          rcases Nat.eq_zero_or_pos i with e | e
          · rw [hnz (hi0 e), goodRHA.1] at hg; cases hg
          · exact e
        | true =>
          rw [if_pos rfl]
          have hpl := put_len K name (List.replicate 40 (49 + i).toUInt8)
          refine ⟨⟨by omega, hnd, fun kv hkv => ?_⟩, by omega, ?_⟩
          · rcases put_mem hkv with rfl | hkv
            · exact ⟨hg, hsk, hnl, (49 + i).toUInt8, by omega, by omega, rfl⟩
            · exact hKG.all kv hkv
          · rw [put_keys]
            rcases Nat.eq_zero_or_pos i with e | e
            · exact .inl (hnz (hi0 e)).symm
            · exact .inr (hKR e)
    rcases hfl with rfl | rfl
    · exact ⟨m', BB, agf, _, hd₁₃, hh₁₃, hput.2.1, hput.1, fun _ => hput.2.2⟩
    · exact ⟨m', BB, agf, _, hd₁₃, hh₁₃, hput.2.1, hput.1, fun _ => hput.2.2⟩
  · rintro m' h' ⟨hag, K, hdK, hhK, hKl, hKG, hKR⟩
    exact ⟨hag, K, hdK, hhK, hKG, hKR (by
      have := (List.getElem?_eq_some_iff.mp hfirst).1
      omega)⟩
  · intro f m' s₉ F₉ hO
    cases f with
    | ret v => exact hO.elim
    | brk => exact hO.elim
    | cont => exact hO.elim
    | next =>
      obtain ⟨hag, K, hdK, hhK, hKG, hKR⟩ := hO
      exact h s₉ m' K (F.joinL F₉ (all2 fd.1.1 fh.1.1)) hag ⟨R₀.inst.eff F₉.eff ⟨R₀.off.1, offLx⟩ ⟨R₀.off.2.1, offLdx⟩, hdK, R₀.off, R₀.nb, R₀.ne⟩ hhK hKG hKR
end
end Mine
end
section
open PySem PySem.W PyProof.Rows PySem.Calls PySem.Builtin
namespace Mine
noncomputable def BaseOk (K : KV) (b : By) : Prop := ∃ n0 j, n0 ∈ K.map (·.1) ∧ n0 ≠ HEADB ∧ j + 1 < (splitB 47 n0).length ∧ (splitB 47 n0).getD j [] ≠ [] ∧ b = joinB [47] ((splitB 47 n0).take (j + 1)) ∧ K.all (fun kv => clearO b kv.1) = true
structure KLaw (K : KV) : Prop where
  ok : KOk K
  full0 : ∀ y ∈ K.map (·.1), y.length ≤ 8192 ∧ (fullP none y).length ≤ 8192 ∧ ∃ names, Fol K (fullP none y) names (get2 K y) ∧ names.length ≤ 5
  split0 : ∀ y ∈ K.map (·.1), y ≠ HEADB → (splitB 47 y)[0]? = some REF4 ∧ 1 < (splitB 47 y).length
  clear0 : K.all (fun kv => clearO REF4 kv.1) = true
  same : ∀ b, BaseOk K b → SameB K K b (fun y => get2 K (b ++ 47 :: y))
noncomputable def basesP (ps : List By) (i : Nat) : List By := ((List.range i).filter fun j => ps.getD j [] != []).map fun j => joinB [47] (ps.take (j + 1))
theorem basesP_succ (ps : List By) (i : Nat) : basesP ps (i + 1) = basesP ps i ++ if ps.getD i [] != [] then [joinB [47] (ps.take (i + 1))] else [] := by
  unfold basesP
  rw [List.range_succ, List.filter_append, List.map_append]
  congr 1
  cases h : (ps.getD i [] != []) with
  | true => rw [List.filter_cons_of_pos (p := fun j => ps.getD j [] != []) h, if_pos rfl]; rfl
  | false => rw [List.filter_cons_of_neg (p := fun j => ps.getD j [] != []) (by rw [h]; decide), if_neg (by decide)]; rfl
section
variable {w : World} {mu mu0 us : List Addr} {env : Env} {n : Nat} {A : Around} {g s s' s₁ : Shared} {m : Str → Option Value} {E : Value → Shared → Prop} {Q : Value → Shared → Prop} {a b x dx d hd C U : Addr} {K H : KV} {head : By} {t u : Tok} {f : By → Option By} {e e₁ e₂ e₃ it : Expr} {pos px p1 p2 p3 p4 p5 p6 apos : Pos} {i j : Int} {L : Nat} {R : Flow → Shared → Prop} {b1 b2 b3 : Bool} {ob : Option By} {l name : By} {ls ms : List By} {vs : List Value} {V W : Value → Prop}
theorem tOr3' (h₁ : Tt w mu env n A g m false e₁) (h₂ : Tt w mu env n A g m false e₂) (h₃ : Tt w mu env n A g m false e₃) : Tt w mu env n A g m false (.BoolOp .Or [e₁, e₂, e₃] pos) := tOr3 h₁ (fun _ => h₂) fun _ _ => h₃
set_option maxHeartbeats 1000000 in
theorem law8 (KL : KLaw K) (KG : GoodKV K) (cz : ∀ p ∈ (envP (p_law w) L).cells, (envP (p_law w) L).cells.lookup p.1 = some p.2)
    (G : Fm w (own (envP (p_law w) L)) (envP (p_law w) L) (n + 8) A s m s) (hm3 : m "refs" = some (.ref x)) (hm4 : m "held" = some (.ref hd))
    (R₀ : Rep w A s.heap x dx d K) (hH : DB w s.heap hd K) (off : x ∉ own (envP (p_law w) L) ∧ dx ∉ own (envP (p_law w) L) ∧ d ∉ own (envP (p_law w) L)) (oh : hd ∉ own (envP (p_law w) L)) (hdf : hd ∉ frs A) (nh : NB ≤ hd)
    (h : ∀ s', Fm w (own (envP (p_law w) L)) (envP (p_law w) L) (n + 8) A s m s' → wpAny (model prg w) A (execs ((p_law w).body.drop 9) (envP (p_law w) L)) R E s') :
    wpAny (model prg w) A (execs ((p_law w).body.drop 8) (envP (p_law w) L)) R E s := by
  have hl := KG.len
  refine xIf1 G (tOr3' (tSrtNe (xSortSet (xAll0 (n := n + 5) R₀ off KL.ok (nL hm3)) (by with_reducible exact ltL (by assumption) rfl) KG.nodup fun y => Iff.rfl) (xSortDct (nDct (nC hm4) hH hdf oh nh) (by with_reducible exact ltL (by assumption) rfl)) (.refl _)) (tSrtNe (xSortSet (xKeys0 (n := n + 5) R₀ off KL.ok (nL hm3)) (by with_reducible exact ltL (by assumption) rfl) KG.nodup fun y => Iff.rfl) (xSortDct (nDct (nC hm4) hH hdf oh nh) (by with_reducible exact ltL (by assumption) rfl)) (.refl _)) (tDctNe (xAsD0 (n := n + 2) R₀ off KL.ok KL.full0 (nL hm3)) (nDct (nC hm4) hH hdf oh nh) fun y => ?_)) (fun q => nomatch q) fun _ s₂ G₂ => h s₂ G₂
  by_cases hy : y ∈ K.map (·.1)
  · rw [if_pos hy]
  · rw [if_neg hy, get2_none hy]
set_option maxHeartbeats 1000000 in
theorem law9 {spot : Int} (KL : KLaw K) (KG : GoodKV K) (hR : RHA ∈ K.map (·.1)) (cz : ∀ p ∈ (envP (p_law w) L).cells, (envP (p_law w) L).cells.lookup p.1 = some p.2)
    (G : Fm w (own (envP (p_law w) L)) (envP (p_law w) L) (n + 8) A s m s) (hm3 : ∃ t, m "spot" = some (.int spot t)) (hs0 : 0 ≤ spot) (hm4 : m "held" = some (.ref hd))
    (hH : DB w s.heap hd K) (oh : hd ∉ own (envP (p_law w) L)) (hdf : hd ∉ frs A) (nh : NB ≤ hd)
    (h : ∀ s' (S P : Addr) n0 vsp, n0 ∈ K.map (·.1) → n0 ≠ HEADB → Fm w (own (envP (p_law w) L)) (envP (p_law w) L) (n + 8) A s (upd (upd m "standing" (.ref S)) "parts" (.ref P)) s' → s'.heap.IsList P vsp.toArray → BytesAre vsp (splitB 47 n0) → P ∉ own (envP (p_law w) L) → P ∉ frs A → NB ≤ P → wpAny (model prg w) A (execs ((p_law w).body.drop 11) (envP (p_law w) L)) R E s') :
    wpAny (model prg w) A (execs ((p_law w).body.drop 9) (envP (p_law w) L)) R E s := by
  obtain ⟨ts, hm3⟩ := hm3
  have hl := KG.len
  refine sAsg (evSorted G (lcomp G (CompOk.of (cl := []) G rfl rfl (fun _ h => nomatch h)) (ldc G hm4 (it_db hH nh G (G.alive cz) (B := [hd]) (.inr (.head _)) fun it s₂ G₂ keep T => ?_)))) rfl
  refine compT G cz G₂ (T _ _) (all1 ⟨oh, hdf, fun q => absurd (q ▸ nh) (by decide)⟩) (by rw [sizeLine_eq]; with_reducible exact leK (by assumption) rfl) (fun i ys => BytesAre ys (((K.map (·.1)).take i).filter fun y => y != HEADB)) (fun i ys hk => by rw [hk.length]; exact Nat.le_trans (List.length_filter_le _ _) (by simp; omega)) .nil ?_ ?_
  · rintro i v ys Cc m₁ s₃ hi ⟨k, u, tk, hk, rfl⟩ hK F₃ Fc hmm
    have hk' : (K.map (·.1))[i]? = some k := by rw [List.getElem?_map, hk]; rfl
    refine asgName (st Fc fun s₄ F₄ => wpAny_tests_one ?_)
    refine F₄.tt (tCmp (eL (V := IsB k) rfl ⟨_, rfl⟩) (eB (l := HEADB)) cNeB) fun s₅ F₅ => ?_
    cases hp' : (k != HEADB) with
    | true =>
      rw [if_pos rfl]
      refine F₅.ev (eL (V := IsB k) rfl ⟨_, rfl⟩) fun v s₆ F₆ ⟨tv', hv'⟩ => ⟨⟨_, F₆, fun _ h => nomatch h⟩, ?_⟩
      subst hv'
      show BytesAre _ (((K.map (·.1)).take (i + 1)).filter fun y => y != HEADB)
      rw [take_succ' hk', List.filter_append, show List.filter (fun y => y != HEADB) [k] = [k] by simp [hp']]
      exact hK.app (.cons .nil)
    | false =>
      rw [if_neg (by decide)]
      refine ⟨⟨_, F₅, fun _ h => nomatch h⟩, ?_⟩
      show BytesAre _ (((K.map (·.1)).take (i + 1)).filter fun y => y != HEADB)
      rw [take_succ' hk', List.filter_append, show List.filter (fun y => y != HEADB) [k] = [] by simp [hp'], List.append_nil]
      exact hK
  · intro D ys s₃ hK G₃ hD hfD hnD
    have hK : BytesAre ys (((K.map (·.1)).take K.length).filter fun y => y != HEADB) := hK
    rw [List.take_of_length_le (by simp)] at hK
    have hfl : ((K.map (·.1)).filter fun y => y != HEADB).length ≤ 4 := Nat.le_trans (List.length_filter_le _ _) (by simp; with_reducible exact leK (by assumption) rfl)
    refine sorted_list ⟨_, hD⟩ hK (Nat.lt_of_le_of_lt hfl (by decide)) fun S vs os s₄ e4 hS hb hsrt hfS => ?_
    have G₄ := G₃.go e4
    have offS := G₃.fresh_off (G₃.alive cz) hfS
    refine st G₄.base (fun s₅ G₅ => ?_) rfl
    have hS₅ := plList (plEff hS G₅.eff offS.2.1 offS.1)
    have hol : os.length = ((K.map (·.1)).filter fun y => y != HEADB).length := hsrt.1.length_eq
    have hvl := hb.length
    have hpos : 0 < os.length := by
      rw [hol]
      refine List.length_pos_of_mem (a := RHA) (List.mem_filter.mpr ⟨hR, by decide⟩)
    obtain ⟨_, k, hk1, hk2⟩ := fdm (a := spot) (b := os.length) hs0 hpos
    have hmem : os[k]? = some os[k] := List.getElem?_eq_getElem hk2
    have hin := (List.mem_filter.mp (hsrt.1.mem_iff.mp (List.getElem_mem hk2)))
    generalize os[k] = n0 at hmem hin
    obtain ⟨kv, hkv, hkn⟩ := List.mem_map.mp hin.1
    have hnl : n0.length ≤ 60 := hkn ▸ (KG.all kv hkv).2.2.1
    have Gb := G₅.base
    refine sAsg (evc2 Gb d_cut (Gb.ev (eItemL (k := k) (l := n0) hS₅ offS.1 hb hmem (by omega) (eL (V := IsV (.ref S)) rfl rfl) (by
      rw [← hk1, ← hvl]
      exact eMod (eL (V := IsI spot) hm3 ⟨_, rfl⟩) (eLenL (e' := no_len) hS₅ offS.1 (by omega) (eL (V := IsV (.ref S)) rfl rfl)) (by omega))) fun v s₆ G₆ ⟨tv, hv⟩ => kInt G₆ fun t₁ s₇ G₇ => ⟨G₇.ww, by
        subst hv
        refine s_cut (n := n + 7) (c := 47) G₇.cx (by with_reducible exact leK (by assumption) rfl) fun P vsp s₈ e8 hP hvp hfP => ?_
        have G₈ := G₇.go e8
        have offP := G₇.fresh_off (G₇.alive cz) hfP
        refine stc G₈.base fun s₉ G₉ => ?_
        exact h s₉ S P n0 vsp hin.1 (by simpa using hin.2) (G₄.after (G₅.after (G₈.after G₉))) (G₉.eff.keep.list offP.1 hP) hvp offP.1 offP.2.1 offP.2.2.2.1⟩)) rfl
end
end Mine
end
section
open PySem PySem.W PyProof.Rows PySem.Calls PySem.Builtin
namespace Mine
section
variable {w : World} {mu mu0 us : List Addr} {env : Env} {n : Nat} {A : Around} {g s s' s₁ : Shared} {m : Str → Option Value} {E : Value → Shared → Prop} {Q : Value → Shared → Prop} {a b x dx d hd C U : Addr} {K H : KV} {head : By} {t u : Tok} {f : By → Option By} {e e₁ e₂ e₃ it : Expr} {pos px p1 p2 p3 p4 p5 p6 apos : Pos} {i j : Int} {L : Nat} {R : Flow → Shared → Prop} {b1 b2 b3 : Bool} {ob : Option By} {l name : By} {ls ms : List By} {vs : List Value} {V W : Value → Prop}
theorem Fm.cellOf (F : Fm w mu env n A g m s) {b : Addr} (h : b ∈ env.cells.map (·.2)) (hc : ∀ p ∈ env.cells, env.cells.lookup p.1 = some p.2) : ∃ v, s.heap.IsCell b v := by
  obtain ⟨p, hp, rfl⟩ := List.mem_map.mp h
  exact ⟨_, F.here.cel p.1 p.2 (hc p hp)⟩
theorem Fm.notOwn {xs : Array Value} (F : Fm w mu env n A g m s) (hc : ∀ p ∈ env.cells, env.cells.lookup p.1 = some p.2) (hl : s.heap.IsList a xs) : a ∉ Mine.own env := fun q => by
  obtain ⟨o, ho, _, k, hd⟩ := hl
  rcases List.mem_cons.mp q with rfl | q
  · obtain ⟨⟨ml, ⟨o', es, ep, ho', hd', _⟩, _⟩, _⟩ := F.here
    rw [ho] at ho'; cases ho'; rw [hd] at hd'; cases hd'
  · obtain ⟨v, o', ho', hd'⟩ := F.cellOf q hc
    rw [ho] at ho'; cases ho'; rw [hd] at hd'; cases hd'
theorem Fm.notOwnD (F : Fm w mu env n A g m s) (hc : ∀ p ∈ env.cells, env.cells.lookup p.1 = some p.2) (h : DB w s.heap a K) (hne : K ≠ []) : a ∉ Mine.own env := fun q => by
  obtain ⟨ps, ⟨o, es, ep, ho, hx, hd, hk, hp, hn⟩, hpb⟩ := h
  rcases List.mem_cons.mp q with rfl | q
  · obtain ⟨⟨ml, ⟨o', es', ep', ho', hd', hsk, _⟩, _⟩, _⟩ := F.here
    rw [ho] at ho'; cases ho'; rw [hd] at hd'; cases hd'
    cases hpb with
    | nil => exact hne rfl
    | cons h' =>
      generalize hes : es.toList = esl at hp
      cases hp with
      | cons h1 h2 h3 =>
        rename_i e0 es0
        obtain ⟨t', h4⟩ := isBytes_shape h1
        obtain ⟨nm, tn, h5⟩ := hsk e0 (by rw [← Array.mem_toList_iff, hes]; exact .head _)
        rw [h4] at h5; cases h5
  · obtain ⟨v, o', ho', hd'⟩ := F.cellOf q hc
    rw [ho] at ho'; cases ho'; rw [hd] at hd'; cases hd'
theorem it_range2 {px' pos : Pos} {e₁ e : Expr} {k : Nat} {R : Value → Shared → Prop} {s : Shared} (F : Fm w (Mine.own env) env n A g m s) (hc : ∀ p ∈ env.cells, env.cells.lookup p.1 = some p.2) (h1 : Ev w (Mine.own env) env n A g m (IsI 1) e₁) (he : Ev w (Mine.own env) env n A g m (IsI (k : Int)) e) (hk : k < 1000000)
    (go : ∀ it s', Fm w (Mine.own env) env n A g m s' → (∀ x px, TurnsIn w A (.Name x px) g [] (k - 1) (fun i v _ => ∃ t, v = .int (1 + (i : Int)) t) it s') → R it s')
    (hs : autoParam (starEach [e₁, e] env = (false, eval e₁ env) :: starEach [e] env) byRfl) (hs' : autoParam (starEach [e] env = [(false, eval e env)]) byRfl) (hx : autoParam (env.kindOf "range" = some .globalImplicit) byRfl) : wpAny (model prg w) A (eval (.Call (.Name "range" px') [e₁, e] [] pos) env) (fun xv s₁ => wpAny (model prg w) A (pyIter xv) R E s₁) E s := by
  refine wpAny_Call_Name_kw (bu F no_range boot_range ?_ hx)
  rw [hs, hs']
  refine PyProof.Rows.callWith_type rfl (Calls.evalArgs_plain (Calls.spliced_cons (h1 s F _ _ fun v0 s₀ F₀ ⟨t0, hv0⟩ => Calls.spliced_cons (he s₀ F₀ _ _ fun v s₁ F₁ ⟨t, hv⟩ => Calls.spliced_nil ?_))))
  subst hv0 hv
  refine call_range_2 ?_
  have F₂ : Fm w (Mine.own env) env n A g m { s₁ with heap := s₁.heap.push { cls := .type "range", data := .fields #[.int 1 t0, .int (k : Int) t, .int 1 s₁.toks] }, toks := s₁.toks + 1 } := (F₁.go (.push _)).toks _
  refine it_range (k := k - 1) (IsRange.new _ _ _ _ _ _ _) (small_one (by decide) (by decide) (by omega) (by omega)) (by rw [rangeSize_one]; split <;> omega) F₂ (F₂.alive hc) fun it s' F' T => ?_
  refine go it s' F' ?_
  simpa using T
set_option maxHeartbeats 1000000 in
theorem law11 {P : Addr} {vsp : List Value} {n0 : By} (KG : GoodKV K) (hKne : K ≠ []) (hn0 : n0.length ≤ 60) (cz : ∀ p ∈ (envP (p_law w) L).cells, (envP (p_law w) L).cells.lookup p.1 = some p.2)
    (G : Fm w (own (envP (p_law w) L)) (envP (p_law w) L) (n + 8) A s m s) (hm4 : m "held" = some (.ref hd)) (hm5 : m "parts" = some (.ref P))
    (hP : s.heap.IsList P vsp.toArray) (hvp : BytesAre vsp (splitB 47 n0)) (oP : P ∉ own (envP (p_law w) L))
    (hH : DB w s.heap hd K) (oh : hd ∉ own (envP (p_law w) L)) (hdf : hd ∉ frs A) (nh : NB ≤ hd)
    (h : ∀ s' (B : Addr) vsb, Fm w (own (envP (p_law w) L)) (envP (p_law w) L) (n + 8) A s (upd m "bases" (.ref B)) s' → s'.heap.PlainList B vsb.toArray → BytesAre vsb (basesP (splitB 47 n0) ((splitB 47 n0).length - 1)) → B ∉ own (envP (p_law w) L) → B ∉ frs A → NB ≤ B → wpAny (model prg w) A (execs ((p_law w).body.drop 12) (envP (p_law w) L)) R E s') :
    wpAny (model prg w) A (execs ((p_law w).body.drop 11) (envP (p_law w) L)) R E s := by
  have hpl := splitB_len 47 n0
  have hpz : ∀ x ∈ splitB 47 n0, x.length ≤ 4096 := fun x hx => by have := hpl.2 x hx; with_reducible exact leC (by assumption) (by assumption) rfl
  have hvl := hvp.length
  refine lcompA (y := "bases") G (CompOk.of (cl := [("parts", L + 2)]) G rfl rfl (all1 rfl)) ?_ (by rfl) (.inl rfl)
  refine it_range2 (k := (splitB 47 n0).length) G cz (eI (i := 1)) (by rw [← hvl]; exact eLenL (e' := no_len) hP oP (by omega) (eC (V := IsV (.ref P)) hm5 rfl)) (by omega) fun it s₂ G₂ T => ?_
  refine compT G cz G₂ (T _ _) (fun _ h => nomatch h) (by rw [sizeLine_eq]; omega) (fun i ys => BytesAre ys (basesP (splitB 47 n0) i)) (fun i ys hk => by rw [hk.length]; unfold basesP; rw [List.length_map]; exact Nat.le_trans (List.length_filter_le _ _) (by simp)) .nil ?_ ?_
  · rintro i v ys Cc m₁ s₃ hi ⟨ti, hv⟩ hK G₃ Fc hmm
    subst hv
    have hm5' : m₁ "parts" = some (.ref P) := (hmm ("parts", L + 2) (by simp)).trans hm5
    refine asgName (st Fc fun s₄ F₄ => wpAny_tests_one ?_)
    have hP₃ := G₃.eff.keep.list oP hP
    have hPm : P ∉ Cc :: [L + 2] := Fm.notOwn Fc (lookup_of_nodup (by show List.Nodup [("parts" : Str)]; decide)) hP₃
    have hi' : i < (splitB 47 n0).length := by omega
    have hit : (splitB 47 n0)[i]? = some ((splitB 47 n0).getD i []) := by
      rw [List.getD_eq_getElem?_getD, List.getElem?_eq_getElem hi']; rfl
    refine F₄.tt (tCmp (eItemL (k := i) hP₃ hPm hvp hit (by omega) (eC (V := IsV (.ref P)) hm5' rfl) ((eSubI (eL (V := IsI (1 + (i : Int))) rfl ⟨_, rfl⟩) (eI (i := 1))).mono fun v ⟨t, hv⟩ => ⟨t, by rw [hv]; congr 1; omega⟩)) (eB (l := [])) cNeB) fun s₅ F₅ => ?_
    have hbs := basesP_succ (splitB 47 n0) i
    cases hp' : ((splitB 47 n0).getD i [] != []) with
    | true =>
      rw [if_pos rfl]
      refine F₅.ev (eJoinSl hP₃ hvp hPm hpz (by omega) (eC (V := IsV (.ref P)) hm5' rfl) pNone (pSome (eL (V := IsI (1 + (i : Int))) rfl ⟨_, rfl⟩))) fun v s₆ F₆ ⟨tv, hv⟩ => ⟨⟨_, F₆, all1 (hm5'.trans hm5.symm)⟩, ?_⟩
      subst hv
      show BytesAre _ (basesP (splitB 47 n0) (i + 1))
      rw [hbs, hp', if_pos rfl]
      have hc : cutL (splitB 47 n0) none (some (1 + (i : Int))) = (splitB 47 n0).take (i + 1) := by
        rw [show (1 + (i : Int)) = ((i + 1 : Nat) : Int) by omega]; exact cut_to _ _
      rw [hc]
      exact hK.app (.cons .nil)
    | false =>
      rw [if_neg (by decide)]
      refine ⟨⟨_, F₅, all1 (hm5'.trans hm5.symm)⟩, ?_⟩
      show BytesAre _ (basesP (splitB 47 n0) (i + 1))
      rw [hbs, hp', if_neg (by decide), List.append_nil]
      exact hK
  · intro D ys s₃ hK G₃ hD hfD hnD
    refine ⟨G₃, hnD, hfD, hD, fun s₄ G₄ hD₄ => ?_⟩
    have offD := G.fresh_off (G.alive cz) hfD
    exact h s₄ D ys G₄ ⟨_, hD₄⟩ hK hnD offD.2.1 offD.2.2.2.1
theorem joinB_take (ps : List By) (k : Nat) : (joinB [47] (ps.take k)).length ≤ (joinB [47] ps).length := by
  rw [joinB_len, joinB_len]
  unfold joinSum
  have h1 : ((ps.take k).map List.length).sum ≤ (ps.map List.length).sum := by
    have e : (ps.map List.length).sum = ((ps.take k).map List.length).sum + ((ps.drop k).map List.length).sum := by
      rw [← List.sum_append, ← List.map_append, List.take_append_drop]
    rw [e]; exact Nat.le_add_right _ _
  exact Nat.add_le_add h1 (Nat.mul_le_mul_left _ (Nat.sub_le_sub_right (List.length_take_le' _ _) 1))
theorem mem_basesP {ps : List By} {i : Nat} {b : By} : b ∈ basesP ps i ↔ ∃ j, j < i ∧ ps.getD j [] ≠ [] ∧ b = joinB [47] (ps.take (j + 1)) := by
  unfold basesP
  rw [List.mem_map]
  constructor
  · rintro ⟨j, hj, rfl⟩
    obtain ⟨h1, h2⟩ := List.mem_filter.mp hj
    exact ⟨j, List.mem_range.mp h1, by simpa using h2, rfl⟩
  · rintro ⟨j, h1, h2, rfl⟩
    exact ⟨j, List.mem_filter.mpr ⟨List.mem_range.mpr h1, by simpa using h2⟩, rfl⟩
theorem tSame {fS : By → Option By} {base : By} (S : SameB K H base fS) (cz : ∀ p ∈ env.cells, env.cells.lookup p.1 = some p.2) (R : Rep w A g.heap x dx d K) (off : x ∉ mu ∧ dx ∉ mu ∧ d ∉ mu) (KO : KOk K) (h64 : K.length < 60) (hH : DB w g.heap hd H) (hn : NB ≤ hd) (hf : hd ∉ frs A) (ho : hd ∉ mu) (hb : base.length ≤ 4096) (hHk : ∀ kv ∈ H, kv.1.length ≤ 4096) (hHl : H.length < 60)
    (n1 : EvN w mu env (n + 8) A g m (.ref x) e₁) (n2 : EvN w mu env (n + 8) A g m (.ref hd) e₂) (n3 : EvN w mu env (n + 8) A g m (.bytes base.toArray t) e₃)
    (ha : autoParam (starEach [e₁, e₂, e₃] env = (false, eval e₁ env) :: starEach [e₂, e₃] env) byRfl) (hbb : autoParam (starEach [e₂, e₃] env = [(false, eval e₂ env), (false, eval e₃ env)]) byRfl) (hx : autoParam (env.kindOf "_law_same" = some .globalImplicit) byRfl) :
    Ev w mu env (n + 8) A g m (IsT true) (.Call (.Name "_law_same" px) [e₁, e₂, e₃] [] pos) := fun s F Q E q =>
  evc3 F d_same (n1 s F _ _ (n2 s F _ _ (n3 s F _ _ ⟨F.ww, s_same (n := n + 1) S F.cx (R.eff F.eff off) KO (by with_reducible exact ltK (by assumption) rfl) (hH.eff F.eff hf ho) hn hf hb hHk (by with_reducible exact ltK (by assumption) rfl) fun s' e => q _ s' (F.go e) rfl⟩))) ha hbb hx
set_option maxHeartbeats 1000000 in
theorem law12 {B : Addr} {vsb : List Value} {n0 : By} {deep : Int} (KL : KLaw K) (KG : GoodKV K) (hKne : K ≠ []) (hn0 : n0.length ≤ 60) (hnK : n0 ∈ K.map (·.1)) (hnH : n0 ≠ HEADB) (cz : ∀ p ∈ (envP (p_law w) L).cells, (envP (p_law w) L).cells.lookup p.1 = some p.2)
    (G : Fm w (own (envP (p_law w) L)) (envP (p_law w) L) (n + 8) A s m s) (hm3 : m "refs" = some (.ref x)) (hm4 : m "held" = some (.ref hd)) (hm5 : m "bases" = some (.ref B)) (hm6 : ∃ t, m "deep" = some (.int deep t)) (hd0 : 0 ≤ deep)
    (hB : s.heap.PlainList B vsb.toArray) (hvb : BytesAre vsb (basesP (splitB 47 n0) ((splitB 47 n0).length - 1))) (oB : B ∉ own (envP (p_law w) L)) (fB : B ∉ frs A) (nB : NB ≤ B)
    (R₀ : Rep w A s.heap x dx d K) (off : x ∉ own (envP (p_law w) L) ∧ dx ∉ own (envP (p_law w) L) ∧ d ∉ own (envP (p_law w) L))
    (hH : DB w s.heap hd K) (oh : hd ∉ own (envP (p_law w) L)) (hdf : hd ∉ frs A) (nh : NB ≤ hd)
    (h : ∀ s' (B' : Addr) base tb, BaseOk K base → base.length ≤ 60 → Fm w (own (envP (p_law w) L)) (envP (p_law w) L) (n + 8) A s (upd (upd m "bases" (.ref B')) "base" (.bytes base.toArray tb)) s' → wpAny (model prg w) A (execs ((p_law w).body.drop 15) (envP (p_law w) L)) R E s') :
    wpAny (model prg w) A (execs ((p_law w).body.drop 12) (envP (p_law w) L)) R E s := by
  obtain ⟨td, hm6⟩ := hm6
  have hl := KG.len
  have hvl := hvb.length
  have hpl := splitB_len 47 n0
  have hbl : (basesP (splitB 47 n0) ((splitB 47 n0).length - 1)).length ≤ 60 := by
    unfold basesP
    rw [List.length_map]
    refine Nat.le_trans (List.length_filter_le _ _) ?_
    simp; omega
  have hbz : ∀ b ∈ basesP (splitB 47 n0) ((splitB 47 n0).length - 1), b.length ≤ 60 := fun b hb => by
    obtain ⟨j, _, _, rfl⟩ := mem_basesP.mp hb
    refine Nat.le_trans (joinB_take _ _) ?_
    rw [join_split]; exact hn0
  generalize hbs : basesP (splitB 47 n0) ((splitB 47 n0).length - 1) = bs at hvb hvl hbl hbz
  refine lcompA (y := "bases") G (CompOk.of (cl := [("held", L + 1)]) G rfl rfl (all1 rfl)) ?_ (by rfl) (.inl rfl)
  refine ldl G hm5 (it_list (plList hB) G (G.alive cz) (B := [B]) (.inr (.head _)) fun it s₂ G₂ keep T => ?_)
  refine compT G cz G₂ (T _ _) (all1 ⟨oB, fB, fun q => absurd (q ▸ nB) (by decide)⟩) (by rw [sizeLine_eq]; with_reducible exact leE (by assumption) (by assumption) rfl) (fun i ys => BytesAre ys ((bs.take i).filter fun b => K.all fun kv => clearO b kv.1)) (fun i ys hk => by rw [hk.length]; exact Nat.le_trans (List.length_filter_le _ _) (by simp; omega)) .nil ?_ ?_
  · rintro i v ys Cc m₁ s₃ hi hv hK G₃ Fc hmm
    obtain ⟨b, tb, hb, rfl⟩ := hvb.get hv
    have hbb := hbz b (List.mem_of_getElem? hb)
    have hm4' : m₁ "held" = some (.ref hd) := (hmm ("held", L + 1) (by simp)).trans hm4
    have hH₃ := hH.eff G₃.eff hdf oh
    have hHm : hd ∉ Cc :: [L + 1] := Fm.notOwnD Fc (lookup_of_nodup (by show List.Nodup [("held" : Str)]; decide)) hH₃ hKne
    refine asgName (st Fc fun s₄ F₄ => wpAny_tests_one ?_)
    refine F₄.tt (b := K.all fun kv => clearO b kv.1) (tPlain (V := IsT (K.all fun kv => clearO b kv.1)) (eCall2 (Va := IsV (.ref hd)) (Vb := IsB b) d_clear (eC hm4' rfl) (eL rfl ⟨_, rfl⟩) fun u v hu ⟨tv, hv⟩ s F Q E q => by
      have hu : u = .ref hd := hu
      subst hu hv
      exact s_clear (n := n + 7) F.cx (hH₃.eff F.eff hdf hHm) nh hdf (by with_reducible exact leK (by assumption) rfl) (fun kv hkv => by have := (KG.all kv hkv).2.2.1; with_reducible exact leK (by assumption) rfl) (by with_reducible exact leK (by assumption) rfl) fun s' e => q _ _ (F.go e) rfl) truth_bool) fun s₅ F₅ => ?_
    cases hp' : (K.all fun kv => clearO b kv.1) with
    | true =>
      rw [if_pos rfl]
      refine F₅.ev (eL (V := IsB b) rfl ⟨_, rfl⟩) fun v s₆ F₆ ⟨tv', hv'⟩ => ⟨⟨_, F₆, all1 (hm4'.trans hm4.symm)⟩, ?_⟩
      subst hv'
      show BytesAre _ ((bs.take (i + 1)).filter fun b => K.all fun kv => clearO b kv.1)
      rw [take_succ' hb, List.filter_append, List.filter_cons_of_pos (p := fun b => K.all fun kv => clearO b kv.1) hp']
      exact hK.app (.cons .nil)
    | false =>
      rw [if_neg (by decide)]
      refine ⟨⟨_, F₅, all1 (hm4'.trans hm4.symm)⟩, ?_⟩
      show BytesAre _ ((bs.take (i + 1)).filter fun b => K.all fun kv => clearO b kv.1)
      rw [take_succ' hb, List.filter_append, List.filter_cons_of_neg (p := fun b => K.all fun kv => clearO b kv.1) (by rw [hp']; decide)]
      simpa using hK
  · intro D ys s₃ hK G₃ hD hfD hnD
    have hK : BytesAre ys ((bs.take vsb.length).filter fun b => K.all fun kv => clearO b kv.1) := hK
    rw [hvl, List.take_of_length_le (Nat.le_refl _)] at hK
    refine ⟨G₃, hnD, hfD, hD, fun s₄ G₄ hD₄ => ?_⟩
    have offD := G.fresh_off (G.alive cz) hfD
    obtain ⟨hs0, hs1⟩ := KL.split0 n0 hnK hnH
    have hREF : REF4 ∈ bs.filter fun b => K.all fun kv => clearO b kv.1 := by
      refine List.mem_filter.mpr ⟨?_, KL.clear0⟩
      rw [← hbs]
      refine mem_basesP.mpr ⟨0, by omega, ?_, ?_⟩
      · rw [List.getD_eq_getElem?_getD, hs0]; decide
      · generalize splitB 47 n0 = ps at hs0
        cases ps with
        | nil => cases hs0
        | cons p r => cases hs0; rfl
    have hfl : (bs.filter fun b => K.all fun kv => clearO b kv.1).length ≤ bs.length := List.length_filter_le _ _
    have hfmem : ∀ b ∈ bs.filter fun b => K.all fun kv => clearO b kv.1, b ∈ bs ∧ (K.all fun kv => clearO b kv.1) = true := fun b hb => List.mem_filter.mp hb
    generalize (bs.filter fun b => K.all fun kv => clearO b kv.1) = fb at hK hREF hfl hfmem
    have hpos : 0 < fb.length := List.length_pos_of_mem hREF
    have hyl := hK.length
    obtain ⟨_, k, hk1, hk2⟩ := fdm (a := deep) (b := fb.length) hd0 hpos
    have hit : fb[k]? = some fb[k] := List.getElem?_eq_getElem hk2
    have hbm := hfmem _ (List.getElem_mem hk2)
    generalize fb[k] = base at hit hbm
    obtain ⟨j, hj1, hj2, hj3⟩ := mem_basesP.mp (hbs ▸ hbm.1)
    have hBO : BaseOk K base := ⟨n0, j, hnK, hnH, by omega, hj2, hj3, hbm.2⟩
    have hbl60 : base.length ≤ 60 := hbz base hbm.1
    have hDl : s₄.heap.IsList D ys.toArray := ⟨_, hD₄, rfl, _, rfl⟩
    have Gb := G₄.base
    refine xAsg Gb (eItemL (k := k) (l := base) hDl hnD hK hit (by omega) (eL (V := IsV (.ref D)) rfl rfl) (by
      rw [← hk1, ← hyl]
      exact eMod (eL (V := IsI deep) hm6 ⟨_, rfl⟩) (eLenL (e' := no_len) hDl hnD (by omega) (eL (V := IsV (.ref D)) rfl rfl)) (by omega))) fun v s₅ ⟨tv, hv⟩ G₅ => ?_
    subst hv
    have hG5 := G₄.after G₅
    have Gc := hG5.base
    refine xIf1 Gc (b := !true) (tNot (tPlain (tSame (n := n) (KL.same base hBO) cz (R₀.eff hG5.eff off) off KL.ok (by with_reducible exact ltL (by assumption) rfl) (hH.eff hG5.eff hdf oh) nh hdf oh (by with_reducible exact leK (by assumption) rfl) (fun kv hkv => by have := (KG.all kv hkv).2.2.1; with_reducible exact leK (by assumption) rfl) (by with_reducible exact ltL (by assumption) rfl) (nL hm3) (nC hm4) (nL rfl)) truth_bool)) (fun q => nomatch q) fun _ s₆ G₆ => ?_
    exact h s₆ D base tv hBO hbl60 (hG5.after G₆)
end
end Mine
end
section
open PySem PySem.W PyProof.Rows PySem.Calls PySem.Builtin
namespace Mine
structure RemOk (r : By) : Prop where
  ne : r ≠ []
  len : r.length ≤ 40
  last : r.getLast? ≠ some 47
  first : r.take 1 ≠ [47]
section
variable {w : World} {mu mu0 us : List Addr} {env : Env} {n : Nat} {A : Around} {g s s' s₁ : Shared} {m : Str → Option Value} {E : Value → Shared → Prop} {Q : Value → Shared → Prop} {a b x dx d hd C U : Addr} {K H : KV} {head : By} {t u : Tok} {f : By → Option By} {e e₁ e₂ e₃ it : Expr} {pos px p1 p2 p3 p4 p5 p6 apos : Pos} {i j : Int} {L : Nat} {R : Flow → Shared → Prop} {b1 b2 b3 : Bool} {ob : Option By} {l name : By} {ls ms : List By} {vs : List Value} {V W : Value → Prop}
set_option maxHeartbeats 1000000 in
theorem law15 {kind : Nat} {rest : Int} (cz : ∀ p ∈ (envP (p_law w) L).cells, (envP (p_law w) L).cells.lookup p.1 = some p.2)
    (G : Fm w (own (envP (p_law w) L)) (envP (p_law w) L) (n + 8) A s m s) (hm1 : ∃ t, m "kind" = some (.int (kind : Int) t)) (hk : kind < 12) (hm2 : ∃ t, m "rest" = some (.int rest t)) (hr : 0 ≤ rest)
    (h : ∀ s' m' (r : By) tr, RemOk r → Fm w (own (envP (p_law w) L)) (envP (p_law w) L) (n + 8) A s m' s' → (∀ y : Str, y ≠ "remote" → m' y = m y) → m' "remote" = some (.bytes r.toArray tr) → wpAny (model prg w) A (execs ((p_law w).body.drop 19) (envP (p_law w) L)) R E s') :
    wpAny (model prg w) A (execs ((p_law w).body.drop 15) (envP (p_law w) L)) R E s := by
  obtain ⟨tk, hm1⟩ := hm1
  obtain ⟨tr0, hm2⟩ := hm2
  refine xAsg G (V := fun v => ∃ r : By, r.length ≤ 40 ∧ IsB r v) (eOp (remoteItem (n := n + 7) hk (hmuOwn cz) (fun g => eL (V := IsI (kind : Int)) hm1 ⟨_, rfl⟩)) (eTail (n := n + 6) (eL (V := IsI rest) hm2 ⟨_, rfl⟩) hr) fun a b ⟨l, hl, ta, ha⟩ ⟨l', hl', tb, hb⟩ s F Q E q => by
    subst ha hb
    exact addB (by with_reducible exact leS (by assumption) (by assumption) rfl) fun t' s' e => q _ _ (F.go e) ⟨l ++ l', by simp; with_reducible exact leS (by assumption) (by assumption) rfl, _, rfl⟩) fun v s₂ ⟨r0, hrl, tv, hv⟩ G₂ => ?_
  subst hv
  refine sWhile G₂ (fun k m' _ => ∃ p : By, ∃ tp, m' "remote" = some (.bytes p.toArray tp) ∧ p.length = k ∧ p.length ≤ 40 ∧ ∀ y : Str, y ≠ "remote" → m' y = m y) r0.length ⟨r0, tv, rfl, rfl, hrl, fun y hy => upd_ne hy⟩ ?_
  rintro k m₁ s₃ ⟨p, tp, hm, rfl, hpl, hag⟩ F₃
  have hlast : p.drop (p.length - 1) = p.getLast?.toList := drop_last
  refine F₃.tt (tCmp (eSlE ((cut_last p).trans hlast) (eL hm ⟨_, rfl⟩) (pSome (eNeg (eI (i := 1)))) pNone (by with_reducible exact leK (by assumption) rfl)) (eB (l := [47])) cEqB) fun s₄ F₄ => ?_
  by_cases hp : p.getLast? = some 47
  · rw [hp, if_pos (by decide)]
    refine xAsg F₄ (eSlE (cut_init p) (eL hm ⟨_, rfl⟩) pNone (pSome (eNeg (eI (i := 1)))) (by with_reducible exact leK (by assumption) rfl)) fun v s₅ ⟨tv', hv⟩ F₅ => sNil ⟨p.dropLast.length, _, ?_, F₅, p.dropLast, tv', ?_, rfl, ?_, fun y hy => (upd_ne hy).trans (hag y hy)⟩
    · have hl : p ≠ [] := by rintro rfl; cases hp
      have := List.length_pos_iff.mpr hl
      simp; with_reducible exact Nat.sub_lt (by assumption) (by decide)
    · rw [hv]; rfl
    · simp; with_reducible exact leK (by assumption) rfl
  · rw [show (p.getLast?.toList == [47]) = false by
      cases hq : p.getLast? with
      | none => rfl
      | some y => rw [hq] at hp; have : y ≠ 47 := fun e => hp (by rw [e]); simp [this], if_neg (by decide)]
    refine sWhile F₄ (fun k m' _ => ∃ p : By, ∃ tp, m' "remote" = some (.bytes p.toArray tp) ∧ p.length = k ∧ p.length ≤ 40 ∧ p.getLast? ≠ some 47 ∧ ∀ y : Str, y ≠ "remote" → m' y = m y) p.length ⟨p, tp, hm, rfl, hpl, hp, hag⟩ ?_
    rintro k m₂ s₅ ⟨q, tq, hm', rfl, hql, hq47, hag'⟩ F₅
    refine F₅.tt (tCmp (eSlE (cut_to q 1) (eL hm' ⟨_, rfl⟩) pNone (pSome (eI (i := 1))) (by with_reducible exact leK (by assumption) rfl)) (eB (l := [47])) cEqB) fun s₆ F₆ => ?_
    by_cases hq : q.take 1 = [47]
    · rw [hq, if_pos (by decide)]
      refine xAsg F₆ (eSlE (cut_from q 1) (eL hm' ⟨_, rfl⟩) (pSome (eI (i := 1))) pNone (by with_reducible exact leK (by assumption) rfl)) fun v s₇ ⟨tv', hv⟩ F₇ => sNil ⟨(q.drop 1).length, _, ?_, F₇, q.drop 1, tv', ?_, rfl, ?_, ?_, fun y hy => (upd_ne hy).trans (hag' y hy)⟩
      · have hl : q ≠ [] := by rintro rfl; cases hq
        have := List.length_pos_iff.mpr hl
        simp; with_reducible exact Nat.sub_lt (by assumption) (by decide)
      · rw [hv]; rfl
      · simp; with_reducible exact leK (by assumption) rfl
      · intro e
        refine hq47 ?_
        cases q with
        | nil => cases e
        | cons c r =>
          cases r with
          | nil => cases e
          | cons c' r' => simpa using e
    · rw [show (q.take 1 == [47]) = false by simpa using hq, if_neg (by decide)]
      refine xIf1 F₆ (tCmp (eL (V := IsB q) hm' ⟨_, rfl⟩) (eB (l := [])) cEqB) (fun hb s₇ F₇ => ?_) fun hb s₇ F₇ => ?_
      · refine xAsg F₇ (eB (l := [111, 114, 105, 103, 105, 110])) fun v s₈ ⟨tv', hv⟩ F₈ => sNil ?_
        subst hv
        exact h s₈ _ _ tv' ⟨by decide, by decide, by decide, by decide⟩ F₈ (fun y hy => (upd_ne hy).trans (hag' y hy)) rfl
      · exact h s₇ m₂ q tq ⟨by simpa using hb, hql, hq47, hq⟩ F₇ hag' hm'
end
end Mine
end
section
open PySem PySem.W PyProof.Rows PySem.Calls PySem.Builtin
namespace Mine
noncomputable def goodR (r : By) : Bool := ((splitB 47 r).filter neP).all soundP
noncomputable def FAR (r : By) : By := PFX ++ r
structure Apart (w : World) (A : Around) (L : Nat) (a : Addr) : Prop where
  own : a ∉ own (envP (p_law w) L)
  fr : a ∉ frs A
  nb : NB ≤ a
noncomputable def N19 : List Str := ["whose", "good", "far", "told", "ours", "head"]
section
variable {w : World} {mu mu0 us : List Addr} {env : Env} {n : Nat} {A : Around} {g s s' s₁ : Shared} {m : Str → Option Value} {E : Value → Shared → Prop} {Q : Value → Shared → Prop} {a b x dx d hd C U : Addr} {K H : KV} {head base : By} {t u : Tok} {f : By → Option By} {e e₁ e₂ e₃ it : Expr} {pos px p1 p2 p3 p4 p5 p6 apos : Pos} {i j : Int} {L : Nat} {R : Flow → Shared → Prop} {b1 b2 b3 : Bool} {ob : Option By} {l name r : By} {ls ms : List By} {vs : List Value} {V W : Value → Prop}
structure After19 (w : World) (A : Around) (L : Nat) (s' : Shared) (m m' : Str → Option Value) (r : By) (S : KV → Prop) (Wd D O : Addr) (out : KV) (os : List By) (hk : By) : Prop where
  agree : ∀ y : Str, y ∉ N19 → m' y = m y
  whose : m' "whose" = some (.ref Wd)
  wlist : ∃ vs, s'.heap.IsList Wd vs.toArray ∧ BytesAre vs (splitB 47 r)
  wap : Apart w A L Wd
  good : m' "good" = some (.bool (goodR r))
  far : ∃ t, m' "far" = some (.bytes (FAR r).toArray t)
  told : m' "told" = some (.ref D)
  tdb : DB w s'.heap D out
  tap : Apart w A L D
  tout : S out
  ours : m' "ours" = some (.ref O)
  olist : ∃ vs, s'.heap.IsList O vs.toArray ∧ BytesAre vs os
  oap : Apart w A L O
  osrt : Srt os (out.map (·.1))
  head : ∃ t, m' "head" = some (.bytes (FAR r ++ [47] ++ hk).toArray t)
  hmem : hk ∈ os
theorem Fm.evx {Kx : Shared → Value → Shared → Prop} (F : Fm w mu env n A g m s) (h : EvX w mu env n A g m Kx e) (k : ∀ v s', Eff w (frs A) [] s s' → Kx s v s' → Q v s') : wpAny (model prg w) A (eval e env) Q E s := h s F Q E k
set_option maxHeartbeats 2000000 in
theorem law19 {spot : Int} (SB : SameB K H base f) (KO : KOk K) (hK4 : K.length ≤ 4) (hne : ∃ y, ∃ p, get2 (underP H base) y = some p) (hyl : ∀ y p, get2 (underP H base) y = some p → y.length ≤ 60) (RO : RemOk r) (hbl : base.length ≤ 60) (cz : ∀ p ∈ (envP (p_law w) L).cells, (envP (p_law w) L).cells.lookup p.1 = some p.2)
    (G : Fm w (own (envP (p_law w) L)) (envP (p_law w) L) (n + 8) A s m s) (hm1 : ∃ t, m "remote" = some (.bytes r.toArray t)) (hm2 : ∃ t, m "base" = some (.bytes base.toArray t)) (hm3 : m "refs" = some (.ref x)) (hm4 : ∃ t, m "spot" = some (.int spot t)) (hs0 : 0 ≤ spot) 
    (R₀ : Rep w A s.heap x dx d K) (off : x ∉ own (envP (p_law w) L) ∧ dx ∉ own (envP (p_law w) L) ∧ d ∉ own (envP (p_law w) L))
    (h : ∀ s' m' Wd D O out os hk, Fm w (own (envP (p_law w) L)) (envP (p_law w) L) (n + 8) A s m' s' → After19 w A L s' m m' r (fun out => (∀ y, get2 out y = get2 (underP H base) y) ∧ out.length ≤ 4) Wd D O out os hk → Fresh w s D → wpAny (model prg w) A (execs ((p_law w).body.drop 25) (envP (p_law w) L)) R E s') :
    wpAny (model prg w) A (execs ((p_law w).body.drop 19) (envP (p_law w) L)) R E s := by
  obtain ⟨tr, hm1⟩ := hm1
  obtain ⟨tb, hm2⟩ := hm2
  obtain ⟨ts, hm4⟩ := hm4
  have hrl := RO.len
  have hpl := splitB_len 47 r
  refine sAsg (evc2 G d_cut (ldl G hm1 (kInt G fun t₁ s₂ G₂ => ⟨G₂.ww, s_cut (n := n + 7) (c := 47) G₂.cx (by with_reducible exact leK (by assumption) rfl) fun Wd vsw s₃ e3 hW hvw hfW => ?_⟩))) rfl
  have G₃ := G₂.go e3
  have offW := G₂.fresh_off (G₂.alive cz) hfW
  refine st G₃.base (fun s₄ G₄ => ?_) rfl
  have hW₄ := G₄.eff.keep.list offW.1 hW
  have H₄ := G₃.after G₄
  have Gb := H₄.base
  refine xAsg Gb (eSounds2 (n := n + 6) cz (fun g s F => CompOk.of (cl := []) F rfl rfl (fun _ h => nomatch h)) (fun g => nL rfl) hW₄ hvw (by omega) (fun x hx => by have := hpl.2 x hx; with_reducible exact leC (by assumption) (by assumption) rfl) offW.1 offW.2.1 offW.2.2.2.1) fun v s₅ hv G₅ => ?_
  have hv : v = .bool (goodR r) := hv
  subst hv
  refine xAsg G₅ (eAddB (l := PFX) (p := r) eB (eL hm1 ⟨_, rfl⟩) (by have : PFX.length = 13 := rfl; with_reducible exact leB (by assumption) rfl)) fun v s₆ ⟨tf, hv⟩ G₆ => ?_
  subst hv
  have R₄ := R₀.eff H₄.eff off
  refine sAsg (Fm.evx (n := n + 2 + 6) G₆ (xAsD1 (n := n + 2) R₄ off KO (by with_reducible exact leK (by assumption) rfl) SB.full (nL hm3) (nL hm2)) fun v s₇ e7 ⟨D, out, hv, hD, hout, hlen, nD, fD, hfD⟩ => ?_) rfl
  subst hv
  have G₇ := G₆.go e7
  have offD := G₆.fresh_off (G₆.alive cz) hfD
  refine st G₇.base (fun s₈ G₈ => ?_) rfl
  have hD₈ := hD.eff G₈.eff fD offD.1
  have hout' : ∀ y, get2 out y = get2 (underP H base) y := fun y => (hout y).trans (SB.val y)
  refine sAsg (evSorted G₈ (ldl G₈ rfl (sorted_db hD₈ nD G₈.hh (by omega) fun O vso os s₉ e9 hO hbo hsrt hfO => ?_))) rfl
  have G₉ := G₈.go e9
  have offO := G₈.fresh_off (G₈.alive cz) hfO
  refine st G₉.base (fun s₁₀ G₁₀ => ?_) rfl
  have hO₁₀ := plList (plEff hO G₁₀.eff offO.2.1 offO.1)
  have hD₁₀ := hD.eff (G₉.after G₁₀).eff fD offD.1
  have Gc := G₁₀.base
  have hol := hbo.length
  have hosl : os.length = out.length := by rw [hsrt.1.length_eq]; simp
  have hpos : 0 < os.length := by
    obtain ⟨y, p, hy⟩ := hne
    have : y ∈ out.map (·.1) := get2_iff.mpr (by rw [hout' y, hy]; rfl)
    exact List.length_pos_of_mem (hsrt.1.mem_iff.mpr this)
  have hosz : ∀ y ∈ os, y.length ≤ 60 := fun y hy => by
    have := hsrt.1.mem_iff.mp hy
    obtain ⟨p, hp⟩ := get2_some this
    exact hyl y p (by rw [← hout' y]; exact hp)
  obtain ⟨_, k1, hk1, hk1'⟩ := fdm (a := spot) (b := os.length) hs0 hpos
  have it1 : os[k1]? = some os[k1] := List.getElem?_eq_getElem hk1'
  have mem1 := List.getElem_mem hk1'
  generalize os[k1] = hk at it1 mem1
  have hkz := hosz hk mem1
  refine xAsg Gc (eAddB (l := FAR r ++ [47]) (p := hk) (eAddB (l := FAR r) (p := [47]) (eL (V := IsB (FAR r)) rfl ⟨_, rfl⟩) eB (by unfold FAR; have : PFX.length = 13 := rfl; simp; with_reducible exact leB (by assumption) rfl)) (eItemL (k := k1) (l := hk) hO₁₀ offO.1 hbo it1 (by omega) (eL (V := IsV (.ref O)) rfl rfl) (by
    rw [← hk1, ← hol]
    exact eMod (eL (V := IsI spot) hm4 ⟨_, rfl⟩) (eLenL (e' := no_len) hO₁₀ offO.1 (by omega) (eL (V := IsV (.ref O)) rfl rfl)) (by omega))) (by unfold FAR; have : PFX.length = 13 := rfl; simp; omega)) fun v s₁₁ ⟨th, hv⟩ G₁₁ => ?_
  subst hv
  have e4_10 : Eff w (frs A) (own (envP (p_law w) L)) s₄ s₁₁ := (G₇.after (G₉.after (G₁₀.after G₁₁))).eff
  refine h s₁₁ _ Wd D O out os hk (H₄.after (G₇.after (G₉.after (G₁₀.after G₁₁)))) ?_ ((hfD.back G₆.eff offD.1).back H₄.eff offD.1)
  refine ⟨fun y hy => ?_, rfl, ⟨vsw, e4_10.keep.list offW.1 hW₄, hvw⟩, ⟨offW.1, offW.2.1, offW.2.2.2.1⟩, rfl, ⟨tf, rfl⟩, rfl, hD₁₀.eff G₁₁.eff fD offD.1, ⟨offD.1, fD, nD⟩, ⟨hout', by with_reducible exact leC (by assumption) (by assumption) rfl⟩, rfl, ⟨vso, G₁₁.eff.keep.list offO.1 hO₁₀, hbo⟩, ⟨offO.1, offO.2.1, offO.2.2.2.1⟩, hsrt, ⟨th, rfl⟩, mem1⟩
  have hy' : y ≠ "whose" ∧ y ≠ "good" ∧ y ≠ "far" ∧ y ≠ "told" ∧ y ≠ "ours" ∧ y ≠ "head" := by simpa [N19] using hy
  obtain ⟨a1, a2, a3, a4, a5, a6⟩ := hy'
  rw [upd_ne a6, upd_ne a5, upd_ne a4, upd_ne a3, upd_ne a2, upd_ne a1]
end
end Mine
end
section
open PySem PySem.W PyProof.Rows PySem.Calls PySem.Builtin
namespace Mine
noncomputable def V7 : By := List.replicate 40 55
section
variable {w : World} {mu mu0 us : List Addr} {env : Env} {n : Nat} {A : Around} {g s s' s₁ : Shared} {m : Str → Option Value} {E : Value → Shared → Prop} {Q : Value → Shared → Prop} {a b x dx d hd C U : Addr} {K H : KV} {head base : By} {t u : Tok} {f : By → Option By} {e e₁ e₂ e₃ it : Expr} {pos px p1 p2 p3 p4 p5 p6 apos : Pos} {i j : Int} {L : Nat} {R : Flow → Shared → Prop} {b1 b2 b3 : Bool} {ob : Option By} {l name r : By} {ls ms : List By} {vs : List Value} {V W : Value → Prop}
set_option maxHeartbeats 1000000 in
theorem law25 {gone : Int} {O : Addr} {os : List By} {vso : List Value} (cz : ∀ p ∈ (envP (p_law w) L).cells, (envP (p_law w) L).cells.lookup p.1 = some p.2) (hhl : head.length ≤ 200)
    (G : Fm w (own (envP (p_law w) L)) (envP (p_law w) L) (n + 8) A s m s) (hm1 : ∃ t, m "head" = some (.bytes head.toArray t)) (hm5 : ∃ t, m "gone" = some (.int gone t)) (hg0 : 0 ≤ gone) (hm6 : m "ours" = some (.ref O)) (hO : s.heap.IsList O vso.toArray) (hbo : BytesAre vso os) (aO : Apart w A L O) (hpos : 0 < os.length) (hosl : os.length ≤ 100)
    (h : ∀ s' (lk : By) tl kd x2 dx2 d2, lk ∈ os → Fm w (own (envP (p_law w) L)) (envP (p_law w) L) (n + 8) A s (upd (upd (upd m "lost" (.bytes lk.toArray tl)) "kept" (.ref kd)) "second" (.ref x2)) s' → DB w s'.heap kd [(STASH, V7)] → Rep w A s'.heap x2 dx2 d2 (put [(STASH, V7)] HEADB (REF ++ head)) → Fresh w s kd → Fresh w s x2 → Fresh w s dx2 → Fresh w s d2 → Apart w A L kd → (x2 ∉ own (envP (p_law w) L) ∧ dx2 ∉ own (envP (p_law w) L) ∧ d2 ∉ own (envP (p_law w) L)) → kd ≠ d2 → kd ≠ x2 → kd ≠ dx2 → wpAny (model prg w) A (execs ((p_law w).body.drop 28) (envP (p_law w) L)) R E s') :
    wpAny (model prg w) A (execs ((p_law w).body.drop 25) (envP (p_law w) L)) R E s := by
  obtain ⟨th, hm1⟩ := hm1
  obtain ⟨tg, hm5⟩ := hm5
  have hr5 : REF.length = 5 := rfl
  obtain ⟨_, k2, hk2, hk2'⟩ := fdm (a := gone) (b := os.length) hg0 hpos
  have it2 : os[k2]? = some os[k2] := List.getElem?_eq_getElem hk2'
  have mem2 := List.getElem_mem hk2'
  have hol := hbo.length
  generalize os[k2] = lk at it2 mem2
  refine xAsg G (eItemL (k := k2) (l := lk) hO aO.own hbo it2 (by omega) (eL (V := IsV (.ref O)) hm6 rfl) (by
    rw [← hk2, ← hol]
    exact eMod (eL (V := IsI gone) hm5 ⟨_, rfl⟩) (eLenL (e' := no_len) hO aO.own (by with_reducible exact leE (by assumption) (by assumption) rfl) (eL (V := IsV (.ref O)) hm6 rfl)) (by omega))) ?_
  rintro v s₁ ⟨tl, hv⟩ G₁
  subst hv
  have al := G₁.alive cz
  with_reducible refine sAsg ?_ ?_
  rotate_left
  · rfl
  with_reducible refine dDisp1 (k := STASH) (v := V7) G₁ al ?_ ?_ fun kd s₂ G₂ hD hfkd => ?_
  · exact fun g => eB
  · exact fun g => eMulB (c := 55) (k := 40) eB (eI (i := 40)) (by decide)
  have offk := G.fresh_off (G.alive cz) hfkd
  have G₂b := G₂.base
  refine st G₂b (fun s₃ G₃ => ?_) rfl
  have hD₄ := hD.eff G₃.eff offk.2.1 offk.1
  have H₃ := G₂.after G₃
  have G₄ := G₃.base
  refine sAsg (evc1 G₄ d_C311 ?_) rfl
  have al₄ := G₄.alive cz
  with_reducible refine dDisp2 (k := STASH) (v := V7) (k' := HEADB) (v' := REF ++ head) G₄ al₄ ?_ ?_ ?_ ?_ fun d2 s₅ G₅ hd2 hfd2 => ?_
  · exact fun g => eB
  · exact fun g => eMulB (c := 55) (k := 40) eB (eI (i := 40)) (by decide)
  · exact fun g => eB
  · exact fun g => eAddB (l := REF) (p := head) eB (eL (V := IsB head) hm1 ⟨_, rfl⟩) (by with_reducible exact leB (by assumption) rfl)
  have hD₅ := hD₄.eff G₅.eff offk.2.1 offk.1
  have offd2 := G₄.fresh_off al₄ hfd2
  refine ⟨G₅.ww, newC (n := n + 6) G₅.cx hd2 offd2.2.2.2.1 offd2.2.1 fun x2 dx2 s₆ e6 R₆ hfx hfdx => ?_⟩
  have G₆ := G₅.go e6
  have offx := G₅.fresh_off (G₅.alive cz) hfx
  have offdx := G₅.fresh_off (G₅.alive cz) hfdx
  have G₆b := G₆.base
  refine st G₆b (fun s₇ G₇ => ?_) rfl
  have kal : ∀ b, Fresh w s₃ b → kd ≠ b := fun b hb q => by obtain ⟨o, ho⟩ := hD₄.alive; rw [q, hb.1] at ho; cases ho
  have hfx3 := hfx.back G₅.eff offx.1
  have hfdx3 := hfdx.back G₅.eff offdx.1
  exact h s₇ lk tl kd x2 dx2 d2 mem2 (H₃.after (G₆.after G₇)) (hD₄.eff (G₆.after G₇).eff offk.2.1 offk.1) (R₆.eff G₇.eff ⟨offx.1, offdx.1, offd2.1⟩) hfkd (hfx3.back H₃.eff offx.1) (hfdx3.back H₃.eff offdx.1) (hfd2.back H₃.eff offd2.1) ⟨offk.1, offk.2.1, offk.2.2.2.1⟩ ⟨offx.1, offdx.1, offd2.1⟩ (kal _ hfd2) (kal _ hfx3) (kal _ hfdx3)
end
end Mine
end
section
open PySem PySem.W PyProof.Rows PySem.Calls PySem.Builtin
namespace Mine
noncomputable def farK (r key : By) : By := FAR r ++ [47] ++ key
structure KeptB (r : By) (T : By → Option By) (H : KV) : Prop where
  stash : get2 H STASH = some V7
  key : ∀ k, get2 H (farK r k) = T k
  only : ∀ y p, get2 H y = some p → y = STASH ∨ ∃ k, y = farK r k
noncomputable def SecK (K2 H : KV) (head : By) : Prop := ∀ y, get2 K2 y = if y = HEADB then some (REF ++ head) else get2 H y
structure KeyLaw (r : By) (key : By) : Prop where
  acc : okN (farK r key) = goodR r
  whose : goodR r = true → prr (farK r key) = some ((splitB 47 r).headD [], joinB [47] ((splitB 47 r).drop 1 ++ [key]))
  len : key.length ≤ 60
  nS : ∀ k, farK r k ≠ STASH ∧ farK r k ≠ HEADB
theorem farK_inj {r k k' : By} (h : farK r k = farK r k') : k = k' := List.append_cancel_left h
section
variable {w : World} {mu mu0 us : List Addr} {env : Env} {n : Nat} {A : Around} {g s s' s₁ : Shared} {m : Str → Option Value} {E : Value → Shared → Prop} {Q : Value → Shared → Prop} {a b x dx d hd C U : Addr} {K H : KV} {head base : By} {t u : Tok} {f : By → Option By} {e e₁ e₂ e₃ it : Expr} {pos px p1 p2 p3 p4 p5 p6 apos : Pos} {i j : Int} {L : Nat} {R : Flow → Shared → Prop} {b1 b2 b3 : Bool} {ob : Option By} {l name r : By} {ls ms : List By} {vs : List Value} {V W : Value → Prop}
theorem eJoinAdd {lower upper : Option Expr} {lo hi : Option Int} {pp ps pb pl : Pos} {kk : Nat} {ek : Expr} {key : By} (cz : ∀ p ∈ env.cells, env.cells.lookup p.1 = some p.2) (hl : g.heap.IsList a vs.toArray) (hv : BytesAre vs ls) (ham : a ∉ Mine.own env) (hz : ∀ x ∈ ls, x.length ≤ 4096) (hn : ls.length ≤ 1000) (hkz : key.length ≤ 4096) (h : Ev w (Mine.own env) env n A g m (IsV (.ref a)) e) (h₁ : EvP w (Mine.own env) env n A g m lo lower) (h₂ : EvP w (Mine.own env) env n A g m hi upper) (hk : ∀ g, Ev w (Mine.own env) env n A g m (IsB key) ek)
    (hbase : autoParam (attributeBase (.Constant (.bytes [47]) kk p1) "join" env (eval (.Constant (.bytes [47]) kk p1) env) = eval (.Constant (.bytes [47]) kk p1) env) byRfl) (hs : autoParam (starEach [.BinOp (.Subscript e (.Slice lower upper none pp) ps) .Add (.List [ek] pl) pb] env = [(false, eval (.BinOp (.Subscript e (.Slice lower upper none pp) ps) .Add (.List [ek] pl) pb) env)]) byRfl) (hline : autoParam ((apos.endLine == pos.line) = true) byRfl) (hse : autoParam (starEach [ek] env = (false, eval ek env) :: starEach [] env) byRfl) :
    Ev w (Mine.own env) env n A g m (IsB (joinB [47] (cutL ls lo hi ++ [key]))) (.Call (.Attribute (.Constant (.bytes [47]) kk p1) "join" apos) [.BinOp (.Subscript e (.Slice lower upper none pp) ps) .Add (.List [ek] pl) pb] [] pos) := fun s F Q E q => by
  have hvl := hv.length
  refine evm1 m_join (kBytes F fun t s₁ F₁ => ⟨isB, wpAny_BinOp (slL F₁ hl ham (by with_reducible exact leE (by assumption) (by assumption) rfl) h h₁ h₂ fun b s' s'' F' e' hb hf => ?_)⟩) hbase hs hline
  have F'' := F'.go e'
  have offb := F'.fresh_off (F'.alive cz) hf
  refine disp F''.base (eaB (hk _) eaB0 hse) (fun vs hv => by rw [hv.length]; simp) fun D ws s₂ s₃ F₂ e3 hD hfD hw => ?_
  have hcl : (cutL ls lo hi).length ≤ ls.length := cut_len ls lo hi
  have hcv := (hv.cut lo hi).length
  have hwl := hw.length
  refine addLists (e3.keep.list (fun q => nomatch q) (F₂.eff.keep.list offb.1 hb)) hD.isList (by simp at hwl; omega) fun c s₄ e4 hc hfc => ?_
  have hj : joinSum [47] (cutL ls lo hi ++ [key]) ≤ 16777216 := by
    have : ∀ (xs : List By), (∀ x ∈ xs, x.length ≤ 4096) → (xs.map List.length).sum ≤ 4096 * xs.length := fun xs hx => by
      induction xs with
      | nil => simp
      | cons y r ih =>
        have := hx y (.head _)
        have := ih fun x hx' => hx x (.tail _ hx')
        simp only [List.map_cons, List.sum_cons, List.length_cons]; omega
    have hsub : ∀ x ∈ cutL ls lo hi ++ [key], x.length ≤ 4096 := fun x hx => by
      rcases List.mem_append.mp hx with hx | hx
      · exact hz x (by unfold cutL at hx; exact List.mem_of_mem_drop (List.mem_of_mem_take hx))
      · rw [List.mem_singleton.mp hx]; exact hkz
    have h1 := this _ hsub
    unfold joinSum
    simp only [List.length_cons, List.length_nil, List.length_append] at h1 ⊢
    omega
  exact b_join hc ((hv.cut lo hi).app hw) hj (by simp; with_reducible exact leC (by assumption) (by assumption) rfl) fun t' s₅ e5 => q _ s₅ ((((F''.after F₂).go e3).go e4).go e5) ⟨_, rfl⟩
end
end Mine
end
section
open PySem PySem.W PyProof.Rows PySem.Calls PySem.Builtin
namespace Mine
noncomputable def TK (r : By) (out : KV) (ks : List By) (k : By) : Option By := if goodR r = true ∧ k ∈ ks then get2 out k else none
theorem kept_step {r key v : By} {out H : KV} {os : List By} {i : Nat} (hk : os[i]? = some key) (hv : get2 out key = some v) (hg : goodR r = true) (nS : farK r key ≠ STASH) (h : KeptB r (TK r out (os.take i)) H) : KeptB r (TK r out (os.take (i + 1))) (put H (farK r key) v) := by
  have hmem : ∀ y, y ∈ os.take (i + 1) ↔ y ∈ os.take i ∨ y = key := fun y => by rw [List.take_add_one, hk, List.mem_append]; simp
  refine ⟨?_, fun k => ?_, fun y p hp => ?_⟩
  · rw [put_get, if_neg fun e => nS e.symm, h.stash]
  · rw [put_get]
    by_cases e : k = key
    · subst e
      rw [if_pos rfl]
      unfold TK
      rw [if_pos ⟨hg, (hmem k).mpr (.inr rfl)⟩, hv]
    · rw [if_neg fun q => e (farK_inj q), h.key]
      unfold TK
      simp only [hmem, e, or_false]
  · rw [put_get] at hp
    by_cases e : y = farK r key
    · exact .inr ⟨key, e⟩
    · rw [if_neg e] at hp; exact h.only y p hp
theorem kept_bad {r : By} {out H : KV} {ks ks' : List By} (hg : goodR r = false) (h : KeptB r (TK r out ks) H) : KeptB r (TK r out ks') H := by
  refine ⟨h.stash, fun k => ?_, h.only⟩
  rw [h.key]; unfold TK; simp [hg]
theorem sec_step {K2 H : KV} {head name v : By} (nH : name ≠ HEADB) (h : SecK K2 H head) : SecK (put K2 name v) (put H name v) head := fun y => by
  rw [put_get, put_get, h y]
  by_cases e : y = name
  · subst e; rw [if_pos rfl, if_neg nH]; simp
  · rw [if_neg e, if_neg e]
section
variable {w : World} {mu mu0 us : List Addr} {env : Env} {n : Nat} {A : Around} {g s s' s₁ : Shared} {m : Str → Option Value} {E : Value → Shared → Prop} {Q : Value → Shared → Prop} {a b x2 dx2 d2 kd hd D O Wd C U : Addr} {K H out : KV} {head base : By} {t u : Tok} {f : By → Option By} {e e₁ e₂ e₃ it : Expr} {pos px p1 p2 p3 p4 p5 p6 apos : Pos} {i j : Int} {L : Nat} {R : Flow → Shared → Prop} {b1 b2 b3 : Bool} {ob : Option By} {l name r : By} {ls ms os : List By} {vs vso vsw : List Value} {V W : Value → Prop}
set_option maxHeartbeats 4000000 in
inductive law28J (w : World) (m : Str → Option Value) (d2 : Addr) (kd : Addr) (head : By) (r : By) (out : KV) (os : List By) (i : Nat) (m' : Str → Option Value) (h : Heap) : Prop
  | mk (ag : ∀ y : Str, y ≠ "key" → y ≠ "name" → m' y = m y) (K2 H : KV) (db : DB w h d2 K2) (dk : DB w h kd H) (sk : SecK K2 H head) (kb : KeptB r (TK r out (os.take i)) H) (l2 : K2.length ≤ 2 + i) (lh : H.length ≤ 1 + i) : law28J w m d2 kd head r out os i m' h
noncomputable def law28O (w : World) (m : Str → Option Value) (d2 : Addr) (kd : Addr) (head : By) (r : By) (out : KV) (os : List By) : Flow → (Str → Option Value) → Heap → Prop := fun f m' h => match f with | .next => (∀ y : Str, y ≠ "key" → y ≠ "name" → m' y = m y) ∧ ∃ K2 H, DB w h d2 K2 ∧ DB w h kd H ∧ SecK K2 H head ∧ KeptB r (TK r out os) H ∧ K2.length ≤ 6 ∧ H.length ≤ 5 | _ => False
theorem law28 (cz : ∀ p ∈ (envP (p_law w) L).cells, (envP (p_law w) L).cells.lookup p.1 = some p.2)
    (G : Fm w (own (envP (p_law w) L)) (envP (p_law w) L) (n + 8) A s m s)
    (m1 : m "ours" = some (.ref O)) (m2 : ∃ t, m "far" = some (.bytes (FAR r).toArray t)) (m3 : m "second" = some (.ref x2)) (m4 : m "told" = some (.ref D)) (m5 : m "good" = some (.bool (goodR r))) (m6 : m "kept" = some (.ref kd)) (m7 : m "held" = some (.ref hd)) (m8 : ∃ t, m "base" = some (.bytes base.toArray t)) (m9 : m "whose" = some (.ref Wd))
    (hO : s.heap.IsList O vso.toArray) (hbo : BytesAre vso os) (hW : s.heap.IsList Wd vsw.toArray) (hvw : BytesAre vsw (splitB 47 r)) (hD : DB w s.heap D out) (hH : DB w s.heap hd K) (hkd : DB w s.heap kd [(STASH, V7)]) (R2 : Rep w A s.heap x2 dx2 d2 (put [(STASH, V7)] HEADB (REF ++ head)))
    (aO : Apart w A L O) (aW : Apart w A L Wd) (aD : Apart w A L D) (ah : Apart w A L hd) (ak : Apart w A L kd) (o2 : x2 ∉ own (envP (p_law w) L) ∧ dx2 ∉ own (envP (p_law w) L) ∧ d2 ∉ own (envP (p_law w) L))
    (ne : ∀ b ∈ [O, Wd, D, hd], b ≠ d2 ∧ b ≠ kd) (nk : kd ≠ d2 ∧ kd ≠ x2 ∧ kd ≠ dx2)
    (KL : ∀ key ∈ os, KeyLaw r key ∧ ∃ c : UInt8, 49 ≤ c.toNat ∧ c.toNat ≤ 52 ∧ get2 out key = some (List.replicate 40 c) ∧ get2 K (base ++ [47] ++ key) = some (List.replicate 40 c)) (nS : ∀ k, farK r k ≠ STASH ∧ farK r k ≠ HEADB) (hos : os.length ≤ 4) (hrl : r.length ≤ 40) (hbl : base.length ≤ 60)
    (h : ∀ s' m' K2 H, Fm w ([d2, kd] ++ own (envP (p_law w) L)) (envP (p_law w) L) (n + 8) A s m' s' → (∀ y : Str, y ≠ "key" → y ≠ "name" → m' y = m y) → DB w s'.heap d2 K2 → DB w s'.heap kd H → SecK K2 H head → KeptB r (TK r out os) H → K2.length ≤ 6 → H.length ≤ 5 → wpAny (model prg w) A (execs ((p_law w).body.drop 29) (envP (p_law w) L)) R E s') :
    wpAny (model prg w) A (execs ((p_law w).body.drop 28) (envP (p_law w) L)) R E s := by
  obtain ⟨tf, m2⟩ := m2
  obtain ⟨tb, m8⟩ := m8
  have hol := hbo.length
  have hpl := splitB_len 47 r
  have hwl := hvw.length
  have GL := G.withL (us := [d2, kd]) (all2 ⟨R2.nb.2.2, R2.off.2.2⟩ ⟨ak.nb, ak.fr⟩)
  have al := G.aliveL (us := [d2, kd]) cz (all2 R2.db.alive hkd.alive)
  have offL : ∀ b, b ≠ d2 → b ≠ kd → b ∉ own (envP (p_law w) L) → b ∉ [d2, kd] ++ own (envP (p_law w) L) := fun b h1 h2 h3 q => by
    rcases List.mem_append.mp q with q | q
    · simp only [List.mem_cons, List.not_mem_nil, or_false] at q
      exact q.elim h1 h2
    · exact h3 q
  have nO := ne O (by simp)
  have nW := ne Wd (by simp)
  have nD := ne D (by simp)
  have nh := ne hd (by simp)
  have oO := offL O nO.1 nO.2 aO.own
  have oW := offL Wd nW.1 nW.2 aW.own
  have oD := offL D nD.1 nD.2 aD.own
  have oh := offL hd nh.1 nh.2 ah.own
  have ox := offL x2 (Ne.symm R2.ne.1) (Ne.symm nk.2.1) o2.1
  have odx := offL dx2 (Ne.symm R2.ne.2) (Ne.symm nk.2.2) o2.2.1
  refine sForT GL al (ldl GL m1 (it_list hO GL al (B := [O]) (.inr (.head _)) fun itv s₂ G₂ keep T => ?_))
  refine ⟨[O], _, _, G₂, T _ _, all1 ⟨oO, aO.fr, fun q => absurd (q ▸ aO.nb) (by decide)⟩, (law28J w m d2 kd head r out os),
    (law28O w m d2 kd head r out os),
    fun i m' h h' hk ⟨a1, K2, H, a, b, c1, c2, c3, c4⟩ => ⟨a1, K2, H, a.at fun o e => hk d2 o (.head _) e, b.at fun o e => hk kd o (.tail _ (.head _)) e, c1, c2, c3, c4⟩, ⟨fun y _ _ => rfl, _, _, R2.db.at fun o e => keep _ _ e, hkd.at fun o e => keep _ _ e, fun y => by rw [put_get], ⟨by rfl, fun k => ?_, fun y p hp => ?_⟩, put_len _ _ _, Nat.le_refl _⟩, ?_, ?_, ?_⟩
  · unfold TK
    rw [if_neg (by simp), get2_cons, if_neg fun e => (nS k).1 e.symm]; rfl
  · rw [get2_cons] at hp
    by_cases e : STASH = y
    · exact .inl e.symm
    · rw [if_neg e] at hp; cases hp
  · rintro i v m₁ s₃ hi hv ⟨hag, K2, H, hd2, hkd', hSec, hKept, hl2, hlH⟩ G₃
    obtain ⟨key, tk, hk, rfl⟩ := hbo.get hv
    obtain ⟨KLk, c, hc1, hc2, hout, hheld⟩ := KL key (List.mem_of_getElem? hk)
    have hi4 : i < 4 := by have := (List.getElem?_eq_some_iff.mp hk).1; with_reducible exact Nat.lt_of_lt_of_le (by assumption) (by assumption)
    have hkl := KLk.len
    have a2 : m₁ "far" = some (.bytes (FAR r).toArray tf) := (hag _ (by decide) (by decide)).trans m2
    have a3 : m₁ "second" = some (.ref x2) := (hag _ (by decide) (by decide)).trans m3
    have a4 : m₁ "told" = some (.ref D) := (hag _ (by decide) (by decide)).trans m4
    have a5 : m₁ "good" = some (.bool (goodR r)) := (hag _ (by decide) (by decide)).trans m5
    have a6 : m₁ "kept" = some (.ref kd) := (hag _ (by decide) (by decide)).trans m6
    have a7 : m₁ "held" = some (.ref hd) := (hag _ (by decide) (by decide)).trans m7
    have a8 : m₁ "base" = some (.bytes base.toArray tb) := (hag _ (by decide) (by decide)).trans m8
    have a9 : m₁ "whose" = some (.ref Wd) := (hag _ (by decide) (by decide)).trans m9
    have hf13 : (FAR r).length = 13 + r.length := by unfold FAR; simp; rfl
    refine asgName (st G₃.onlyL fun s₄ G₄ => ?_)
    have B₄ := G₃.base.backL G₄
    refine xAsg G₄ (eAddB (l := FAR r ++ [47]) (p := key) (eAddB (l := FAR r) (p := [47]) (eL (V := IsB (FAR r)) a2 ⟨_, rfl⟩) eB (by simp; omega)) (eL (V := IsB key) rfl ⟨_, rfl⟩) (by simp; omega)) fun v s₅ ⟨tn, hv⟩ G₅ => ?_
    subst hv
    have hname : FAR r ++ [47] ++ key = farK r key := rfl
    rw [hname] at G₅
    have hnl : (farK r key).length ≤ 200 := by unfold farK; simp; omega
    have B₅ := G₃.base.backL G₅
    have hD₅ := (hD.eff (G₃.after B₅).eff aD.fr oD)
    have hH₅ := (hH.eff (G₃.after B₅).eff ah.fr oh)
    have hW₅ := (G₃.after B₅).eff.keep.list oW hW
    have hd2₅ := hd2.eff G₅.eff R2.off.2.2 o2.2.2
    have hkd₅ := hkd'.eff G₅.eff ak.fr ak.own
    have R₅ : Rep w A s₅.heap x2 dx2 d2 K2 := ⟨R2.inst.eff (G₃.after B₅).eff ⟨R2.off.1, ox⟩ ⟨R2.off.2.1, odx⟩, hd2₅, R2.off, R2.nb, R2.ne⟩
    have Gb := G₅.base
    refine sIf1 (wpAny_isTrue_Compare1 (evc3 Gb d_taken (ldl Gb a3 (ldl Gb rfl (Gb.ev (eDGet (k := key) (v := List.replicate 40 c) hD₅ aD.fr aD.own hout (eL (V := IsV (.ref D)) a4 rfl) (eL (V := IsB key) rfl ⟨_, rfl⟩)) fun v s₆ G₆ ⟨tv, hv⟩ => ?_)))))
    subst hv
    refine ⟨G₆.ww, s_taken (n := n + 2) (c := c) G₆.cx (R₅.eff G₆.eff o2) (by omega) (by with_reducible exact leK (by assumption) rfl) (by omega) (by with_reducible exact leK (by assumption) rfl) fun s₇ e7 hd7 => ?_⟩
    have BB₆ := (Gb.withL (us := [d2, kd]) (all2 ⟨R2.nb.2.2, R2.off.2.2⟩ ⟨ak.nb, ak.fr⟩)).backL G₆
    have B₇ := BB₆.stepL' e7 (.head _) o2.2.2
    refine ldl B₇ a5 (PyProof.Rows.ne_bool (wpAny_truthy_bool ?_))
    rw [KLk.acc, show (goodR r != goodR r) = false by simp, if_neg (by decide)]
    rw [KLk.acc] at hd7
    have hkd₇ := (hkd₅.eff G₆.eff ak.fr ak.own).eff e7 ak.fr fun q => nk.1 (List.mem_singleton.mp q)
    have hH₇ := hH₅.eff B₇.eff ah.fr oh
    have hW₇ := B₇.eff.keep.list oW hW₅
    have Gc := B₇.onlyL
    have fin : ∀ s₈ m₈, Fm w ([d2, kd] ++ own (envP (p_law w) L)) (envP (p_law w) L) (n + 8) A s₇ m₈ s₈ → Fm w ([d2, kd] ++ own (envP (p_law w) L)) (envP (p_law w) L) (n + 8) A s₃ m₈ s₈ := fun s₈ m₈ F => B₅.after (B₇.after F)
    have agf : ∀ y : Str, y ≠ "key" → y ≠ "name" → upd (upd m₁ "key" (.bytes key.toArray tk)) "name" (.bytes (farK r key).toArray tn) y = m y := fun y h1 h2 => by rw [upd_ne h2, upd_ne h1, hag y h1 h2]
    refine xIf1 Gc (tPlain (eL (V := IsT (goodR r)) a5 rfl) truth_bool) (fun hg s₈ G₈ => ?_) fun hg s₈ G₈ => ?_
    · rw [hg, if_pos rfl] at hd7
      refine xPut G₈ (k := farK r key) (v := List.replicate 40 c) (eDGet (k := base ++ [47] ++ key) hH₇ ah.fr ah.own hheld (eC (V := IsV (.ref hd)) a7 rfl) (eAddB (l := base ++ [47]) (p := key) (eAddB (l := base) (p := [47]) (eL (V := IsB base) a8 ⟨_, rfl⟩) eB (by simp; with_reducible exact leK (by assumption) rfl)) (eL (V := IsB key) rfl ⟨_, rfl⟩) (by simp; with_reducible exact leT (by assumption) (by assumption) rfl))) (eL (V := IsV (.ref kd)) a6 rfl) (eL (V := IsB (farK r key)) rfl ⟨_, rfl⟩) hkd₇ ak.fr ak.own ak.nb (by omega) fun s₉ s₁₀ G₉ e10 hkd₁₀ => ?_
      have B₁₀ := (B₇.base.backL G₉).stepL e10 (.tail _ (.head _)) ak.own
      have hd2₁₀ := (hd7.eff G₉.eff R2.off.2.2 o2.2.2).eff e10 (fun q => nomatch q) fun q => nk.1 (List.mem_singleton.mp q).symm
      have Gd := B₁₀.onlyL
      have hW₁₀ := B₁₀.eff.keep.list oW hW₇
      have hwh := KLk.whose hg
      have hw0 : (splitB 47 r)[0]? = some ((splitB 47 r).headD []) := by
        cases hq : splitB 47 r with
        | nil => exact absurd hq (splitB_ne 47 r)
        | cons a t => rfl
      refine xIf1 Gd (b := false) (fun s₀ F₀ Q E q => wpAny_isTrue_Compare1 (evc1 F₀ d_whose (ldl F₀ rfl ⟨F₀.ww, s_whose (n := n + 6) F₀.cx (by with_reducible exact leK (by assumption) rfl) (fun a b T vs s' hp hT hv hf e' => ?_) fun s' hp => by rw [hwh] at hp; cases hp⟩))) (fun q => nomatch q) fun _ s₁₁ G₁₁ => sNil (sNil ?_)
      · rw [hwh] at hp
        cases hp
        have F₁ := F₀.go e'
        have offT := F₀.fresh_off (F₀.alive cz) hf
        have hWF := F₁.eff.keep.list aW.own hW₁₀
        refine dispT F₁.base (eaB (eItemL (k := 0) hWF aW.own hvw hw0 (by decide) (eL (V := IsV (.ref Wd)) a9 rfl) (eI (i := 0))) (eaB (eJoinAdd cz hWF hvw aW.own (fun x hx => by have := hpl.2 x hx; with_reducible exact leC (by assumption) (by assumption) rfl) (by omega) (by with_reducible exact leK (by assumption) rfl) (eL (V := IsV (.ref Wd)) a9 rfl) (pSome (eI (i := 1))) pNone (fun g => eL (V := IsB key) rfl ⟨_, rfl⟩)) eaB0)) (fun vs hv => by rw [hv.length]; simp) fun T2 us s₁₂ s₁₃ F₂ e3 hT2 hfT2 hus => ?_
        rw [show cutL (splitB 47 r) (some 1) none = (splitB 47 r).drop 1 from cut_from _ 1] at hus
        exact neT (tupEff (tupEff hT F₂.eff offT.1) e3 (fun q => nomatch q)) hv hT2 hus F₀.line (wpAny_truthy_bool (q _ ((F₁.after F₂).go e3)))
      · have B₁₁ := B₁₀.backL G₁₁
        have hp1 := put_len K2 (farK r key) (List.replicate 40 c)
        have hp2 := put_len H (farK r key) (List.replicate 40 c)
        exact ⟨_, fin _ _ B₁₁, agf, _, _, hd2₁₀.eff G₁₁.eff R2.off.2.2 o2.2.2, hkd₁₀.eff G₁₁.eff ak.fr ak.own, sec_step (nS key).2 hSec, kept_step hk hout hg (nS key).1 hKept, by omega, by omega⟩
    · rw [hg, if_neg (by decide)] at hd7
      have B₈ := B₇.base.backL G₈
      exact sNil ⟨_, fin _ _ B₈, agf, K2, H, hd7.eff G₈.eff R2.off.2.2 o2.2.2, hkd₇.eff G₈.eff ak.fr ak.own, hSec, kept_bad hg hKept, by omega, by omega⟩
  · rintro m' h' ⟨hag, K2, H, hd2, hkd', hSec, hKept, hl2, hlH⟩
    rw [List.take_of_length_le (by omega)] at hKept
    exact ⟨hag, K2, H, hd2, hkd', hSec, hKept, by omega, by omega⟩
  · intro f m' s₃ G₃ hO
    cases f with
    | ret v => exact hO.elim
    | brk => exact hO.elim
    | cont => exact hO.elim
    | next =>
      obtain ⟨hag, K2, H, hd2, hkd', hSec, hKept, hl2, hlH⟩ := hO
      exact h s₃ m' K2 H G₃ hag hd2 hkd' hSec hKept hl2 hlH
end
end Mine
end
section
open PySem PySem.W PyProof.Rows PySem.Calls PySem.Builtin
namespace Mine
section
variable {w : World} {mu mu0 us : List Addr} {env : Env} {n : Nat} {A : Around} {g s s' s₁ : Shared} {m : Str → Option Value} {E : Value → Shared → Prop} {Q : Value → Shared → Prop} {a b x dx d x2 dx2 d2 kd hd D O Wd C U : Addr} {K K2 H out : KV} {head base : By} {t u : Tok} {f : By → Option By} {e e₁ e₂ e₃ it : Expr} {pos px p1 p2 p3 p4 p5 p6 apos : Pos} {i j : Int} {L : Nat} {R : Flow → Shared → Prop} {b1 b2 b3 : Bool} {ob : Option By} {l name r lk v : By} {ls ms os : List By} {vs vso vsw : List Value} {V W : Value → Prop}
theorem eSecond {f : By → Option By} (S : SecB K2 H head f) (R : Rep w A g.heap x dx d K2) (off : x ∉ mu ∧ dx ∉ mu ∧ d ∉ mu) (KO : KOk K2) (hKz : ∀ kv ∈ K2, kv.2.length ≤ 4096) (h64 : K2.length < 60) (hH : DB w g.heap hd H) (hn : NB ≤ hd) (hf : hd ∉ frs A) (ho : hd ∉ mu) (hHl : H.length < 60)
    (n1 : EvN w mu env (n + 8) A g m (.ref x) e₁) (n2 : EvN w mu env (n + 8) A g m (.ref hd) e₂) (n3 : EvN w mu env (n + 8) A g m (.bytes head.toArray t) e₃)
    (ha : autoParam (starEach [e₁, e₂, e₃] env = (false, eval e₁ env) :: starEach [e₂, e₃] env) byRfl) (hbb : autoParam (starEach [e₂, e₃] env = [(false, eval e₂ env), (false, eval e₃ env)]) byRfl) (hx : autoParam (env.kindOf "_law_second" = some .globalImplicit) byRfl) :
    Ev w mu env (n + 8) A g m (IsT true) (.Call (.Name "_law_second" px) [e₁, e₂, e₃] [] pos) := fun s F Q E q =>
  evc3 F d_second (n1 s F _ _ (n2 s F _ _ (n3 s F _ _ ⟨F.ww, s_second (n := n + 1) S F.cx (R.eff F.eff off) KO hKz h64 (hH.eff F.eff hf ho) hn hf hHl fun s' e => q _ s' (F.go e) rfl⟩))) ha hbb hx
set_option maxHeartbeats 1000000 in
theorem law29 {f1 f2 : By → Option By} (cz : ∀ p ∈ (envP (p_law w) L).cells, (envP (p_law w) L).cells.lookup p.1 = some p.2)
    (G : Fm w (own (envP (p_law w) L)) (envP (p_law w) L) (n + 8) A s m s) (m2 : ∃ t, m "far" = some (.bytes (FAR r).toArray t)) (m3 : m "second" = some (.ref x2)) (m6 : m "kept" = some (.ref kd)) (m7 : ∃ t, m "head" = some (.bytes head.toArray t))
    (S1 : SecB K2 H head f1) (S2 : SameB K2 H (FAR r) f2) (KO : KOk K2) (hKz : ∀ kv ∈ K2, kv.2.length ≤ 4096) (h6 : K2.length ≤ 6) (h5 : H.length ≤ 5) (hHk : ∀ kv ∈ H, kv.1.length ≤ 4096) (hrl : r.length ≤ 40)
    (R2 : Rep w A s.heap x2 dx2 d2 K2) (o2 : x2 ∉ own (envP (p_law w) L) ∧ dx2 ∉ own (envP (p_law w) L) ∧ d2 ∉ own (envP (p_law w) L)) (hk : DB w s.heap kd H) (ak : Apart w A L kd)
    (h : ∀ s', Fm w (own (envP (p_law w) L)) (envP (p_law w) L) (n + 8) A s m s' → wpAny (model prg w) A (execs ((p_law w).body.drop 30) (envP (p_law w) L)) R E s') :
    wpAny (model prg w) A (execs ((p_law w).body.drop 29) (envP (p_law w) L)) R E s := by
  obtain ⟨tf, m2⟩ := m2
  obtain ⟨th, m7⟩ := m7
  have hf13 : (FAR r).length = 13 + r.length := by unfold FAR; simp; rfl
  exact xIf1 G (b := !true || !true) (tOr2 (tNot (tPlain (eSecond (n := n) S1 R2 o2 KO hKz (by with_reducible exact ltL (by assumption) rfl) hk ak.nb ak.fr ak.own (by with_reducible exact ltL (by assumption) rfl) (nL m3) (nL m6) (nL m7)) truth_bool)) fun _ => tNot (tPlain (tSame (n := n) S2 cz R2 o2 KO (by with_reducible exact ltL (by assumption) rfl) hk ak.nb ak.fr ak.own (by omega) hHk (by with_reducible exact ltL (by assumption) rfl) (nL m3) (nL m6) (nL m2)) truth_bool)) (fun q => nomatch q) fun _ s₂ G₂ => h s₂ G₂
set_option maxHeartbeats 1000000 in
theorem law30 (cz : ∀ p ∈ (envP (p_law w) L).cells, (envP (p_law w) L).cells.lookup p.1 = some p.2)
    (G : Fm w (own (envP (p_law w) L)) (envP (p_law w) L) (n + 8) A s m s) (m1 : ∃ t, m "base" = some (.bytes base.toArray t)) (m2 : ∃ t, m "lost" = some (.bytes lk.toArray t)) (m3 : m "refs" = some (.ref x)) (m4 : m "told" = some (.ref D))
    (R₀ : Rep w A s.heap x dx d K) (off : x ∉ own (envP (p_law w) L) ∧ dx ∉ own (envP (p_law w) L) ∧ d ∉ own (envP (p_law w) L)) (hD : DB w s.heap D out) (aD : Apart w A L D) (nD : D ≠ d) (hKl : K.length ≤ 100) (hbl : base.length ≤ 60) (hll : lk.length ≤ 60)
    (hK : get2 K (base ++ [47] ++ lk) = some v) (hout : get2 out lk = some v) (hv7 : v ≠ V7)
    (h : ∀ s', Fm w ([d] ++ own (envP (p_law w) L)) (envP (p_law w) L) (n + 8) A s m s' → DB w s'.heap d (wo K (base ++ [47] ++ lk)) → wpAny (model prg w) A (execs ((p_law w).body.drop 31) (envP (p_law w) L)) R E s') :
    wpAny (model prg w) A (execs ((p_law w).body.drop 30) (envP (p_law w) L)) R E s := by
  obtain ⟨tb, m1⟩ := m1
  obtain ⟨tl, m2⟩ := m2
  have nm : ∀ {g : Shared} {p1 p2 p3 p4 p5 : Pos} {k1 : Nat}, Ev w (own (envP (p_law w) L)) (envP (p_law w) L) (n + 8) A g m (IsB (base ++ [47] ++ lk)) (.BinOp (.BinOp (.Name "base" p1) .Add (.Constant (.bytes [47]) k1 p2) p3) .Add (.Name "lost" p4) p5) := eAddB (l := base ++ [47]) (p := lk) (eAddB (l := base) (p := [47]) (eL (V := IsB base) m1 ⟨_, rfl⟩) eB (by simp; with_reducible exact leK (by assumption) rfl)) (eL (V := IsB lk) m2 ⟨_, rfl⟩) (by simp; with_reducible exact leT (by assumption) (by assumption) rfl)
  refine sIf1 (isTrue_or (isTrue_plain (evI2 i_rem (ldl G m3 ⟨x, dx, d, rfl, G.ww, R₀.inst, G.ev nm fun u s₂ G₂ ⟨tu, hu⟩ => ?_⟩)) (by rfl)))
  subst hu
  with_reducible refine G₂.ev (V := IsB V7) ?_ ?_
  · exact eMulB (c := 55) (k := 40) eB (eI (i := 40)) (by decide)
  rintro u s₃ G₃ ⟨tv7, hu⟩
  subst hu
  refine ⟨G₃.ww, s_rem (n := n + 6) (ob := some V7) ⟨_, rfl⟩ G₃.cx (R₀.eff G₃.eff off) (by with_reducible exact leK (by assumption) rfl) hK fun s₄ e4 hd4 => ?_⟩
  have hh : hitO (some V7) v = false := by show (v == V7) = false; simpa using hv7
  rw [hh, if_neg (by decide)] at hd4
  rw [hh]
  refine wpAny_truthy_bool ?_
  have GL := (G₃.withL (us := [d]) (all1 ⟨R₀.nb.2.2, R₀.off.2.2⟩))
  have B₄ := GL.stepL' e4 (.head _) off.2.2
  have Gb := B₄.onlyL
  have offLx : ∀ b, b ≠ d → b ∉ own (envP (p_law w) L) → b ∉ [d] ++ own (envP (p_law w) L) := fun b h1 h2 q => by
    rcases List.mem_append.mp q with q | q
    · exact h1 (List.mem_singleton.mp q)
    · exact h2 q
  have R₄ : Rep w A s₄.heap x dx d K := ⟨R₀.inst.eff B₄.eff ⟨R₀.off.1, offLx x (Ne.symm R₀.ne.1) off.1⟩ ⟨R₀.off.2.1, offLx dx (Ne.symm R₀.ne.2) off.2.1⟩, hd4, R₀.off, R₀.nb, R₀.ne⟩
  have hD₄ := hD.eff B₄.eff aD.fr (offLx D nD aD.own)
  refine isTrue_or (isTrue_not (isTrue_plain (evI2 i_rem (ldl Gb m3 ⟨x, dx, d, rfl, Gb.ww, R₄.inst, Gb.ev nm fun u s₅ G₅ ⟨tu, hu⟩ => ?_⟩)) (by rfl)))
  subst hu
  refine G₅.ev (eDGet (k := lk) (v := v) hD₄ aD.fr aD.own hout (eL (V := IsV (.ref D)) m4 rfl) (eL (V := IsB lk) m2 ⟨_, rfl⟩)) fun u s₆ G₆ ⟨tu2, hu⟩ => ?_
  subst hu
  refine ⟨G₆.ww, s_rem (n := n + 6) (ob := some v) ⟨_, rfl⟩ G₆.cx (R₄.eff G₆.eff off) (by with_reducible exact leK (by assumption) rfl) hK fun s₇ e7 hd7 => ?_⟩
  have hh2 : hitO (some v) v = true := by show (v == v) = true; simp
  rw [hh2, if_pos rfl] at hd7
  rw [hh2]
  refine wpAny_truthy_bool ?_
  have B₇ := (B₄.backL G₆).stepL' e7 (.head _) off.2.2
  refine isTrue_or_nil ?_
  exact h s₇ B₇ hd7
end
end Mine
end
section
open PySem PySem.W PyProof.Rows PySem.Calls PySem.Builtin
namespace Mine
section
variable {w : World} {mu mu0 us : List Addr} {env : Env} {n : Nat} {A : Around} {g s s' s₁ : Shared} {m : Str → Option Value} {E : Value → Shared → Prop} {Q : Value → Shared → Prop} {a b x dx d x2 dx2 d2 kd hd D O Wd C U I l : Addr} {K K2 H out : KV} {head base : By} {t u : Tok} {f : By → Option By} {e e₁ e₂ e₃ it : Expr} {pos px p1 p2 p3 p4 p5 p6 apos : Pos} {i j : Int} {L : Nat} {R : Flow → Shared → Prop} {b1 b2 b3 : Bool} {ob : Option By} {name r lk v : By} {ls ms os : List By} {vs vso vsw : List Value} {V W : Value → Prop}
set_option maxHeartbeats 1000000 in
theorem law31 (cz : ∀ p ∈ (envP (p_law w) L).cells, (envP (p_law w) L).cells.lookup p.1 = some p.2)
    (G : Fm w (own (envP (p_law w) L)) (envP (p_law w) L) (n + 8) A s m s) (m1 : ∃ t, m "base" = some (.bytes base.toArray t)) (m2 : ∃ t, m "lost" = some (.bytes lk.toArray t)) (m3 : m "held" = some (.ref hd)) (m4 : m "kept" = some (.ref kd)) (m5 : ∃ t, m "far" = some (.bytes (FAR r).toArray t))
    (hH : DB w s.heap hd K) (ah : Apart w A L hd) (hk : DB w s.heap kd H) (ak : Apart w A L kd) (hKl : K.length ≤ 100) (hHl : H.length ≤ 100) (hbl : base.length ≤ 60) (hll : lk.length ≤ 60) (hrl : r.length ≤ 40)
    (h : ∀ s' hd' kd', Fm w (own (envP (p_law w) L)) (envP (p_law w) L) (n + 8) A s (upd (upd m "held" (.ref hd')) "kept" (.ref kd')) s' → DB w s'.heap hd' (wo K (base ++ [47] ++ lk)) → DB w s'.heap kd' (wo H (farK r lk)) → Apart w A L hd' → Apart w A L kd' → Fresh w s hd' → Fresh w s kd' → wpAny (model prg w) A (execs ((p_law w).body.drop 32) (envP (p_law w) L)) R E s') :
    wpAny (model prg w) A (execs ((p_law w).body.drop 31) (envP (p_law w) L)) R E s := by
  obtain ⟨tb, m1⟩ := m1
  obtain ⟨tl, m2⟩ := m2
  obtain ⟨tf, m5⟩ := m5
  have hf13 : (FAR r).length = 13 + r.length := by unfold FAR; simp; rfl
  refine sCons (Assign_Tuple (wpAny_Tuple (wpAny_items_cons (evc2 G d_without (ldc G m3 (G.ev (eAddB (l := base ++ [47]) (p := lk) (eAddB (l := base) (p := [47]) (eL (V := IsB base) m1 ⟨_, rfl⟩) eB (by simp; with_reducible exact leK (by assumption) rfl)) (eL (V := IsB lk) m2 ⟨_, rfl⟩) (by simp; with_reducible exact leT (by assumption) (by assumption) rfl)) fun u s₂ G₂ ⟨tu, hu⟩ => ?_))))))
  subst hu
  refine ⟨G₂.ww, s_without (n := n + 7) G₂.cx (hH.eff G₂.eff ah.fr ah.own) ah.nb ah.fr (by with_reducible exact leK (by assumption) rfl) fun hd' s₃ e3 hH' hfh => ?_⟩
  have G₃ := G₂.go e3
  have offh := G₂.fresh_off (G₂.alive cz) hfh
  have G₃b := G₃.base
  refine wpAny_items_cons (evc2 G₃b d_without (ldl G₃b m4 (G₃b.ev (eAddB (l := FAR r ++ [47]) (p := lk) (eAddB (l := FAR r) (p := [47]) (eL (V := IsB (FAR r)) m5 ⟨_, rfl⟩) eB (by simp; omega)) (eL (V := IsB lk) m2 ⟨_, rfl⟩) (by simp; omega)) fun u s₄ G₄ ⟨tu, hu⟩ => ?_)))
  subst hu
  have hk₄ := (hk.eff G₃.eff ak.fr ak.own).eff G₄.eff ak.fr ak.own
  refine ⟨G₄.ww, s_without (n := n + 7) G₄.cx hk₄ ak.nb ak.fr (by with_reducible exact leK (by assumption) rfl) fun kd' s₅ e5 hk' hfk => ?_⟩
  have hname : FAR r ++ [47] ++ lk = farK r lk := rfl
  rw [hname] at hk'
  have G₅ := G₄.go e5
  have offk := G₄.fresh_off (G₄.alive cz) hfk
  refine wpAny_items_nil ⟨by size_fits, ?_⟩
  have e6 : Eff w [] [] s₅ { s₅ with heap := s₅.heap.push { cls := .type "tuple", data := .seq [Value.ref hd', Value.ref kd'].toArray } } := .push _
  have G₆ := G₅.go e6
  have hH₆ := hH'.eff G₆.eff offh.2.1 offh.1
  have hk₆ := hk'.eff e6 (fun q => nomatch q) (fun q => nomatch q)
  have G₆b := G₆.base
  refine asg2cl (b := .ref kd') G₆b ⟨_, Heap.get?_push_size _ rfl, rfl, _, rfl⟩ fun s₇ G₇ => ?_
  exact h s₇ hd' kd' (G₃.after (G₆.after G₇)) (hH₆.eff G₇.eff offh.2.1 offh.1) (hk₆.eff G₇.eff offk.2.1 offk.1) ⟨offh.1, offh.2.1, offh.2.2.2.1⟩ ⟨offk.1, offk.2.1, offk.2.2.2.1⟩ (hfh.back G₂.eff offh.1) ((hfk.back G₄.eff offk.1).back G₃.eff offk.1)
theorem law32 (cz : ∀ p ∈ (envP (p_law w) L).cells, (envP (p_law w) L).cells.lookup p.1 = some p.2)
    (G : Fm w (own (envP (p_law w) L)) (envP (p_law w) L) (n + 8) A s m s) (m1 : ∃ t, m "base" = some (.bytes base.toArray t)) (m3 : m "refs" = some (.ref x)) (R₀ : Rep w A s.heap x dx d K) (off : x ∉ own (envP (p_law w) L) ∧ dx ∉ own (envP (p_law w) L) ∧ d ∉ own (envP (p_law w) L)) (KO : KOk K) (hbl : base.length ≤ 60)
    (h : ∀ s' Lf ls, Fm w (own (envP (p_law w) L)) (envP (p_law w) L) (n + 8) A s (upd m "left" (.ref Lf)) s' → SetB w s'.heap Lf ls → (∀ y, y ∈ ls ↔ y ∈ subP K base) → Apart w A L Lf → Fresh w s Lf → wpAny (model prg w) A (execs ((p_law w).body.drop 33) (envP (p_law w) L)) R E s') :
    wpAny (model prg w) A (execs ((p_law w).body.drop 32) (envP (p_law w) L)) R E s := by
  obtain ⟨tb, m1⟩ := m1
  refine sAsg (Fm.evx (n := n + 5 + 3) G (xKeys1 (n := n + 5) R₀ off KO (by with_reducible exact leK (by assumption) rfl) (nL m3) (nL m1)) fun v s₂ e2 ⟨Lf, ls, hv, hS, hm, hl, hf⟩ => ?_) rfl
  subst hv
  have G₂ := G.go e2
  have offL := G.fresh_off (G.alive cz) hf
  have G₂b := G₂.base
  refine st G₂b (fun s₃ G₃ => ?_) rfl
  exact h s₃ Lf ls (G₂.after G₃) (hS.eff G₃.eff offL.2.1 offL.1) hm ⟨offL.1, offL.2.1, offL.2.2.2.1⟩ hf
end
end Mine
end
section
open PySem PySem.W PyProof.Rows PySem.Calls PySem.Builtin
namespace Mine
theorem wo_get (K : KV) (k y : By) : get2 (wo K k) y = if y = k then none else get2 K y := by
  induction K with
  | nil => simp [wo, get2]
  | cons kv r ih =>
    unfold wo at ih ⊢
    rw [List.filter_cons]
    by_cases e : kv.1 = k
    · rw [if_neg (by simp [e]), ih, get2_cons, e]
      by_cases h : y = k
      · rw [if_pos h, if_pos h]
      · rw [if_neg h, if_neg h, if_neg fun q => h q.symm]
    · rw [if_pos (by simpa using e), get2_cons, get2_cons, ih]
      by_cases h : kv.1 = y
      · subst h; rw [if_pos rfl, if_neg e, if_pos rfl]
      · rw [if_neg h, if_neg h]
theorem wo_none {K : KV} {k : By} (h : get2 K k = none) : wo K k = K := by
  unfold wo
  rw [List.filter_eq_self]
  intro kv hkv
  have : kv.1 ≠ k := fun e => by
    have := get2_iff.mp (List.mem_map.mpr ⟨kv, hkv, e⟩)
    rw [h] at this; cases this
  simpa using this
theorem wo_len (K : KV) (k : By) : (wo K k).length ≤ K.length := List.length_filter_le _ _
section
variable {w : World} {mu mu0 us : List Addr} {env : Env} {n : Nat} {A : Around} {g s s' s₁ : Shared} {m : Str → Option Value} {E : Value → Shared → Prop} {Q : Value → Shared → Prop} {a b x dx d x2 dx2 d2 kd hd D O Wd C U I l Lf : Addr} {K K2 H out : KV} {head base : By} {t u : Tok} {f : By → Option By} {e e₁ e₂ e₃ it : Expr} {pos px p1 p2 p3 p4 p5 p6 apos : Pos} {i j : Int} {L : Nat} {R : Flow → Shared → Prop} {b1 b2 b3 : Bool} {ob : Option By} {name r lk v : By} {ls ms os : List By} {vs vso vsw : List Value} {V W : Value → Prop}
set_option maxHeartbeats 2000000 in
noncomputable def law33J (w : World) (m : Str → Option Value) (d2 : Addr) (os : List By) (K2 : KV) (r : By) (lk : By) : Nat → (Str → Option Value) → Heap → Prop := fun i m' h => (∀ y : Str, y ≠ "key" → m' y = m y) ∧ DB w h d2 (if lk ∈ os.take i then wo K2 (farK r lk) else K2)
noncomputable def law33O (w : World) (m : Str → Option Value) (d2 : Addr) (K2 : KV) (r : By) (lk : By) : Flow → (Str → Option Value) → Heap → Prop := fun f m' h => match f with | .next => (∀ y : Str, y ≠ "key" → m' y = m y) ∧ DB w h d2 (wo K2 (farK r lk)) | _ => False
theorem law33 (cz : ∀ p ∈ (envP (p_law w) L).cells, (envP (p_law w) L).cells.lookup p.1 = some p.2)
    (G : Fm w (own (envP (p_law w) L)) (envP (p_law w) L) (n + 8) A s m s) (m1 : ∃ t, m "far" = some (.bytes (FAR r).toArray t)) (m2 : m "second" = some (.ref x2)) (m3 : m "left" = some (.ref Lf))
    (R2 : Rep w A s.heap x2 dx2 d2 K2) (o2 : x2 ∉ own (envP (p_law w) L) ∧ dx2 ∉ own (envP (p_law w) L) ∧ d2 ∉ own (envP (p_law w) L)) (KO : KOk K2) (h6 : K2.length ≤ 6) (hS : SetB w s.heap Lf ls) (aL : Apart w A L Lf) (nL2 : Lf ≠ d2) (hrl : r.length ≤ 40)
    (hpres : ∀ y ∈ subP K2 (FAR r), y.length ≤ 60 ∧ ∃ p, get2 K2 (farK r y) = some p) (hleft : ∀ y ∈ subP K2 (FAR r), y ∉ ls → y = lk) (hlk : lk ∉ ls) (hno : lk ∉ subP K2 (FAR r) → get2 K2 (farK r lk) = none)
    (h : ∀ s' m', Fm w ([d2] ++ own (envP (p_law w) L)) (envP (p_law w) L) (n + 8) A s m' s' → (∀ y : Str, y ≠ "key" → m' y = m y) → DB w s'.heap d2 (wo K2 (farK r lk)) → wpAny (model prg w) A (execs ((p_law w).body.drop 34) (envP (p_law w) L)) R E s') :
    wpAny (model prg w) A (execs ((p_law w).body.drop 33) (envP (p_law w) L)) R E s := by
  obtain ⟨tf, m1⟩ := m1
  have hf13 : (FAR r).length = 13 + r.length := by unfold FAR; simp; rfl
  have GL := G.withL (us := [d2]) (all1 ⟨R2.nb.2.2, R2.off.2.2⟩)
  have al := G.aliveL (us := [d2]) cz (all1 R2.db.alive)
  have offL : ∀ b, b ≠ d2 → b ∉ own (envP (p_law w) L) → b ∉ [d2] ++ own (envP (p_law w) L) := fun b h1 h2 q => by
    rcases List.mem_append.mp q with q | q
    · exact h1 (List.mem_singleton.mp q)
    · exact h2 q
  refine sForT GL al (evSorted G (Fm.evx (n := n + 5 + 3) G (xKeys1 (n := n + 5) R2 o2 KO (by omega) (nL m2) (nL m1)) fun v s₂ e2 ⟨D, l2, hv, hD, hm2, hl2, hfD⟩ => ?_))
  subst hv
  have hn2 := hD.nodup
  refine sorted_set hD G.hh (by omega) fun O vso os s₃ e3 hO hbo hsrt hfO => ?_
  have G₂ := G.go e2
  have G₃ := G₂.go e3
  have GL₃ := (GL.go e2).go e3
  have offO := G₂.fresh_off (G₂.alive cz) hfO
  have al₃ : ∀ b ∈ [d2] ++ own (envP (p_law w) L), ∃ o, s₃.heap.get? b = some o := fun b hb => let ⟨o, ho⟩ := al b hb; let ⟨o', ho'⟩ := e2.alive b o (fun q => nomatch q) ho; e3.alive b o' (fun q => nomatch q) ho'
  have hOd : O ≠ d2 := fun q => by
    obtain ⟨o, ho⟩ := al d2 (.head _)
    rw [← q] at ho; rw [offO.2.2.2.2] at ho; cases ho
  have hosl : os.length ≤ 6 := by rw [hsrt.1.length_eq]; with_reducible exact leC (by assumption) (by assumption) rfl
  have hosm : ∀ y, y ∈ os ↔ y ∈ subP K2 (FAR r) := fun y => (hsrt.1.mem_iff).trans (hm2 y)
  have hosn : os.Nodup := hsrt.1.nodup_iff.mpr hn2
  have hol := hbo.length
  refine it_list (plList hO) GL₃ al₃ (B := []) (.inl ⟨offO.2.2.2.2, fun _ => offO.2.2.2.1⟩) fun itv s₄ G₄ keep T => ?_
  have hd2₃ : DB w s₃.heap d2 K2 := (R2.db.eff e2 R2.off.2.2 (fun q => nomatch q)).eff e3 (fun q => nomatch q) (fun q => nomatch q)
  refine ⟨[], _, _, G₄, T _ _, (fun _ q => nomatch q), (law33J w m d2 os K2 r lk),
    (law33O w m d2 K2 r lk),
    fun i m' h h' hk x => ⟨x.1, x.2.at fun o e => hk d2 o (.head _) e⟩, ⟨fun y _ => rfl, by rw [if_neg (by simp)]; exact hd2₃.at fun o e => keep _ _ e⟩, ?_, ?_, ?_⟩
  · rintro i v m₁ s₅ hi hv ⟨hag, hd⟩ G₅
    obtain ⟨key, tk, hk, rfl⟩ := hbo.get hv
    have hkm := (hosm key).mp (List.mem_of_getElem? hk)
    obtain ⟨hkl, p, hp⟩ := hpres key hkm
    have a1 : m₁ "far" = some (.bytes (FAR r).toArray tf) := (hag _ (by decide)).trans m1
    have a2 : m₁ "second" = some (.ref x2) := (hag _ (by decide)).trans m2
    have a3 : m₁ "left" = some (.ref Lf) := (hag _ (by decide)).trans m3
    have hS₅ := hS.eff G₅.eff aL.fr (offL Lf nL2 aL.own)
    have hmem : ∀ y, y ∈ os.take (i + 1) ↔ y ∈ os.take i ∨ y = key := fun y => by rw [List.take_add_one, hk, List.mem_append]; simp
    refine asgName (st G₅.onlyL fun s₆ G₆ => ?_)
    have B₆ := G₅.base.backL G₆
    have hd₆ := hd.eff G₆.eff R2.off.2.2 o2.2.2
    have agf : ∀ y : Str, y ≠ "key" → upd m₁ "key" (.bytes key.toArray tk) y = m y := fun y h1 => (upd_ne h1).trans (hag y h1)
    refine sIf1 (isTrue_and (wpAny_isTrue_Compare1 (ldl G₆ rfl (ldl G₆ a3 (sNotIn (hS₅.eff G₆.eff aL.fr aL.own) fun s₇ e7 => wpAny_truthy_bool ?_)))))
    have G₇ := G₆.go e7
    by_cases hin : key ∈ ls
    · rw [show (!decide (key ∈ ls)) = false by simp [hin]]
      have hne : lk ≠ key := fun e => hlk (e ▸ hin)
      refine sNil ⟨_, G₅.base.backL G₇, agf, ?_⟩
      have := hd.eff G₇.eff R2.off.2.2 o2.2.2
      by_cases q : lk ∈ os.take i
      · rw [if_pos q] at this; rw [if_pos ((hmem lk).mpr (.inl q))]; exact this
      · rw [if_neg q] at this; rw [if_neg fun z => ((hmem lk).mp z).elim q hne]; exact this
    · rw [show (!decide (key ∈ ls)) = true by simp [hin]]
      have hkk : key = lk := hleft key hkm hin
      subst hkk
      have hnt : key ∉ os.take i := fun q => by
        obtain ⟨j, hj⟩ := List.getElem?_of_mem q
        have hji : j < i := by
          have := (List.getElem?_eq_some_iff.mp hj).1
          simp at this; omega
        rw [List.getElem?_take, if_pos hji] at hj
        obtain ⟨a1, b1⟩ := List.getElem?_eq_some_iff.mp hj
        obtain ⟨a2, b2⟩ := List.getElem?_eq_some_iff.mp hk
        exact List.pairwise_iff_getElem.mp hosn j i a1 a2 hji (b1.trans b2.symm)
      rw [if_neg hnt] at hd
      have B₇ := G₅.base.backL G₇
      have R₇ : Rep w A s₇.heap x2 dx2 d2 K2 := ⟨R2.inst.eff (G₅.after B₇).eff ⟨R2.off.1, offL x2 (Ne.symm R2.ne.1) o2.1⟩ ⟨R2.off.2.1, offL dx2 (Ne.symm R2.ne.2) o2.2.1⟩, hd.eff G₇.eff R2.off.2.2 o2.2.2, R2.off, R2.nb, R2.ne⟩
      have Gb := G₇.base
      refine isTrue_and (isTrue_not (isTrue_plain (evI2 i_rem (ldl Gb a2 ⟨x2, dx2, d2, rfl, Gb.ww, R₇.inst, Gb.ev (eAddB (l := FAR r ++ [47]) (p := key) (eAddB (l := FAR r) (p := [47]) (eL (V := IsB (FAR r)) a1 ⟨_, rfl⟩) eB (by simp; omega)) (eL (V := IsB key) rfl ⟨_, rfl⟩) (by simp; omega)) fun u s₈ G₈ ⟨tu, hu⟩ => kNone ?_⟩)) (by rfl)))
      subst hu
      refine ⟨G₈.ww, s_rem (n := n + 6) (ob := none) rfl G₈.cx (R₇.eff G₈.eff o2) (by with_reducible exact leK (by assumption) rfl) hp fun s₉ e9 hd9 => ?_⟩
      refine wpAny_truthy_bool ?_
      have B₉ := (B₇.backL G₈).stepL' e9 (.head _) o2.2.2
      refine sNil ⟨_, B₉, agf, ?_⟩
      rw [if_pos ((hmem key).mpr (.inr rfl))]
      exact hd9
  · rintro m' h' ⟨hag, hd⟩
    refine ⟨hag, ?_⟩
    rw [List.take_of_length_le (by omega)] at hd
    by_cases q : lk ∈ os
    · rw [if_pos q] at hd; exact hd
    · rw [if_neg q] at hd
      rw [wo_none (hno fun z => q ((hosm lk).mpr z))]; exact hd
  · intro f m' s₅ G₅ hO
    cases f with
    | ret v => exact hO.elim
    | brk => exact hO.elim
    | cont => exact hO.elim
    | next => exact h s₅ m' G₅ hO.1 hO.2
end
end Mine
end
section
open PySem PySem.W PyProof.Rows PySem.Calls PySem.Builtin
namespace Mine
section
variable {w : World} {mu mu0 us : List Addr} {env : Env} {n : Nat} {A : Around} {g s s' s₁ : Shared} {m : Str → Option Value} {E : Value → Shared → Prop} {a b x dx d x2 dx2 d2 kd hd D O Wd C U I l Lf Dh : Addr} {K K2 H out : KV} {head base : By} {t u : Tok} {f : By → Option By} {e e₁ e₂ e₃ it : Expr} {pos px p1 p2 p3 p4 p5 p6 apos : Pos} {i j : Int} {L : Nat} {R : Flow → Shared → Prop} {b1 b2 b3 : Bool} {ob : Option By} {name r lk v : By} {ls ms os : List By} {vs vso vsw : List Value} {V W : Value → Prop}
theorem loopT2 {target : Expr} {body : List Stmt} {I : Addr} {fp wr : List Addr} {N : Nat} {P Md : Nat → Value → Heap → Prop} {St : Nat → Heap → Prop} {R : Result → Shared → Prop} (T : KTurns prg w A target I fp wr N P Md St)
    (F : Fm w mu env n A g m s) (hfp : ∀ b ∈ fp, b ∉ mu ∧ b ∉ frs A ∧ b ≠ tabA) (hwr : ∀ b ∈ wr, NB ≤ b ∧ g.heap.get? b = none) (hst : St 0 s.heap) (hal : ∀ i h, St i h → ∀ b ∈ wr, ∃ o, h.get? b = some o)
    (J : Nat → (Str → Option Value) → Heap → Prop) (O : Flow → (Str → Option Value) → Heap → Prop)
    (hJ : ∀ i m h h', (∀ b o, b ∉ wr → h.get? b = some o → h'.get? b = some o) → J i m h → J i m h') (h0 : J 0 m s.heap)
    (step : ∀ i v m₁ s₁, i < N → P i v s₁.heap → J i m₁ s₁.heap → (∀ b ∈ wr, ∃ o, s₁.heap.get? b = some o) → Fm w mu env n A g m₁ s₁ → wpAny (model prg w) A (assign target env v) (fun _ s₂ => wpAny (model prg w) A (execs body env) (ForQ w mu env n A s₁ (J (i + 1)) O) (fun _ _ => False) s₂) (fun _ _ => False) s₁)
    (hdone : ∀ m' h, J N m' h → O .next m' h)
    (hO : ∀ f m' s', Fm w mu env n A g m' s' → O f m' s'.heap → R (.ok (match f with | .ret v => .ret v | _ => .next)) s') :
    codeAny (model prg w) A (.forLoop target (.ref I) body [] env) R s := by
  have hno : ∀ b ∈ wr, b ∉ mu := fun b q => (hfp b (T.sub b q)).1
  refine codeAny_forLoop_any
    (fun k s' => ∃ m' i, St i s'.heap ∧ Fm w mu env n A g m' s' ∧ J i m' s'.heap ∧ i ≤ N ∧ k = N + 1 - i) ?_ (N + 1) ⟨m, 0, hst, F, h0, Nat.zero_le _, rfl⟩
  rintro k s' ⟨m', i, hst', F', hJ', hi, rfl⟩
  by_cases hlt : i < N
  · refine T.item i _ _ _ hlt hst' fun v h₁ tk₁ hMd hk₁ => ?_
    refine T.go i v _ _ _ hMd fun h₂ hP hst₂ hk₂ => ?_
    have hk : ∀ b o, b ∉ wr → s'.heap.get? b = some o → h₂.get? b = some o := fun b o hb e => hk₂ b o hb (hk₁ b o hb e)
    have F₂ := F'.other (tk := tk₁) (fun b q => (hwr b q).1) (fun b q => (hwr b q).2) hno hk
    have hJ₂ := hJ i m' s'.heap h₂ hk hJ'
    refine wpAny_mono (step i v m' _ hlt hP hJ₂ (hal _ _ hst₂) F₂) (fun _ s₂ h₂' => wpAny_mono h₂' (fun f s₃ h₃ => ?_) fun _ _ e => e.elim) fun _ _ e => e.elim
    have again : ∀ m₃, Fm w mu env n A { s' with heap := h₂, toks := tk₁ } m₃ s₃ → J (i + 1) m₃ s₃.heap → ∃ k', k' < N + 1 - i ∧ ∃ m' i, St i s₃.heap ∧ Fm w mu env n A g m' s₃ ∧ J i m' s₃.heap ∧ i ≤ N ∧ k' = N + 1 - i := by
      intro m₃ F₃ hJ₃
      refine ⟨N + 1 - (i + 1), subL hlt, m₃, i + 1, ?_, F₂.after F₃, hJ₃, hlt, rfl⟩
      refine T.frame _ _ _ hst₂ fun b hb o e => ?_
      obtain ⟨sl, a, c⟩ := F₃.eff.keep b o (hfp b hb).1 e (.inr (hfp b hb).2.2)
      have := c (hfp b hb).2.1
      subst this
      exact a
    cases f with
    | ret v => obtain ⟨m₃, F₃, hO₃⟩ := h₃; exact hO (.ret v) m₃ s₃ (F₂.after F₃) hO₃
    | brk => obtain ⟨m₃, F₃, hO₃⟩ := h₃; exact hO .brk m₃ s₃ (F₂.after F₃) hO₃
    | cont => obtain ⟨m₃, F₃, hJ₃⟩ := h₃; exact again m₃ F₃ hJ₃
    | next => obtain ⟨m₃, F₃, hJ₃⟩ := h₃; exact again m₃ F₃ hJ₃
  · have hin : i = N := by with_reducible exact eqN (by assumption) (by assumption)
    subst hin
    refine T.done _ _ _ hst' fun h₁ tk₁ hk₁ => wpAny_execs_nil ?_
    exact hO .next m' _ (F'.other (fun b q => (hwr b q).1) (fun b q => (hwr b q).2) hno hk₁) (hdone _ _ (hJ i m' s'.heap h₁ hk₁ hJ'))
theorem it_list2 {y : Str} {py : Pos} {body rest : List Stmt} {Q : Flow → Shared → Prop} {l : Addr} {E : Value → Shared → Prop} (hl : s.heap.IsList l vs.toArray) (F : Fm w mu env n A g m s) (hmu : ∀ b ∈ mu, ∃ o, s.heap.get? b = some o) (hlm : l ∉ mu ∧ l ∉ frs A ∧ l ≠ tabA)
    (J : List Addr → Nat → (Str → Option Value) → Heap → Prop) (O : Flow → (Str → Option Value) → Heap → Prop)
    (hJ : ∀ wr i m h h', (∀ b o, b ∉ wr → h.get? b = some o → h'.get? b = some o) → J wr i m h → J wr i m h') (h0 : ∀ wr h, (∀ b ∈ wr, s.heap.get? b = none) → (∀ b o, s.heap.get? b = some o → h.get? b = some o) → J wr 0 m h)
    (step : ∀ wr i v m₁ s₁, i < vs.length → vs[i]? = some v → J wr i m₁ s₁.heap → (∀ b ∈ wr, ∃ o, s₁.heap.get? b = some o) → Fm w mu env n A g m₁ s₁ → wpAny (model prg w) A (assign (.Name y py) env v) (fun _ s₂ => wpAny (model prg w) A (execs body env) (ForQ w mu env n A s₁ (J wr (i + 1)) O) (fun _ _ => False) s₂) (fun _ _ => False) s₁)
    (hdone : ∀ wr m' h, J wr vs.length m' h → O .next m' h)
    (hO : ∀ f m' s', Fm w mu env n A g m' s' → O f m' s'.heap → andThen w A env E rest Q (match f with | .ret v => .ret v | _ => .next) s') :
    wpAny (model prg w) A (pyIter (.ref l)) (fun it s₂ => codeAny (model prg w) A (.forLoop (.Name y py) it body [] env) (fun r s' => match r with | .ok f => andThen w A env E rest Q f s' | .error _ => False) s₂) E s := by
  refine wpAny_pyIter_list hl ?_
  have hlt : l < s.heap.objs.size := by obtain ⟨_, e, _⟩ := hl; exact Heap.lt_size e
  have up : ∀ b o, s.heap.get? b = some o → (s.heap.push { cls := .type "list_iterator", data := .fields #[.ref l, .int 0 0] }).get? b = some o := fun b o e => Heap.get?_push_of_some _ e
  have W := Walks.list (prog := prg) (w := w) F.hh s.heap.objs.size l (Nat.ne_of_lt hlt) vs.toArray
  have T : KTurns prg w A (.Name y py) s.heap.objs.size [s.heap.objs.size, l] [s.heap.objs.size] vs.length (fun i v _ => vs[i]? = some v) (fun i v h => vs[i]? = some v ∧ (h.IsListIter s.heap.objs.size l (i + 1) ∧ h.IsList l vs.toArray)) (fun i h => h.IsListIter s.heap.objs.size l i ∧ h.IsList l vs.toArray) := by
    have := KTurns.ofWalks (target := .Name y py) W (fun i v s Q E _ hq => wpAny_pure hq)
    simpa using this
  have hnone : s.heap.get? s.heap.objs.size = none := get_none_of_size (Nat.le_refl _)
  have off : s.heap.objs.size ∉ mu ∧ s.heap.objs.size ∉ frs A ∧ s.heap.objs.size ≠ tabA := by
    have := F.fresh_off hmu (Fresh.size w s)
    exact ⟨this.1, this.2.1, this.2.2.1⟩
  have F' : Fm w mu env n A g m { s with heap := s.heap.push { cls := .type "list_iterator", data := .fields #[.ref l, .int 0 0] } } := F.go (.push _)
  refine loopT2 T F' (fun b hb => ?_) (fun b hb => ?_) ⟨⟨_, Heap.get?_push_size _ rfl, rfl, rfl⟩, hl.push _⟩ (fun i h st b hb => ?_) (J [s.heap.objs.size]) O (hJ _) (h0 _ _ (fun b hb => List.mem_singleton.mp hb ▸ hnone) up) (step _) (hdone _) fun f m' s' F₂ hO₂ => hO f m' s' F₂ hO₂
  · rcases List.mem_cons.mp hb with rfl | hb
    · exact off
    · rw [List.mem_singleton.mp hb]; exact hlm
  · rw [List.mem_singleton.mp hb]
    have := F.fresh_off hmu (Fresh.size w s)
    exact ⟨this.2.2.2.1, this.2.2.2.2⟩
  · rw [List.mem_singleton.mp hb]
    obtain ⟨⟨o, ho, _⟩, _⟩ := st
    exact ⟨o, ho⟩
end
end Mine
end
section
open PySem PySem.W PyProof.Rows PySem.Calls PySem.Builtin
namespace Mine
noncomputable def woL (K : KV) (base : By) (ks : List By) : KV := ks.foldl (fun acc k => wo acc (base ++ [47] ++ k)) K
theorem woL_succ {K : KV} {base : By} {os : List By} {i : Nat} {k : By} (h : os[i]? = some k) : woL K base (os.take (i + 1)) = wo (woL K base (os.take i)) (base ++ [47] ++ k) := by
  unfold woL
  rw [List.take_add_one, h, List.foldl_append]; rfl
theorem woL_len {base : By} : ∀ (ks : List By) (K : KV), (woL K base ks).length ≤ K.length
  | [], _ => Nat.le_refl _
  | k :: ks, K => Nat.le_trans (woL_len ks (wo K (base ++ [47] ++ k))) (wo_len _ _)
theorem woL_get {base key : By} : ∀ {ks : List By} {K : KV}, key ∉ ks → get2 (woL K base ks) (base ++ [47] ++ key) = get2 K (base ++ [47] ++ key)
  | [], _, _ => rfl
  | k :: ks, K, h => by
    have h1 : get2 (woL (wo K (base ++ [47] ++ k)) base ks) (base ++ [47] ++ key) = get2 (wo K (base ++ [47] ++ k)) (base ++ [47] ++ key) := woL_get fun q => h (.tail _ q)
    show get2 (woL (wo K (base ++ [47] ++ k)) base ks) _ = _
    rw [h1, wo_get, if_neg]
    intro e
    exact h (List.append_cancel_left e ▸ .head _)
theorem wo_nodup {K : KV} {k : By} (h : (K.map (·.1)).Nodup) : ((wo K k).map (·.1)).Nodup := by
  unfold wo
  exact (List.Sublist.map _ List.filter_sublist).nodup h
theorem GoodKV.wo {K : KV} (G : GoodKV K) (k : By) : GoodKV (Mine.wo K k) :=
  ⟨Nat.le_trans (wo_len _ _) G.len, wo_nodup G.nodup, fun kv hkv => G.all kv (List.mem_filter.mp hkv).1⟩
theorem GoodKV.woL {K : KV} {base : By} (G : GoodKV K) : ∀ ks, GoodKV (Mine.woL K base ks) := by
  intro ks
  induction ks generalizing K with
  | nil => exact G
  | cons k r ih => exact ih (G.wo _)
section
variable {w : World} {mu mu0 us : List Addr} {env : Env} {n : Nat} {A : Around} {g s s' s₁ : Shared} {m : Str → Option Value} {E : Value → Shared → Prop} {a b x dx d x2 dx2 d2 kd hd D O Wd C U I l Lf Dh : Addr} {K K2 H out : KV} {head base : By} {t u : Tok} {f : By → Option By} {e e₁ e₂ e₃ it : Expr} {pos px p1 p2 p3 p4 p5 p6 apos : Pos} {i j : Int} {L : Nat} {R : Flow → Shared → Prop} {b1 b2 b3 : Bool} {ob : Option By} {name r lk v : By} {ls ms os : List By} {vs vso vsw : List Value} {V W : Value → Prop}
set_option maxHeartbeats 1000000 in
theorem law34 {f1 f2 : By → Option By} (cz : ∀ p ∈ (envP (p_law w) L).cells, (envP (p_law w) L).cells.lookup p.1 = some p.2)
    (G : Fm w (own (envP (p_law w) L)) (envP (p_law w) L) (n + 8) A s m s) (m2 : ∃ t, m "far" = some (.bytes (FAR r).toArray t)) (m3 : m "second" = some (.ref x2)) (m6 : m "kept" = some (.ref kd)) (m7 : ∃ t, m "head" = some (.bytes head.toArray t))
    (S1 : SecB K2 H head f1) (S2 : SameB K2 H (FAR r) f2) (KO : KOk K2) (hKz : ∀ kv ∈ K2, kv.2.length ≤ 4096) (h6 : K2.length ≤ 6) (h5 : H.length ≤ 5) (hHk : ∀ kv ∈ H, kv.1.length ≤ 4096) (hrl : r.length ≤ 40)
    (R2 : Rep w A s.heap x2 dx2 d2 K2) (o2 : x2 ∉ own (envP (p_law w) L) ∧ dx2 ∉ own (envP (p_law w) L) ∧ d2 ∉ own (envP (p_law w) L)) (hk : DB w s.heap kd H) (ak : Apart w A L kd)
    (h : ∀ s' Dh out, Fm w (own (envP (p_law w) L)) (envP (p_law w) L) (n + 8) A s (upd m "home" (.ref Dh)) s' → DB w s'.heap Dh out → (∀ y, get2 out y = get2 (underP H (FAR r)) y) → out.length ≤ 6 → Apart w A L Dh → Fresh w s Dh → wpAny (model prg w) A (execs ((p_law w).body.drop 36) (envP (p_law w) L)) R E s') :
    wpAny (model prg w) A (execs ((p_law w).body.drop 34) (envP (p_law w) L)) R E s := by
  obtain ⟨tf, m2⟩ := m2
  obtain ⟨th, m7⟩ := m7
  have hf13 : (FAR r).length = 13 + r.length := by unfold FAR; simp; rfl
  refine sAsg (Fm.evx (n := n + 2 + 6) G (xAsD1 (n := n + 2) R2 o2 KO (by omega) S2.full (nL m3) (nL m2)) fun v s₂ e2 ⟨D, out, hv, hD, hout, hlen, nD, fD, hfD⟩ => ?_) rfl
  subst hv
  have G₂ := G.go e2
  have offD := G.fresh_off (G.alive cz) hfD
  have G₂b := G₂.base
  refine st G₂b (fun s₃ G₃ => ?_) rfl
  have H₃ := G₂.after G₃
  have hD₃ := hD.eff G₃.eff fD offD.1
  have hout' : ∀ y, get2 out y = get2 (underP H (FAR r)) y := fun y => (hout y).trans (S2.val y)
  have R₃ := R2.eff H₃.eff o2
  have hk₃ := hk.eff H₃.eff ak.fr ak.own
  have Gb := H₃.base
  refine xIf1 Gb (b := !true || false) (tOr2 (tNot (tPlain (eSecond (n := n) S1 R₃ o2 KO hKz (by with_reducible exact ltL (by assumption) rfl) hk₃ ak.nb ak.fr ak.own (by with_reducible exact ltL (by assumption) rfl) (nL m3) (nL m6) (nL m7)) truth_bool)) fun _ => fun s F Q E q => wpAny_isTrue_Compare1 (ldl F rfl (evc2 F d_under (ldl F m6 (ldl F m2 ⟨F.ww, s_under (n := n + 7) F.cx (hk₃.eff F.eff ak.fr ak.own) ak.nb ak.fr (by omega) hHk (by with_reducible exact leK (by assumption) rfl) fun D' s' e' hD' hf' => ?_⟩))))) (fun q => nomatch q) fun _ s₄ G₄ => ?_
  · exact neD ((hD₃.eff F.eff fD offD.1).eff e' fD (fun q => nomatch q)) hD' nD (hf'.2 F.ww) F.line hout' (wpAny_truthy_bool (q s' (F.go e')))
  · exact h s₄ D out (H₃.after G₄) (hD₃.eff G₄.eff fD offD.1) hout' (by with_reducible exact leC (by assumption) (by assumption) rfl) ⟨offD.1, fD, nD⟩ hfD
set_option maxHeartbeats 2000000 in
noncomputable def law36J (w : World) (m : Str → Option Value) (A : Around) (L : Nat) (d : Addr) (K : KV) (base : By) (os : List By) : List Addr → Nat → (Str → Option Value) → Heap → Prop := fun wr i m' h => (∀ y : Str, y ≠ "key" → y ≠ "held" → m' y = m y) ∧ (∃ hd', m' "held" = some (.ref hd') ∧ DB w h hd' (woL K base (os.take i)) ∧ Apart w A L hd' ∧ hd' ∉ wr ∧ hd' ≠ d) ∧ DB w h d (woL K base (os.take i)) ∧ d ∉ wr
noncomputable def law36O (w : World) (m : Str → Option Value) (A : Around) (L : Nat) (d : Addr) (K : KV) (base : By) (os : List By) : Flow → (Str → Option Value) → Heap → Prop := fun f m' h => match f with | .next => (∀ y : Str, y ≠ "key" → y ≠ "held" → m' y = m y) ∧ (∃ hd', m' "held" = some (.ref hd') ∧ DB w h hd' (woL K base os) ∧ Apart w A L hd' ∧ hd' ≠ d) ∧ DB w h d (woL K base os) | _ => False
theorem law36 (cz : ∀ p ∈ (envP (p_law w) L).cells, (envP (p_law w) L).cells.lookup p.1 = some p.2) (KLa : ∀ K, GoodKV K → KOk K ∧ ∀ y ∈ K.map (·.1), y.length ≤ 8192 ∧ (fullP none y).length ≤ 8192 ∧ ∃ names, Fol K (fullP none y) names (get2 K y) ∧ names.length ≤ 5)
    (G : Fm w (own (envP (p_law w) L)) (envP (p_law w) L) (n + 8) A s₁ m s) (m1 : ∃ t, m "base" = some (.bytes base.toArray t)) (m2 : m "refs" = some (.ref x)) (m3 : m "held" = some (.ref hd)) (m4 : m "home" = some (.ref Dh))
    (R₀ : Rep w A s.heap x dx d K) (off : x ∉ own (envP (p_law w) L) ∧ dx ∉ own (envP (p_law w) L) ∧ d ∉ own (envP (p_law w) L)) (hH : DB w s.heap hd K) (ah : Apart w A L hd) (nhd : hd ≠ d) (hDh : DB w s.heap Dh out) (aD : Apart w A L Dh) (nDd : Dh ≠ d) (GK : GoodKV K) (hol : out.length ≤ 6) (hbl : base.length ≤ 60) (fd : s₁.heap.get? d = none)
    (hout : ∀ key v, get2 out key = some v → get2 K (base ++ [47] ++ key) = some v ∧ key.length ≤ 60)
    (h : ∀ s', Fm w (own (envP (p_law w) L)) (envP (p_law w) L) (n + 8) A s₁ m s' ∨ (∃ m', Fm w (own (envP (p_law w) L)) (envP (p_law w) L) (n + 8) A s₁ m' s') → R (.ret (.bool true)) s') :
    wpAny (model prg w) A (execs ((p_law w).body.drop 36) (envP (p_law w) L)) R E s := by
  obtain ⟨tb, m1⟩ := m1
  have GL := G.base.withL (us := [d]) (all1 ⟨R₀.nb.2.2, R₀.off.2.2⟩)
  have al := G.aliveL (us := [d]) cz (all1 R₀.db.alive)
  have offL : ∀ b, b ≠ d → b ∉ own (envP (p_law w) L) → b ∉ [d] ++ own (envP (p_law w) L) := fun b h1 h2 q => by
    rcases List.mem_append.mp q with q | q
    · exact h1 (List.mem_singleton.mp q)
    · exact h2 q
  have Gb := G.base
  refine sFor (evSorted Gb (ldl Gb m4 (sorted_db hDh aD.nb Gb.hh (by with_reducible exact ltL (by assumption) rfl) fun O vso os s₃ e3 hO hbo hsrt hfO => ?_)))
  have GL₃ := GL.go e3
  have offO := Gb.fresh_off (Gb.alive cz) hfO
  have al₃ : ∀ b ∈ [d] ++ own (envP (p_law w) L), ∃ o, s₃.heap.get? b = some o := fun b hb => let ⟨o, ho⟩ := al b hb; e3.alive b o (fun q => nomatch q) ho
  have hOd : O ≠ d := fun q => by
    obtain ⟨o, ho⟩ := al d (.head _)
    rw [← q] at ho; rw [hfO.1] at ho; cases ho
  have hosl : os.length ≤ 6 := by rw [hsrt.1.length_eq]; simp; with_reducible exact leK (by assumption) rfl
  have hosn : os.Nodup := hsrt.1.nodup_iff.mpr hDh.nodup
  have hosm : ∀ y ∈ os, ∃ p, get2 out y = some p := fun y hy => get2_some (hsrt.1.mem_iff.mp hy)
  have hovl := hbo.length
  have hd₃ : DB w s₃.heap d K := R₀.db.eff e3 (fun q => nomatch q) (fun q => nomatch q)
  have hH₃ : DB w s₃.heap hd K := hH.eff e3 (fun q => nomatch q) (fun q => nomatch q)
  refine it_list2 (plList hO) GL₃ al₃ ⟨offL O hOd offO.1, offO.2.1, offO.2.2.1⟩
    ((law36J w m A L d K base os))
    ((law36O w m A L d K base os))
    (fun wr i m' h h' hk x => ⟨x.1, let ⟨hd', a, b, c, e, f⟩ := x.2.1; ⟨hd', a, b.at fun o q => hk hd' o e q, c, e, f⟩, x.2.2.1.at fun o q => hk d o x.2.2.2 q, x.2.2.2⟩)
    (fun wr h' hwr keep => ⟨fun y _ _ => rfl, ⟨hd, m3, hH₃.at fun o e => keep _ _ e, ah, fun q => (by obtain ⟨o, ho⟩ := hH₃.alive; rw [hwr _ q] at ho; cases ho), nhd⟩, hd₃.at fun o e => keep _ _ e, fun q => (by obtain ⟨o, ho⟩ := hd₃.alive; rw [hwr _ q] at ho; cases ho)⟩) ?_ ?_ ?_
  · rintro wr i v m₁ s₄ hi hv ⟨hag, ⟨hd', mh, hh', ah', hwh, nh'⟩, hdK, hwd⟩ hal G₄
    obtain ⟨key, tk, hk, rfl⟩ := hbo.get hv
    have hki := hosm key (List.mem_of_getElem? hk)
    obtain ⟨p, hp⟩ := hki
    obtain ⟨hKp, hkl⟩ := hout key p hp
    have hnt : key ∉ os.take i := fun q => by
      obtain ⟨j, hj⟩ := List.getElem?_of_mem q
      have hji : j < i := by
        have := (List.getElem?_eq_some_iff.mp hj).1
        simp at this; omega
      rw [List.getElem?_take, if_pos hji] at hj
      obtain ⟨a1, b1⟩ := List.getElem?_eq_some_iff.mp hj
      obtain ⟨a2, b2⟩ := List.getElem?_eq_some_iff.mp hk
      exact List.pairwise_iff_getElem.mp hosn j i a1 a2 hji (b1.trans b2.symm)
    have hget : get2 (woL K base (os.take i)) (base ++ [47] ++ key) = some p := (woL_get hnt).trans hKp
    have hwl := woL_len (base := base) (os.take i) K
    have hKl := GK.len
    have a1 : m₁ "base" = some (.bytes base.toArray tb) := (hag _ (by decide) (by decide)).trans m1
    have a2 : m₁ "refs" = some (.ref x) := (hag _ (by decide) (by decide)).trans m2
    have a4 : m₁ "home" = some (.ref Dh) := (hag _ (by decide) (by decide)).trans m4
    have nm : ∀ {g : Shared} {m₀ : Str → Option Value} {p1 p2 p3 p4 p5 : Pos} {k1 : Nat} {tk : Tok}, m₀ "base" = some (.bytes base.toArray tb) → m₀ "key" = some (.bytes key.toArray tk) → Ev w (own (envP (p_law w) L)) (envP (p_law w) L) (n + 8) A g m₀ (IsB (base ++ [47] ++ key)) (.BinOp (.BinOp (.Name "base" p1) .Add (.Constant (.bytes [47]) k1 p2) p3) .Add (.Name "key" p4) p5) := fun h1 h2 => eAddB (l := base ++ [47]) (p := key) (eAddB (l := base) (p := [47]) (eL (V := IsB base) h1 ⟨_, rfl⟩) eB (by simp; with_reducible exact leK (by assumption) rfl)) (eL (V := IsB key) h2 ⟨_, rfl⟩) (by simp; with_reducible exact leT (by assumption) (by assumption) rfl)
    refine asgName (st G₄.onlyL fun s₅ G₅ => ?_)
    have B₅ := G₄.base.backL G₅
    have hh₅ := hh'.eff G₅.eff ah'.fr ah'.own
    have Gc := G₅.base
    refine sAsg (evc2 Gc d_without (ldc Gc mh (Gc.ev (nm a1 rfl) fun u s₆ G₆ ⟨tu, hu⟩ => ?_))) rfl
    subst hu
    refine ⟨G₆.ww, s_without (n := n + 7) G₆.cx (hh₅.eff G₆.eff ah'.fr ah'.own) ah'.nb ah'.fr (by with_reducible exact leC (by assumption) (by assumption) rfl) fun hd'' s₇ e7 hh₇ hf₇ => ?_⟩
    have G₇ := G₆.go e7
    have off7 := G₆.fresh_off (G₆.alive cz) hf₇
    refine stc G₇.base (fun s₈ G₈ => ?_)
    have hh₈ := hh₇.eff G₈.eff off7.2.1 off7.1
    have H₈ := (G₅.after (G₇.after G₈))
    have hd₈ := hdK.eff H₈.eff R₀.off.2.2 off.2.2
    have B₈ := G₄.base.backL H₈
    have e48 := (G₄.after B₈).eff
    have R₈ : Rep w A s₈.heap x dx d (woL K base (os.take i)) := ⟨R₀.inst.eff e48 ⟨R₀.off.1, offL x (Ne.symm R₀.ne.1) off.1⟩ ⟨R₀.off.2.1, offL dx (Ne.symm R₀.ne.2) off.2.1⟩, hd₈, R₀.off, R₀.nb, R₀.ne⟩
    have hDh₈ := hDh.eff e48 aD.fr (offL Dh nDd aD.own)
    have h7w : hd'' ∉ wr := fun q => by
      obtain ⟨o, ho⟩ := hal hd'' q
      obtain ⟨o', ho'⟩ := (G₅.after G₆).eff.alive hd'' o off7.1 ho
      rw [hf₇.1] at ho'; cases ho'
    have h7d : hd'' ≠ d := fun q => by
      obtain ⟨o, ho⟩ := (hdK.eff (G₅.after G₆).eff R₀.off.2.2 off.2.2).alive
      rw [← q, hf₇.1] at ho; cases ho
    have Gd := G₈.base
    have hh7 : Apart w A L hd'' := ⟨off7.1, off7.2.1, off7.2.2.2.1⟩
    refine sIf1 (isTrue_not (isTrue_plain (evI2 i_rem (ldl Gd a2 ⟨x, dx, d, rfl, Gd.ww, R₈.inst, Gd.ev (nm a1 rfl) fun u s₉ G₉ ⟨tu, hu⟩ => ?_⟩)) (by rfl)))
    subst hu
    refine G₉.ev (eDGet (k := key) (v := p) hDh₈ aD.fr aD.own hp (eL (V := IsV (.ref Dh)) a4 rfl) (eL (V := IsB key) rfl ⟨_, rfl⟩)) fun u s₁₀ G₁₀ ⟨tu2, hu⟩ => ?_
    subst hu
    refine ⟨G₁₀.ww, s_rem (n := n + 6) (ob := some p) ⟨_, rfl⟩ G₁₀.cx (R₈.eff G₁₀.eff off) (by with_reducible exact leC (by assumption) (by assumption) rfl) hget fun s₁₁ e11 hd₁₁ => ?_⟩
    have hhp : hitO (some p) p = true := by show (p == p) = true; simp
    rw [hhp, if_pos rfl] at hd₁₁
    rw [hhp]
    refine wpAny_truthy_bool ?_
    have B₁₁ := (B₈.backL G₁₀).stepL' e11 (.head _) off.2.2
    refine sNil ⟨_, B₁₁, fun y h1 h2 => (upd_ne h2).trans ((upd_ne h1).trans (hag y h1 h2)), ⟨hd'', rfl, ?_, hh7, h7w, h7d⟩, ?_, hwd⟩
    · rw [woL_succ hk]
      exact (hh₈.eff G₁₀.eff hh7.fr hh7.own).eff e11 hh7.fr fun q => h7d (List.mem_singleton.mp q)
    · rw [woL_succ hk]; exact hd₁₁
  · rintro wr m' h' ⟨hag, ⟨hd', a, b, c, e, f⟩, hdK, _⟩
    rw [List.take_of_length_le (by omega)] at b hdK
    exact ⟨hag, ⟨hd', a, b, c, f⟩, hdK⟩
  · intro f m' s₄ G₄ hO
    cases f with
    | ret v => exact hO.elim
    | brk => exact hO.elim
    | cont => exact hO.elim
    | next =>
      obtain ⟨hag, ⟨hd', mh, hh', ah', nh'⟩, hdK⟩ := hO
      have Fe := G.joinL G₄ (all1 fd)
      have GKe := GK.woL (base := base) os
      obtain ⟨KO, full⟩ := KLa _ GKe
      have hle := GKe.len
      have Re : Rep w A s₄.heap x dx d (woL K base os) := ⟨R₀.inst.eff G₄.eff ⟨R₀.off.1, offL x (Ne.symm R₀.ne.1) off.1⟩ ⟨R₀.off.2.1, offL dx (Ne.symm R₀.ne.2) off.2.1⟩, hdK, R₀.off, R₀.nb, R₀.ne⟩
      have a2 : m' "refs" = some (.ref x) := (hag _ (by decide) (by decide)).trans m2
      have Fb := Fe.base
      show wpAny (model prg w) A (execs ((p_law w).body.drop 37) (envP (p_law w) L)) R E s₄
      refine xRet Fb (eAnd2 (eSrtEq (xSortSet (xKeys0 (n := n + 5) Re off KO (nL a2)) (by with_reducible exact ltL (by assumption) rfl) GKe.nodup fun y => Iff.rfl) (xSortDct (nDct (nC mh) hh' ah'.fr ah'.own ah'.nb) (by with_reducible exact ltL (by assumption) rfl)) (.refl _)) fun _ => eDctEq (xAsD0 (n := n + 2) Re off KO full (nL a2)) (nDct (nC mh) hh' ah'.fr ah'.own ah'.nb) fun y => ?_) fun v s₅ hv G₅ => ?_
      · by_cases hy : y ∈ (woL K base os).map (·.1)
        · rw [if_pos hy]
        · rw [if_neg hy, get2_none hy]
      · have hv : v = .bool true := hv
        subst hv
        exact h s₅ (.inr ⟨m', Fe.after G₅⟩)
end
end Mine
end
section
open PySem PySem.W PyProof.Rows PySem.Calls PySem.Builtin
namespace Mine
noncomputable def KF (k : By) : Prop := k.length ≤ 60 ∧ ∃ c, k.getLast? = some c ∧ c ≠ 47 ∧ c ≠ 10 ∧ c ≠ 13
noncomputable def V4 (v : By) : Prop := ∃ c : UInt8, 49 ≤ c.toNat ∧ c.toNat ≤ 52 ∧ v = List.replicate 40 c
structure PLaw : Prop where
  nl : ∀ name : By, name.length ≤ 60 → NameLaw name
  pv : ∀ l, psv l = pointsP l
  kl : ∀ K, GoodKV K → KLaw K
  ne : ∀ K b, GoodKV K → BaseOk K b → ∃ y p, get2 K (b ++ [47] ++ y) = some p
  un : ∀ (K : KV) b y, (K.map (·.1)).Nodup → get2 (underP K b) y = get2 K (b ++ [47] ++ y)
  sub : ∀ (K : KV) b y, K.all (fun kv => clearO b kv.1) = true → (y ∈ subP K b ↔ (get2 K (b ++ [47] ++ y)).isSome = true)
  kf : ∀ K b y p, GoodKV K → BaseOk K b → get2 K (b ++ [47] ++ y) = some p → KF y ∧ V4 p
  key : ∀ K b r y p, GoodKV K → BaseOk K b → RemOk r → get2 K (b ++ [47] ++ y) = some p → KeyLaw r y
  nS : ∀ r k, farK r k ≠ STASH ∧ farK r k ≠ HEADB
  sec : ∀ r (T : By → Option By) H K2 hk, RemOk r → KF hk → KeptB r T H → SecK K2 H (farK r hk) → (∀ k v, T k = some v → KF k ∧ V4 v) → (H.map (·.1)).Nodup → (K2.map (·.1)).Nodup → K2.length ≤ 6 → H.length ≤ 5 →
    ∃ f1 f2, SecB K2 H (farK r hk) f1 ∧ SameB K2 H (FAR r) f2 ∧ KOk K2 ∧ (∀ kv ∈ K2, kv.2.length ≤ 4096) ∧ (∀ kv ∈ H, kv.1.length ≤ 4096) ∧ (∀ y, y ∈ subP K2 (FAR r) ↔ (T y).isSome = true) ∧ (∀ y, get2 (underP H (FAR r)) y = T y)
theorem kept_wo {r : By} {T : By → Option By} {H : KV} {lk : By} (nS : farK r lk ≠ STASH) (h : KeptB r T H) : KeptB r (fun k => if k = lk then none else T k) (wo H (farK r lk)) := by
  refine ⟨?_, fun k => ?_, fun y p hp => ?_⟩
  · rw [wo_get, if_neg fun e => nS e.symm, h.stash]
  · rw [wo_get]
    by_cases e : k = lk
    · subst e; rw [if_pos rfl, if_pos rfl]
    · rw [if_neg fun q => e (farK_inj q), if_neg e, h.key]
  · rw [wo_get] at hp
    by_cases e : y = farK r lk
    · rw [if_pos e] at hp; cases hp
    · rw [if_neg e] at hp; exact h.only y p hp
theorem sec_wo {K2 H : KV} {head name : By} (nH : name ≠ HEADB) (h : SecK K2 H head) : SecK (wo K2 name) (wo H name) head := fun y => by
  rw [wo_get, wo_get, h y]
  by_cases e : y = name
  · subst e; rw [if_pos rfl, if_neg nH]; simp
  · rw [if_neg e, if_neg e]
theorem all_wo {K : KV} {k b : By} (h : K.all (fun kv => clearO b kv.1) = true) : (wo K k).all (fun kv => clearO b kv.1) = true := by
  rw [List.all_eq_true] at h ⊢
  exact fun kv hkv => h kv (List.mem_filter.mp hkv).1
section
variable {w : World} {mu mu0 us : List Addr} {env : Env} {n : Nat} {A : Around} {g s s' s₁ : Shared} {m : Str → Option Value} {E : Value → Shared → Prop}
theorem notin2 {L : Nat} {a b c : Addr} (h1 : c ≠ a) (h2 : c ≠ b) (h3 : c ∉ own (envP (p_law w) L)) : c ∉ [a, b] ++ own (envP (p_law w) L) := fun q => by
  rcases List.mem_append.mp q with q | q
  · simp only [List.mem_cons, List.not_mem_nil, or_false] at q
    exact q.elim h1 h2
  · exact h3 q
theorem notin1 {L : Nat} {a c : Addr} (h1 : c ≠ a) (h3 : c ∉ own (envP (p_law w) L)) : c ∉ [a] ++ own (envP (p_law w) L) := fun q => by
  rcases List.mem_append.mp q with q | q
  · exact h1 (List.mem_singleton.mp q)
  · exact h3 q
theorem ne_fresh {b c : Addr} (al : ∃ o, s.heap.get? b = some o) (f : Fresh w s c) : b ≠ c := fun e => by
  obtain ⟨o, ho⟩ := al
  rw [e, f.1] at ho; cases ho
theorem v4_ne {v : By} (h : V4 v) : v ≠ V7 := by
  obtain ⟨c, h1, h2, rfl⟩ := h
  intro e
  have : c = 55 := by
    have := congrArg List.head? e
    simpa [V7] using this
  subst this
  exact absurd h2 (by decide)
set_option maxHeartbeats 4000000 in
theorem s_law {l : Addr} {vs : List Value} {ns : List Int} {R : Result → Shared → Prop} (P : PLaw) (C : Cx w (n + 9) A s) (hl : s.heap.IsList l vs.toArray) (hlf : l ∉ frs A) (hi : IntsAre vs ns) (hz : ns.length ≤ 63)
    (h : ∀ s', Eff w (frs A) [] s s' → R (.ok (.ret (.bool true))) s') : codeAny (model prg w) A (.call (.ref 417) ⟨[.ref l], []⟩) R s := by
  obtain ⟨ol, hol, rl⟩ := id hl
  refine codeAny_mono (run (p_law w) [] [("script", .ref l)] (Q := fun v s' => v = .bool true ∧ Eff w (frs A) [] s s') (E := fun _ _ => False) C (fun _ h => nomatch h) (BindsTo.of_eq rfl) rfl fun L s₁ hL e1 F => ?_) fun r s' q => ?_
  · rw [List.append_nil] at F
    have cz : ∀ p ∈ (envP (p_law w) L).cells, (envP (p_law w) L).cells.lookup p.1 = some p.2 := lookup_of_nodup (by show List.Nodup [("parts" : Str), "held"]; decide)
    have hlo : l ∉ own (envP (p_law w) L) := Fm.own_size hL hol
    have hlf' : l ∉ frs (A.deeper (envP (p_law w) L)) := frs_deep C hL hol hlf
    have hl₁ := e1.keep.list (fun q => nomatch q) hl
    refine law0 (n := n + 8) F cz rfl hl₁ hlo hlf' hi hz fun s₂ m₂ N us zs first rest kind spot deep gone F₂ hN oN fN hus hzl hz0 a1 a2 hf0 a3 hr0 a4 hkind a5 hs0 a6 hd0 a7 hg0 => ?_
    refine law6 (n := n + 6) F₂ cz fun s₃ x dx d hd F₃ e36 R₃ hH₃ fr ne nex nedx hdf nh => ?_
    have fx := fr x (by simp)
    have fdx := fr dx (by simp)
    have fd := fr d (by simp)
    have fh := fr hd (by simp)
    have hN₃ := plEff hN e36 fN oN
    refine law7 (n := n) P.nl P.pv cz F₃ hN₃ oN fN hus hzl hz0 a1 a2 hf0 rfl rfl R₃ hH₃ fr ne nex nedx hdf nh fun s₄ m₄ K F₄ ag₄ R₄ hH₄ GK hRHA => ?_
    have KL := P.kl K GK
    have hKne : K ≠ [] := by rintro rfl; cases hRHA
    have b1 : m₄ "refs" = some (.ref x) := (ag₄ _ (by decide)).trans rfl
    have b2 : m₄ "held" = some (.ref hd) := (ag₄ _ (by decide)).trans rfl
    have b3 : ∃ t, m₄ "spot" = some (.int spot t) := let ⟨t, e⟩ := a5; ⟨t, (ag₄ _ (by decide)).trans e⟩
    have b4 : ∃ t, m₄ "deep" = some (.int deep t) := let ⟨t, e⟩ := a6; ⟨t, (ag₄ _ (by decide)).trans e⟩
    have b5 : ∃ t, m₄ "gone" = some (.int gone t) := let ⟨t, e⟩ := a7; ⟨t, (ag₄ _ (by decide)).trans e⟩
    have b6 : ∃ t, m₄ "rest" = some (.int rest t) := let ⟨t, e⟩ := a3; ⟨t, (ag₄ _ (by decide)).trans e⟩
    have b7 : ∃ t, m₄ "kind" = some (.int (kind : Int) t) := let ⟨t, e⟩ := a4; ⟨t, (ag₄ _ (by decide)).trans e⟩
    have ox : x ∉ own (envP (p_law w) L) ∧ dx ∉ own (envP (p_law w) L) ∧ d ∉ own (envP (p_law w) L) := ⟨fx.2, fdx.2, fd.2⟩
    have oh := fh.2
    have ah : Apart w (A.deeper (envP (p_law w) L)) L hd := ⟨oh, hdf, nh⟩
    refine law8 (n := n) KL GK cz F₄.base b1 b2 R₄ hH₄ ox oh hdf nh fun s₅ G₅ => ?_
    have F₅ := F₄.after G₅
    have R₅ := R₄.eff G₅.eff ox
    have hH₅ := hH₄.eff G₅.eff hdf oh
    refine law9 (n := n) KL GK hRHA cz F₅.base b3 hs0 b2 hH₅ oh hdf nh fun s₆ S Pa n0 vsp hn0 hnH G₆ hPl hvp oP fP nP => ?_
    have F₆ := F₅.after G₆
    have R₆ := R₅.eff G₆.eff ox
    have hH₆ := hH₅.eff G₆.eff hdf oh
    have hn0l : n0.length ≤ 60 := by obtain ⟨kv, hkv, rfl⟩ := List.mem_map.mp hn0; exact (GK.all kv hkv).2.2.1
    refine law11 (n := n) GK hKne hn0l cz F₆.base b2 rfl hPl hvp oP hH₆ oh hdf nh fun s₇ B vsb G₇ hBl hvb oB fB nB => ?_
    have F₇ := F₆.after G₇
    have R₇ := R₆.eff G₇.eff ox
    have hH₇ := hH₆.eff G₇.eff hdf oh
    refine law12 (n := n) KL GK hKne hn0l hn0 hnH cz F₇.base b1 b2 rfl b4 hd0 hBl hvb oB fB nB R₇ ox hH₇ oh hdf nh fun s₈ B' base tb hBO hbl G₈ => ?_
    have F₈ := F₇.after G₈
    have R₈ := R₇.eff G₈.eff ox
    have hH₈ := hH₇.eff G₈.eff hdf oh
    refine law15 (n := n) cz F₈.base b7 hkind b6 hr0 fun s₉ m₉ r tr RO G₉ ag₉ mr => ?_
    have F₉ := F₈.after G₉
    have R₉ := R₈.eff G₉.eff ox
    have hH₉ := hH₈.eff G₉.eff hdf oh
    have c1 : m₉ "refs" = some (.ref x) := (ag₉ _ (by decide)).trans b1
    have c2 : m₉ "held" = some (.ref hd) := (ag₉ _ (by decide)).trans b2
    have c3 : ∃ t, m₉ "spot" = some (.int spot t) := let ⟨t, e⟩ := b3; ⟨t, (ag₉ _ (by decide)).trans e⟩
    have c4 : ∃ t, m₉ "gone" = some (.int gone t) := let ⟨t, e⟩ := b5; ⟨t, (ag₉ _ (by decide)).trans e⟩
    have c5 : ∃ t, m₉ "base" = some (.bytes base.toArray t) := ⟨tb, (ag₉ _ (by decide)).trans rfl⟩
    have hun : ∀ y, get2 (underP K base) y = get2 K (base ++ [47] ++ y) := fun y => P.un K base y GK.nodup
    have hrl := RO.len
    refine law19 (n := n) (KL.same base hBO) KL.ok GK.len (by obtain ⟨y, p, e⟩ := P.ne K base GK hBO; exact ⟨y, p, (hun y).trans e⟩) (fun y p e => (P.kf K base y p GK hBO ((hun y).symm.trans e)).1.1) RO hbl cz F₉.base ⟨tr, mr⟩ c5 c1 c3 hs0 R₉ ox fun s₁₀ m₁₀ Wd D O out os hk G₁₀ AF fD => ?_
    have F₁₀ := F₉.after G₁₀
    have R₁₀ := R₉.eff G₁₀.eff ox
    have hH₁₀ := hH₉.eff G₁₀.eff hdf oh
    obtain ⟨hout, hol⟩ := AF.tout
    have hget : ∀ y, get2 out y = get2 K (base ++ [47] ++ y) := fun y => (hout y).trans (hun y)
    have hosm : ∀ y, y ∈ os → ∃ p, get2 out y = some p := fun y hy => get2_some (AF.osrt.1.mem_iff.mp hy)
    have hosl : os.length ≤ 4 := by rw [AF.osrt.1.length_eq]; simpa using hol
    have hpos : 0 < os.length := List.length_pos_of_mem AF.hmem
    have kv4 : ∀ y p, get2 out y = some p → KF y ∧ V4 p := fun y p e => P.kf K base y p GK hBO ((hget y).symm.trans e)
    obtain ⟨vso, hO, hbo⟩ := AF.olist
    obtain ⟨vsw, hW, hvw⟩ := AF.wlist
    have hhk : KF hk := let ⟨p, e⟩ := hosm hk AF.hmem; (kv4 _ _ e).1
    have hf13 : (FAR r).length = 13 + r.length := by unfold FAR; simp; rfl
    have hheadl : (FAR r ++ [47] ++ hk).length ≤ 200 := by have := hhk.1; simp; omega
    have d1 : m₁₀ "refs" = some (.ref x) := (AF.agree _ (by decide)).trans c1
    have d2' : m₁₀ "held" = some (.ref hd) := (AF.agree _ (by decide)).trans c2
    have d4 : ∃ t, m₁₀ "gone" = some (.int gone t) := let ⟨t, e⟩ := c4; ⟨t, (AF.agree _ (by decide)).trans e⟩
    have d5 : ∃ t, m₁₀ "base" = some (.bytes base.toArray t) := let ⟨t, e⟩ := c5; ⟨t, (AF.agree _ (by decide)).trans e⟩
    have alO : ∃ o, s₁₀.heap.get? O = some o := let ⟨o, ho, _⟩ := id hO; ⟨o, ho⟩
    have alW : ∃ o, s₁₀.heap.get? Wd = some o := let ⟨o, ho, _⟩ := id hW; ⟨o, ho⟩
    have alx : ∃ o, s₁₀.heap.get? x = some o := ⟨_, R₁₀.inst.at_⟩
    have aldx : ∃ o, s₁₀.heap.get? dx = some o := let ⟨_, _, e, _⟩ := R₁₀.inst.own; ⟨_, e⟩
    have nDd : D ≠ d := (ne_fresh R₉.db.alive fD).symm
    refine law25 (n := n) (head := FAR r ++ [47] ++ hk) cz hheadl F₁₀.base AF.head d4 hg0 AF.ours hO hbo AF.oap hpos (by with_reducible exact leK (by assumption) rfl) fun s₁₁ lk tl kd x2 dx2 d2 hlk G₁₁ hkd₁₁ R2₁₁ fkd fx2 fdx2 fd2 akd o2 nkd2 nkx2 nkdx2 => ?_
    have F₁₁ := F₁₀.after G₁₁
    have R₁₁ := R₁₀.eff G₁₁.eff ox
    have hH₁₁ := hH₁₀.eff G₁₁.eff hdf oh
    have hD₁₁ := AF.tdb.eff G₁₁.eff AF.tap.fr AF.tap.own
    have ne4 : ∀ b ∈ [O, Wd, D, hd], b ≠ d2 ∧ b ≠ kd := List.forall_mem_cons.mpr ⟨⟨ne_fresh alO fd2, ne_fresh alO fkd⟩, List.forall_mem_cons.mpr ⟨⟨ne_fresh alW fd2, ne_fresh alW fkd⟩, List.forall_mem_cons.mpr ⟨⟨ne_fresh AF.tdb.alive fd2, ne_fresh AF.tdb.alive fkd⟩, List.forall_mem_cons.mpr ⟨⟨ne_fresh hH₁₀.alive fd2, ne_fresh hH₁₀.alive fkd⟩, fun _ q => nomatch q⟩⟩⟩⟩
    have KLk : ∀ key ∈ os, KeyLaw r key ∧ ∃ c : UInt8, 49 ≤ c.toNat ∧ c.toNat ≤ 52 ∧ get2 out key = some (List.replicate 40 c) ∧ get2 K (base ++ [47] ++ key) = some (List.replicate 40 c) := fun key hkey => by
      obtain ⟨p, e⟩ := hosm key hkey
      obtain ⟨c, h1, h2, rfl⟩ := (kv4 _ _ e).2
      exact ⟨P.key K base r key _ GK hBO RO ((hget key).symm.trans e), c, h1, h2, e, (hget key).symm.trans e⟩
    refine law28 (n := n) cz F₁₁.base AF.ours AF.far rfl AF.told AF.good rfl d2' d5 AF.whose (G₁₁.eff.keep.list AF.oap.own hO) hbo (G₁₁.eff.keep.list AF.wap.own hW) hvw hD₁₁ hH₁₁ hkd₁₁ R2₁₁ AF.oap AF.wap AF.tap ah akd o2 ne4 ⟨nkd2, nkx2, nkdx2⟩ KLk (fun k => P.nS r k) hosl hrl hbl fun s₁₂ m₁₂ K2 H B₁₂ ag₁₂ hd2₁₂ hkd₁₂ SK KB h6 h5 => ?_
    have fd2₁ : s₁.heap.get? d2 = none := (fd2.back F₁₀.eff o2.2.2).1
    have fkd₁ : s₁.heap.get? kd = none := (fkd.back F₁₀.eff akd.own).1
    have F₁₂ := F₁₁.joinL B₁₂ (all2 fd2₁ fkd₁)
    have nx2 : x ≠ d2 := ne_fresh alx fd2
    have nxk : x ≠ kd := ne_fresh alx fkd
    have ndx2 : dx ≠ d2 := ne_fresh aldx fd2
    have ndxk : dx ≠ kd := ne_fresh aldx fkd
    have nd2 : d ≠ d2 := ne_fresh R₁₀.db.alive fd2
    have ndk : d ≠ kd := ne_fresh R₁₀.db.alive fkd
    have ndx_2 : d ≠ x2 := ne_fresh R₁₀.db.alive fx2
    have nddx2 : d ≠ dx2 := ne_fresh R₁₀.db.alive fdx2
    have R₁₂ := R₁₁.eff B₁₂.eff ⟨notin2 nx2 nxk ox.1, notin2 ndx2 ndxk ox.2.1, notin2 nd2 ndk ox.2.2⟩
    have hH₁₂ := hH₁₁.eff B₁₂.eff hdf (notin2 (ne4 hd (by simp)).1 (ne4 hd (by simp)).2 oh)
    have hD₁₂ := hD₁₁.eff B₁₂.eff AF.tap.fr (notin2 (ne4 D (by simp)).1 (ne4 D (by simp)).2 AF.tap.own)
    have R2₁₂ : Rep w _ s₁₂.heap x2 dx2 d2 K2 := ⟨R2₁₁.inst.eff B₁₂.eff ⟨R2₁₁.off.1, notin2 (Ne.symm R2₁₁.ne.1) (Ne.symm nkx2) o2.1⟩ ⟨R2₁₁.off.2.1, notin2 (Ne.symm R2₁₁.ne.2) (Ne.symm nkdx2) o2.2.1⟩, hd2₁₂, R2₁₁.off, R2₁₁.nb, R2₁₁.ne⟩
    have hT : ∀ k v, TK r out os k = some v → get2 out k = some v := fun k v e => by
      unfold TK at e
      split at e
      · exact e
      · cases e
    obtain ⟨f1, f2, S1, S2, KO2, hKz, hHk, hsub, hund⟩ := P.sec r (TK r out os) H K2 hk RO hhk KB SK (fun k v e => kv4 k v (hT k v e)) hkd₁₂.nodup hd2₁₂.nodup h6 h5
    have e1 : m₁₂ "refs" = some (.ref x) := (ag₁₂ _ (by decide) (by decide)).trans d1
    have e2 : m₁₂ "held" = some (.ref hd) := (ag₁₂ _ (by decide) (by decide)).trans d2'
    have e3 : m₁₂ "told" = some (.ref D) := (ag₁₂ _ (by decide) (by decide)).trans AF.told
    have e4 : ∃ t, m₁₂ "far" = some (.bytes (FAR r).toArray t) := let ⟨t, e⟩ := AF.far; ⟨t, (ag₁₂ _ (by decide) (by decide)).trans e⟩
    have e5 : ∃ t, m₁₂ "head" = some (.bytes (FAR r ++ [47] ++ hk).toArray t) := let ⟨t, e⟩ := AF.head; ⟨t, (ag₁₂ _ (by decide) (by decide)).trans e⟩
    have e6 : ∃ t, m₁₂ "base" = some (.bytes base.toArray t) := let ⟨t, e⟩ := d5; ⟨t, (ag₁₂ _ (by decide) (by decide)).trans e⟩
    have e7 : m₁₂ "second" = some (.ref x2) := (ag₁₂ _ (by decide) (by decide)).trans rfl
    have e8 : m₁₂ "kept" = some (.ref kd) := (ag₁₂ _ (by decide) (by decide)).trans rfl
    have e9 : ∃ t, m₁₂ "lost" = some (.bytes lk.toArray t) := ⟨tl, (ag₁₂ _ (by decide) (by decide)).trans rfl⟩
    refine law29 (n := n) cz F₁₂.base e4 e7 e8 e5 S1 S2 KO2 hKz h6 h5 hHk hrl R2₁₂ o2 hkd₁₂ akd fun s₁₃ G₁₃ => ?_
    have F₁₃ := F₁₂.after G₁₃
    have R₁₃ := R₁₂.eff G₁₃.eff ox
    have hH₁₃ := hH₁₂.eff G₁₃.eff hdf oh
    have hD₁₃ := hD₁₂.eff G₁₃.eff AF.tap.fr AF.tap.own
    have R2₁₃ := R2₁₂.eff G₁₃.eff o2
    have hkd₁₃ := hkd₁₂.eff G₁₃.eff akd.fr akd.own
    obtain ⟨lv, hlv⟩ := hosm lk hlk
    obtain ⟨hlkf, hlv4⟩ := kv4 lk lv hlv
    have hv7 : lv ≠ V7 := v4_ne hlv4
    have GKl := GK.len
    refine law30 (n := n) cz F₁₃.base e6 e9 e1 e3 R₁₃ ox hD₁₃ AF.tap nDd (by with_reducible exact leK (by assumption) rfl) hbl hlkf.1 ((hget lk).symm.trans hlv) hlv hv7 fun s₁₄ B₁₄ hd₁₄ => ?_
    have fd₁ : s₁.heap.get? d = none := fd.1.1
    have F₁₄ := F₁₃.joinL B₁₄ (all1 fd₁)
    have R₁₄ : Rep w _ s₁₄.heap x dx d (wo K (base ++ [47] ++ lk)) := ⟨R₁₃.inst.eff B₁₄.eff ⟨R₁₃.off.1, notin1 (Ne.symm R₁₃.ne.1) ox.1⟩ ⟨R₁₃.off.2.1, notin1 (Ne.symm R₁₃.ne.2) ox.2.1⟩, hd₁₄, R₁₃.off, R₁₃.nb, R₁₃.ne⟩
    have R2₁₄ := R2₁₃.eff B₁₄.eff ⟨notin1 (Ne.symm ndx_2) o2.1, notin1 (Ne.symm nddx2) o2.2.1, notin1 (Ne.symm nd2) o2.2.2⟩
    have hH₁₄ := hH₁₃.eff B₁₄.eff hdf (notin1 (Ne.symm ne) oh)
    have hkd₁₄ := hkd₁₃.eff B₁₄.eff akd.fr (notin1 (Ne.symm ndk) akd.own)
    refine law31 (n := n) cz F₁₄.base e6 e9 e2 e8 e4 hH₁₄ ah hkd₁₄ akd (by with_reducible exact leK (by assumption) rfl) (by with_reducible exact leK (by assumption) rfl) hbl hlkf.1 hrl fun s₁₅ hd' kd' G₁₅ hH₁₅ hk₁₅ ah' ak' fh' fk' => ?_
    have F₁₅ := F₁₄.after G₁₅
    have R₁₅ := R₁₄.eff G₁₅.eff ox
    have R2₁₅ := R2₁₄.eff G₁₅.eff o2
    have GK' := GK.wo (base ++ [47] ++ lk)
    have KL' := P.kl _ GK'
    refine law32 (n := n) cz F₁₅.base e6 e1 R₁₅ ox KL'.ok hbl fun s₁₆ Lf ls G₁₆ hS hls aL fL => ?_
    have F₁₆ := F₁₅.after G₁₆
    have R₁₆ := R₁₅.eff G₁₆.eff ox
    have R2₁₆ := R2₁₅.eff G₁₆.eff o2
    have hH₁₆ := hH₁₅.eff G₁₆.eff ah'.fr ah'.own
    have hk₁₆ := hk₁₅.eff G₁₆.eff ak'.fr ak'.own
    have hcl : K.all (fun kv => clearO base kv.1) = true := by obtain ⟨_, _, _, _, _, _, _, hc⟩ := id hBO; exact hc
    have hleftm : ∀ y, y ∈ ls ↔ (get2 (wo K (base ++ [47] ++ lk)) (base ++ [47] ++ y)).isSome = true := fun y => (hls y).trans (P.sub _ base y (all_wo hcl))
    have hK2 : ∀ y, get2 K2 (farK r y) = TK r out os y := fun y => by rw [SK, if_neg (P.nS r y).2, KB.key]
    refine law33 (n := n) (lk := lk) cz F₁₆.base e4 e7 rfl R2₁₆ o2 KO2 h6 hS aL (ne_fresh R2₁₅.db.alive fL).symm hrl (fun y hy => ?_) (fun y hy hn => ?_) (fun q => ?_) (fun q => ?_) fun s₁₇ m₁₇ B₁₇ ag₁₇ hd2₁₇ => ?_
    · obtain ⟨p, hp⟩ := Option.isSome_iff_exists.mp ((hsub y).mp hy)
      exact ⟨(kv4 y p (hT y p hp)).1.1, p, (hK2 y).trans hp⟩
    · obtain ⟨p, hp⟩ := Option.isSome_iff_exists.mp ((hsub y).mp hy)
      refine Classical.byContradiction fun hne => hn ((hleftm y).mpr ?_)
      rw [wo_get, if_neg fun e => hne (List.append_cancel_left e), ← hget y, hT y p hp]; rfl
    · have := (hleftm lk).mp q
      rw [wo_get, if_pos rfl] at this; cases this
    · rw [hK2]
      cases e : TK r out os lk with
      | none => rfl
      | some p => exact absurd ((hsub lk).mpr (by rw [e]; rfl)) q
    have F₁₇ := F₁₆.joinL B₁₇ (all1 fd2₁)
    have R₁₇ := R₁₆.eff B₁₇.eff ⟨notin1 nx2 ox.1, notin1 ndx2 ox.2.1, notin1 nd2 ox.2.2⟩
    have R2₁₇ : Rep w _ s₁₇.heap x2 dx2 d2 (wo K2 (farK r lk)) := ⟨R2₁₆.inst.eff B₁₇.eff ⟨R2₁₆.off.1, notin1 (Ne.symm R2₁₆.ne.1) o2.1⟩ ⟨R2₁₆.off.2.1, notin1 (Ne.symm R2₁₆.ne.2) o2.2.1⟩, hd2₁₇, R2₁₆.off, R2₁₆.nb, R2₁₆.ne⟩
    have hH₁₇ := hH₁₆.eff B₁₇.eff ah'.fr (notin1 (ne_fresh R2₁₄.db.alive fh').symm ah'.own)
    have hk₁₇ := hk₁₆.eff B₁₇.eff ak'.fr (notin1 (ne_fresh R2₁₄.db.alive fk').symm ak'.own)
    have KB' := kept_wo (P.nS r lk).1 KB
    have SK' := sec_wo (P.nS r lk).2 SK
    have hw2 := wo_len K2 (farK r lk)
    have hwH := wo_len H (farK r lk)
    obtain ⟨g1, g2, S1', S2', KO2', hKz', hHk', hsub', hund'⟩ := P.sec r (fun k => if k = lk then none else TK r out os k) _ _ hk RO hhk KB' SK' (fun k v e => by
      by_cases q : k = lk
      · simp [q] at e
      · simp only [if_neg q] at e; exact kv4 k v (hT k v e)) hk₁₇.nodup hd2₁₇.nodup (by with_reducible exact leC (by assumption) (by assumption) rfl) (by with_reducible exact leC (by assumption) (by assumption) rfl)
    have a1 : m₁₇ "refs" = some (.ref x) := (ag₁₇ _ (by decide)).trans e1
    have a2 : m₁₇ "held" = some (.ref hd') := (ag₁₇ _ (by decide)).trans rfl
    have a3 : m₁₇ "kept" = some (.ref kd') := (ag₁₇ _ (by decide)).trans rfl
    have a4 : ∃ t, m₁₇ "far" = some (.bytes (FAR r).toArray t) := let ⟨t, e⟩ := e4; ⟨t, (ag₁₇ _ (by decide)).trans e⟩
    have a5 : ∃ t, m₁₇ "head" = some (.bytes (FAR r ++ [47] ++ hk).toArray t) := let ⟨t, e⟩ := e5; ⟨t, (ag₁₇ _ (by decide)).trans e⟩
    have a6 : ∃ t, m₁₇ "base" = some (.bytes base.toArray t) := let ⟨t, e⟩ := e6; ⟨t, (ag₁₇ _ (by decide)).trans e⟩
    have a7 : m₁₇ "second" = some (.ref x2) := (ag₁₇ _ (by decide)).trans e7
    refine law34 (n := n) cz F₁₇.base a4 a7 a3 a5 S1' S2' KO2' hKz' (by with_reducible exact leC (by assumption) (by assumption) rfl) (by with_reducible exact leC (by assumption) (by assumption) rfl) hHk' hrl R2₁₇ o2 hk₁₇ ak' fun s₁₈ Dh out' G₁₈ hDh hout' hol' aDh fDh => ?_
    have F₁₈ := F₁₇.after G₁₈
    have R₁₈ := R₁₇.eff G₁₈.eff ox
    have hH₁₈ := hH₁₇.eff G₁₈.eff ah'.fr ah'.own
    refine law36 (n := n) cz (fun K GK => ⟨(P.kl K GK).ok, (P.kl K GK).full0⟩) F₁₈ a6 a1 a2 rfl R₁₈ ox hH₁₈ ah' (ne_fresh R₁₃.db.alive (fh'.back B₁₄.eff (notin1 (ne_fresh R₁₄.db.alive fh').symm ah'.own))).symm hDh aDh (ne_fresh R₁₇.db.alive fDh).symm GK' hol' hbl fd₁ (fun key v e => ?_) fun s' q => ?_
    · have e' := (hout' key).symm.trans e
      rw [hund' key] at e'
      by_cases q : key = lk
      · simp [q] at e'
      · simp only [if_neg q] at e'
        have e'' := hT key v e'
        refine ⟨?_, (kv4 key v e'').1.1⟩
        rw [wo_get, if_neg fun z => q (List.append_cancel_left z), ← hget key, e'']
    · rcases q with q | ⟨m', q⟩
      · exact ⟨by rw [List.append_nil]; exact q.eff, fun e => ⟨rfl, e⟩⟩
      · exact ⟨by rw [List.append_nil]; exact q.eff, fun e => ⟨rfl, e⟩⟩
  · rcases r with e | (v | _ | _ | _)
    · exact q.elim
    · exact q.elim
    · exact q.elim
    · exact q.elim
    · obtain ⟨hv, e⟩ := q
      subst hv
      exact h s' e
end
end Mine
end
section
namespace Mine
theorem split_cases (c : UInt8) (l : By) : ∃ h t, splitB c l = h :: t := by
  cases e : splitB c l with
  | nil => exact absurd e (splitB_ne c l)
  | cons h t => exact ⟨h, t, rfl⟩
theorem pre1 (b : UInt8) (r : By) : [b].isPrefixOf r = true ↔ r.head? = some b := by
  cases r with
  | nil => simp [List.isPrefixOf]
  | cons x q =>
    have : [b].isPrefixOf (x :: q) = (b == x) := by show (b == x && ([] : By).isPrefixOf q) = _; cases q <;> simp [List.isPrefixOf]
    rw [this, beq_iff_eq, List.head?_cons, Option.some_inj]; exact eq_comm
theorem has_nil (a b : UInt8) : hasB [a, b] [] = false := by simp [hasB, List.isPrefixOf]
theorem has_cons (a b x : UInt8) (r : By) : hasB [a, b] (x :: r) = true ↔ (x = a ∧ r.head? = some b) ∨ hasB [a, b] r = true := by
  rw [← pre1]
  show ((a == x && [b].isPrefixOf r) || hasB [a, b] r) = true ↔ _
  rw [Bool.or_eq_true, Bool.and_eq_true, beq_iff_eq, eq_comm]
theorem head_split {c d : UInt8} (hd : d ≠ c) {r h : By} {t : List By} (e : splitB c r = h :: t) : h.head? = some d ↔ r.head? = some d := by
  cases r with
  | nil => simp [splitB] at e; obtain ⟨rfl, rfl⟩ := e; simp
  | cons x q =>
    rw [splitB_cons] at e
    by_cases hx : x = c
    · rw [if_pos hx] at e
      injection e with e1 e2
      subst e1
      simp [hx, Ne.symm hd]
    · rw [if_neg hx] at e
      obtain ⟨a, b, e3⟩ := split_cases c q
      rw [e3] at e
      injection e with e1 e2
      subst e1
      simp
theorem dd_split (c : UInt8) : ∀ p : By, (([] ∈ (splitB c p).dropLast) ↔ (p.head? = some c ∨ hasB [c, c] p = true)) ∧ ([] ∈ (splitB c p).tail.dropLast ↔ hasB [c, c] p = true)
  | [] => by simp [splitB, has_nil]
  | x :: r => by
    obtain ⟨i1, i2⟩ := dd_split c r
    obtain ⟨h, t, e⟩ := split_cases c r
    rw [splitB_cons, has_cons]
    by_cases hx : x = c
    · subst hx
      rw [if_pos rfl, e]
      rw [e] at i1 i2
      rw [List.dropLast_cons₂, List.tail_cons, i1]
      simp
    · rw [if_neg hx, e]
      rw [e] at i1 i2
      rw [List.tail_cons] at i2
      rw [List.tail_cons, i2]
      have : [] ∈ ((x :: h) :: t).dropLast ↔ [] ∈ t.dropLast := by
        cases t with
        | nil => simp
        | cons a b => rw [List.dropLast_cons₂, List.mem_cons]; simp
      rw [this, i2]
      simp [hx]
theorem cd_split {c d : UInt8} (hd : d ≠ c) : ∀ p : By, (∃ f ∈ (splitB c p).tail, f.head? = some d) ↔ hasB [c, d] p = true
  | [] => by simp [splitB, has_nil]
  | x :: r => by
    have ih := cd_split hd r
    obtain ⟨h, t, e⟩ := split_cases c r
    have hh := head_split hd e
    rw [splitB_cons, has_cons]
    by_cases hx : x = c
    · subst hx
      rw [if_pos rfl, e]
      rw [e] at ih
      rw [List.tail_cons] at ih ⊢
      rw [← ih, ← hh]
      simp
    · rw [if_neg hx, e]
      rw [e] at ih
      rw [List.tail_cons] at ih ⊢
      rw [ih]; simp [hx]
theorem ab_split {a b c : UInt8} (ha : a ≠ c) (hb : b ≠ c) : ∀ p : By, hasB [a, b] p = true ↔ ∃ f ∈ splitB c p, hasB [a, b] f = true
  | [] => by simp [splitB, has_nil]
  | x :: r => by
    have ih := ab_split ha hb r
    obtain ⟨h, t, e⟩ := split_cases c r
    have hh := head_split hb e
    rw [splitB_cons, has_cons]
    by_cases hx : x = c
    · subst hx
      rw [if_pos rfl, ih]
      simp [has_nil, Ne.symm ha]
    · rw [if_neg hx, e, ih, e]
      simp only [List.mem_cons, exists_eq_or_imp, has_cons, hh, or_assoc]
theorem lastp_split {c : UInt8} {k : By} (hk : c ∉ k) (p : By) : (1 < (splitB c p).length ∧ (splitB c p).getLast? = some k) ↔ ∃ q, p = q ++ c :: k := by
  constructor
  · rintro ⟨h1, h2⟩
    have hj := join_split c p
    obtain ⟨ys, e⟩ := List.getLast?_eq_some_iff.mp h2
    rw [e] at h1 hj
    have hy : ys ≠ [] := by rintro rfl; simp at h1
    rw [join_app c hy (by simp)] at hj
    exact ⟨_, hj.symm⟩
  · rintro ⟨q, rfl⟩
    rw [splitB_sep, splitB_no hk]
    have := List.length_pos_iff.mpr (splitB_ne c q)
    exact ⟨by simp; omega, by simp⟩
structure SP (p : By) : Prop where
  dot : p.head? ≠ some 46
  dd : hasB [46, 46] p = false
  lock : ¬ ∃ q, p = q ++ LOCK
  oct : ∀ x ∈ p, x ≠ 46 → x ≠ 64 → goodO x = true
  at_ : hasB [64, 123] p = false
theorem goodField_iff (f : By) : goodField f = true ↔ (∀ x ∈ f, x ≠ 64 → goodO x = true) ∧ hasB [64, 123] f = false := by
  unfold goodField
  rw [Bool.and_eq_true, List.all_eq_true, List.all_eq_true]
  have h1 : (∀ p ∈ splitB 64 f, p.all goodO = true) ↔ ∀ x ∈ f, x ≠ 64 → goodO x = true := by
    constructor
    · intro h x hx hne
      obtain ⟨p, hp, hxp⟩ := (mem_split hne).mp hx
      exact List.all_eq_true.mp (h p hp) x hxp
    · intro h p hp
      rw [List.all_eq_true]
      intro x hxp
      have hne : x ≠ 64 := fun e => splitB_free hp (e ▸ hxp)
      exact h x ((mem_split hne).mpr ⟨p, hp, hxp⟩) hne
  have h2 : (∀ p ∈ (splitB 64 f).tail, (p.take 1 != [123]) = true) ↔ hasB [64, 123] f = false := by
    rw [← Bool.not_eq_true, ← cd_split (by decide)]
    constructor
    · rintro h ⟨p, hp, hh⟩
      have := h p hp
      cases p with
      | nil => cases hh
      | cons a b => simp at hh; subst hh; simp at this
    · intro h p hp
      cases p with
      | nil => simp
      | cons a b =>
        have : a ≠ 123 := fun e => h ⟨_, hp, by rw [e]; rfl⟩
        simpa using this
  rw [h1, h2]
theorem soundP_iff (p : By) : soundP p = true ↔ SP p := by
  have key : soundP p = true ↔ ([] ∉ (splitB 46 p).dropLast ∧ ¬ (1 < (splitB 46 p).length ∧ (splitB 46 p).getLast? = some [108, 111, 99, 107])) ∧ ∀ f ∈ splitB 46 p, goodField f = true := by
    unfold soundP
    simp only []
    split
    · rename_i h
      simp only [Bool.or_eq_true, Bool.and_eq_true, List.contains_iff_mem, decide_eq_true_eq, beq_iff_eq] at h
      simp only [Bool.false_eq_true, false_iff]
      rintro ⟨⟨a, b⟩, _⟩
      exact h.elim a b
    · rename_i h
      simp only [Bool.or_eq_true, Bool.and_eq_true, List.contains_iff_mem, decide_eq_true_eq, beq_iff_eq, not_or] at h
      rw [List.all_eq_true]
      exact ⟨fun x => ⟨h, x⟩, fun x => x.2⟩
  rw [key, (dd_split 46 p).1, lastp_split (by decide)]
  have h3 : (∀ f ∈ splitB 46 p, goodField f = true) ↔ (∀ x ∈ p, x ≠ 46 → x ≠ 64 → goodO x = true) ∧ hasB [64, 123] p = false := by
    constructor
    · intro h
      refine ⟨fun x hx h1 h2 => ?_, ?_⟩
      · obtain ⟨f, hf, hxf⟩ := (mem_split h1).mp hx
        exact ((goodField_iff f).mp (h f hf)).1 x hxf h2
      · rw [← Bool.not_eq_true, ab_split (c := 46) (by decide) (by decide)]
        rintro ⟨f, hf, hh⟩
        rw [((goodField_iff f).mp (h f hf)).2] at hh; cases hh
    · rintro ⟨h1, h2⟩ f hf
      refine (goodField_iff f).mpr ⟨fun x hx hne => ?_, ?_⟩
      · have hne' : x ≠ 46 := fun e => splitB_free hf (e ▸ hx)
        exact h1 x ((mem_split hne').mpr ⟨f, hf, hx⟩) hne' hne
      · rw [← Bool.not_eq_true] at h2 ⊢
        intro q
        exact h2 ((ab_split (c := 46) (by decide) (by decide) p).mpr ⟨f, hf, q⟩)
  rw [h3]
  constructor
  · rintro ⟨⟨a, b⟩, c, d⟩
    exact ⟨fun e => a (.inl e), by rw [← Bool.not_eq_true]; exact fun e => a (.inr e), b, c, d⟩
  · rintro ⟨a, b, c, d, e⟩
    exact ⟨⟨fun q => q.elim a (by rw [b]; exact fun z => nomatch z), c⟩, d, e⟩
end Mine
end
section
namespace Mine
theorem goodO_iff {x : UInt8} (h1 : x ≠ 46) (h2 : x ≠ 47) (h3 : x ≠ 64) : goodO x = true ↔ badO x = false ∧ x ≠ 92 := by
  have tab : ∀ n, n < 256 → (UInt8.ofNat n = 46 ∨ UInt8.ofNat n = 47 ∨ UInt8.ofNat n = 64 ∨ goodO (UInt8.ofNat n) = (!badO (UInt8.ofNat n) && UInt8.ofNat n != 92)) := by decide +kernel
  have := tab x.toNat x.toNat_lt
  rw [UInt8.ofNat_toNat] at this
  rcases this with h | h | h | h
  · exact absurd h h1
  · exact absurd h h2
  · exact absurd h h3
  · rw [h, Bool.and_eq_true]; simp
theorem has1 (c : UInt8) : ∀ l : By, hasB [c] l = true ↔ c ∈ l
  | [] => by simp [hasB, List.isPrefixOf]
  | x :: r => by
    show ([c].isPrefixOf (x :: r) || hasB [c] r) = true ↔ _
    rw [Bool.or_eq_true, has1 c r, pre1, List.head?_cons, Option.some_inj, List.mem_cons]
    exact or_congr_left eq_comm
theorem last_of {c : UInt8} {l q : By} (h : (splitB c l).getLast? = some q) (hq : q ≠ []) : l.getLast? = q.getLast? := by
  have hj := join_split c l
  obtain ⟨ys, e⟩ := List.getLast?_eq_some_iff.mp h
  rw [e] at hj
  by_cases hy : ys = []
  · subst hy
    have : q = l := hj
    rw [this]
  · rw [join_app c hy (by simp)] at hj
    rw [← hj, show joinB [c] [q] = q from rfl, show joinB [c] ys ++ c :: q = (joinB [c] ys ++ [c]) ++ q by simp, List.getLast?_append]
    cases e : q.getLast? with
    | none => exact absurd (List.getLast?_eq_none_iff.mp e) hq
    | some z => rfl
theorem lastPart (c : UInt8) (l : By) : ∃ q, (splitB c l).getLast? = some q ∧ q ∈ splitB c l := by
  cases e : (splitB c l).getLast? with
  | none => exact absurd (List.getLast?_eq_none_iff.mp e) (splitB_ne c l)
  | some q => exact ⟨q, rfl, List.mem_of_getLast? e⟩
theorem ifF (b x : Bool) : (if b = true then false else x) = (!b && x) := by cases b <;> rfl
theorem suf_iff (p : By) : LOCK.isSuffixOf p = true ↔ ∃ q, p = q ++ LOCK := by
  rw [List.isSuffixOf_iff_suffix]
  exact ⟨fun ⟨t, e⟩ => ⟨t, e.symm⟩, fun ⟨t, e⟩ => ⟨t, e.symm⟩⟩
theorem crf_iff (l : By) : crf l = true ↔ 1 < (splitB 47 l).length ∧ (∀ p ∈ splitB 47 l, p ≠ [] ∧ soundP p = true) ∧ l.getLast? ≠ some 46 := by
  have key : crf l = true ↔ l ≠ [64] ∧ 47 ∈ l ∧ hasB [46, 46] l = false ∧ (∀ x ∈ l, badO x = false) ∧ ([47, 46] : By).contains (l.getLastD 0) = false ∧ hasB [64, 123] l = false ∧ 92 ∉ l ∧ ∀ p ∈ splitB 47 l, okC p = true := by
    unfold crf
    rw [ifF, ifF, ifF, ifF, ifF, ifF, ifF]
    simp only [Bool.and_eq_true, Bool.not_eq_true', beq_eq_false_iff_ne, Bool.not_not, has1, List.any_eq_false, List.all_eq_true, Bool.not_eq_true]
    rw [← Bool.not_eq_true (hasB [92] l), has1]
  have okc : ∀ p : By, okC p = true ↔ p ≠ [] ∧ p.head? ≠ some 46 ∧ ¬ ∃ q, p = q ++ LOCK := fun p => by
    unfold okC
    rw [Bool.and_eq_true, Bool.and_eq_true, Bool.not_eq_true', Bool.not_eq_true', Bool.not_eq_true', ← Bool.not_eq_true, ← Bool.not_eq_true ([46].isPrefixOf p), ← Bool.not_eq_true (LOCK.isSuffixOf p), pre1, suf_iff, List.isEmpty_iff, and_assoc]
  rw [key]
  constructor
  · rintro ⟨h1, h2, h3, h4, h5, h6, h7, h8⟩
    refine ⟨(splitB_len2 47 l).mpr h2, fun p hp => ?_, fun e => ?_⟩
    · obtain ⟨a, b, c⟩ := (okc p).mp (h8 p hp)
      refine ⟨a, (soundP_iff p).mpr ⟨b, ?_, c, fun x hx e1 e2 => ?_, ?_⟩⟩
      · rw [← Bool.not_eq_true] at h3 ⊢
        exact fun q => h3 ((ab_split (c := 47) (by decide) (by decide) l).mpr ⟨p, hp, q⟩)
      · have e3 : x ≠ 47 := fun e => splitB_free hp (e ▸ hx)
        have hl : x ∈ l := (mem_split e3).mpr ⟨p, hp, hx⟩
        exact (goodO_iff e1 e3 e2).mpr ⟨h4 x hl, fun e => h7 (e ▸ hl)⟩
      · rw [← Bool.not_eq_true] at h6 ⊢
        exact fun q => h6 ((ab_split (c := 47) (by decide) (by decide) l).mpr ⟨p, hp, q⟩)
    · rw [List.getLastD_eq_getLast?, e] at h5
      exact absurd h5 (by decide)
  · rintro ⟨h1, h2, h3⟩
    have hm := (splitB_len2 47 l).mp h1
    have sp := fun p hp => (soundP_iff p).mp (h2 p hp).2
    refine ⟨fun e => ?_, hm, ?_, fun x hx => ?_, ?_, ?_, fun hx => ?_, fun p hp => (okc p).mpr ⟨(h2 p hp).1, (sp p hp).dot, (sp p hp).lock⟩⟩
    · rw [e] at hm; exact absurd hm (by decide)
    · rw [← Bool.not_eq_true]
      intro q
      obtain ⟨f, hf, hh⟩ := (ab_split (c := 47) (by decide) (by decide) l).mp q
      rw [(sp f hf).dd] at hh; cases hh
    · by_cases e1 : x = 46
      · subst e1; decide
      · by_cases e2 : x = 47
        · subst e2; decide
        · by_cases e3 : x = 64
          · subst e3; decide
          · obtain ⟨f, hf, hh⟩ := (mem_split e2).mp hx
            exact ((goodO_iff e1 e2 e3).mp ((sp f hf).oct x hh e1 e3)).1
    · obtain ⟨q, hq, hqm⟩ := lastPart 47 l
      have hl := last_of hq (h2 q hqm).1
      rw [List.getLastD_eq_getLast?]
      cases e : l.getLast? with
      | none => decide
      | some z =>
        have z1 : z ≠ 46 := fun q => h3 (by rw [e, q])
        have z2 : z ≠ 47 := fun r => splitB_free hqm (List.mem_of_getLast? (by rw [← hl, e, r]))
        simp [z1, z2]
    · rw [← Bool.not_eq_true]
      intro q
      obtain ⟨f, hf, hh⟩ := (ab_split (c := 47) (by decide) (by decide) l).mp q
      rw [(sp f hf).at_] at hh; cases hh
    · obtain ⟨f, hf, hh⟩ := (mem_split (c := 47) (by decide)).mp hx
      exact absurd ((sp f hf).oct 92 hh (by decide) (by decide)) (by decide)
theorem lastS_iff (name : By) (c : UInt8) : lastS name = [c] ↔ name.getLast? = some c := by
  unfold lastS
  rw [cut_last]
  rcases List.eq_nil_or_concat name with rfl | ⟨ys, z, rfl⟩
  · simp
  · simp
theorem neP_iff (p : By) : neP p = true ↔ p ≠ [] := by
  unfold neP
  rw [Bool.not_eq_true', ← Bool.not_eq_true, List.isEmpty_iff]
theorem soundN_iff (name : By) : soundN name = true ↔ (∀ p ∈ splitB 47 name, p ≠ [] → soundP p = true) ∧ name.getLast? ≠ some 47 ∧ name.getLast? ≠ some 46 := by
  unfold soundN solidP
  rw [Bool.and_eq_true, List.all_eq_true, Bool.not_eq_true', ← Bool.not_eq_true, List.contains_iff_mem]
  simp only [List.mem_filter, neP_iff, List.mem_cons, List.not_mem_nil, or_false, lastS_iff, not_or, and_imp]
theorem nl_crf (name : By) : crf name = (soundN name && decide ((1 : Int) < ((splitB 47 name).length : Int)) && (((splitB 47 name).length : Int) == ((solidP name).length : Int))) := by
  rw [Bool.eq_iff_iff, crf_iff, Bool.and_eq_true, Bool.and_eq_true, soundN_iff, decide_eq_true_eq, beq_iff_eq]
  have hl : (((splitB 47 name).length : Int) = ((solidP name).length : Int)) ↔ ∀ p ∈ splitB 47 name, p ≠ [] := by
    unfold solidP
    rw [Int.ofNat_inj, eq_comm, List.length_filter_eq_length_iff]
    simp only [neP_iff]
  rw [hl]
  constructor
  · rintro ⟨h1, h2, h3⟩
    refine ⟨⟨⟨fun p hp _ => (h2 p hp).2, fun e => ?_, h3⟩, by omega⟩, fun p hp => (h2 p hp).1⟩
    obtain ⟨q, hq, hqm⟩ := lastPart 47 name
    rw [last_of hq (h2 q hqm).1] at e
    exact splitB_free hqm (List.mem_of_getLast? e)
  · rintro ⟨⟨⟨h2, _, h3⟩, h1⟩, h4⟩
    exact ⟨by omega, fun p hp => ⟨h4 p hp, h2 p hp (h4 p hp)⟩, h3⟩
end Mine
end
section
namespace Mine
theorem pre_iff (p l : By) : p.isPrefixOf l = true ↔ ∃ r, l = p ++ r := by
  rw [List.isPrefixOf_iff_prefix]
  exact ⟨fun ⟨t, e⟩ => ⟨t, e.symm⟩, fun ⟨t, e⟩ => ⟨t, e.symm⟩⟩
theorem split_refs (rest : By) : splitB 47 (REFS ++ rest) = REF4 :: splitB 47 rest := by
  show splitB 47 (REF4 ++ 47 :: rest) = _
  rw [splitB_sep]; rfl
theorem split_pfx (rest : By) : splitB 47 (PFX ++ rest) = REF4 :: REMS :: splitB 47 rest := by
  show splitB 47 (REF4 ++ 47 :: (REMS ++ 47 :: rest)) = _
  rw [splitB_sep, splitB_sep]; rfl
theorem refs_of {name : By} {t : List By} (h : splitB 47 name = REF4 :: t) (ht : t ≠ []) : name = REFS ++ joinB [47] t := by
  have := join_split 47 name
  rw [h, joinB_cons _ _ ht] at this
  exact this.symm
theorem sound_ref : soundP REF4 = true := by decide +kernel
theorem sound_rems : soundP REMS = true := by decide +kernel
theorem last_app {a b : By} (hb : b ≠ []) : (a ++ b).getLast? = b.getLast? := by
  rw [List.getLast?_append]
  cases e : b.getLast? with
  | none => exact absurd (List.getLast?_eq_none_iff.mp e) hb
  | some z => rfl
theorem nl_acc (name : By) (hs : skipN name = false) : okN name = goodN name := by
  unfold okN goodN
  congr 1
  by_cases hp : ∃ rest, name = REFS ++ rest
  · obtain ⟨rest, rfl⟩ := hp
    have hsp := split_refs rest
    have h1 : REFS.isPrefixOf (REFS ++ rest) = true := (pre_iff _ _).mpr ⟨rest, rfl⟩
    have h2 : (REFS ++ rest).drop 5 = rest := rfl
    rw [h1, h2, hsp]
    have hsol : solidP (REFS ++ rest) = REF4 :: (splitB 47 rest).filter neP := by unfold solidP; rw [hsp]; rfl
    rw [hsol, show ((REF4 :: splitB 47 rest).headD [] == REF4) = true from rfl, Bool.and_true, Bool.true_and]
    have hso := soundN_iff (REFS ++ rest)
    rw [hsp] at hso
    by_cases hr : rest = []
    · subst hr; decide +kernel
    have hla : (REFS ++ rest).getLast? = rest.getLast? := last_app hr
    rw [hla] at hso
    obtain ⟨q, hq, hqm⟩ := lastPart 47 rest
    have hso' : soundN (REFS ++ rest) = true ↔ (∀ p ∈ splitB 47 rest, p ≠ [] → soundP p = true) ∧ rest.getLast? ≠ some 47 ∧ rest.getLast? ≠ some 46 := by
      rw [hso]
      exact and_congr_left fun _ => ⟨fun h p hp => h p (.tail _ hp), fun h p hp => (List.mem_cons.mp hp).elim (fun e _ => e ▸ sound_ref) (h p)⟩
    by_cases hall : ∀ p ∈ splitB 47 rest, p ≠ []
    · have hfil : (splitB 47 rest).filter neP = splitB 47 rest := List.filter_eq_self.mpr fun p hp => (neP_iff p).mpr (hall p hp)
      have hcol : colP rest = rest := by unfold colP; rw [hfil, join_split]
      rw [hcol, hfil, Bool.eq_iff_iff, Bool.or_eq_true, Bool.and_eq_true, Bool.and_eq_true, crf_iff, hso', decide_eq_true_eq]
      have hl47 : rest.getLast? ≠ some 47 := fun e => by
        rw [last_of hq (hall q hqm)] at e
        exact splitB_free hqm (List.mem_of_getLast? e)
      constructor
      · intro h
        have h : 1 < (splitB 47 rest).length ∧ (∀ p ∈ splitB 47 rest, p ≠ [] ∧ soundP p = true) ∧ rest.getLast? ≠ some 46 := h.elim id (·.2)
        exact ⟨⟨fun p hp _ => (h.2.1 p hp).2, hl47, h.2.2⟩, by simp; omega⟩
      · rintro ⟨⟨a, _, b⟩, c⟩
        exact .inl ⟨by simp at c; omega, fun p hp => ⟨hall p hp, a p hp (hall p hp)⟩, b⟩
    · obtain ⟨p₀, hp₀⟩ := Classical.not_forall.mp hall
      obtain ⟨hp₀m, hp₀⟩ := Classical.not_imp.mp hp₀
      have hp₀ : p₀ = [] := Classical.not_not.mp hp₀
      subst hp₀
      have hcr : crf rest = false := by
        rw [← Bool.not_eq_true, crf_iff]
        rintro ⟨_, h, _⟩
        exact (h [] hp₀m).1 rfl
      rw [hcr, Bool.false_or]
      by_cases hql : q = []
      · -- the last part is empty: the name ends in /
        subst hql
        have h47 : rest.getLast? = some 47 := by
          obtain ⟨ys, e⟩ := List.getLast?_eq_some_iff.mp hq
          have hj := join_split 47 rest
          rw [e] at hj
          by_cases hy : ys = []
          · subst hy; exact absurd hj.symm hr
          · rw [join_app 47 hy (by simp)] at hj
            rw [← hj]; simp [joinB]
        have hno : hasB [47, 47] (REFS ++ rest) = false := by
          unfold skipN at hs
          rw [(lastS_iff _ 47).mpr (hla.trans h47)] at hs
          simpa using hs
        have : soundN (REFS ++ rest) = false := by
          rw [← Bool.not_eq_true, hso']
          exact fun h => h.2.1 h47
        rw [hno, this]; rfl
      · have hla2 := last_of hq hql
        have hyes : hasB [47, 47] (REFS ++ rest) = true := by
          rw [← (dd_split 47 _).2, hsp, List.tail_cons]
          obtain ⟨ys, e⟩ := List.getLast?_eq_some_iff.mp hq
          rw [e] at hp₀m ⊢
          rw [List.dropLast_concat]
          exact (List.mem_append.mp hp₀m).resolve_right fun z => hql (List.mem_singleton.mp z).symm
        rw [hyes, Bool.true_and]
        obtain ⟨ys, e⟩ := List.getLast?_eq_some_iff.mp hq
        have hfe : (splitB 47 rest).filter neP = ys.filter neP ++ [q] := by
          rw [e, List.filter_append, List.filter_cons_of_pos ((neP_iff q).mpr hql), List.filter_nil]
        have hfn : (splitB 47 rest).filter neP ≠ [] := by rw [hfe]; simp
        have hss : splitB 47 (colP rest) = (splitB 47 rest).filter neP := by
          unfold colP
          exact split_join hfn fun f hf => splitB_free (List.mem_filter.mp hf).1
        have hcl : (colP rest).getLast? = rest.getLast? := by
          rw [hla2]
          exact last_of (c := 47) (by rw [hss, hfe]; simp) hql
        have hl47 : rest.getLast? ≠ some 47 := fun e => by
          rw [hla2] at e
          exact splitB_free hqm (List.mem_of_getLast? e)
        rw [Bool.eq_iff_iff, Bool.and_eq_true, crf_iff, hso', hss, hcl, decide_eq_true_eq]
        constructor
        · rintro ⟨a, b, c⟩
          exact ⟨⟨fun p hp hne => (b p (List.mem_filter.mpr ⟨hp, (neP_iff p).mpr hne⟩)).2, hl47, c⟩, by simp only [List.length_cons]; omega⟩
        · rintro ⟨⟨a, _, b⟩, c⟩
          exact ⟨by simp only [List.length_cons] at c; omega, fun p hp => ⟨(neP_iff p).mp (List.mem_filter.mp hp).2, a p (List.mem_filter.mp hp).1 ((neP_iff p).mp (List.mem_filter.mp hp).2)⟩, b⟩
  · have h1 : REFS.isPrefixOf name = false := by
      rw [← Bool.not_eq_true, pre_iff]; exact hp
    rw [h1, Bool.false_and, eq_comm, ← Bool.not_eq_true, Bool.and_eq_true, Bool.and_eq_true, decide_eq_true_eq]
    rintro ⟨⟨_, a⟩, b⟩
    obtain ⟨h, t, e⟩ := split_cases 47 name
    rw [e] at a
    have a : h = REF4 := by simpa using a
    subst a
    have ht : t ≠ [] := by
      rintro rfl
      unfold solidP at b
      rw [e] at b
      have := List.length_filter_le neP [REF4]
      simp only [List.length_cons, List.length_nil] at this
      omega
    exact hp ⟨_, refs_of e ht⟩
theorem split1_of {c : UInt8} : ∀ {l a : By} {ps : List By}, splitB c l = a :: ps → split1B c l = if ps = [] then [l] else [a, joinB [c] ps]
  | [], a, ps, h => by
    simp [splitB] at h
    obtain ⟨rfl, rfl⟩ := h
    rfl
  | x :: r, a, ps, h => by
    rw [splitB_cons] at h
    show (if x = c then [[], r] else match split1B c r with | h :: t => (x :: h) :: t | [] => [[x]]) = _
    by_cases hx : x = c
    · rw [if_pos hx] at h ⊢
      injection h with h1 h2
      subst h1 h2
      rw [if_neg (splitB_ne c r), join_split]
    · rw [if_neg hx] at h ⊢
      obtain ⟨b, t, e⟩ := split_cases c r
      rw [e] at h
      injection h with h1 h2
      subst h1 h2
      rw [split1_of e]
      by_cases ht : t = []
      · rw [if_pos ht, if_pos ht]
      · rw [if_neg ht, if_neg ht]
theorem prr_pfx {rest a : By} {ps : List By} (h : splitB 47 rest = a :: ps) : prr (PFX ++ rest) = if ps = [] then none else some (a, joinB [47] ps) := by
  unfold prr
  rw [if_pos ((pre_iff _ _).mpr ⟨rest, rfl⟩), show (PFX ++ rest).drop 13 = rest from rfl, split1_of h]
  by_cases hp : ps = []
  · rw [if_pos hp, if_pos hp]
  · rw [if_neg hp, if_neg hp]
theorem pfx_of {name : By} {t : List By} (h : splitB 47 name = REF4 :: REMS :: t) (ht : t ≠ []) : name = PFX ++ joinB [47] t := by
  have := join_split 47 name
  rw [h, joinB_cons _ _ (by simp), joinB_cons _ _ ht] at this
  exact this.symm
theorem nl_far (name : By) (h : ((splitB 47 name).take 2 != [REF4, REMS] || decide (((splitB 47 name).length : Int) < 4)) = true) : prr name = none := by
  by_cases hp : ∃ rest, name = PFX ++ rest
  · obtain ⟨rest, rfl⟩ := hp
    obtain ⟨a, ps, e⟩ := split_cases 47 rest
    rw [split_pfx, e] at h
    have : ps = [] := by
      rw [show List.take 2 (REF4 :: REMS :: a :: ps) = [REF4, REMS] from rfl, show ([REF4, REMS] != [REF4, REMS]) = false by decide, Bool.false_or, decide_eq_true_eq] at h
      simp only [List.length_cons] at h
      exact List.eq_nil_of_length_eq_zero (by omega)
    rw [prr_pfx e, if_pos this]
  · unfold prr
    rw [if_neg (by rw [pre_iff]; exact hp)]
theorem nl_near (name : By) (h : ((splitB 47 name).take 2 != [REF4, REMS] || decide (((splitB 47 name).length : Int) < 4)) = false) : prr name = some ((splitB 47 name).getD 2 [], joinB [47] ((splitB 47 name).drop 3)) := by
  rw [Bool.or_eq_false_iff, decide_eq_false_iff_not] at h
  obtain ⟨h1, h2⟩ := h
  have h1 : (splitB 47 name).take 2 = [REF4, REMS] := by simpa using h1
  match e : splitB 47 name, h1, h2 with
  | a :: b :: c :: d :: t, h1, h2 =>
    injection h1 with h3 h4
    injection h4 with h4 _
    subst h3 h4
    have hn := pfx_of e (by simp)
    have hs : splitB 47 (joinB [47] (c :: d :: t)) = c :: d :: t := split_join (by simp) fun f hf => splitB_free (l := name) (by rw [e]; exact .tail _ (.tail _ hf))
    rw [hn, prr_pfx hs, if_neg (by simp)]
    rfl
  | [], h1, _ => cases h1
  | [_], h1, _ => simp at h1
  | [_, _], _, h2 => exact absurd (by simp) h2
  | [_, _, _], _, h2 => exact absurd (by simp) h2
theorem name_law (name : By) : NameLaw name := ⟨nl_crf name, nl_acc name, nl_far name, nl_near name⟩
theorem psv_points (l : By) : psv l = pointsP l := by
  unfold psv pointsP
  by_cases h : ∃ r, l = REF ++ r
  · obtain ⟨r, rfl⟩ := h
    rw [if_pos ((pre_iff _ _).mpr ⟨r, rfl⟩), show (REF ++ r).take 5 = REF from rfl, if_neg (by decide), show (REF ++ r).drop 5 = r from rfl]
    have hc : ([13, 10] : By).contains = ([10, 13] : By).contains := by funext x; simp [List.contains_cons, Bool.or_comm]
    have : rstripB [10, 13] (REF ++ r) = REF ++ rstripB [10, 13] r := by
      unfold rstripB
      rw [List.reverse_append, List.dropWhile_append]
      split
      · rename_i he
        rw [List.isEmpty_iff] at he
        rw [he]; rfl
      · rw [List.reverse_append, List.reverse_reverse]
    rw [this, show (REF ++ rstripB [10, 13] r).drop 5 = rstripB [10, 13] r from rfl]
    unfold rstripB
    rw [hc]
  · rw [if_neg (by rw [pre_iff]; exact h), if_pos]
    rw [bne_iff_ne]
    exact fun e => h ⟨l.drop 5, by rw [← e, List.take_append_drop]⟩
end Mine
end
section
namespace Mine
theorem is_under (k b : By) : isUnder k b = true ↔ ∃ z, k = b ++ [47] ++ z := by
  unfold isUnder
  rw [Bool.and_eq_true, beq_iff_eq, beq_iff_eq]
  constructor
  · rintro ⟨h1, h2⟩
    have h3 := List.take_append_drop b.length k
    have h4 := List.take_append_drop 1 (k.drop b.length)
    refine ⟨(k.drop b.length).drop 1, ?_⟩
    rw [h2] at h4
    rw [List.append_assoc, h4]
    exact h3.symm.trans (by rw [h1])
  · rintro ⟨z, rfl⟩
    simp [List.append_assoc]
theorem drop_under (b z : By) : (b ++ [47] ++ z).drop (b.length + 1) = z := by
  rw [show b.length + 1 = (b ++ [47]).length by simp, List.drop_left]
theorem un_acc (b y : By) : ∀ (K acc : KV), (K.map (·.1)).Nodup → get2 (K.foldl (fun acc kv => if isUnder kv.1 b then put acc (kv.1.drop (b.length + 1)) kv.2 else acc) acc) y = (match get2 K (b ++ [47] ++ y) with | some v => some v | none => get2 acc y)
  | [], acc, _ => rfl
  | (k, v) :: r, acc, hn => by
    rw [List.map_cons, List.nodup_cons] at hn
    rw [List.foldl_cons, un_acc b y r _ hn.2, get2_cons]
    by_cases hu : isUnder k b = true
    · simp only [hu, if_true]
      obtain ⟨z, rfl⟩ := (is_under k b).mp hu
      rw [drop_under, put_get]
      by_cases hy : y = z
      · subst hy
        rw [if_pos rfl, if_pos rfl, get2_none hn.1]
      · rw [if_neg hy, if_neg fun e => hy (List.append_cancel_left e).symm]
    · simp only [hu, if_false]
      rw [if_neg fun e => hu ((is_under k b).mpr ⟨y, e⟩)]
      rfl
theorem un_get (K : KV) (b y : By) (h : (K.map (·.1)).Nodup) : get2 (underP K b) y = get2 K (b ++ [47] ++ y) := by
  unfold underP
  rw [un_acc b y K [] h]
  cases get2 K (b ++ [47] ++ y) <;> rfl
theorem clear_iff (b k : By) : clearO b k = true ↔ (∀ z, k = b ++ z → ∃ y, k = b ++ [47] ++ y) := by
  have hu := is_under k b
  unfold isUnder at hu
  rw [Bool.and_eq_true] at hu
  unfold clearO
  rw [Bool.or_eq_true]
  constructor
  · rintro h z rfl
    refine hu.mp ⟨by simp, h.resolve_left (by simp)⟩
  · intro h
    by_cases e : k.take b.length = b
    · exact .inr (hu.mpr (h (k.drop b.length) (by rw [← congrArg (· ++ k.drop b.length) e]; exact (List.take_append_drop _ _).symm))).2
    · exact .inl (by simpa using e)
theorem sub_get (K : KV) (b y : By) (h : K.all (fun kv => clearO b kv.1) = true) : y ∈ subP K b ↔ (get2 K (b ++ [47] ++ y)).isSome = true := by
  rw [← get2_iff]
  unfold subP
  rw [List.mem_filterMap]
  constructor
  · rintro ⟨k, hk, e⟩
    split at e
    · rename_i hp
      obtain ⟨z, hz⟩ := (pre_iff b k).mp hp
      obtain ⟨kv, hkv, rfl⟩ := List.mem_map.mp hk
      obtain ⟨y', hy'⟩ := (clear_iff b kv.1).mp (List.all_eq_true.mp h kv hkv) z hz
      rw [hy', drop_under] at e
      rw [hy'] at hk
      exact Option.some_inj.mp e ▸ hk
    · cases e
  · intro hk
    refine ⟨_, hk, ?_⟩
    rw [if_pos ((pre_iff _ _).mpr ⟨[47] ++ y, by simp⟩), drop_under]
structure GoodK (k : By) : Prop where
  parts : ∀ p ∈ splitB 47 k, p ≠ [] → soundP p = true
  last : ∃ c, k.getLast? = some c ∧ c ≠ 47 ∧ c ≠ 46 ∧ c ≠ 10 ∧ c ≠ 13
  refs : k = HEADB ∨ ∃ z, k = REF4 ++ [47] ++ z
theorem last_free {k : By} (hp : ∀ p ∈ splitB 47 k, p ≠ [] → soundP p = true) {c : UInt8} (e : k.getLast? = some c) (h47 : c ≠ 47) (h46 : c ≠ 46) : c ≠ 10 ∧ c ≠ 13 := by
  obtain ⟨f, hf, hc⟩ := (mem_split h47).mp (List.mem_of_getLast? e)
  have := (soundP_iff f).mp (hp f hf fun q => by rw [q] at hc; cases hc)
  constructor
  · rintro rfl
    exact absurd (this.oct _ hc h46 (by decide)) (by decide)
  · rintro rfl
    exact absurd (this.oct _ hc h46 (by decide)) (by decide)
theorem goodK_of {k : By} (h : goodN k = true) : GoodK k := by
  unfold goodN at h
  rw [Bool.or_eq_true, List.contains_iff_mem, List.mem_cons, List.mem_cons] at h
  rcases h with (rfl | rfl | h) | h
  · exact ⟨by decide +kernel, ⟨68, by decide⟩, .inl rfl⟩
  · exact ⟨by decide +kernel, ⟨104, by decide⟩, .inr ⟨[115, 116, 97, 115, 104], rfl⟩⟩
  · cases h
  · rw [Bool.and_eq_true, Bool.and_eq_true, decide_eq_true_eq, soundN_iff] at h
    obtain ⟨⟨⟨h1, h2, h3⟩, h4⟩, h5⟩ := h
    obtain ⟨a, t, e⟩ := split_cases 47 k
    rw [e] at h4
    have h4 : a = REF4 := by simpa using h4
    subst h4
    have ht : t ≠ [] := by
      rintro rfl
      unfold solidP at h5
      rw [e] at h5
      have := List.length_filter_le neP [REF4]
      simp only [List.length_cons, List.length_nil] at this
      omega
    have hk := refs_of e ht
    refine ⟨h1, ?_, .inr ⟨_, hk⟩⟩
    cases el : k.getLast? with
    | none => rw [List.getLast?_eq_none_iff.mp el] at e; injection e with e _; cases e
    | some c =>
      have c1 : c ≠ 47 := fun q => h2 (by rw [el, q])
      have c2 : c ≠ 46 := fun q => h3 (by rw [el, q])
      exact ⟨c, rfl, c1, c2, last_free h1 el c1 c2⟩
theorem GoodK.head {k : By} (h : GoodK k) : ∃ c, k.head? = some c ∧ c ≠ 47 := by
  rcases h.refs with rfl | ⟨z, rfl⟩
  · exact ⟨72, rfl, by decide⟩
  · exact ⟨114, rfl, by decide⟩
theorem strip_id {k : By} {a c : UInt8} (h1 : k.head? = some a) (ha : a ≠ 47) (h2 : k.getLast? = some c) (hc : c ≠ 47) : stripB [47] k = k := by
  have hd : k.dropWhile ([47] : By).contains = k := by
    cases k with
    | nil => rfl
    | cons x r =>
      have : x = a := by simpa using h1
      rw [List.dropWhile_cons_of_neg]
      simp [this, ha]
  unfold stripB
  rw [hd]
  unfold rstripB
  have : k.reverse.dropWhile ([47] : By).contains = k.reverse := by
    have hr : k.reverse.head? = some c := by rw [List.head?_reverse]; exact h2
    cases hk : k.reverse with
    | nil => rfl
    | cons x r =>
      have : x = c := by rw [hk] at hr; simpa using hr
      rw [List.dropWhile_cons_of_neg]
      simp [this, hc]
  rw [this, List.reverse_reverse]
theorem strip_lead {k : By} {a c : UInt8} (h1 : k.head? = some a) (ha : a ≠ 47) (h2 : k.getLast? = some c) (hc : c ≠ 47) : fullP none k = k := by
  have : stripB [47] (47 :: k) = stripB [47] k := by
    unfold stripB
    rw [List.dropWhile_cons_of_pos (by decide)]
  unfold fullP
  show stripB [47] (47 :: k) = k
  rw [this, strip_id h1 ha h2 hc]
theorem ref_no {c : UInt8} {v : By} (h2 : c.toNat ≤ 57) (e : v = List.replicate 40 c) : REF.isPrefixOf v = false := by
  subst e
  rw [← Bool.not_eq_true, pre_iff]
  rintro ⟨r, q⟩
  have : c = 114 := by
    have := congrArg List.head? q
    simpa [REF, List.replicate] using this
  subst this
  exact absurd h2 (by decide)
end Mine
end
section
namespace Mine
theorem good_at {K : KV} (G : GoodKV K) {k : By} (hk : k ∈ K.map (·.1)) : GoodK k ∧ k.length ≤ 60 := by
  obtain ⟨kv, hkv, rfl⟩ := List.mem_map.mp hk
  exact ⟨goodK_of (G.all kv hkv).1, (G.all kv hkv).2.2.1⟩
theorem good_val {K : KV} (G : GoodKV K) {k v : By} (h : get2 K k = some v) : V4 v := (G.all (k, v) (get2_mem h)).2.2.2
theorem good_key {K : KV} {k v : By} (h : get2 K k = some v) : k ∈ K.map (·.1) := get2_iff.mpr (by rw [h]; rfl)
theorem v4_ref {v : By} (h : V4 v) : REF.isPrefixOf v = false := let ⟨c, _, h2, e⟩ := h; ref_no (by with_reducible exact leK (by assumption) rfl) e
theorem full_id {k : By} (h : GoodK k) : fullP none k = k := by
  obtain ⟨a, h1, h2⟩ := h.head
  obtain ⟨c, h3, h4, _⟩ := h.last
  exact strip_lead h1 h2 h3 h4
theorem full_base {b y : By} (hb : baseB (some b) = b) (h : GoodK (b ++ [47] ++ y)) : fullP (some b) y = b ++ [47] ++ y := by
  obtain ⟨a, h1, h2⟩ := h.head
  obtain ⟨c, h3, h4, _⟩ := h.last
  unfold fullP
  rw [hb, strip_id h1 h2 h3 h4]
theorem base_id {b : By} {c : UInt8} (h : b.getLast? = some c) (hc : c ≠ 47) : baseB (some b) = b := by
  show rstripB [47] b = b
  unfold rstripB
  have : b.reverse.dropWhile ([47] : By).contains = b.reverse := by
    have hr : b.reverse.head? = some c := by rw [List.head?_reverse]; exact h
    cases hk : b.reverse with
    | nil => rfl
    | cons x r =>
      have : x = c := by rw [hk] at hr; simpa using hr
      rw [List.dropWhile_cons_of_neg]
      simp [this, hc]
  rw [this, List.reverse_reverse]
theorem base_facts {K : KV} {b : By} (h : BaseOk K b) : (∃ n0 z, n0 ∈ K.map (·.1) ∧ n0 = b ++ [47] ++ z) ∧ (∃ c, b.getLast? = some c ∧ c ≠ 47) ∧ K.all (fun kv => clearO b kv.1) = true := by
  obtain ⟨n0, j, h1, h2, h3, h4, h5, h6⟩ := h
  have hj : (splitB 47 n0)[j]? = some ((splitB 47 n0).getD j []) := by
    rw [List.getD_eq_getElem?_getD]
    cases e : (splitB 47 n0)[j]? with
    | none => rw [List.getElem?_eq_none_iff] at e; omega
    | some q => rfl
  generalize (splitB 47 n0).getD j [] = q at hj h4
  have hqm : q ∈ splitB 47 n0 := List.mem_of_getElem? hj
  have hte : (splitB 47 n0).take (j + 1) = (splitB 47 n0).take j ++ [q] := by rw [List.take_add_one, hj]; rfl
  have htn : (splitB 47 n0).take (j + 1) ≠ [] := by rw [hte]; simp
  have hdn : (splitB 47 n0).drop (j + 1) ≠ [] := by
    intro e
    rw [List.drop_eq_nil_iff] at e
    omega
  refine ⟨⟨n0, joinB [47] ((splitB 47 n0).drop (j + 1)), h1, ?_⟩, ?_, h6⟩
  · have := join_split 47 n0
    rw [← List.take_append_drop (j + 1) (splitB 47 n0), join_app 47 htn hdn, ← h5] at this
    exact this.symm.trans (by simp)
  · have hs : splitB 47 b = (splitB 47 n0).take (j + 1) := by
      rw [h5]
      exact split_join htn fun f hf => splitB_free (List.mem_of_mem_take hf)
    have hl := last_of (c := 47) (l := b) (q := q) (by rw [hs, hte]; simp) h4
    cases e : q.getLast? with
    | none => exact absurd (List.getLast?_eq_none_iff.mp e) h4
    | some c => exact ⟨c, hl.trans e, fun z => splitB_free hqm (List.mem_of_getLast? (z ▸ e))⟩
theorem same_of {K : KV} {b : By} (G : GoodKV K) (h : BaseOk K b) : SameB K K b (fun y => get2 K (b ++ 47 :: y)) := by
  obtain ⟨_, ⟨c, hc, hc47⟩, hcl⟩ := base_facts h
  have hs := fun y => sub_get K b y hcl
  have hu := fun y => un_get K b y G.nodup
  have ha : ∀ y, b ++ 47 :: y = b ++ [47] ++ y := fun y => by simp
  refine ⟨fun y => ?_, fun y hy => ?_, fun y => ?_⟩
  · rw [hs, get2_iff, hu]
  · obtain ⟨p, hp⟩ := Option.isSome_iff_exists.mp ((hs y).mp hy)
    obtain ⟨gk, gl⟩ := good_at G (good_key hp)
    have hlen : y.length ≤ 60 := by simp at gl; omega
    refine ⟨by with_reducible exact leK (by assumption) rfl, ?_, [b ++ [47] ++ y], ?_, by simp⟩
    · rw [full_base (base_id hc hc47) gk]; with_reducible exact leK (by assumption) rfl
    · rw [full_base (base_id hc hc47) gk]
      show Fol K (b ++ [47] ++ y) [b ++ [47] ++ y] (get2 K (b ++ 47 :: y))
      rw [show get2 K (b ++ 47 :: y) = some p from (by simpa using hp)]
      exact .stop hp (v4_ref (good_val G hp))
  · rw [hu]
    show (if y ∈ subP K b then get2 K (b ++ 47 :: y) else none) = _
    rw [show get2 K (b ++ 47 :: y) = get2 K (b ++ [47] ++ y) from (by simp)]
    by_cases hy : y ∈ subP K b
    · rw [if_pos hy]
    · rw [if_neg hy]
      cases e : get2 K (b ++ [47] ++ y) with
      | none => rfl
      | some p => exact absurd ((hs y).mpr (by rw [e]; rfl)) hy
theorem kl_of {K : KV} (G : GoodKV K) : KLaw K := by
  have gl := G.len
  refine ⟨⟨by with_reducible exact leK (by assumption) rfl, fun kv hkv => ?_⟩, fun y hy => ?_, fun y hy hne => ?_, ?_, fun b hb => same_of G hb⟩
  · obtain ⟨h1, _, h2, c, _, _, h3⟩ := G.all kv hkv
    refine ⟨by with_reducible exact leK (by assumption) rfl, ?_, ?_⟩ <;> rw [h3]
    · simp [List.replicate]
    · simp
  · obtain ⟨gk, gl⟩ := good_at G hy
    obtain ⟨p, hp⟩ := get2_some hy
    rw [full_id gk]
    exact ⟨by with_reducible exact leK (by assumption) rfl, by with_reducible exact leK (by assumption) rfl, [y], hp ▸ .stop hp (v4_ref (good_val G hp)), by simp⟩
  · obtain ⟨gk, _⟩ := good_at G hy
    rcases gk.refs with e | ⟨z, e⟩
    · exact absurd e hne
    · have : splitB 47 y = REF4 :: splitB 47 z := by rw [e]; exact split_refs z
      rw [this]
      refine ⟨rfl, ?_⟩
      have := List.length_pos_iff.mpr (splitB_ne 47 z)
      simp only [List.length_cons]; omega
  · rw [List.all_eq_true]
    intro kv hkv
    obtain ⟨gk, _⟩ := good_at G (List.mem_map.mpr ⟨kv, hkv, rfl⟩)
    rcases gk.refs with e | ⟨z, e⟩
    · rw [e]; decide
    · exact (clear_iff _ _).mpr fun _ _ => ⟨z, e⟩
theorem ne_of {K : KV} {b : By} (h : BaseOk K b) : ∃ y p, get2 K (b ++ [47] ++ y) = some p := by
  obtain ⟨⟨n0, z, h1, rfl⟩, _, _⟩ := base_facts h
  obtain ⟨p, hp⟩ := get2_some h1
  exact ⟨z, p, hp⟩
theorem kf_of {K : KV} {b y p : By} (G : GoodKV K) (h : get2 K (b ++ [47] ++ y) = some p) : KF y ∧ V4 p := by
  obtain ⟨gk, gl⟩ := good_at G (good_key h)
  refine ⟨⟨by simp at gl; omega, ?_⟩, good_val G h⟩
  obtain ⟨c, h1, h2, h3, h4, h5⟩ := gk.last
  by_cases hy : y = []
  · subst hy
    simp at h1
    exact absurd h1.symm h2
  · rw [last_app hy] at h1
    exact ⟨c, h1, h2, h4, h5⟩
theorem nS_of (r k : By) : farK r k ≠ STASH ∧ farK r k ≠ HEADB := by
  constructor
  · intro e
    have := congrArg (fun l : By => l[5]?) e
    simp [farK, FAR, PFX, STASH] at this
  · intro e
    have := congrArg (fun l : By => l[0]?) e
    simp [farK, FAR, PFX, HEADB] at this
theorem split_far (r y : By) : splitB 47 (farK r y) = REF4 :: REMS :: (splitB 47 r ++ splitB 47 y) := by
  have : farK r y = PFX ++ (r ++ 47 :: y) := by unfold farK FAR; simp
  rw [this, split_pfx, splitB_sep]
theorem key_of {K : KV} {b r y p : By} (G : GoodKV K) (h : get2 K (b ++ [47] ++ y) = some p) : KeyLaw r y := by
  obtain ⟨gk, gl⟩ := good_at G (good_key h)
  obtain ⟨hkf, _⟩ := kf_of G h
  obtain ⟨hyl, c, hc, c47, c10, c13⟩ := hkf
  have hyn : y ≠ [] := by rintro rfl; cases hc
  have hyp : ∀ p ∈ splitB 47 y, p ≠ [] → soundP p = true := fun p hp hne => gk.parts p (by
    rw [show b ++ [47] ++ y = b ++ 47 :: y by simp, splitB_sep]
    exact List.mem_append_right _ hp) hne
  have hc46 : c ≠ 46 := by
    obtain ⟨c', h1, _, h2, _⟩ := gk.last
    rw [last_app hyn, hc] at h1
    injection h1 with h1
    exact h1 ▸ h2
  have hfl : (farK r y).getLast? = some c := by unfold farK; rw [last_app hyn, hc]
  refine ⟨?_, fun hg => ?_, hyl, fun k => nS_of r k⟩
  · have hsk : skipN (farK r y) = false := by
      unfold skipN
      have : (lastS (farK r y) == [47]) = false := by
        rw [beq_eq_false_iff_ne]
        intro e
        rw [lastS_iff, hfl] at e
        injection e with e
        exact c47 e
      rw [this, Bool.and_false]
    rw [nl_acc _ hsk]
    have hno : ([HEADB, STASH] : List By).contains (farK r y) = false := by
      rw [← Bool.not_eq_true, List.contains_iff_mem, List.mem_cons, List.mem_cons]
      rintro (e | e | e)
      · exact (nS_of r y).2 e
      · exact (nS_of r y).1 e
      · cases e
    unfold goodN
    rw [hno, Bool.false_or, Bool.eq_iff_iff, Bool.and_eq_true, Bool.and_eq_true, decide_eq_true_eq, soundN_iff, split_far, hfl]
    have hgr : goodR r = true ↔ ∀ p ∈ splitB 47 r, p ≠ [] → soundP p = true := by
      unfold goodR
      rw [List.all_eq_true]
      simp only [List.mem_filter, neP_iff, and_imp]
    rw [hgr]
    constructor
    · rintro ⟨⟨⟨h1, _⟩, _⟩, _⟩ p hp
      exact h1 p (.tail _ (.tail _ (List.mem_append_left _ hp)))
    · intro h1
      refine ⟨⟨⟨fun p hp hne => ?_, fun e => c47 (Option.some_inj.mp e), fun e => hc46 (Option.some_inj.mp e)⟩, rfl⟩, ?_⟩
      · rcases List.mem_cons.mp hp with rfl | hp
        · exact sound_ref
        rcases List.mem_cons.mp hp with rfl | hp
        · exact sound_rems
        rcases List.mem_append.mp hp with hp | hp
        · exact h1 p hp hne
        · exact hyp p hp hne
      · unfold solidP
        rw [split_far, List.filter_cons_of_pos (by decide), List.filter_cons_of_pos (by decide), List.filter_append]
        obtain ⟨x, hx, hxc⟩ := (mem_split (l := y) c47).mp (List.mem_of_getLast? hc)
        have hxm : x ∈ (splitB 47 y).filter neP := List.mem_filter.mpr ⟨hx, (neP_iff x).mpr fun e => by rw [e] at hxc; cases hxc⟩
        have := List.length_pos_of_mem hxm
        simp only [List.length_cons, List.length_append]
        omega
  · obtain ⟨a, t, e⟩ := split_cases 47 r
    have : farK r y = PFX ++ (r ++ 47 :: y) := by unfold farK FAR; simp
    have hs : splitB 47 (r ++ 47 :: y) = a :: (t ++ splitB 47 y) := by rw [splitB_sep, e]; rfl
    rw [this, prr_pfx hs, if_neg (by simp [splitB_ne]), e]
    show some (a, joinB [47] (t ++ splitB 47 y)) = some (a, joinB [47] (t ++ [y]))
    congr 2
    by_cases ht : t = []
    · subst ht; exact join_split 47 y
    · rw [join_app 47 ht (splitB_ne 47 y), join_app 47 ht (by simp), join_split]; rfl
end Mine
end
section
namespace Mine
theorem far_ends {r k : By} (h : KF k) : (∃ a, (farK r k).head? = some a ∧ a ≠ 47) ∧ ∃ c, (farK r k).getLast? = some c ∧ c ≠ 47 ∧ c ≠ 10 ∧ c ≠ 13 := by
  obtain ⟨_, c, h1, h2⟩ := h
  have hn : k ≠ [] := by rintro rfl; cases h1
  exact ⟨⟨114, rfl, by decide⟩, c, by unfold farK; rw [last_app hn, h1], h2⟩
theorem far_len {r k : By} (h : KF k) (hr : r.length ≤ 40) : (farK r k).length ≤ 114 := by
  have := h.1
  have : PFX.length = 13 := rfl
  unfold farK FAR
  simp only [List.length_append, List.length_cons, List.length_nil]
  omega
theorem rstrip_id {k cs : By} {c : UInt8} (h2 : k.getLast? = some c) (hc : cs.contains c = false) : rstripB cs k = k := by
  unfold rstripB
  have : k.reverse.dropWhile cs.contains = k.reverse := by
    have hr : k.reverse.head? = some c := by rw [List.head?_reverse]; exact h2
    cases hk : k.reverse with
    | nil => rfl
    | cons x r =>
      have : x = c := by rw [hk] at hr; simpa using hr
      rw [List.dropWhile_cons_of_neg]
      rw [this, hc]; exact fun q => nomatch q
  rw [this, List.reverse_reverse]
theorem sec_of {r : By} {T : By → Option By} {H K2 : KV} {hk : By} (RO : RemOk r) (hf : KF hk) (B : KeptB r T H) (S : SecK K2 H (farK r hk)) (hT : ∀ k v, T k = some v → KF k ∧ V4 v) (nH : (H.map (·.1)).Nodup) (n2 : (K2.map (·.1)).Nodup) (l2 : K2.length ≤ 6) (lH : H.length ≤ 5) :
    ∃ f1 f2, SecB K2 H (farK r hk) f1 ∧ SameB K2 H (FAR r) f2 ∧ KOk K2 ∧ (∀ kv ∈ K2, kv.2.length ≤ 4096) ∧ (∀ kv ∈ H, kv.1.length ≤ 4096) ∧ (∀ y, y ∈ subP K2 (FAR r) ↔ (T y).isSome = true) ∧ (∀ y, get2 (underP H (FAR r)) y = T y) := by
  have hrl := RO.len
  have hHv : ∀ y p, get2 H y = some p → (y = STASH ∧ p = V7) ∨ ∃ k, y = farK r k ∧ T k = some p := fun y p hp => by
    rcases B.only y p hp with rfl | ⟨k, rfl⟩
    · rw [B.stash] at hp; injection hp with hp; exact .inl ⟨rfl, hp.symm⟩
    · rw [B.key] at hp; exact .inr ⟨k, rfl, hp⟩
  have hval : ∀ y p, get2 H y = some p → REF.isPrefixOf p = false ∧ p.length = 40 := fun y p hp => by
    rcases hHv y p hp with ⟨_, rfl⟩ | ⟨k, _, hk'⟩
    · decide
    · have h4 := (hT k p hk').2
      refine ⟨v4_ref h4, ?_⟩
      obtain ⟨c, _, _, rfl⟩ := h4
      exact List.length_replicate
  have hkey : ∀ y p, get2 H y = some p → y.length ≤ 114 ∧ fullP none y = y := fun y p hp => by
    rcases hHv y p hp with ⟨rfl, _⟩ | ⟨k, rfl, hk'⟩
    · exact ⟨by decide, strip_lead (a := 114) (c := 104) (by decide) (by decide) (by decide) (by decide)⟩
    · have hk4 := (hT k p hk').1
      obtain ⟨⟨a, h1, h2⟩, c, h3, h4, _⟩ := far_ends (r := r) hk4
      exact ⟨far_len hk4 hrl, strip_lead h1 h2 h3 h4⟩
  have hheadne : farK r hk ≠ HEADB := (nS_of r hk).2
  have noH : get2 H HEADB = none := by
    cases e : get2 H HEADB with
    | none => rfl
    | some p =>
      rcases hHv _ _ e with ⟨q, _⟩ | ⟨k, q, _⟩
      · exact absurd q (by decide)
      · exact absurd q.symm (nS_of r k).2
  have hfol : ∀ y, y ≠ HEADB → Fol K2 y [y] (get2 H y) := fun y hy => by
    have hS : get2 K2 y = get2 H y := by rw [S y, if_neg hy]
    cases e : get2 H y with
    | none => exact .none (hS.trans e)
    | some p => exact .stop (hS.trans e) (hval y p e).1
  have hfolH : Fol K2 HEADB [HEADB, farK r hk] (get2 H (farK r hk)) := by
    have hS : get2 K2 HEADB = some (REF ++ farK r hk) := by rw [S, if_pos rfl]
    have := Fol.step hS ((pre_iff _ _).mpr ⟨_, rfl⟩) (show Fol K2 ((REF ++ farK r hk).drop 5) _ _ from hfol (farK r hk) hheadne)
    exact this
  have hkeys : ∀ y, y ∈ K2.map (·.1) ↔ y ∈ HEADB :: H.map (·.1) := fun y => by
    rw [get2_iff, S y, List.mem_cons, get2_iff]
    by_cases hy : y = HEADB
    · rw [if_pos hy]; simp [hy]
    · rw [if_neg hy]; simp [hy]
  have hfull : ∀ y ∈ K2.map (·.1), y.length ≤ 8192 ∧ fullP none y = y := fun y hy => by
    rw [hkeys, List.mem_cons] at hy
    rcases hy with rfl | hy
    · exact ⟨by decide, strip_lead (a := 72) (c := 68) (by decide) (by decide) (by decide) (by decide)⟩
    · obtain ⟨p, hp⟩ := get2_some hy
      have := hkey y p hp
      exact ⟨by omega, this.2⟩
  have hends : ∀ y, get2 (endsP H (farK r hk)) y = if y = HEADB then get2 H (farK r hk) else get2 H y := fun y => by
    unfold endsP
    cases e : get2 H (farK r hk) with
    | none =>
      show get2 H y = _
      by_cases hy : y = HEADB
      · rw [if_pos hy, hy, noH]
      · rw [if_neg hy]
    | some v => exact put_get H HEADB v y
  have hsub2 : ∀ y, y ∈ subP K2 (FAR r) ↔ (get2 K2 (farK r y)).isSome = true := fun y => sub_get K2 (FAR r) y (by
    rw [List.all_eq_true]
    intro kv hkv
    refine (clear_iff _ _).mpr fun z hz => ?_
    have hm : kv.1 ∈ K2.map (·.1) := List.mem_map.mpr ⟨kv, hkv, rfl⟩
    rw [hkeys, List.mem_cons] at hm
    have h5 : FAR r = PFX ++ r := rfl
    rcases hm with e | hm
    · rw [e] at hz
      have := congrArg (fun l : By => l[0]?) hz
      simp [FAR, PFX, HEADB] at this
    · obtain ⟨p, hp⟩ := get2_some hm
      rcases hHv _ _ hp with ⟨e, _⟩ | ⟨k, e, _⟩
      · rw [e] at hz
        have := congrArg (fun l : By => l[5]?) hz
        simp [FAR, PFX, STASH] at this
      · exact ⟨k, e⟩)
  have hK2far : ∀ y, get2 K2 (farK r y) = T y := fun y => by rw [S, if_neg (nS_of r y).2, B.key]
  have hunder : ∀ y, get2 (underP H (FAR r)) y = T y := fun y => by
    rw [un_get H (FAR r) y nH]; exact B.key y
  have hsubT : ∀ y, y ∈ subP K2 (FAR r) ↔ (T y).isSome = true := fun y => by rw [hsub2, hK2far]
  have hbase : baseB (some (FAR r)) = FAR r := by
    cases e : r.getLast? with
    | none => exact absurd (List.getLast?_eq_none_iff.mp e) RO.ne
    | some c =>
      refine base_id (c := c) ?_ fun q => RO.last (by rw [e, q])
      unfold FAR
      rw [last_app RO.ne, e]
  have hvals : ∀ kv ∈ K2, kv.2 ≠ [] ∧ kv.2.length ≤ 4096 := fun kv hkv => by
    have hg := get2_of_mem n2 (k := kv.1) (v := kv.2) hkv
    rw [S] at hg
    by_cases e : kv.1 = HEADB
    · rw [if_pos e] at hg
      injection hg with hg
      rw [← hg]
      have h1 := far_len (r := r) hf hrl
      have : REF.length = 5 := rfl
      exact ⟨by simp [REF], by simp only [List.length_append]; with_reducible exact leB (by assumption) rfl⟩
    · rw [if_neg e] at hg
      have := (hval _ _ hg).2
      exact ⟨(by intro q; rw [q] at this; exact absurd this (by decide)), by omega⟩
  refine ⟨fun y => if y = HEADB then get2 H (farK r hk) else get2 H y, fun y => get2 H (farK r y), ⟨?_, hkeys, hfolH, fun y => ?_, fun y hy => ?_, fun y => ?_⟩, ⟨fun y => ?_, fun y hy => ?_, fun y => ?_⟩, ⟨by with_reducible exact leK (by assumption) rfl, fun kv hkv => ?_⟩, fun kv hkv => (hvals kv hkv).2, fun kv hkv => ?_, hsubT, hunder⟩
  · rw [get2_iff, noH]; exact fun q => nomatch q
  · rw [S y, get2_cons]
    by_cases hy : y = HEADB
    · rw [if_pos hy, if_pos hy.symm]
      show psv (REF ++ farK r hk) = some (farK r hk)
      unfold psv
      rw [if_pos ((pre_iff _ _).mpr ⟨_, rfl⟩)]
      obtain ⟨_, c, h3, _, h4, h5⟩ := far_ends (r := r) hf
      exact congrArg some (rstrip_id h3 (by simp [h4, h5]))
    · rw [if_neg hy, if_neg fun e => hy e.symm]
      cases e : get2 H y with
      | none => rfl
      | some p =>
        show psv p = none
        unfold psv
        rw [if_neg (by rw [(hval y p e).1]; decide)]
  · obtain ⟨h1, h2⟩ := hfull y hy
    rw [h2]
    refine ⟨h1, h1, ?_⟩
    by_cases e : y = HEADB
    · rw [if_pos e, e]; exact ⟨_, hfolH, by simp⟩
    · rw [if_neg e]; exact ⟨_, hfol y e, by simp⟩
  · rw [hends]
    by_cases hy : y ∈ K2.map (·.1)
    · rw [if_pos hy]
    · rw [if_neg hy]
      rw [hkeys, List.mem_cons, not_or] at hy
      rw [if_neg hy.1, get2_none hy.2]
  · rw [hsubT, get2_iff, hunder]
  · obtain ⟨p, hp⟩ := Option.isSome_iff_exists.mp ((hsubT y).mp hy)
    obtain ⟨hkf, _⟩ := hT y p hp
    obtain ⟨⟨a, h1, h2⟩, c, h3, h4, _⟩ := far_ends (r := r) hkf
    have hfl : fullP (some (FAR r)) y = farK r y := by
      unfold fullP
      rw [hbase]
      exact strip_id (k := farK r y) h1 h2 h3 h4
    have := far_len (r := r) hkf hrl
    have := hkf.1
    rw [hfl]
    exact ⟨by with_reducible exact leK (by assumption) rfl, by with_reducible exact leK (by assumption) rfl, [farK r y], hfol _ (nS_of r y).2, by simp⟩
  · rw [hunder]
    show (if y ∈ subP K2 (FAR r) then get2 H (farK r y) else none) = _
    rw [B.key]
    by_cases hy : y ∈ subP K2 (FAR r)
    · rw [if_pos hy]
    · rw [if_neg hy]
      cases e : T y with
      | none => rfl
      | some p => exact absurd ((hsubT y).mpr (by rw [e]; rfl)) hy
  · have h1 := (hfull kv.1 (List.mem_map.mpr ⟨kv, hkv, rfl⟩)).1
    have := hvals kv hkv
    exact ⟨h1, this.1, by omega⟩
  · obtain ⟨p, hp⟩ := get2_some (List.mem_map.mpr ⟨kv, hkv, rfl⟩ : kv.1 ∈ H.map (·.1))
    have := (hkey _ _ hp).1
    with_reducible exact leK (by assumption) rfl
theorem plaw : PLaw where
  nl name _ := name_law name
  pv := psv_points
  kl K G := kl_of G
  ne K b G h := ne_of h
  un K b y h := un_get K b y h
  sub K b y h := sub_get K b y h
  kf K b y p G h e := kf_of G e
  key K b r y p G h R e := key_of G e
  nS := nS_of
  sec r T H K2 hk RO hf B S hT n1 n2 l2 lH := sec_of RO hf B S hT n1 n2 l2 lH
end Mine
end
section
open PySem PySem.W PyProof.Rows
set_option maxHeartbeats 8000000
namespace Mine
theorem mg_of {w : World} {h : Heap} {mg : Str → Option Value} {x : Str} {v : Value} (K : (KK w).In h) (hn : h.Ns mainGlobals mg) (e : nsIn (KK w) mainGlobals x = some (some v)) : mg x = some v := by
  obtain ⟨o, es, ep, ho, hd, hk, hm⟩ := hn
  unfold nsIn at e
  split at e
  · rename_i c d es' n sl hl
    have := K _ _ hl
    rw [ho] at this
    cases this
    cases hd
    rw [← hm]
    split at e
    · rename_i en hf
      cases e
      obtain ⟨es⟩ := es
      unfold nsFind findBy
      rw [List.find?_toArray]
      have hf : List.find? (fun e => e.key.isStr x) es = some en := hf
      rw [hf]; rfl
    · split at e <;> cases e
  · cases e
theorem code126 {w : World} : ∃ o vs, (KK w).lookup 130 = some o ∧ o.cls = .type "code" ∧ o.data = .fields vs ∧ vs[11]? = some (.ref 126) := ⟨_, _, rfl, rfl, rfl, rfl⟩
theorem fd131 {w : World} : ∃ o fd, (KK w).lookup 131 = some o ∧ o.data = .func fd ∧ fd.code = .ref 130 := ⟨_, _, rfl, rfl, rfl⟩
theorem ww_top {w : World} {loose : List Str} {mean : ExcName → Option Value} {mg mb : Str → Option Value} {h : Heap} (K : (KK w).In h) (T : Top vw loose mean mg mb h) : WW w h := by
  refine ⟨K, ⟨mb, T.b, T.builtins⟩, T.nolimit, ?_, ?_⟩
  · obtain ⟨d, hd, hn⟩ : ∃ d ∈ recsOf vw, d.name = "_collapse_slashes" := by
      have q : (recsOf vw).any (fun d => d.name == "_collapse_slashes") = true := by kernel_rfl
      obtain ⟨d, h1, h2⟩ := List.any_eq_true.mp q
      exact ⟨d, h1, eq_of_beq h2⟩
    obtain ⟨a, o, fd, c, P, h1, h2, h3, h4, h5, h6⟩ := T.tab d hd
    rw [hn] at h1
    have h131 := mg_of (x := "_collapse_slashes") (v := .ref 131) K T.g (by kernel_rfl)
    rw [h131] at h1
    cases h1
    obtain ⟨o', fd', k1, k2, k3⟩ := fd131 (w := w)
    have := K _ _ k1
    rw [h2] at this
    cases this
    rw [h3] at k2
    cases k2
    rw [h4] at k3
    cases k3
    obtain ⟨⟨oc, vs, g1, g2, g3, g4⟩, g5⟩ := h6
    obtain ⟨oc', vs', q1, q2, q3, q4⟩ := code126 (w := w)
    have := K _ _ q1
    rw [g1] at this
    cases this
    rw [g3] at q3
    cases q3
    rw [g4] at q4
    cases q4
    exact ⟨#[], g5, .inl rfl⟩
  · obtain ⟨bm, ob, h1, h2, h3, h4, h5, h6⟩ := T.bmain
    have h4' := mg_of (x := "__builtins__") (v := .ref 4) K T.g (by kernel_rfl)
    rw [h4'] at h1
    cases h1
    exact ⟨ob, h3, h4, h5, h6⟩
theorem good_end {w : World} {s₀ s₁ s' : Shared} {args : List WData} (W : (KK w).In s₁.heap) (hg : AllBare s₁.gens) (e : Eff w (frs callerA) [] s₁ s') :
    GoodWG Challenge.rw_ay0013_01.row.claim (classAt s₀.heap) (ExcName.means s₀.heap) args s₁ (.ok (.ret (.bool true))) s' := by
  refine ⟨.inl ⟨.bool true, .bool true, [], rfl, ?_, .bool _, ?_, ?_⟩, e.old s₁.heap (fun b hb => ?_) (fun o ho => ?_) (OldK.refl _), e.os, e.bare hg⟩
  · intro cls; rfl
  · first | rfl | exact postW_of (by wrow_shape) (by wtm_val) (by str_meet; first | done | w_fin)
  · exact fun _ => ⟨List.nodup_nil, fun a ha => nomatch ha⟩
  · exact nomatch hb
  · obtain ⟨oc, vs, h1, h2, h3, h4⟩ := code126 (w := w)
    exact ⟨130, oc, vs, W _ _ h1, h2, h3, h4⟩
end Mine
end
open PySem PySem.W PyProof.Rows Mine
set_option maxHeartbeats 8000000 in
theorem PySem.Challenge.cw_ay0013_01_holds : PySem.Challenge.rw_ay0013_01.Holds :=
  Mine.hd (by
  k_fill
  intro w s₀ s₁ mg mb G Y fa o pm cd doc dV kV ho hd hcd hD hmg hg args vals as hpre hlay hrd hwl hlo
  have KX := kIn_of Y
  have X := (Ground.X G).1
  have V := (Ground.X G).2
  refine Ground.open G ?_
  intro T B D TE TW
  clear hd hcd hD
  have hfa := mg_of (x := "law") (v := .ref 417) KX T.g (by kernel_rfl)
  have hmg' : mg "law" = some (.ref fa) := hmg
  rw [hfa] at hmg'
  cases hmg'
  clear hmg
  wrow_args hpre hlay hrd hwl hlo
  all_goals (
    first | refine callC_kw (enter_call ?_) | refine enter_call ?_ | refine callC_kw (enter_callW ?_) | refine enter_callW ?_ | w_how
    have hg' : AllBare s₁.gens := by rw [hg]; intro x hx; simp at hx
    rename IntsAre _ _ => hI
    rename Heap.IsList _ _ _ => hL
    rename ¬ _ < _ => hlen
    refine s_law (n := 11) plaw ?_ hL (fun q => nomatch q) hI ?_ fun s' e => good_end KX hg' e
    · exact ⟨ww_top KX T, hg', rfl, by decide +kernel, by decide +kernel, [], rfl, fun _ q => nomatch q⟩
    · omega))
