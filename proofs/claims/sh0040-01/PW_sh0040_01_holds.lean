import PyProof.Rows.All
import Wide.All
import OpenK.AllK
import Wide.FinOn
import Lean
import PySem.Challenge.RW_sh0040_01
open PySem PySem.W PyProof.Rows
set_option Elab.async false
set_option maxRecDepth 100000
set_option maxHeartbeats 8000000

namespace Mine
theorem hd_left {p q : Program} {loose : List Str} {Xt : Shared → Bool} {α : Type} {Yf : Shared → α} {Ya : World → α} {N : Nat} {g0 : Bool} {H : Params → Heap} {gs : Array GenState} {d : Drawn} {k : Nat} (row : String)
    (o : ∀ w : World, (fencedOpening treeTable p w N).map (fun s => (s.heap, s.gens, s.drawn, s.toks)) = some (H w.params, gs, d, k))
    (hf : ∀ (w : World) (os : OsState), (topFrom treeTable p (w.withFollow row false) N ⟨H w.params, gs, d, k, os⟩).map (fun s => (openSeen q loose (importedModules p.main.body) Xt g0 s, Yf s)) = some (openGood q loose, Ya (w.withFollow row false)))
    (ht : ∀ (w : World) (os : OsState), (topFrom treeTable p (w.withFollow row true) N ⟨H w.params, gs, d, k, os⟩).map (fun s => (openSeen q loose (importedModules p.main.body) Xt g0 s, Yf s)) = some (openGood q loose, Ya (w.withFollow row true))) : LeftO p q loose Xt Yf Ya N g0 := fun w => by
  obtain ⟨⟨h', gs', d', k', os⟩, e, e'⟩ := Option.map_eq_some_iff.mp (o w)
  obtain ⟨rfl, rfl, rfl, rfl⟩ : h' = H w.params ∧ gs' = gs ∧ d' = d ∧ k' = k := by simpa using e'
  have t : (topFrom treeTable p (w.withFollow row (w.params.followText row)) N ⟨H w.params, gs', d', k', os⟩).map (fun s => (openSeen q loose (importedModules p.main.body) Xt g0 s, Yf s)) = some (openGood q loose, Ya (w.withFollow row (w.params.followText row))) := by
    cases w.params.followText row
    · exact hf w os
    · exact ht w os
  rw [World.withFollow_self] at t
  unfold openEnds
  rw [e]
  exact t
noncomputable def vw : Program := view PySem.Challenge.pw_sh0040_01 [0, 2, 4, 6, 8, 9, 10, 11, 12, 14, 15, 16, 17, 18, 19, 20, 21]
abbrev pw : Program := PySem.Challenge.rw_sh0040_01.row.prog
theorem hd_open : ∀ w : World, (fencedOpening treeTable pw w 2054).map (fun s => (s.heap, s.gens, s.drawn, s.toks)) = some (boot_heap w.params, Array.mk [], boot_drawn, boot_toks) :=
  boot_open (by kernel_rfl) (by decide) (fun s => by kernel_rfl)
theorem hd_said : PySem.Challenge.rw_sh0040_01.wellSaid = true := by kernel_rfl
end Mine
section
local macro_rules | `(tactic| o_head $H) => `(tactic| (have hk := $H; contradiction))
theorem Mine.fr : True := by
  have : False → PySem.Challenge.rw_sh0040_01.Holds := by
    intro no
    refine holds_law Mine.hd_said (fun said => ?_)
    k_head
  trivial
end
namespace Mine
noncomputable def as0 : List Addr := [2,3,15,17,18,20,21,22,24,25,27,28,29,31,32,34,35,46,48,49,51,52,53,55,56,58,59,60,62,63,65,66,67,69,70,72,73,74,76,77,79,80,81,83,84,86,87,88,90,91,93,94,95,96,97,98,99,102,104,105,107,108,109,111,112,114,115,116,118,119,121,122,123,125,126,128,129,130,133,134,135,137,138,140,141,142,145,146,147,149,150,152,153,154,157,158,159,162,163]
theorem as0_eq : ∀ P, as0 = (fr.heap_1 P).map (·.1) := fun _ => by kernel_rfl
noncomputable abbrev hook : Hook := kmHook fr.heap_1 as0 as0_eq [30]
noncomputable def xt (s : Shared) : Bool := xlAt vw [] s && recOk (RowW.records PySem.Challenge.rw_sh0040_01.row.toRowW) s
theorem hd_f : ∀ (w : World) (os : OsState), (topFrom treeTable pw (w.withFollow "special-get-raises" false) 2054 ⟨boot_heap w.params, Array.mk [], boot_drawn, boot_toks, os⟩).map (fun s => (openSeen vw [Str.ofString "Whitespace"] (importedModules pw.main.body) xt true s, hook.obs s)) = some (openGood vw [Str.ofString "Whitespace"], hook.val (w.withFollow "special-get-raises" false)) := by
  intro w os
  kernel_rfl
theorem hd_t : ∀ (w : World) (os : OsState), (topFrom treeTable pw (w.withFollow "special-get-raises" true) 2054 ⟨boot_heap w.params, Array.mk [], boot_drawn, boot_toks, os⟩).map (fun s => (openSeen vw [Str.ofString "Whitespace"] (importedModules pw.main.body) xt true s, hook.obs s)) = some (openGood vw [Str.ofString "Whitespace"], hook.val (w.withFollow "special-get-raises" true)) := by
  intro w os
  kernel_rfl
end Mine

namespace Mine
open PySem PySem.Spec PySem.Calls PyProof.Rows PySem.W PySem.Flt

def fl (n : Int) : UInt64 := Float64.ofFrac (decide (n < 0) != decide ((32 : Int) < 0)) n.natAbs (Int.natAbs 32)
def two : UInt64 := 0x4000000000000000
def lgt (n : Int) : UInt64 := Float64.div (fl n) two

theorem all2 {P : Nat → Nat → Bool} {k l : Nat} (h : ((List.range k).all fun a => (List.range l).all fun b => P a b) = true) {x y : Int} (hx : 0 ≤ x) (hx' : x < k) (hy : 0 ≤ y) (hy' : y < l) : P x.toNat y.toNat = true := by
  have := List.all_eq_true.mp h x.toNat (List.mem_range.mpr (by omega))
  exact List.all_eq_true.mp this y.toNat (List.mem_range.mpr (by omega))
theorem all1 {P : Nat → Bool} {k : Nat} (h : ((List.range k).all fun a => P a) = true) {x : Int} (hx : 0 ≤ x) (hx' : x < k) : P x.toNat = true :=
  List.all_eq_true.mp h x.toNat (List.mem_range.mpr (by omega))

theorem chk_cmp : ((List.range 19).all fun a => (List.range 19).all fun b => Float64.cmp (fl a) (fl b) == some (compare a b)) = true := by decide +kernel
theorem chk_add : ((List.range 19).all fun a => (List.range 19).all fun b => decide (a < b) || Float64.add (fl a) (fl b) == fl ((a : Int) + b)) = true := by decide +kernel
theorem chk_sub : ((List.range 19).all fun a => (List.range 19).all fun b => decide (a < b) || Float64.sub (fl a) (fl b) == fl ((a : Int) - b)) = true := by decide +kernel
theorem chk_two : ((List.range 19).all fun a => (List.range 19).all fun b => decide (a < b) || !Float64.isZero (Float64.sub (Float64.sub two (fl a)) (fl b))) = true := by decide +kernel
theorem chk_nz : ((List.range 37).all fun a => a == 0 || !Float64.isZero (fl a)) = true := by decide +kernel
theorem chk_mul : ((List.range 37).all fun a => Float64.mul (Float64.ofInt 64) (lgt a) == Float64.ofInt a) = true := by decide +kernel
theorem chk_end : ((List.range 19).all fun a => (List.range 37).all fun b => Float64.sub (Float64.ofInt ((a : Int) + b)) (Float64.ofInt b) == Float64.ofInt a) = true := by decide +kernel
theorem chk_eq : ((List.range 19).all fun a => (List.range 19).all fun b => Float64.cmpInt (Float64.ofInt a) b == some (compare a b)) = true := by decide +kernel

theorem fl_cmp {a b : Int} (h : 0 ≤ a ∧ a ≤ 18) (h' : 0 ≤ b ∧ b ≤ 18) : Float64.cmp (fl a) (fl b) = some (compare a.toNat b.toNat) := by
  have := all2 chk_cmp (x := a) (y := b) (by omega) (by omega) (by omega) (by omega)
  rw [Int.toNat_of_nonneg h.1, Int.toNat_of_nonneg h'.1] at this
  simpa using this
theorem fl_lt {a b : Int} (h : 0 ≤ a ∧ a ≤ 18) (h' : 0 ≤ b ∧ b ≤ 18) : (Float64.cmp (fl a) (fl b) == some .lt) = decide (a < b) := by
  rw [fl_cmp h h']
  rw [Nat.compare_eq_ite_lt]
  by_cases c : a < b
  · have : a.toNat < b.toNat := by omega
    simp [this, c]
  · have c1 : ¬ a.toNat < b.toNat := by omega
    rw [if_neg c1]
    simp only [c, decide_false]
    split <;> rfl
theorem fl_eq {a b : Int} (h : 0 ≤ a ∧ a ≤ 18) (h' : 0 ≤ b ∧ b ≤ 18) : (Float64.cmp (fl a) (fl b) == some .eq) = decide (a = b) := by
  rw [fl_cmp h h']
  rw [Nat.compare_eq_ite_lt]
  by_cases c : a = b
  · subst c; simp
  · have c1 : a.toNat < b.toNat ∨ b.toNat < a.toNat := by omega
    simp only [c, decide_false]
    split
    · rfl
    · rw [if_pos (by omega)]; rfl
theorem fl_add {a b : Int} (h : 0 ≤ b ∧ b ≤ a ∧ a ≤ 18) : Float64.add (fl a) (fl b) = fl (a + b) := by
  have := all2 chk_add (x := a) (y := b) (by omega) (by omega) (by omega) (by omega)
  rw [Int.toNat_of_nonneg (by omega), Int.toNat_of_nonneg h.1] at this
  have c : ¬ a.toNat < b.toNat := by omega
  simpa [c] using this
theorem fl_sub {a b : Int} (h : 0 ≤ b ∧ b ≤ a ∧ a ≤ 18) : Float64.sub (fl a) (fl b) = fl (a - b) := by
  have := all2 chk_sub (x := a) (y := b) (by omega) (by omega) (by omega) (by omega)
  rw [Int.toNat_of_nonneg (by omega), Int.toNat_of_nonneg h.1] at this
  have c : ¬ a.toNat < b.toNat := by omega
  simpa [c] using this
theorem fl_two {a b : Int} (h : 0 ≤ b ∧ b ≤ a ∧ a ≤ 18) : Float64.isZero (Float64.sub (Float64.sub two (fl a)) (fl b)) = false := by
  have := all2 chk_two (x := a) (y := b) (by omega) (by omega) (by omega) (by omega)
  rw [Int.toNat_of_nonneg (by omega), Int.toNat_of_nonneg h.1] at this
  have c : ¬ a.toNat < b.toNat := by omega
  simpa [c] using this
theorem fl_nz {a : Int} (h : 0 < a ∧ a ≤ 36) : Float64.isZero (fl a) = false := by
  have := all1 chk_nz (x := a) (by omega) (by omega)
  rw [Int.toNat_of_nonneg (by omega)] at this
  have c : a ≠ 0 := by omega
  have c' : ¬ a ≤ 0 := by omega
  simpa [c, c'] using this
theorem lgt_mul {a : Int} (h : 0 ≤ a ∧ a ≤ 36) : Float64.mul (Float64.ofInt 64) (lgt a) = Float64.ofInt a := by
  have := all1 chk_mul (x := a) (by omega) (by omega)
  rw [Int.toNat_of_nonneg (by omega)] at this
  simpa using this
theorem ofInt_sub {a b : Int} (h : 0 ≤ a - b ∧ a - b ≤ 18) (h' : 0 ≤ b ∧ b ≤ 36) : Float64.sub (Float64.ofInt a) (Float64.ofInt b) = Float64.ofInt (a - b) := by
  have := all2 chk_end (x := a - b) (y := b) (by omega) (by omega) (by omega) (by omega)
  rw [Int.toNat_of_nonneg (by omega), Int.toNat_of_nonneg h'.1] at this
  have e : a - b + b = a := by omega
  rw [e] at this
  simpa using this
theorem ofInt_eq {a b : Int} (h : 0 ≤ a ∧ a ≤ 18) (h' : 0 ≤ b ∧ b ≤ 18) : (Float64.cmpInt (Float64.ofInt a) b == some .eq) = decide (a = b) := by
  have := all2 chk_eq (x := a) (y := b) (by omega) (by omega) (by omega) (by omega)
  rw [Int.toNat_of_nonneg h.1, Int.toNat_of_nonneg h'.1] at this
  rw [beq_iff_eq.mp this, Nat.compare_eq_ite_lt]
  by_cases c : a = b
  · subst c; simp
  · have c1 : a.toNat < b.toNat ∨ b.toNat < a.toNat := by omega
    simp only [c, decide_false]
    split
    · rfl
    · rw [if_pos (by omega)]; rfl

section
variable {prog : Program} {w : World} {A : Around} {E : Value → Shared → Prop} {s : Shared} {Q : Value → Shared → Prop} {h₀ : Heap} {L : Addr} {m : Str → Option Value} {news : List (Addr × Obj)}

theorem max3_num {a b c : Value} (hh : A.handled = none) (ha : NumV a) (hb : NumV b) (hc : NumV c)
    (h : ∀ h' tk, (∀ c o, s.heap.get? c = some o → h'.get? c = some o) → Q (if ltV a b then (if ltV b c then c else b) else (if ltV a c then c else a)) { s with heap := h', toks := tk }) :
    wpAny (model prog w) A (call (.builtin "max") [a, b, c]) Q E s := by
  have hT : (s.heap.push { cls := .type "tuple", data := .seq #[a, b, c] }).IsTuple s.heap.objs.size #[a, b, c] := ⟨_, Heap.get?_push_size _ rfl, rfl, 0, rfl⟩
  refine call_max_three (wpAny_pyIter_tuple hT ?_)
  have hsz : (s.heap.push { cls := .type "tuple", data := .seq #[a, b, c] }).objs.size = s.heap.objs.size + 1 := Heap.size_push ..
  refine ⟨_, [_, s.heap.objs.size], [_], _, _, _, _, rfl, Walks.tuple (A := A.in1) hh _ s.heap.objs.size (by rw [hsz]; exact Nat.ne_of_lt (Nat.lt_succ_self _)) #[a, b, c],
    ⟨⟨_, Heap.get?_push_size _ rfl, rfl, rfl⟩, hT.push _⟩, fun c hc => ?_, by simp, cmpOf_gt #[a, b, c] (by simp [ha, hb, hc]), fun v h' tk hP hk => ?_⟩
  · show c < ((s.heap.push _).push _).objs.size
    rw [Heap.size_push, hsz]
    rcases List.mem_cons.mp hc with rfl | hc
    · rw [hsz]; exact Nat.lt_succ_self _
    · rcases List.mem_cons.mp hc with rfl | hc
      · exact Nat.lt_succ_of_lt (Nat.lt_succ_self _)
      · cases hc
  · have hold : ∀ c o, s.heap.get? c = some o → h'.get? c = some o := fun c o e => by
      refine hk c o (fun hm => ?_) (Heap.get?_push_of_some _ (Heap.get?_push_of_some _ e))
      rcases List.mem_cons.mp hm with e1 | hm
      · have := Heap.lt_size e; rw [e1, hsz] at this; exact Nat.lt_irrefl _ (Nat.lt_of_succ_lt this)
      · cases hm
    have := h h' tk hold
    have hv : v = if ltV a b then (if ltV b c then c else b) else (if ltV a c then c else a) := by
      cases c1 : ltV a b <;> cases c2 : ltV b c <;> cases c3 : ltV a c <;> simp [argBest, c1, c2, c3] at hP <;> simp [hP]
    rw [hv]; exact this
theorem min3_num {a b c : Value} (hh : A.handled = none) (ha : NumV a) (hb : NumV b) (hc : NumV c)
    (h : ∀ h' tk, (∀ c o, s.heap.get? c = some o → h'.get? c = some o) → Q (if ltV b a then (if ltV c b then c else b) else (if ltV c a then c else a)) { s with heap := h', toks := tk }) :
    wpAny (model prog w) A (call (.builtin "min") [a, b, c]) Q E s := by
  have hT : (s.heap.push { cls := .type "tuple", data := .seq #[a, b, c] }).IsTuple s.heap.objs.size #[a, b, c] := ⟨_, Heap.get?_push_size _ rfl, rfl, 0, rfl⟩
  refine call_min_three (wpAny_pyIter_tuple hT ?_)
  have hsz : (s.heap.push { cls := .type "tuple", data := .seq #[a, b, c] }).objs.size = s.heap.objs.size + 1 := Heap.size_push ..
  refine ⟨_, [_, s.heap.objs.size], [_], _, _, _, _, rfl, Walks.tuple (A := A.in1) hh _ s.heap.objs.size (by rw [hsz]; exact Nat.ne_of_lt (Nat.lt_succ_self _)) #[a, b, c],
    ⟨⟨_, Heap.get?_push_size _ rfl, rfl, rfl⟩, hT.push _⟩, fun c hc => ?_, by simp, cmpOf_lt #[a, b, c] (by simp [ha, hb, hc]), fun v h' tk hP hk => ?_⟩
  · show c < ((s.heap.push _).push _).objs.size
    rw [Heap.size_push, hsz]
    rcases List.mem_cons.mp hc with rfl | hc
    · rw [hsz]; exact Nat.lt_succ_self _
    · rcases List.mem_cons.mp hc with rfl | hc
      · exact Nat.lt_succ_of_lt (Nat.lt_succ_self _)
      · cases hc
  · have hold : ∀ c o, s.heap.get? c = some o → h'.get? c = some o := fun c o e => by
      refine hk c o (fun hm => ?_) (Heap.get?_push_of_some _ (Heap.get?_push_of_some _ e))
      rcases List.mem_cons.mp hm with e1 | hm
      · have := Heap.lt_size e; rw [e1, hsz] at this; exact Nat.lt_irrefl _ (Nat.lt_of_succ_lt this)
      · cases hm
    have := h h' tk hold
    have hv : v = if ltV b a then (if ltV c b then c else b) else (if ltV c a then c else a) := by
      cases c1 : ltV b a <;> cases c2 : ltV c b <;> cases c3 : ltV c a <;> simp [argBest, c1, c2, c3] at hP <;> simp [hP]
    rw [hv]; exact this

theorem max3_fl {a b c : Int} {t u x : Tok} (hh : A.handled = none) (F : Fr h₀ L s.heap m) (N : News h₀ L s.heap news) (ha : 0 ≤ a ∧ a ≤ 18) (hb : 0 ≤ b ∧ b ≤ 18) (hc : 0 ≤ c ∧ c ≤ 18)
    (h : ∀ M v h' tk, a ≤ M ∧ b ≤ M ∧ c ≤ M ∧ (M = a ∨ M = b ∨ M = c) → Fr h₀ L h' m → News h₀ L h' news → Q (.float (fl M) v) { s with heap := h', toks := tk }) :
    wpAny (model prog w) A (call (.builtin "max") [.float (fl a) t, .float (fl b) u, .float (fl c) x]) Q E s := by
  refine max3_num hh (.float _ _) (.float _ _) (.float _ _) fun h' tk kp => ?_
  have e1 : ltV (.float (fl a) t) (.float (fl b) u) = decide (a < b) := fl_lt ha hb
  have e2 : ltV (.float (fl b) u) (.float (fl c) x) = decide (b < c) := fl_lt hb hc
  have e3 : ltV (.float (fl a) t) (.float (fl c) x) = decide (a < c) := fl_lt ha hc
  rw [e1, e2, e3]
  simp only [decide_eq_true_eq]
  split
  · split
    · exact h _ _ _ _ (by omega) (F.grownK kp) (N.grown kp)
    · exact h _ _ _ _ (by omega) (F.grownK kp) (N.grown kp)
  · split
    · exact h _ _ _ _ (by omega) (F.grownK kp) (N.grown kp)
    · exact h _ _ _ _ (by omega) (F.grownK kp) (N.grown kp)
theorem min3_fl {a b c : Int} {t u x : Tok} (hh : A.handled = none) (F : Fr h₀ L s.heap m) (N : News h₀ L s.heap news) (ha : 0 ≤ a ∧ a ≤ 18) (hb : 0 ≤ b ∧ b ≤ 18) (hc : 0 ≤ c ∧ c ≤ 18)
    (h : ∀ M v h' tk, M ≤ a ∧ M ≤ b ∧ M ≤ c ∧ (M = a ∨ M = b ∨ M = c) → Fr h₀ L h' m → News h₀ L h' news → Q (.float (fl M) v) { s with heap := h', toks := tk }) :
    wpAny (model prog w) A (call (.builtin "min") [.float (fl a) t, .float (fl b) u, .float (fl c) x]) Q E s := by
  refine min3_num hh (.float _ _) (.float _ _) (.float _ _) fun h' tk kp => ?_
  have e1 : ltV (.float (fl b) u) (.float (fl a) t) = decide (b < a) := fl_lt hb ha
  have e2 : ltV (.float (fl c) x) (.float (fl b) u) = decide (c < b) := fl_lt hc hb
  have e3 : ltV (.float (fl c) x) (.float (fl a) t) = decide (c < a) := fl_lt hc ha
  rw [e1, e2, e3]
  simp only [decide_eq_true_eq]
  split
  · split
    · exact h _ _ _ _ (by omega) (F.grownK kp) (N.grown kp)
    · exact h _ _ _ _ (by omega) (F.grownK kp) (N.grown kp)
  · split
    · exact h _ _ _ _ (by omega) (F.grownK kp) (N.grown kp)
    · exact h _ _ _ _ (by omega) (F.grownK kp) (N.grown kp)
theorem add_fl {a b : Int} {t u : Tok} (hab : 0 ≤ b ∧ b ≤ a ∧ a ≤ 18) (h : ∀ c, c = a + b → Q (.float (fl c) s.toks) { s with toks := s.toks + 1 }) : wpAny (model prog w) A (binaryOp .Add (.float (fl a) t) (.float (fl b) u)) Q E s :=
  add_float (by rw [fl_add hab]; exact h _ rfl)
theorem sub_fl {a b : Int} {t u : Tok} (hab : 0 ≤ b ∧ b ≤ a ∧ a ≤ 18) (h : ∀ c, c = a - b → Q (.float (fl c) s.toks) { s with toks := s.toks + 1 }) : wpAny (model prog w) A (binaryOp .Sub (.float (fl a) t) (.float (fl b) u)) Q E s :=
  sub_float (by rw [fl_sub hab]; exact h _ rfl)
theorem div_nz {x y : UInt64} {t u : Tok} (hz : Float64.isZero y = false) (h : Q (.float (Float64.div x y) s.toks) { s with toks := s.toks + 1 }) (hA : A.handled = none) : wpAny (model prog w) A (binaryOp .Div (.float x t) (.float y u)) Q E s :=
  truediv_float_or hA (fun e => by rw [hz] at e; cases e) fun _ => h
theorem mod_nz {x y : UInt64} {t u : Tok} (hz : Float64.isZero y = false) (h : Q (.float (Float64.divmod x y).2 s.toks) { s with toks := s.toks + 1 }) (hA : A.handled = none) : wpAny (model prog w) A (binaryOp .Mod (.float x t) (.float y u)) Q E s :=
  mod_ff hA (fun e => by rw [hz] at e; cases e) fun _ => h
theorem eq_fl {a b : Int} {t u : Tok} (ha : 0 ≤ a ∧ a ≤ 18) (hb : 0 ≤ b ∧ b ≤ 18) (h : Q (.bool (decide (a = b))) s) : wpAny (model prog w) A (compareOp .Eq (.float (fl a) t) (.float (fl b) u)) Q E s :=
  AutoFloatOps.eq_0 (by rw [fl_eq ha hb]; exact h)
theorem div_32 {a a' : Int} {t u : Tok} (e : a = a') (ha : 0 ≤ a' ∧ a' ≤ 18) (h : Q (.float (fl a') s.toks) { s with toks := s.toks + 1 }) (hA : A.handled = none) : wpAny (model prog w) A (binaryOp .Div (.int a t) (.int 32 u)) Q E s := by
  subst e
  exact div_ii_fits hA (by omega) (fun e => absurd e (by decide)) fun _ _ => h
end
end Mine

namespace Mine
open PySem PySem.Spec PySem.Calls PyProof.Rows PySem.W
theorem tx2_0 {c d : Nat} {i : Int} (hi : i = 0) : Txt.slice (Str.mk #[c,d]) (some i) none = Str.mk #[c, d] := by subst hi; kernel_rfl
theorem tx2_1 {c d : Nat} {i : Int} (hi : i = 1) : Txt.slice (Str.mk #[c,d]) (some i) none = Str.mk #[d] := by subst hi; kernel_rfl
theorem tx2_2 {c d : Nat} {i : Int} (hi : i = 2) : Txt.slice (Str.mk #[c,d]) (some i) none = Str.mk #[] := by subst hi; kernel_rfl
theorem tx1_0 {c : Nat} {i : Int} (hi : i = 0) : Txt.slice (Str.mk #[c]) (some i) none = Str.mk #[c] := by subst hi; kernel_rfl
theorem tx1_1 {c : Nat} {i : Int} (hi : i = 1) : Txt.slice (Str.mk #[c]) (some i) none = Str.mk #[] := by subst hi; kernel_rfl
theorem ty2_1 {c d : Nat} {i : Int} (hi : i = (-1)) : Txt.slice (Str.mk #[c,d]) none (some i) = Str.mk #[c] := by subst hi; kernel_rfl
theorem ty1_1 {c : Nat} {i : Int} (hi : i = (-1)) : Txt.slice (Str.mk #[c]) none (some i) = Str.mk #[] := by subst hi; kernel_rfl
theorem tn2 {c d : Nat} : Txt.slice (Str.mk #[c,d]) none none = Str.mk #[c, d] := by kernel_rfl
theorem tn1 {c : Nat} : Txt.slice (Str.mk #[c]) none none = Str.mk #[c] := by kernel_rfl
theorem tn0 : Txt.slice (Str.mk #[]) none none = Str.mk #[] := by kernel_rfl
theorem ti2_0 {c d : Nat} {i : Int} (hi : i = 0) : Txt.item (Str.mk #[c,d]) i = Str.mk #[c] := by subst hi; kernel_rfl
theorem ti2_1 {c d : Nat} {i : Int} (hi : i = 1) : Txt.item (Str.mk #[c,d]) i = Str.mk #[d] := by subst hi; kernel_rfl
theorem ti2_m {c d : Nat} {i : Int} (hi : i = (-1)) : Txt.item (Str.mk #[c,d]) i = Str.mk #[d] := by subst hi; kernel_rfl
theorem ti2_n {c d : Nat} {i : Int} (hi : i = (-2)) : Txt.item (Str.mk #[c,d]) i = Str.mk #[c] := by subst hi; kernel_rfl
theorem ti1_0 {c : Nat} {i : Int} (hi : i = 0) : Txt.item (Str.mk #[c]) i = Str.mk #[c] := by subst hi; kernel_rfl
theorem ti1_m {c : Nat} {i : Int} (hi : i = (-1)) : Txt.item (Str.mk #[c]) i = Str.mk #[c] := by subst hi; kernel_rfl
section
variable {prog : Program} {w : World} {A : Around} {E : Value → Shared → Prop} {s : Shared} {value slice : PySem.Expr} {x y : Str} {t ui u : Tok} {h₀ : Heap} {L : Addr} {m : Str → Option Value} {news : List (Addr × Obj)} {Q : Value → Shared → Prop} {i : Int} {b : Bool}
theorem ms_sn (e : Txt.slice x (some i) none = y) (F : Fr h₀ L s.heap m) (N : News h₀ L s.heap news)
    (h : ∀ (h' : Heap) (t' : Tok) (k : Nat), Fr h₀ L h' m → News h₀ L h' news → Q (.str y t') { s with heap := h', toks := k })
    (h1 : subscripted slice false (.str x t) (.ref s.heap.objs.size) = operate [.ref s.heap.objs.size, .str x t] (getItem (.str x t) (.ref s.heap.objs.size)))
    (h2 : ∀ r, letTemporaryGo value (.str x t) r = pure ()) (hsz : x.length ≤ sizeLine) :
    wpAny (model prog w) A (subscriptTail value slice (.str x t) (.ref s.heap.objs.size)) Q E { s with heap := s.heap.push { cls := .type "slice", data := .fields #[.int i ui, .none, .none] } } :=
  slice_strN_sn F N (by subst e; exact h) h1 h2 hsz
theorem ms_ns (e : Txt.slice x none (some i) = y) (F : Fr h₀ L s.heap m) (N : News h₀ L s.heap news)
    (h : ∀ (h' : Heap) (t' : Tok) (k : Nat), Fr h₀ L h' m → News h₀ L h' news → Q (.str y t') { s with heap := h', toks := k })
    (h1 : subscripted slice false (.str x t) (.ref s.heap.objs.size) = operate [.ref s.heap.objs.size, .str x t] (getItem (.str x t) (.ref s.heap.objs.size)))
    (h2 : ∀ r, letTemporaryGo value (.str x t) r = pure ()) (hsz : x.length ≤ sizeLine) :
    wpAny (model prog w) A (subscriptTail value slice (.str x t) (.ref s.heap.objs.size)) Q E { s with heap := s.heap.push { cls := .type "slice", data := .fields #[.none, .int i ui, .none] } } :=
  slice_strN_ns F N (by subst e; exact h) h1 h2 hsz
theorem ms_nn (e : Txt.slice x none none = y) (F : Fr h₀ L s.heap m) (N : News h₀ L s.heap news)
    (h : ∀ (h' : Heap) (t' : Tok) (k : Nat), Fr h₀ L h' m → News h₀ L h' news → Q (.str y t') { s with heap := h', toks := k })
    (h1 : subscripted slice false (.str x t) (.ref s.heap.objs.size) = operate [.ref s.heap.objs.size, .str x t] (getItem (.str x t) (.ref s.heap.objs.size)))
    (h2 : ∀ r, letTemporaryGo value (.str x t) r = pure ()) (hsz : x.length ≤ sizeLine) :
    wpAny (model prog w) A (subscriptTail value slice (.str x t) (.ref s.heap.objs.size)) Q E { s with heap := s.heap.push { cls := .type "slice", data := .fields #[.none, .none, .none] } } :=
  slice_strN_nn F N (by subst e; exact h) h1 h2 hsz
theorem ms_it (n : Nat) (hl : x.length = n) (e : Txt.item x i = y) (h0 : fitsSsize i = true) (h1 : -(n : Int) ≤ i) (h2 : i < n) (h : Q (.str y s.toks) { s with toks := s.toks + 1 })
    (h3 : subscripted slice false (.str x t) (.int i u) = operate [.str x t, .int i u] (getItem (.str x t) (.int i u)))
    (h4 : ∀ r, letTemporaryGo value (.str x t) r = pure ()) : wpAny (model prog w) A (subscriptTail value slice (.str x t) (.int i u)) Q E s :=
  item_str h0 (by rw [hl]; exact h1) (by rw [hl]; exact h2) (fun _ => by subst e; exact h) h3 h4
theorem ms_eq (e : (x == y) = b) (h : Q (.bool b) s) : wpAny (model prog w) A (compareOp .Eq (.str x t) (.str y u)) Q E s := eq_str (by rw [e]; exact h)
theorem ms_len {n : Int} (e : (x.length : Int) = n) (hn : n ≤ 16) (h : ∀ t' k, Q (.int n t') { s with toks := k }) : wpAny (model prog w) A (call (.builtin "len") [.str x t]) Q E s :=
  SBL.len (by omega) (by rw [e]; exact h _ _)
theorem ml_range2 {r : Addr} {e : Int} {t₀ u₀ v₀ : Tok} {Q : Value → Shared → Prop} (hh : A.handled = none) (F : Fr h₀ L s.heap m) (N : News h₀ L s.heap news) (hr : IsRange s.heap r 2 e 2 t₀ u₀ v₀) (he : e = 6)
    (h : ∀ D t u c h' tk, Fr h₀ L h' m → News h₀ L h' ((D, listOf [Value.int 2 t, Value.int 4 u].toArray c) :: news) → (∀ p ∈ news, p.1 < D) → Q (.ref D) { s with heap := h', toks := tk }) :
    wpAny (model prog w) A (call (.type "list") [.ref r]) Q E s := by
  subst he
  refine call_list_range (n := 2) hh hr (by decide) (by decide) (by decide) fun h' tk acc c hk hD hI => ?_
  obtain ⟨h1, h2⟩ := hI
  obtain ⟨t, ht⟩ := h2 0 _ (Array.getElem?_eq_getElem (by omega))
  obtain ⟨u, hu⟩ := h2 1 _ (Array.getElem?_eq_getElem (by omega))
  have e : acc = [Value.int 2 t, Value.int 4 u].toArray := by
    apply Array.ext (by simp [h1])
    intro i hi hi'
    have : i = 0 ∨ i = 1 := by omega
    rcases this with rfl | rfl
    · simpa using ht
    · simpa using hu
  subst e
  exact h _ t u c h' tk (F.keeps hk) (news_pushed F N hk hD rfl) (fun p hp => Heap.lt_size (N p hp).1)
theorem ml_range1 {r : Addr} {e : Int} {t₀ u₀ v₀ : Tok} {Q : Value → Shared → Prop} (hh : A.handled = none) (F : Fr h₀ L s.heap m) (N : News h₀ L s.heap news) (hr : IsRange s.heap r 2 e 2 t₀ u₀ v₀) (he : e = 4)
    (h : ∀ D t c h' tk, Fr h₀ L h' m → News h₀ L h' ((D, listOf [Value.int 2 t].toArray c) :: news) → (∀ p ∈ news, p.1 < D) → Q (.ref D) { s with heap := h', toks := tk }) :
    wpAny (model prog w) A (call (.type "list") [.ref r]) Q E s := by
  subst he
  refine call_list_range (n := 1) hh hr (by decide) (by decide) (by decide) fun h' tk acc c hk hD hI => ?_
  obtain ⟨h1, h2⟩ := hI
  obtain ⟨t, ht⟩ := h2 0 _ (Array.getElem?_eq_getElem (by omega))
  have e : acc = [Value.int 2 t].toArray := by
    apply Array.ext (by simp [h1])
    intro i hi hi'
    have : i = 0 := by omega
    subst this
    simpa using ht
  subst e
  exact h _ t c h' tk (F.keeps hk) (news_pushed F N hk hD rfl) (fun p hp => Heap.lt_size (N p hp).1)
end
end Mine

namespace Mine
open PySem PySem.Spec PySem.Calls PyProof.Rows PySem.W
/-- the locals that a frame holds, to be named by a let -/
abbrev mOf {h₀ : Heap} {L : Addr} {h : Heap} {m : Str → Option Value} (_ : Fr h₀ L h m) : Str → Option Value := m
theorem ite_join {M : Model} {A : Around} {E : Value → Shared → Prop} {s : Shared} {env : Env} {h₀ : Heap} {L : Addr} {m : Str → Option Value} {news : List (Addr × Obj)} {x : Str} {p q : Pos} {e : PySem.Expr} {a v : Int} {t₀ : Tok} {Q : Flow → Shared → Prop} {P : Prop} {dP : Decidable P}
    (F : Fr h₀ L s.heap m) (N : News h₀ L s.heap news) (hold : m x = some (.int a t₀))
    (hv : KJoinB1 (decide P = true → ∀ s₂, KJoinAt h₀ L m news s s₂ → wpAny M A (exec (.Assign [.Name x p] e q) env) (fun f s₃ => KJoinV x v h₀ L m news s f s₃) E s₂))
    (hk : KJoinB2 (∀ (r : Int) (t : Tok) (s₃ : Shared), (decide P = true ∧ r = v) ∨ (decide P = false ∧ r = a) → KJoinAt h₀ L (fun y => if y = x then some (.int r t) else m y) news s s₃ → Q .next s₃)) :
    if decide P = true then wpAny M A (execs [.Assign [.Name x p] e q] env) Q E s else wpAny M A (execs [] env) Q E s := by
  cases hc : decide P with
  | true =>
    rw [if_pos rfl]
    refine wpAny_execs_cons (wpAny_mono (hv hc s ⟨⟨_, _, rfl, F, N⟩⟩) (fun f s₃ hf => ?_) fun _ _ h => h)
    obtain ⟨hf, t, ht⟩ := hf
    subst hf
    exact wpAny_execs_nil (hk v t s₃ (Or.inl ⟨hc, rfl⟩) ht)
  | false =>
    rw [if_neg Bool.false_ne_true]
    refine wpAny_execs_nil (hk a t₀ s (Or.inr ⟨hc, rfl⟩) ?_)
    have e : (fun y => if y = x then some (Value.int a t₀) else m y) = m := by
      funext y
      by_cases hy : y = x
      · rw [if_pos hy, hy, hold]
      · rw [if_neg hy]
    rw [e]
    exact ⟨⟨_, _, rfl, F, N⟩⟩
theorem min_letter {prog : Program} {w : World} {A : Around} {E : Value → Shared → Prop} {s : Shared} {h₀ : Heap} {L : Addr} {m : Str → Option Value} {news : List (Addr × Obj)} {a b : Int} {t u : Tok} {Q : Value → Shared → Prop}
    (F : Fr h₀ L s.heap m) (N : News h₀ L s.heap news) (hh : A.handled = none) (h : ∀ r v h' tk, r = min a b → Fr h₀ L h' m → News h₀ L h' news → Q (.int r v) { s with heap := h', toks := tk }) :
    wpAny (model prog w) A (call (.builtin "min") [.int a t, .int b u]) Q E s :=
  min_two_ints hh fun h' tk kp => by
    by_cases c : b < a
    · rw [if_pos c]; exact h b u h' tk (Int.min_eq_right (Int.le_of_lt c)).symm (F.keeps kp) (N.grown kp)
    · rw [if_neg c]; exact h a t h' tk (Int.min_eq_left (Int.not_lt.mp c)).symm (F.keeps kp) (N.grown kp)
end Mine

namespace Mine
open PySem PySem.Spec PySem.Calls PyProof.Rows PySem.W

abbrev PP : Program := PySem.Challenge.rw_sh0040_01.row.prog

section
variable {prog : Program} {w : World} {A₀ A : Around} {s : Shared} {base h₀ : Heap} {outer : List Env} {L : Addr} {m : Str → Option Value} {env : Env} {news sub : List (Addr × Obj)} {K : Frag}
  {R : Result → Shared → Prop} {name qual : Str} {params : Arguments} {body : List Stmt} {scope : Scope} {dV kV doc pm cdv ct oc : Value} {an od : Option Addr} {osl : Array (Option Value)} {f : Addr} {args : Args} {binds : List (Str × Value)}
  {p : Program} {loose : List Str} {mean : ExcName → Option Value} {mg mb : Str → Option Value}

/-- what a callee that has left all but «sub» untouched gives back to the caller's ledger -/
theorem news_back {g h h' : Heap} {L' : Addr} {m' : Str → Option Value} {tl : List (Addr × Obj)} (N : News h₀ L h news) (hg : g = hideAll h (sub.map (·.1))) (hsub : ∀ p ∈ sub, p ∈ news)
    (F' : Fr g L' h' m') (N' : News h₀ L h' (tl ++ sub)) : News h₀ L h' (tl ++ news) := by
  intro q hq
  rcases List.mem_append.mp hq with hq | hq
  · exact N' q (List.mem_append_left _ hq)
  · by_cases hm : q.1 ∈ sub.map (·.1)
    · obtain ⟨r, hr, e⟩ := List.mem_map.mp hm
      have h1 := (N r (hsub r hr)).1
      have h2 := (N q hq).1
      rw [e, h2] at h1
      have : r = q := Prod.ext e (Option.some.inj h1).symm
      exact N' q (List.mem_append_right _ (this ▸ hr))
    · refine ⟨F'.keep _ _ ?_, (N q hq).2⟩
      rw [hg]
      exact hideAll_get _ (N q hq).1 hm

theorem news_apart {g h : Heap} {r : Addr} (N : News h₀ L h news) (hg : g = hideAll h (sub.map (·.1))) (e : g.get? r = none) (ne : ∀ q ∈ sub, q.1 ≠ r) : ∀ q ∈ news, q.1 ≠ r := by
  intro q hq h9
  subst h9
  by_cases hm : q.1 ∈ sub.map (·.1)
  · obtain ⟨r, hr, e'⟩ := List.mem_map.mp hm
    exact ne r hr e'
  · rw [hg, hideAll_get _ (N q hq).1 hm] at e
    cases e

theorem news_gen {g h h' : Heap} {L' : Addr} {m' : Str → Option Value} {tl kp : List (Addr × Obj)} (N : News h₀ L h news) (hg : g = hideAll h (sub.map (·.1)))
    (F' : Fr g L' h' m') (N' : News h₀ L h' tl) (hk : ∀ q ∈ kp, q ∈ news ∧ (q.1 ∈ sub.map (·.1) → q ∈ tl)) : News h₀ L h' (tl ++ kp) := by
  intro q hq
  rcases List.mem_append.mp hq with hq | hq
  · exact N' q hq
  · obtain ⟨h1, h2⟩ := hk q hq
    by_cases hm : q.1 ∈ sub.map (·.1)
    · exact N' q (h2 hm)
    · refine ⟨F'.keep _ _ ?_, (N q h1).2⟩
      rw [hg]
      exact hideAll_get _ (N q h1).1 hm

structure Back (g h₀ : Heap) (L : Addr) (sub news : List (Addr × Obj)) : Prop where
  back : ∀ {h' : Heap} {L'' : Addr} {m' : Str → Option Value} {tl : List (Addr × Obj)}, Fr g L'' h' m' → News h₀ L h' (tl ++ sub) → News h₀ L h' (tl ++ news)
  gen : ∀ {h' : Heap} {L'' : Addr} {m' : Str → Option Value} {tl kp : List (Addr × Obj)}, Fr g L'' h' m' → News h₀ L h' tl → (∀ q ∈ kp, q ∈ news ∧ (q.1 ∈ sub.map (·.1) → q ∈ tl)) → News h₀ L h' (tl ++ kp)
  apart : ∀ {r : Addr}, g.get? r = none → (∀ q ∈ sub, q.1 ≠ r) → ∀ q ∈ news, q.1 ≠ r
theorem Back.end0 {g h' : Heap} {L' : Addr} {m' : Str → Option Value} {tl : List (Addr × Obj)} (b : Back g h₀ L sub news) (F' : Fr g L' h' m') (N' : News h₀ L h' tl) (hs : ∀ q ∈ sub, q ∈ tl) : News h₀ L h' news :=
  b.back (tl := []) F' (cb_drop N' hs)
theorem Back.end1 {g h' : Heap} {L' : Addr} {m' : Str → Option Value} {r : Addr} {o : Obj} {tl : List (Addr × Obj)} (b : Back g h₀ L sub news) (F' : Fr g L' h' m') (N₁ : News g L' h' tl) (N' : News h₀ L h' tl) (hr : (r, o) ∈ tl) (hs : ∀ q ∈ sub, q ∈ tl) (hne : ∀ q ∈ sub, q.1 ≠ r) :
    News h₀ L h' ((r, o) :: news) ∧ ∀ q ∈ news, q.1 ≠ r :=
  ⟨b.back (tl := [(r, o)]) F' (cb_drop N' fun q hq => by
    rcases List.mem_cons.mp hq with rfl | hq
    · exact hr
    · exact hs q hq), b.apart (N₁.fresh hr) hne⟩

theorem no_sub : ∀ p ∈ ([] : List (Addr × Obj)), p ∈ news := fun _ h => nomatch h

theorem enterF (B : Below A₀ base outer h₀) (F : Fr h₀ L s.heap m) (X₀ : K.In h₀) (N : News h₀ L s.heap news) (T : Top p loose mean mg mb h₀) (hsub : ∀ p ∈ sub, p ∈ news)
    (hA : A.frames = some (env :: outer)) (hf : env.frame = some L) (hke : env.scope.kind = .function)
    (ho : K.lookup f = some ⟨oc, od, .func (fnOf name qual params body scope dV kV doc pm an cdv ct), osl⟩) (hcd : codeIn K cdv qual = true) (hroom : A.depth < recursionLimit)
    (hbind : BindsTo s (fnOf name qual params body scope dV kV doc pm an cdv ct) args binds) (hloc : ∀ y ∈ binds, scope.names.lookup y.1 = some .local)
    (h : ∀ g L' h₁ tk, Back g h₀ L sub news →
      Fr h₀ L g m → Fr g L' h₁ (fun y => binds.reverse.lookup y) → News g L' h₁ sub → Below A base (env :: outer) g → K.In g → Top p loose mean mg mb g → (∀ p ∈ sub, p.1 < L') →
      wpAny (model prog w) (A.deeper (envOf qual scope L' f cdv)) (execs body (envOf qual scope L' f cdv))
        (fun fl s' => LeaveK h₀ L m g R (match fl with | .ret v => v | _ => .none) s')
        (fun e s' => wpAny (model prog w) (A.deeper (envOf qual scope L' f cdv)) (leaving (envOf qual scope L' f cdv) e) (fun _ s'' => R (.error e) s'') (fun e' s'' => R (.error e') s'') s')
        { s with heap := h₁, toks := tk })
    (hco : scope.isCoroutine = false) (hgen : scope.isGenerator = false) (hk : scope.kind = .function)
    (hcell : ∀ x ∈ scope.names, x.2 ≠ .cell) : codeAny (model prog w) A (.call (.ref f) args) R s := by
  have N₀ := cb_drop N hsub
  have XH := X₀.keeps F.keep
  obtain ⟨FG, BG, st, lv⟩ := groundX (R := R) B F N₀ hA hf hke
  refine codeAny_call_def (fd := fnOf name qual params body scope dV kV doc pm an cdv ct) (body := body) (binds := binds) hroom (XH _ _ ho) rfl (T.nolimit.keeps F.keep) (codeRec_of XH hcd) rfl hbind hcell hloc (fun h₁ hns hk₁ => ?_) hco hgen hk
  exact wpAny_mono (h _ s.heap.objs.size h₁ _ ⟨fun F' N' => news_back N rfl hsub F' N', fun F' N' hk => news_gen N rfl F' N' hk, fun e ne => news_apart N rfl e ne⟩ FG ⟨hns, fun b o e => hk₁ b o (of_hideAll _ e), Nat.le_of_eq (hideAll_size _ _)⟩
    (fun p hp => ⟨hk₁ _ _ (N₀ p hp).1, Nat.ne_of_lt (Heap.lt_size (N₀ p hp).1), hideAll_none _ (List.mem_map_of_mem hp)⟩) BG (X₀.keeps st) (T.keeps st) (fun p hp => Heap.lt_size (N₀ p hp).1)) (fun fl s' hl => lv _ _ hl) fun _ _ y => y
theorem enterFC (B : Below A₀ base outer h₀) (F : Fr h₀ L s.heap m) (X₀ : K.In h₀) (N : News h₀ L s.heap news) (T : Top p loose mean mg mb h₀) (hsub : ∀ p ∈ sub, p ∈ news)
    (hA : A.frames = some (env :: outer)) (hf : env.frame = some L) (hke : env.scope.kind = .function)
    (ho : K.lookup f = some ⟨oc, od, .func (fnOf name qual params body scope dV kV doc pm an cdv ct), osl⟩) (hcd : codeIn K cdv qual = true) (hroom : A.depth < recursionLimit)
    (hbind : BindsTo s (fnOf name qual params body scope dV kV doc pm an cdv ct) args binds) (hkind' : (binds.all fun y => scope.names.lookup y.1 == some .local || scope.names.lookup y.1 == some .cell) = true)
    (hnd : ((cellsFrom 0 scope.names []).map (·.1)).Nodup)
    (h : ∀ g L' h₁ tk cells, Back g h₀ L sub news → Fr h₀ L g m → Fr g L' h₁ (bindL (envOfC qual scope L' f cdv).kindOf binds fun _ => none) → News g L' h₁ (cells ++ sub) →
      CellsAre (bindC (envOfC qual scope L' f cdv).kindOf binds fun _ => none) (cellsFrom (L' + 1) scope.names []) cells → Below A base (env :: outer) g → K.In g → Top p loose mean mg mb g → (∀ p ∈ sub, p.1 < L') →
      wpAny (model prog w) (A.deeper (envOfC qual scope L' f cdv)) (execs body (envOfC qual scope L' f cdv))
        (fun fl s' => LeaveK h₀ L m g R (match fl with | .ret v => v | _ => .none) s')
        (fun e s' => wpAny (model prog w) (A.deeper (envOfC qual scope L' f cdv)) (leaving (envOfC qual scope L' f cdv) e) (fun _ s'' => R (.error e) s'') (fun e' s'' => R (.error e') s'') s')
        { s with heap := h₁, toks := tk })
    (hco : scope.isCoroutine = false) (hgen : scope.isGenerator = false) (hk : scope.kind = .function) : codeAny (model prog w) A (.call (.ref f) args) R s := by
  have N₀ := cb_drop N hsub
  have XH := X₀.keeps F.keep
  obtain ⟨FG, BG, st, lv⟩ := groundX (R := R) B F N₀ hA hf hke
  refine codeAny_call_function hroom (XH _ _ ho) rfl hco hgen rfl (codeRec_of XH hcd) (hbind _ _ _ _ ?_)
  refine wpAny_newFunctionEnv_cells hk (kindsX hkind' _) fun env' he s' x => ?_
  subst he
  refine ⟨(T.nolimit.keeps F.keep).keeps x.toInCall.keep, codeAny_func ?_⟩
  obtain ⟨h₁, tk, rfl, _⟩ := x.done
  have hk₁ := x.toInCall.keep
  obtain ⟨cells, NC, Y⟩ := Cl.news (h₀ := s.heap) (Nat.le_refl _) fun n c hm => ⟨x.cell n c (lookup_of_mem_nodup (cellsFrom_names scope.names 0 (s.heap.objs.size + 1) [] [] rfl ▸ hnd) hm), x.above n c hm⟩
  refine wpAny_mono (h _ s.heap.objs.size h₁ tk cells ⟨fun F' N' => news_back N rfl hsub F' N', fun F' N' hk => news_gen N rfl F' N' hk, fun e ne => news_apart N rfl e ne⟩ FG ⟨x.toInCall.ns, fun b o e => hk₁ b o (of_hideAll _ e), Nat.le_of_eq (hideAll_size _ _)⟩ (fun p hp => ?_) Y BG (X₀.keeps st) (T.keeps st) (fun p hp => Heap.lt_size (N₀ p hp).1)) (fun fl s' hl => lv _ _ hl) fun _ _ y => y
  rcases List.mem_append.mp hp with hp | hp
  · refine ⟨(NC p hp).1, (NC p hp).2.1, ?_⟩
    cases q : (hideAll s.heap (sub.map (·.1))).get? p.1 with
    | none => rfl
    | some o => have := of_hideAll _ q; rw [(NC p hp).2.2] at this; cases this
  · exact ⟨hk₁ _ _ (N₀ p hp).1, Nat.ne_of_lt (Heap.lt_size (N₀ p hp).1), hideAll_none _ (List.mem_map_of_mem hp)⟩
end
theorem my_item {prog : Program} {w : World} {A : Around} {E : Value → Shared → Prop} {s : Shared} {value slice : PySem.Expr} {l : Addr} {vs : List Value} {k : Int} {u : Tok} {v : Value} {Q : Value → Shared → Prop}
    (hl : s.heap.IsList l vs.toArray) (h0 : 0 ≤ k) (hhi : k < 2 ^ 63) (hx : vs[k.toNat]? = some v) (h : Q v s)
    (hs : subscripted slice false (.ref l) (.int k u) = operate [.ref l, .int k u] (getItem (.ref l) (.int k u)) := by with_unfolding_all rfl) :
    wpAny (model prog w) A (subscriptTail value slice (.ref l) (.int k u)) Q E s :=
  tail_any hl.typeIs slot_list_getitem.lookup (wpAny_getItem_list hl h0 hhi (by simpa using hx) h) hs
theorem my_listof {h₀ h : Heap} {L l : Addr} {news : List (Addr × Obj)} {vs : List Value} {n : Nat} (N : News h₀ L h news) (hm : (l, listOf vs.toArray n) ∈ news) : h.IsList l vs.toArray :=
  ⟨_, (N _ hm).1, rfl, n, rfl⟩
end Mine

namespace Mine
open PySem PySem.Spec PySem.Calls PyProof.Rows PySem.W
def digs : Nat → Int → List Int
  | 0, _ => []
  | n + 1, x => x % 8 :: digs n (x / 8)
theorem digs_len (n : Nat) : ∀ x, (digs n x).length = n := by
  induction n with
  | zero => intro x; rfl
  | succ n ih => intro x; rw [digs, List.length_cons, ih]
theorem digs_one {x : Int} (h0 : 0 ≤ x) (h1 : x < 8) : digs 1 x = [x] := by
  rw [digs, digs, Int.emod_eq_of_lt h0 h1]
theorem digs_add (m : Nat) : ∀ (n : Nat) (x : Int), digs (n + m) x = digs n (x % 8 ^ n) ++ digs m (x / 8 ^ n) := by
  intro n
  induction n with
  | zero => intro x; simp [digs]
  | succ n ih =>
    intro x
    have e : n + 1 + m = (n + m) + 1 := by omega
    rw [e, digs, digs, ih]
    have h8 : (8 : Int) ^ (n + 1) = 8 * 8 ^ n := by rw [Int.pow_succ, Int.mul_comm]
    have hp : (0 : Int) < 8 ^ n := Int.pow_pos (by decide)
    have a1 : x % 8 ^ (n + 1) % 8 = x % 8 := by
      rw [h8]; exact Int.emod_emod_of_dvd x ⟨8 ^ n, rfl⟩
    have a3 : x / 8 ^ (n + 1) = x / 8 / 8 ^ n := by
      rw [h8, Int.ediv_ediv_of_nonneg (by decide)]
    have a2 : x % 8 ^ (n + 1) / 8 = x / 8 % 8 ^ n := by
      rw [Int.emod_def, Int.emod_def, a3, h8]
      have e1 : x - 8 * 8 ^ n * (x / 8 / 8 ^ n) = x + 8 * (-(8 ^ n * (x / 8 / 8 ^ n))) := by
        rw [Int.mul_neg, Int.mul_assoc]; omega
      rw [e1, Int.add_mul_ediv_left _ _ (by decide)]
      omega
    rw [a1, a2, a3, List.cons_append]
theorem pow8_le {n : Nat} (h : n ≤ 13) : (8 : Int) ^ n ≤ 18446744073709551616 := by
  have : (8 : Nat) ^ n ≤ 8 ^ 13 := Nat.pow_le_pow_right (by decide) h
  have e : ((8 ^ n : Nat) : Int) = (8 : Int) ^ n := by simp
  rw [← e]
  have : (8 : Nat) ^ 13 = 549755813888 := by decide
  omega
theorem nat_mask (n k : Nat) : n &&& (n / 2 ^ k * 2 ^ k) = n / 2 ^ k * 2 ^ k := by
  rw [← Nat.shiftRight_eq_div_pow, ← Nat.shiftLeft_eq]
  apply Nat.eq_of_testBit_eq
  intro i
  rw [Nat.testBit_and, Nat.testBit_shiftLeft, Nat.testBit_shiftRight]
  by_cases h : k ≤ i
  · have e : k + (i - k) = i := by omega
    rw [e]; simp
  · simp [h]
theorem pow38 (j : Nat) : (2 : Nat) ^ (3 * j) = 8 ^ j := by rw [Nat.pow_mul]
theorem xor_low {x : Int} {j : Nat} (hx : 0 ≤ x) : Builtin.bitXor x (x / 8 ^ j * 8 ^ j) = x % 8 ^ j := by
  obtain ⟨n, rfl⟩ := Int.eq_ofNat_of_zero_le hx
  have e : ((n : Int) / 8 ^ j * 8 ^ j) = ((n / 2 ^ (3 * j) * 2 ^ (3 * j) : Nat) : Int) := by
    rw [pow38]; simp
  have ha : Builtin.bitAnd (n : Int) ((n / 2 ^ (3 * j) * 2 ^ (3 * j) : Nat) : Int) = ((n / 2 ^ (3 * j) * 2 ^ (3 * j) : Nat) : Int) := by
    show ((n &&& (n / 2 ^ (3 * j) * 2 ^ (3 * j)) : Nat) : Int) = _
    rw [nat_mask]
  rw [e, bitXor_and, ha, ← e, Int.emod_def, Int.mul_comm (8 ^ j)]
  omega
theorem bits_is {x : Int} (hx : 0 < x) : Builtin.Int.intBits x = x.toNat.log2 + 1 := by
  have h0 : x ≠ 0 := by omega
  have e : x.natAbs = x.toNat := by omega
  unfold Builtin.Int.intBits
  rw [if_neg (by simpa using h0), e]
theorem bits_lt {x : Int} (hx : 0 < x) : ∀ j : Nat, (j : Int) = ((Builtin.Int.intBits x : Int) + 3 - 1).fdiv 3 → x < 8 ^ j := by
  intro j hj
  rw [bits_is hx, Int.fdiv_eq_ediv_of_nonneg _ (by decide)] at hj
  have h1 : x.toNat < 2 ^ (x.toNat.log2 + 1) := Nat.lt_log2_self
  have h2 : 2 ^ (x.toNat.log2 + 1) ≤ 2 ^ (3 * j) := Nat.pow_le_pow_right (by decide) (by omega)
  rw [pow38] at h2
  have h3 : x.toNat < 8 ^ j := Nat.lt_of_lt_of_le h1 h2
  have e3 : ((8 ^ j : Nat) : Int) = (8 : Int) ^ j := by simp
  rw [← e3]
  omega
theorem bits_k {x : Int} (hx : 0 < x ∧ x < 8 ^ 13) : 1 ≤ ((Builtin.Int.intBits x : Int) + 3 - 1).fdiv 3 ∧ ((Builtin.Int.intBits x : Int) + 3 - 1).fdiv 3 ≤ 13 := by
  rw [bits_is hx.1, Int.fdiv_eq_ediv_of_nonneg _ (by decide)]
  have h1 : x.toNat < 2 ^ 39 := by
    have : (2 : Nat) ^ 39 = 549755813888 := by decide
    have := hx.2
    omega
  have h2 : x.toNat.log2 < 39 := (Nat.log2_lt (by omega)).mpr h1
  omega
section
variable {prog : Program} {w : World} {A : Around} {E : Value → Shared → Prop} {s : Shared} {Q : Value → Shared → Prop} {x y d a : Int} {t u : Tok}
theorem fdiv_pow {j : Nat} (hx : 0 ≤ x) : x.fdiv (2 ^ (3 * j)) = x / 8 ^ j := by
  have e : (2 : Int) ^ (3 * j) = 8 ^ j := by rw [Int.pow_mul]; rfl
  rw [e, Int.fdiv_eq_ediv_of_nonneg _ (Int.le_of_lt (Int.pow_pos (by decide)))]
theorem rsh_one (h : ∀ c, 2 * c ≤ a ∧ a ≤ 2 * c + 1 → Q (.int c s.toks) { s with toks := s.toks + 1 }) : wpAny (model prog w) A (binaryOp .RShift (.int a t) (.int 1 u)) Q E s :=
  rshift_int (by decide) (h _ (by
    have e : a.fdiv (2 ^ (1 : Int).toNat) = a / 2 := Int.fdiv_eq_ediv_of_nonneg _ (by decide)
    rw [e]; omega))
theorem rsh_oct (hx : 0 ≤ x) (hd : 0 ≤ d) (h : ∀ c, c = x / 8 ^ d.toNat → 0 ≤ c ∧ c ≤ x → Q (.int c s.toks) { s with toks := s.toks + 1 }) : wpAny (model prog w) A (binaryOp .RShift (.int x t) (.int (d * 3) u)) Q E s :=
  rshift_int (by omega) (h _ (by
    have e : (d * 3).toNat = 3 * d.toNat := by omega
    rw [e, fdiv_pow hx]) (by
    have e : (d * 3).toNat = 3 * d.toNat := by omega
    rw [e, fdiv_pow hx]
    exact ⟨Int.ediv_nonneg hx (Int.le_of_lt (Int.pow_pos (by decide))), Int.ediv_le_self _ hx⟩))
theorem up_lt {c x : Int} {n j r : Nat} (hc : c = x / 8 ^ j) (hx : x < 8 ^ n) (hn : n = j + r) : c < 8 ^ r := by
  subst hc hn
  refine Int.ediv_lt_of_lt_mul (Int.pow_pos (by decide)) ?_
  rw [Int.pow_add, Int.mul_comm] at hx
  exact hx
theorem lsh_oct (hd : 0 ≤ d) (hd' : d ≤ 13) (hy : 0 ≤ y ∧ y < 2 ^ 64) (h : ∀ c, c = y * 8 ^ d.toNat → Q (.int c s.toks) { s with toks := s.toks + 1 }) : wpAny (model prog w) A (binaryOp .LShift (.int y t) (.int (d * 3) u)) Q E s :=
  lshift_int_small (by omega) (by omega) (by omega) (h _ (by
    have e : (d * 3).toNat = 3 * d.toNat := by omega
    rw [e, Int.pow_mul]; rfl))
theorem lsh_unit {n : Int} (hd : 0 ≤ n) (hd' : n ≤ 12) (h : ∀ c, c = 8 ^ n.toNat → 1 ≤ c ∧ c ≤ 68719476736 → Q (.int c s.toks) { s with toks := s.toks + 1 }) : wpAny (model prog w) A (binaryOp .LShift (.int 1 t) (.int (3 * n) u)) Q E s :=
  lshift_int_small (by omega) (by omega) (by decide) (by
    have e : (3 * n).toNat = 3 * n.toNat := by omega
    have e2 : (1 : Int) * 2 ^ (3 * n).toNat = 8 ^ n.toNat := by rw [e, Int.one_mul, Int.pow_mul]; rfl
    rw [e2]
    refine h _ rfl ⟨Int.pow_pos (by decide), ?_⟩
    have h1 : (8 : Nat) ^ n.toNat ≤ 8 ^ 12 := Nat.pow_le_pow_right (by decide) (by omega)
    have e3 : ((8 ^ n.toNat : Nat) : Int) = (8 : Int) ^ n.toNat := by simp
    have e4 : (8 : Nat) ^ 12 = 68719476736 := by decide
    rw [← e3]
    omega)
theorem xor_oct {z : Int} {j : Nat} (hx : 0 ≤ x) (hy : y = x / 8 ^ j) (hz : z = y * 8 ^ j) (h : ∀ c, c = x % 8 ^ j → 0 ≤ c ∧ c < 8 ^ j → Q (.int c s.toks) { s with toks := s.toks + 1 }) : wpAny (model prog w) A (binaryOp .BitXor (.int x t) (.int z u)) Q E s :=
  xor_int (h _ (by rw [hz, hy, xor_low hx]) (by rw [hz, hy, xor_low hx]; exact ⟨Int.emod_nonneg _ (Int.ne_of_gt (Int.pow_pos (by decide))), Int.emod_lt_of_pos _ (Int.pow_pos (by decide))⟩))
end
end Mine

namespace Mine
open PySem PySem.Spec PySem.Calls PyProof.Rows PySem.W
section
variable {prog : Program} {w : World} {A₀ A : Around} {s : Shared} {base h₀ : Heap} {outer : List Env} {L : Addr} {m : Str → Option Value} {env : Env} {news sub : List (Addr × Obj)} {K : Frag}
  {R : Result → Shared → Prop} {name qual : Str} {params : Arguments} {body : List Stmt} {scope : Scope} {cl : List (Str × Addr)} {doc pm ctv : Value} {c' f : Addr} {args : Args} {binds : List (Str × Value)}
  {p : Program} {loose : List Str} {mean : ExcName → Option Value} {mg mb : Str → Option Value}

theorem enterN (B : Below A₀ base outer h₀) (F : Fr h₀ L s.heap m) (X₀ : K.In h₀) (N : News h₀ L s.heap news) (T : Top p loose mean mg mb h₀) (hsub : ∀ p ∈ sub, p ∈ news)
    (hA : A.frames = some (env :: outer)) (hf : env.frame = some L) (hke : env.scope.kind = .function)
    (ho : (f, fnMade name qual params body scope cl doc pm c' ctv) ∈ sub) (hcd : s.heap.CodeRec (.ref c') qual) (hroom : A.depth < recursionLimit)
    (hbind : BindsTo s (fnX name qual params body scope cl .none .none doc pm none (.ref c') ctv) args binds) (hloc : ∀ y ∈ binds, scope.names.lookup y.1 = some .local)
    (h : ∀ g L' h₁ tk, Back g h₀ L sub news →
      Fr h₀ L g m → Fr g L' h₁ (fun y => binds.reverse.lookup y) → News g L' h₁ sub → Below A base (env :: outer) g → K.In g → Top p loose mean mg mb g → (∀ p ∈ sub, p.1 < L') →
      wpAny (model prog w) (A.deeper (envX qual scope L' f (.ref c') cl)) (execs body (envX qual scope L' f (.ref c') cl))
        (fun fl s' => LeaveK h₀ L m g R (match fl with | .ret v => v | _ => .none) s')
        (fun e s' => wpAny (model prog w) (A.deeper (envX qual scope L' f (.ref c') cl)) (leaving (envX qual scope L' f (.ref c') cl) e) (fun _ s'' => R (.error e) s'') (fun e' s'' => R (.error e') s'') s')
        { s with heap := h₁, toks := tk })
    (hco : scope.isCoroutine = false) (hgen : scope.isGenerator = false) (hk : scope.kind = .function)
    (hcell : ∀ x ∈ scope.names, x.2 ≠ .cell) : codeAny (model prog w) A (.call (.ref f) args) R s := by
  have N₀ := cb_drop N hsub
  obtain ⟨FG, BG, st, lv⟩ := groundX (R := R) B F N₀ hA hf hke
  refine codeAny_call_def (fd := fnX name qual params body scope cl .none .none doc pm none (.ref c') ctv) (body := body) (binds := binds) hroom (N₀ _ ho).1 rfl (T.nolimit.keeps F.keep) hcd rfl hbind hcell hloc (fun h₁ hns hk₁ => ?_) hco hgen hk
  exact wpAny_mono (h _ s.heap.objs.size h₁ _ ⟨fun F' N' => news_back N rfl hsub F' N', fun F' N' hk => news_gen N rfl F' N' hk, fun e ne => news_apart N rfl e ne⟩ FG ⟨hns, fun b o e => hk₁ b o (of_hideAll _ e), Nat.le_of_eq (hideAll_size _ _)⟩
    (fun p hp => ⟨hk₁ _ _ (N₀ p hp).1, Nat.ne_of_lt (Heap.lt_size (N₀ p hp).1), hideAll_none _ (List.mem_map_of_mem hp)⟩) BG (X₀.keeps st) (T.keeps st) (fun p hp => Heap.lt_size (N₀ p hp).1)) (fun fl s' hl => lv _ _ hl) fun _ _ y => y

theorem Back.upd {g h h' : Heap} {L' D : Addr} {m' : Str → Option Value} {o o' : Obj} {fx tl : List (Addr × Obj)} {gg : Obj → List (Addr × Obj)} (b : Back g h₀ L ((D, o) :: fx) news) (N : News h₀ L h news) (F' : Fr g L' h' m') (N' : News h₀ L h' tl)
    (U : UpdF D o news gg) (hfx : ∀ q ∈ fx, q ∈ tl) (hfn : ∀ q ∈ fx, q ∈ news) (hD : (D, o') ∈ tl) : News h₀ L h' (gg o') := by
  obtain ⟨pre, post, rfl, hg, h1, h2⟩ := U.split
  have key := b.gen (kp := pre ++ post) F' N' (fun q hq => by
    have hq' : q ∈ pre ++ (D, o) :: post := by
      rcases List.mem_append.mp hq with hq | hq
      · exact List.mem_append_left _ hq
      · exact List.mem_append_right _ (.tail _ hq)
    refine ⟨hq', fun hm => ?_⟩
    have hne : q.1 ≠ D := by
      rcases List.mem_append.mp hq with hq | hq
      · exact h1 q hq
      · exact h2 q hq
    obtain ⟨r, hr, e⟩ := List.mem_map.mp hm
    rcases List.mem_cons.mp hr with rfl | hr
    · exact absurd e.symm hne
    · have e1 := (N r (hfn r hr)).1
      have e2 := (N q hq').1
      rw [e, e2] at e1
      have : r = q := Prod.ext e (Option.some.inj e1).symm
      exact this ▸ hfx r hr)
  rw [hg]
  intro q hq
  rcases List.mem_append.mp hq with hq | hq
  · exact key q (List.mem_append_right _ (List.mem_append_left _ hq))
  · rcases List.mem_cons.mp hq with rfl | hq
    · exact key _ (List.mem_append_left _ hD)
    · exact key q (List.mem_append_right _ (List.mem_append_right _ hq))

theorem Back.upd1 {g h h' : Heap} {L' D r : Addr} {m' : Str → Option Value} {o o' ob : Obj} {fx tl : List (Addr × Obj)} {gg : Obj → List (Addr × Obj)} (b : Back g h₀ L ((D, o) :: fx) news) (N : News h₀ L h news) (F' : Fr g L' h' m') (N₁ : News g L' h' tl) (N' : News h₀ L h' tl)
    (U : UpdF D o news gg) (hfx : ∀ q ∈ fx, q ∈ tl) (hfn : ∀ q ∈ fx, q ∈ news) (hD : (D, o') ∈ tl) (hr : (r, ob) ∈ tl) (hne : ∀ q ∈ (D, o) :: fx, q.1 ≠ r) : News h₀ L h' ((r, ob) :: gg o') ∧ ∀ q ∈ gg o', q.1 ≠ r := by
  have k1 := b.upd N F' N' U hfx hfn hD
  have k2 := b.apart (N₁.fresh hr) hne
  refine ⟨fun q hq => ?_, ?_⟩
  · rcases List.mem_cons.mp hq with rfl | hq
    · exact N' _ hr
    · exact k1 q hq
  · obtain ⟨pre, post, rfl, hg, h1, h2⟩ := U.split
    rw [hg]
    intro q hq
    rcases List.mem_append.mp hq with hq | hq
    · exact k2 q (List.mem_append_left _ hq)
    · rcases List.mem_cons.mp hq with rfl | hq
      · exact k2 (D, o) (List.mem_append_right _ (.head _))
      · exact k2 q (List.mem_append_right _ (.tail _ hq))

/-- what a call inner(x, lo, hi) does to the list at D -/
def InC (prog : Program) (w : World) (K : Frag) (p : Program) (loose : List Str) (mean : ExcName → Option Value) (mg mb : Str → Option Value) (f D : Addr) (fx : List (Addr × Obj)) (n : Nat) : Prop :=
  ∀ (lo hi x : Int) (vs : List Value) (cc : Nat) (tx tl th : Tok) (dp un : Nat) (gd : Option (List Code)) (cn : Str) (cs : Scope) (a : Addr) (ccd : Value) (cl : List (Str × Addr)) (outer : List Env) (A₀ : Around) (base h₀ : Heap) (L : Addr) (m : Str → Option Value) (news : List (Addr × Obj)) (gg : Obj → List (Addr × Obj)) (s : Shared) (Q E : Value → Shared → Prop),
    Below A₀ base outer h₀ → Fr h₀ L s.heap m → K.In h₀ → News h₀ L s.heap news → Top p loose mean mg mb h₀ → cs.kind = .function →
    UpdF D (listOf vs.toArray cc) news gg → (∀ q ∈ (D, listOf vs.toArray cc) :: fx, q ∈ news) → (hi - lo = (n : Int) ∧ 0 < n ∧ 0 ≤ lo ∧ hi ≤ (vs.length : Int) ∧ vs.length ≤ 13) → (0 ≤ x ∧ x < 8 ^ n) → dp + n < recursionLimit →
    (∀ h' tk' us vs' cc', vs' = vs.take lo.toNat ++ us ++ vs.drop hi.toNat → vs'.length = vs.length → Fr h₀ L h' m → News h₀ L h' (gg (listOf vs'.toArray cc')) → IntsAre us (digs n x) → Q .none { s with heap := h', toks := tk' }) →
    wpAny (model prog w) (ktrTop dp un gd cn cs L a ccd cl outer) (call (.ref f) [.int x tx, .int lo tl, .int hi th]) Q E s

theorem InC.all {D : Addr} {fx : List (Addr × Obj)} (step : ∀ n, (∀ k, k < n → InC prog w K p loose mean mg mb f D fx k) → InC prog w K p loose mean mg mb f D fx n) : ∀ n, InC prog w K p loose mean mg mb f D fx n :=
  fun n => Nat.strongRecOn n fun n ih => step n ih

theorem InC.use {D : Addr} {fx : List (Addr × Obj)} {lo hi x : Int} {vs : List Value} {cc : Nat} {tx tl th : Tok} {dp un : Nat} {gd : Option (List Code)} {cn : Str} {cs : Scope} {a : Addr} {ccd : Value} {gg : Obj → List (Addr × Obj)} {Q E : Value → Shared → Prop}
    (C : InC prog w K p loose mean mg mb f D fx (hi - lo).toNat)
    (B : Below A₀ base outer h₀) (F : Fr h₀ L s.heap m) (X : K.In h₀) (N : News h₀ L s.heap news) (T : Top p loose mean mg mb h₀) (hk : cs.kind = .function)
    (U : UpdF D (listOf vs.toArray cc) news gg) (hs : ∀ q ∈ (D, listOf vs.toArray cc) :: fx, q ∈ news) (hb : 0 < hi - lo ∧ 0 ≤ lo ∧ hi ≤ (vs.length : Int) ∧ vs.length ≤ 13) (hx : 0 ≤ x ∧ x < 8 ^ (hi - lo).toNat) (hd : dp + (hi - lo).toNat < recursionLimit)
    (ret : ∀ h' tk' us vs' cc', vs' = vs.take lo.toNat ++ us ++ vs.drop hi.toNat → vs'.length = vs.length → Fr h₀ L h' m → News h₀ L h' (gg (listOf vs'.toArray cc')) → IntsAre us (digs (hi - lo).toNat x) → Q .none { s with heap := h', toks := tk' }) :
    wpAny (model prog w) (ktrTop dp un gd cn cs L a ccd cl outer) (call (.ref f) [.int x tx, .int lo tl, .int hi th]) Q E s :=
  C lo hi x vs cc tx tl th dp un gd cn cs a ccd cl outer A₀ base h₀ L m news gg s Q E B F X N T hk U hs ⟨by omega, by omega, hb.2.1, hb.2.2.1, hb.2.2.2⟩ hx hd ret

/-- the pieces of the ledger behind «def inner», and the induction -/
theorem inner_ind {g : Heap} {L' c D l La Lb Lc : Addr} {h' : Heap} {Fo oc LD Ol oa ob ox : Obj} {tb : List (Addr × Obj)}
    (_N : News g L' h' ((f, Fo) :: (c, oc) :: (D, LD) :: (l, Ol) :: (La, oa) :: (Lb, ob) :: (Lc, ox) :: tb)) (_X : K.In g) (_T : Top p loose mean mg mb g)
    (step : ∀ n, (∀ k, k < n → InC prog w K p loose mean mg mb f D [(f, Fo), (c, oc), (La, oa), (Lb, ob), (Lc, ox)] k) → InC prog w K p loose mean mg mb f D [(f, Fo), (c, oc), (La, oa), (Lb, ob), (Lc, ox)] n) :
    ∀ n, InC prog w K p loose mean mg mb f D [(f, Fo), (c, oc), (La, oa), (Lb, ob), (Lc, ox)] n := InC.all step
structure InStep (prog : Program) (w : World) (K : Frag) (p : Program) (loose : List Str) (mean : ExcName → Option Value) (mg mb : Str → Option Value) (f D : Addr) (fx : List (Addr × Obj)) : Prop where
  st : ∀ n, (∀ k, k < n → InC prog w K p loose mean mg mb f D fx k) → InC prog w K p loose mean mg mb f D fx n
theorem inner_call {c D l La Lb Lc : Addr} {Fo oc Ol oa ob ox : Obj} {tb : List (Addr × Obj)} {lo hi x : Int} {vs : List Value} {cc : Nat} {tx tl th : Tok} {dp un : Nat} {gd : Option (List Code)} {cn : Str} {cs : Scope} {a : Addr} {ccd : Value} {gg : Obj → List (Addr × Obj)} {Q E : Value → Shared → Prop}
    (B : Below A₀ base outer h₀) (F : Fr h₀ L s.heap m) (X : K.In h₀) (N : News h₀ L s.heap ((f, Fo) :: (c, oc) :: (D, listOf vs.toArray cc) :: (l, Ol) :: (La, oa) :: (Lb, ob) :: (Lc, ox) :: tb)) (T : Top p loose mean mg mb h₀) (hk : cs.kind = .function)
    (U : UpdF D (listOf vs.toArray cc) ((f, Fo) :: (c, oc) :: (D, listOf vs.toArray cc) :: (l, Ol) :: (La, oa) :: (Lb, ob) :: (Lc, ox) :: tb) gg) (hb : 0 < hi - lo ∧ 0 ≤ lo ∧ hi ≤ (vs.length : Int) ∧ vs.length ≤ 13) (hx : 0 ≤ x ∧ x < 8 ^ (hi - lo).toNat) (hd : dp + (hi - lo).toNat < recursionLimit)
    (ret : ∀ h' tk' us vs' cc', vs' = vs.take lo.toNat ++ us ++ vs.drop hi.toNat → vs'.length = vs.length → Fr h₀ L h' m → News h₀ L h' (gg (listOf vs'.toArray cc')) → IntsAre us (digs (hi - lo).toNat x) → Q .none { s with heap := h', toks := tk' })
    (step : InStep prog w K p loose mean mg mb f D [(f, Fo), (c, oc), (La, oa), (Lb, ob), (Lc, ox)]) :
    wpAny (model prog w) (ktrTop dp un gd cn cs L a ccd cl outer) (call (.ref f) [.int x tx, .int lo tl, .int hi th]) Q E s :=
  InC.use (InC.all step.st _) B F X N T hk U (by
    intro q hq
    simp only [List.mem_cons, List.not_mem_nil, or_false] at hq ⊢
    rcases hq with h | h | h | h | h | h <;> simp [h]) hb hx hd ret
theorem my_len {D : Addr} {vs : List Value} {cc : Nat} {n : Int} {Q E : Value → Shared → Prop} (N : News h₀ L s.heap news) (hm : (D, listOf vs.toArray cc) ∈ news) (e : (vs.length : Int) = n) (hn : vs.length ≤ 16)
    (h : ∀ t tk, Q (.int n t) { s with toks := tk }) : wpAny (model prog w) A (call (.builtin "len") [.ref D]) Q E s := by
  subst e
  exact len_list (my_listof N hm) (by rw [List.size_toArray]; omega) (by rw [List.size_toArray]; exact h _ _)
theorem my_set {D : Addr} {vs : List Value} {n : Nat} {k : Int} {t : Tok} {v : Value} {news' : List (Addr × Obj)} {Q : Unit → Shared → Prop} {E : Value → Shared → Prop} (F : Fr h₀ L s.heap m) (N : News h₀ L s.heap news)
    (U : Upd D (listOf vs.toArray n) (listOf (vs.set k.toNat v).toArray n) news news') (h0 : 0 ≤ k) (h1 : k < vs.length) (h2 : vs.length ≤ 16)
    (h : ∀ h', Fr h₀ L h' m → News h₀ L h' news' → Q () { s with heap := h' }) : wpAny (model prog w) A (setItem (.ref D) (.int k t) v) Q E s := by
  obtain ⟨pre, post, rfl, rfl, a, b⟩ := U.split
  have z := N (D, listOf vs.toArray n) (List.mem_append.mpr (.inr (.head _)))
  have hz : vs.toArray.size = vs.length := List.size_toArray ..
  refine ki_setAt z.1 h0 (by omega) (by omega) (h _ (F.change (Heap.SameBut.update ..) z.2.1 z.2.2) (ki_turn _ N a b ?_ ?_))
  · apply Array.toList_inj.mp; simp
  · simp
theorem splice {vs us us' : List Value} {lo mid hi : Nat} (h1 : lo ≤ mid) (h2 : mid ≤ hi) (h3 : hi ≤ vs.length) (hu : us.length = mid - lo) :
    (vs.take lo ++ us ++ vs.drop mid).take mid ++ us' ++ (vs.take lo ++ us ++ vs.drop mid).drop hi = vs.take lo ++ (us ++ us') ++ vs.drop hi := by
  have l1 : (vs.take lo ++ us).length = mid := by rw [List.length_append, List.length_take, hu]; omega
  rw [List.take_append_of_le_length (by omega), List.take_of_length_le (by omega), List.drop_append, List.drop_of_length_le (by omega), l1, List.nil_append, List.drop_drop, show mid + (hi - mid) = hi from by omega]
  simp only [List.append_assoc]
theorem set_splice {vs : List Value} {k : Nat} {v : Value} (h : k < vs.length) : vs.set k v = vs.take k ++ [v] ++ vs.drop (k + 1) := by
  rw [List.set_eq_take_append_cons_drop, if_pos h]; simp
theorem ints_app {us vs : List Value} {ns ms : List Int} (h : IntsAre us ns) (k : IntsAre vs ms) : IntsAre (us ++ vs) (ns ++ ms) := by
  induction h with
  | nil => exact k
  | cons i t _ ih => exact .cons i t ih
theorem inner_two {vs us1 us2 vs1 vs2 : List Value} {lo hi mid x lower upper : Int} {n : Nat} (hn : hi - lo = n ∧ 0 < n ∧ 0 ≤ lo ∧ hi ≤ (vs.length : Int) ∧ vs.length ≤ 13) (hm : 2 * mid ≤ lo + hi ∧ lo + hi ≤ 2 * mid + 1) (h1 : ¬ lo + 1 = hi)
    (ea : vs1 = vs.take lo.toNat ++ us1 ++ vs.drop mid.toNat) (eb : vs2 = vs1.take mid.toNat ++ us2 ++ vs1.drop hi.toNat) (eu : upper = x / 8 ^ (mid - lo).toNat) (el : lower = x % 8 ^ (mid - lo).toNat)
    (i1 : IntsAre us1 (digs (mid - lo).toNat lower)) (i2 : IntsAre us2 (digs (hi - mid).toNat upper)) :
    vs2 = vs.take lo.toNat ++ (us1 ++ us2) ++ vs.drop hi.toNat ∧ IntsAre (us1 ++ us2) (digs n x) := by
  have l1 := i1.length
  rw [digs_len] at l1
  refine ⟨?_, ?_⟩
  · rw [eb, ea]
    exact splice (by omega) (by omega) (by omega) (by omega)
  · have e : n = (mid - lo).toNat + (hi - mid).toNat := by omega
    rw [e, digs_add]
    rw [el] at i1
    rw [eu] at i2
    exact ints_app i1 i2
theorem inner_one {vs : List Value} {lo hi x : Int} {t : Tok} {n : Nat} (hn : hi - lo = n ∧ 0 < n ∧ 0 ≤ lo ∧ hi ≤ (vs.length : Int) ∧ vs.length ≤ 13) (h1 : lo + 1 = hi) (hx : 0 ≤ x ∧ x < 8 ^ n) :
    vs.set lo.toNat (.int x t) = vs.take lo.toNat ++ [.int x t] ++ vs.drop hi.toNat ∧ IntsAre [.int x t] (digs n x) := by
  have e : n = 1 := by omega
  subst e
  have e2 : hi.toNat = lo.toNat + 1 := by omega
  refine ⟨?_, ?_⟩
  · rw [e2, set_splice (by omega)]
  · rw [digs_one hx.1 (by simpa using hx.2)]
    exact .cons _ _ .nil
end
end Mine

namespace Mine
open PySem PySem.Spec PySem.Calls PyProof.Rows PySem.W
/-- a mark: no line serves it, so the walk ends there -/
def Stop (P : Prop) : Prop := P
theorem Stop.out {P : Prop} (h : Stop P) : P := h
/-- what stands between two turns: a state c, its part of the ledger, its names of the frame, its facts -/
def JS {σ : Type} (Led : σ → List (Addr × Obj)) (ps : σ → List (Str × Value)) (P : Nat → σ → Prop) (i : Nat) (m : Str → Option Value) (nx : List (Addr × Obj)) : Prop :=
  ∃ c : σ, (∀ p ∈ Led c, p ∈ nx) ∧ (∀ p ∈ ps c, m p.1 = some p.2) ∧ P i c
theorem kstB_same {m : Str → Option Value} {ps : List (Str × Value)} (h : ∀ p ∈ ps, m p.1 = some p.2) : kstB m ps = m := funext fun _ => kstB_eq h fun _ => rfl
section
variable {prog : Program} {w : World} {A : Around} {E : Value → Shared → Prop} {s : Shared} {env : Env} {h₀ : Heap} {L : Addr} {x : Str} {body : List Stmt} {Q : Flow → Shared → Prop} {target : PySem.Expr}
theorem UnrEnd.js {σ : Type} {Led : σ → List (Addr × Obj)} {ps : σ → List (Str × Value)} {P : Nat → σ → Prop} {i : Nat} {I : Addr} {it : Obj} {s₁ : Shared} {h' : Heap} {tk : Nat} {m' : Str → Option Value} {all : List (Addr × Obj)} (F : Fr h₀ L h' m') (N : News h₀ L h' all) (c : σ)
    (hI : (I, it) ∈ all) (hL : ∀ p ∈ Led c, p ∈ all) (hne : ∀ p ∈ Led c, p.1 ≠ I) (hp : ∀ p ∈ ps c, m' p.1 = some p.2) (hP : P i c) :
    UnrEnd h₀ L s₁ I it (JS Led ps P i) { s₁ with heap := h', toks := tk } :=
  UnrEnd.intro F N (Led c) (fun p hp => by
    rcases List.mem_cons.mp hp with rfl | hp
    · exact hI
    · exact hL p hp) hne ⟨c, fun _ h => h, hp, hP⟩
/-- the step's end, out of one iterator's own object -/
theorem fin_js {J : (Str → Option Value) → List (Addr × Obj) → Prop} {I : Addr} {it : Obj} {h₁ : Heap} {s₁ s₂ : Shared} {own : List (Addr × Obj)} (hown : ∀ p ∈ own, p.1 ∈ [I]) (hget : ∀ p ∈ own, h₁.get? p.1 = some p.2) (hit : h₁.get? I = some it)
    (h : UnrEnd h₀ L s₁ I it J s₂) : LoopStepU h₀ L [I] own J s₁ .next s₂ := by
  obtain ⟨h', tk, m', news', e, F', N', ho, r⟩ := h
  refine ⟨rfl, h', tk, m', news', e, F', fun p hp => ?_, fun p hp hI => ho p hp (List.mem_singleton.mp hI), r⟩
  rcases List.mem_append.mp hp with hp | hp
  · have h1 : p.1 = I := List.mem_singleton.mp (hown p hp)
    have h2 := hget p hp
    rw [h1, hit] at h2
    have h3 : p = (I, it) := Prod.ext h1 (Option.some.inj h2).symm
    rw [h3]
    exact N' _ (.head _)
  · exact N' _ (.tail _ hp)
theorem own_js {I : Addr} {it : Obj} {h₁ : Heap} {own news₁ : List (Addr × Obj)} (hnew : h₀.get? I = none) (hit : h₁.get? I = some it) (hall : ∀ b ∈ [I], h₀.get? b = none → ∀ o, h₁.get? b = some o → (b, o) ∈ own)
    (N₁ : News h₀ L h₁ (own ++ news₁)) : News h₀ L h₁ ((I, it) :: news₁) := fun p hp => by
  rcases List.mem_cons.mp hp with rfl | hp
  · exact N₁ _ (List.mem_append_left _ (hall I (List.mem_singleton.mpr rfl) hnew _ hit))
  · exact N₁ _ (List.mem_append_right _ hp)
theorem loop_js {σ : Type} {n : Nat} {Pv : Nat → Value → Prop} {St : Nat → Heap → Prop} {m₀ : Str → Option Value} {news : List (Addr × Obj)} {o : Obj} {Led : σ → List (Addr × Obj)} {ps : σ → List (Str × Value)} {P : Nat → σ → Prop} (c₀ : σ)
    (W : Walks prog w A s.heap.objs.size [s.heap.objs.size] [s.heap.objs.size] n Pv St) (hSt : ∀ i h, St i h → ∃ it, h.get? s.heap.objs.size = some it)
    (F : Fr h₀ env.locals s.heap m₀) (N : News h₀ env.locals s.heap news) (hst : St 0 (s.heap.push o)) (hL : ∀ p ∈ Led c₀, p ∈ news) (hp : ∀ p ∈ ps c₀, m₀ p.1 = some p.2) (hP : P 0 c₀)
    (turn : ∀ i c v m₁ it h tk, i < n → Pv i v → P i c → (∀ p ∈ Led c, p.1 ≠ s.heap.objs.size) → Fr h₀ env.locals h (fun y => if y = x then some v else kstB m₁ (ps c) y) → News h₀ env.locals h ((s.heap.objs.size, it) :: Led c) →
      wpAny (model prog w) A (execs body env) (UnrPost h₀ env.locals { s with heap := h, toks := tk } s.heap.objs.size it (JS Led ps P (i + 1)) Q) E { s with heap := h, toks := tk })
    (done : ∀ c m₁ h tk, P n c → Fr h₀ env.locals h (kstB m₁ (ps c)) → News h₀ env.locals h (Led c) → Q .next { s with heap := h, toks := tk }) :
    LoopAtV prog w A h₀ env x body Q E (.ref s.heap.objs.size) { s with heap := s.heap.push o } := by
  have hnew := next_is_new F
  refine ⟨_, _, _, n, _, _, m₀, news, JS Led ps P, rfl, W, ?_, ?_, ?_, hst, F.push _, (fun p hp => ⟨Heap.get?_push_of_some _ (N p hp).1, (N p hp).2⟩), ⟨c₀, hL, hp, hP⟩, ?_, ?_⟩
  · intro hm
    exact absurd F.ns.lt ((List.mem_singleton.mp hm) ▸ Nat.lt_irrefl _)
  · intro b hb
    rw [List.mem_singleton.mp hb]
    exact hnew
  · intro p hp hI
    exact absurd (Heap.lt_size (N p hp).1) ((List.mem_singleton.mp hI) ▸ Nat.lt_irrefl _)
  · rintro i v m₁ news₁ s₁ own ⟨h₁, tk₁, rfl⟩ hin hv ⟨c, hL₁, hp₁, hP₁⟩ hoff hown hget hall hst₁ F₁ N₁
    obtain ⟨it, hit⟩ := hSt _ _ hst₁
    have N₂ := cb_drop (own_js hnew hit hall N₁) (news := (s.heap.objs.size, it) :: Led c) fun p hp => by
      rcases List.mem_cons.mp hp with rfl | hp
      · exact .head _
      · exact .tail _ (hL₁ p hp)
    rw [← kstB_same hp₁] at F₁
    refine wpAny_mono (turn i c v m₁ it h₁ tk₁ hin hv hP₁ (fun p hp e => hoff p (hL₁ p hp) (List.mem_singleton.mpr e)) F₁ N₂) (fun f s₂ p => ?_) fun _ _ e => e
    cases f with
    | ret v => exact .ret p
    | brk => exact .brk p
    | next => exact .next (fin_js hown hget hit p)
    | cont => exact .cont (fin_js hown hget hit p)
  · rintro h' tk m' news' F' N' _ ⟨c, hL₁, hp₁, hP₁⟩
    rw [← kstB_same hp₁] at F'
    exact done c m' h' tk hP₁ F' (cb_drop N' hL₁)
theorem str_js {σ : Type} {tx : Str} {t : Tok} {m₀ : Str → Option Value} {news : List (Addr × Obj)} {Led : σ → List (Addr × Obj)} {ps : σ → List (Str × Value)} {P : Nat → σ → Prop} (c₀ : σ) (hh : A.handled = none)
    (F : Fr h₀ env.locals s.heap m₀) (N : News h₀ env.locals s.heap news) (hL : ∀ p ∈ Led c₀, p ∈ news) (hp : ∀ p ∈ ps c₀, m₀ p.1 = some p.2) (hP : P 0 c₀)
    (turn : ∀ i c k u m₁ I it h tk, tx.cps[i]? = some k → P i c → (∀ p ∈ Led c, p.1 ≠ I) → Fr h₀ env.locals h (fun y => if y = x then some (.str ⟨#[k]⟩ u) else kstB m₁ (ps c) y) → News h₀ env.locals h ((I, it) :: Led c) →
      wpAny (model prog w) A (execs body env) (UnrPost h₀ env.locals { s with heap := h, toks := tk } I it (JS Led ps P (i + 1)) Q) E { s with heap := h, toks := tk })
    (done : ∀ c m₁ h tk, P tx.cps.size c → Fr h₀ env.locals h (kstB m₁ (ps c)) → News h₀ env.locals h (Led c) → Q .next { s with heap := h, toks := tk }) :
    wpAny (model prog w) A (pyIter (.str tx t)) (fun it s₂ => LoopAtV prog w A h₀ env x body Q E it s₂) E s := by
  have go : ∀ (T : String) (o : Obj), Walks prog w A s.heap.objs.size [s.heap.objs.size] [s.heap.objs.size] tx.cps.size (SignAt tx) (fun i h => h.IsStrIter s.heap.objs.size T tx t i) →
      (s.heap.push o).IsStrIter s.heap.objs.size T tx t 0 → LoopAtV prog w A h₀ env x body Q E (.ref s.heap.objs.size) { s with heap := s.heap.push o } := fun T o W hst =>
    loop_js c₀ W (fun i h hi => let ⟨it, e, _⟩ := hi; ⟨it, e⟩) F N hst hL hp hP (fun i c v m₁ it h tk _ hv hP' hne F' N' => by
      obtain ⟨k, u, hk, rfl⟩ := hv
      exact turn i c k u m₁ _ it h tk hk hP' hne F' N') done
  cases ha : tx.cps.all (· < 128)
  · exact wpAny_pyIter_wide ha (go "str_iterator" _ (Walks.strWide hh _ tx t) ⟨_, Heap.get?_push_size _ rfl, rfl, rfl⟩)
  · exact wpAny_pyIter_ascii ha (go "str_ascii_iterator" _ (Walks.strAscii hh _ tx t) ⟨_, Heap.get?_push_size _ rfl, rfl, rfl⟩)
theorem range_js {σ : Type} {r : Addr} {a b : Int} {t₀ u₀ v₀ : Tok} {n : Nat} {m₀ : Str → Option Value} {news : List (Addr × Obj)} {Led : σ → List (Addr × Obj)} {ps : σ → List (Str × Value)} {P : Nat → σ → Prop} (c₀ : σ) (hh : A.handled = none)
    (hr : IsRange s.heap r a b 1 t₀ u₀ v₀) (hsmall : Builtin.Range.small a b 1 = true) (hn : Builtin.Range.rangeSize a b 1 = (n : Int))
    (F : Fr h₀ env.locals s.heap m₀) (N : News h₀ env.locals s.heap news) (hL : ∀ p ∈ Led c₀, p ∈ news) (hp : ∀ p ∈ ps c₀, m₀ p.1 = some p.2) (hP : P 0 c₀)
    (turn : ∀ i c u m₁ I it h tk, i < n → P i c → (∀ p ∈ Led c, p.1 ≠ I) → Fr h₀ env.locals h (fun y => if y = x then some (.int (a + (i : Int)) u) else kstB m₁ (ps c) y) → News h₀ env.locals h ((I, it) :: Led c) →
      wpAny (model prog w) A (execs body env) (UnrPost h₀ env.locals { s with heap := h, toks := tk } I it (JS Led ps P (i + 1)) Q) E { s with heap := h, toks := tk })
    (done : ∀ c m₁ h tk, P n c → Fr h₀ env.locals h (kstB m₁ (ps c)) → News h₀ env.locals h (Led c) → Q .next { s with heap := h, toks := tk }) :
    wpAny (model prog w) A (pyIter (.ref r)) (fun it s₂ => LoopAtV prog w A h₀ env x body Q E it s₂) E s := by
  refine wpAny_pyIter_range hr hsmall ?_
  have W : Walks prog w A s.heap.objs.size [s.heap.objs.size] [s.heap.objs.size] n (fun i v => i < n ∧ ∃ t, v = .int (a + i * 1) t)
      (fun i h => IsRangeIter h s.heap.objs.size (a + (i : Nat) * 1) ((n : Int) - (i : Nat)) 1) := (Walks.range hh _ a 1 n).bound
  refine loop_js c₀ W (fun i h hi => ⟨_, hi⟩) F N (by show IsRangeIter _ _ _ _ _; rw [hn]; simpa using Heap.get?_push_size _ rfl) hL hp hP (fun i c v m₁ it h tk hi hv hP' hne F' N' => ?_) done
  obtain ⟨_, u, rfl⟩ := hv
  rw [Int.mul_one] at F'
  exact turn i c u m₁ _ it h tk hi hP' hne F' N'
theorem letGo_range {Q' : Unit → Shared → Prop} {s' : Shared} {I : Addr} {v : Value} {a b c : Int} (hit : IsRangeIter s'.heap I a b c) (h : Q' () s') : wpAny (model prog w) A (letOwnedTupleGo target (.ref I) v) Q' E s' := by
  unfold letOwnedTupleGo
  cases target <;> first
    | exact wpAny_pure h
    | (cases v <;> first
        | exact wpAny_pure h
        | (refine wpAny_bind (wpAny_load hit ?_)
           exact wpAny_pure h))
/-- the same for a loop whose name is kept in a cell -/
theorem turns_js {σ : Type} {r : Addr} {a b : Int} {t₀ u₀ v₀ : Tok} {n : Nat} {m₀ : Str → Option Value} {news : List (Addr × Obj)} {Led : σ → List (Addr × Obj)} {ps : σ → List (Str × Value)} {P : Nat → σ → Prop} (c₀ : σ) (hh : A.handled = none)
    (hr : IsRange s.heap r a b 1 t₀ u₀ v₀) (hsmall : Builtin.Range.small a b 1 = true) (hn : Builtin.Range.rangeSize a b 1 = (n : Int))
    (F : Fr h₀ env.locals s.heap m₀) (N : News h₀ env.locals s.heap news) (hL : ∀ p ∈ Led c₀, p ∈ news) (hp : ∀ p ∈ ps c₀, m₀ p.1 = some p.2) (hP : P 0 c₀)
    (turn : ∀ i c u m₁ I it h tk, i < n → P i c → (∀ p ∈ Led c, p.1 ≠ I) → Fr h₀ env.locals h (kstB m₁ (ps c)) → News h₀ env.locals h ((I, it) :: Led c) →
      wpAny (model prog w) A (assign target env (.int (a + (i : Int)) u)) (fun _ s₂ => wpAny (model prog w) A (execs body env) (UnrPost h₀ env.locals { s with heap := h, toks := tk } I it (JS Led ps P (i + 1)) Q) E s₂) E { s with heap := h, toks := tk })
    (done : ∀ c m₁ h tk, P n c → Fr h₀ env.locals h (kstB m₁ (ps c)) → News h₀ env.locals h (Led c) → Q .next { s with heap := h, toks := tk }) :
    wpAny (model prog w) A (pyIter (.ref r)) (fun it s₂ => TurnsAt prog w A h₀ env target body Q E it s₂) E s := by
  refine wpAny_pyIter_range hr hsmall ?_
  have hnew := next_is_new F
  have W : Walks prog w A s.heap.objs.size [s.heap.objs.size] [s.heap.objs.size] n (fun i v => i < n ∧ ∃ t, v = .int (a + i * 1) t)
      (fun i h => IsRangeIter h s.heap.objs.size (a + (i : Nat) * 1) ((n : Int) - (i : Nat)) 1) := (Walks.range hh _ a 1 n).bound
  refine ⟨_, _, _, n, _, _, _, m₀, news, JS Led ps P, rfl, KTurns.ofWalks W (fun i v s Q E st q => letGo_range st q), ?_, ?_, ?_, (by show IsRangeIter _ _ _ _ _; rw [hn]; simpa using Heap.get?_push_size _ rfl), F.push _, (fun p hp => ⟨Heap.get?_push_of_some _ (N p hp).1, (N p hp).2⟩), ⟨c₀, hL, hp, hP⟩, ?_, ?_⟩
  · intro hm
    exact absurd F.ns.lt ((List.mem_singleton.mp hm) ▸ Nat.lt_irrefl _)
  · intro b hb
    rw [List.mem_singleton.mp hb]
    exact hnew
  · intro p hp hI
    exact absurd (Heap.lt_size (N p hp).1) ((List.mem_singleton.mp hI) ▸ Nat.lt_irrefl _)
  · rintro i v m₁ news₁ h₁ tk₁ own hin ⟨_, u, rfl⟩ ⟨c, hL₁, hp₁, hP₁⟩ hoff hown hget hall hst₁ F₁ N₁
    have N₂ := cb_drop (own_js hnew hst₁ hall N₁) (news := _ :: Led c) fun p hp => by
      rcases List.mem_cons.mp hp with rfl | hp
      · exact .head _
      · exact .tail _ (hL₁ p hp)
    rw [← kstB_same hp₁] at F₁
    rw [Int.mul_one]
    refine wpAny_mono (turn i c u m₁ _ _ h₁ tk₁ hin hP₁ (fun p hp e => hoff p (hL₁ p hp) (List.mem_singleton.mpr e)) F₁ N₂) (fun _ s₂ h₂ => wpAny_mono h₂ (fun f s₃ p => ?_) fun _ _ e => e) fun _ _ e => e
    cases f with
    | ret v => exact .ret p
    | brk => exact .brk p
    | next => exact .next (fin_js hown hget hst₁ p)
    | cont => exact .cont (fin_js hown hget hst₁ p)
  · rintro h' tk m' news' F' N' _ ⟨c, hL₁, hp₁, hP₁⟩
    rw [← kstB_same hp₁] at F'
    exact done c m' h' tk hP₁ F' (cb_drop N' hL₁)
end
end Mine

namespace Mine
open PySem PySem.Spec PySem.Calls PyProof.Rows PySem.W
/-- the text of a lead -/
def wsText (r e : Nat) : Str := ⟨(List.replicate r 32 ++ 9 :: (List.replicate e 32 ++ [9, 120])).toArray⟩
theorem ws_sign (r e i : Nat) : (wsText r e).cps[i]? = if i < r then some 32 else if i = r then some 9 else if i < r + 1 + e then some 32 else if i = r + 1 + e then some 9 else if i = r + e + 2 then some 120 else none := by
  show (List.replicate r 32 ++ 9 :: (List.replicate e 32 ++ [9, 120])).toArray[i]? = _
  rw [List.getElem?_toArray, List.getElem?_append, List.length_replicate]
  by_cases h1 : i < r
  · rw [if_pos h1, if_pos h1, List.getElem?_replicate, if_pos h1]
  · rw [if_neg h1, if_neg h1]
    by_cases h2 : i = r
    · rw [if_pos h2, h2, Nat.sub_self]; rfl
    · rw [if_neg h2]
      have e1 : i - r = (i - r - 1) + 1 := by omega
      rw [e1, List.getElem?_cons_succ, List.getElem?_append, List.length_replicate]
      by_cases h3 : i < r + 1 + e
      · rw [if_pos h3, if_pos (by omega), List.getElem?_replicate, if_pos (by omega)]
      · rw [if_neg h3, if_neg (by omega)]
        by_cases h4 : i = r + 1 + e
        · have e2 : i - r - 1 - e = 0 := by omega
          rw [if_pos h4, e2]; rfl
        · rw [if_neg h4]
          by_cases h5 : i = r + e + 2
          · have e2 : i - r - 1 - e = 1 := by omega
            rw [if_pos h5, e2]; rfl
          · have e2 : i - r - 1 - e = (i - r - 1 - e - 2) + 2 := by omega
            rw [if_neg h5, e2]; rfl
/-- the count after a tab behind b blanks -/
def tabs (b : Nat) (ns : List Int) : List Int := (ns ++ List.replicate (b + 1 - ns.length) 0).set b ((ns ++ List.replicate (b + 1 - ns.length) 0).getD b 0 + 1)
theorem tabs_len (b : Nat) (ns : List Int) : (tabs b ns).length = max (b + 1) ns.length := by
  unfold tabs
  rw [List.length_set, List.length_append, List.length_replicate]
  omega
structure WC where
  b : Int
  n : Int
  nt : Int
  tb : Tok
  tn : Tok
  tt : Tok
  D : Addr
  vs : List Value
  cc : Nat
def WP (r e : Nat) (i : Nat) (c : WC) : Prop :=
  ∃ ns, IntsAre c.vs ns ∧ ((i ≤ r ∧ c.b = i ∧ c.n = i ∧ c.nt = 0 ∧ ns = []) ∨ (r < i ∧ i ≤ r + 1 + e ∧ c.b = (i : Int) - r - 1 ∧ c.n = i ∧ c.nt = 1 ∧ ns = tabs r []) ∨ (i = r + e + 2 ∧ c.b = 0 ∧ c.n = i ∧ c.nt = 2 ∧ ns = tabs e (tabs r [])))
theorem ws_at {r e i k : Nat} {c : WC} (hr : r ≤ 5) (he : e ≤ 2) (hk : (wsText r e).cps[i]? = some k) (hP : WP r e i c) :
    (k = 32 ∧ 0 ≤ c.b ∧ c.b ≤ 5 ∧ 0 ≤ c.n ∧ c.n ≤ 20 ∧ ∀ c' : WC, c'.b = c.b + 1 → c'.n = c.n + 1 → c'.nt = c.nt → c'.vs = c.vs → WP r e (i + 1) c') ∨
    (k = 9 ∧ 0 ≤ c.b ∧ c.b ≤ 5 ∧ 0 ≤ c.n ∧ c.n ≤ 20 ∧ 0 ≤ c.nt ∧ c.nt ≤ 2 ∧ ∃ ns, IntsAre c.vs ns ∧ ns.length ≤ 6 ∧ ∀ c' : WC, c'.b = 0 → c'.n = c.n + 1 → c'.nt = c.nt + 1 → IntsAre c'.vs (tabs c.b.toNat ns) → WP r e (i + 1) c') ∨
    (k = 120 ∧ c.b = 0 ∧ c.nt = 2 ∧ 0 ≤ c.n ∧ c.n ≤ 20 ∧ IntsAre c.vs (tabs e (tabs r []))) := by
  rw [ws_sign] at hk
  obtain ⟨ns, hv, h | h | h⟩ := hP
  · obtain ⟨h1, h2, h3, h4, h5⟩ := h
    subst h5
    by_cases g : i < r
    · rw [if_pos g] at hk
      refine .inl ⟨(Option.some.inj hk).symm, by omega, by omega, by omega, by omega, fun c' a1 a2 a3 a4 => ⟨[], a4 ▸ hv, .inl ⟨by omega, by omega, by omega, by omega, rfl⟩⟩⟩
    · have g' : i = r := by omega
      subst g'
      rw [if_neg g, if_pos rfl] at hk
      refine .inr (.inl ⟨(Option.some.inj hk).symm, by omega, by omega, by omega, by omega, by omega, by omega, [], hv, by simp, fun c' a1 a2 a3 a4 => ⟨_, a4, .inr (.inl ⟨by omega, by omega, by omega, by omega, by omega, ?_⟩)⟩⟩)
      rw [h2]; rfl
  · obtain ⟨h0, h1, h2, h3, h4, h5⟩ := h
    subst h5
    rw [if_neg (by omega), if_neg (by omega)] at hk
    by_cases g : i < r + 1 + e
    · rw [if_pos g] at hk
      refine .inl ⟨(Option.some.inj hk).symm, by omega, by omega, by omega, by omega, fun c' a1 a2 a3 a4 => ⟨_, a4 ▸ hv, .inr (.inl ⟨by omega, by omega, by omega, by omega, by omega, rfl⟩)⟩⟩
    · have g' : i = r + 1 + e := by omega
      subst g'
      rw [if_neg g, if_pos rfl] at hk
      refine .inr (.inl ⟨(Option.some.inj hk).symm, by omega, by omega, by omega, by omega, by omega, by omega, _, hv, by rw [tabs_len]; simp; omega, fun c' a1 a2 a3 a4 => ⟨_, a4, .inr (.inr ⟨by omega, by omega, by omega, by omega, ?_⟩)⟩⟩)
      have e1 : c.b.toNat = e := by omega
      rw [e1]
  · obtain ⟨h1, h2, h3, h4, h5⟩ := h
    subst h5
    rw [if_neg (by omega), if_neg (by omega), if_neg (by omega), if_neg (by omega), if_pos (by omega)] at hk
    exact .inr (.inr ⟨(Option.some.inj hk).symm, h2, h4, by omega, by omega, hv⟩)
abbrev wled (tl : List (Addr × Obj)) (c : WC) : List (Addr × Obj) := (c.D, listOf c.vs.toArray c.cc) :: tl
abbrev wps (x : Addr) (c : WC) : List (Str × Value) := [(Str.ofString "b", .int c.b c.tb), (Str.ofString "n", .int c.n c.tn), (Str.ofString "nt", .int c.nt c.tt), (Str.ofString "count", .ref c.D), (Str.ofString "S", .str (Str.ofString " ") 243), (Str.ofString "T", .str (Str.ofString "\t") 244), (Str.ofString "self", .ref x)]
theorem ws_turn {h₀ h' : Heap} {L I x D : Addr} {it : Obj} {s₁ : Shared} {tk : Nat} {m' : Str → Option Value} {all tl : List (Addr × Obj)} {P : Nat → WC → Prop} {i : Nat} {b n nt : Int} {tb tn tt : Tok} {vs : List Value} {cc : Nat} (F : Fr h₀ L h' m') (N : News h₀ L h' all)
    (hI : (I, it) ∈ all) (hD : (D, listOf vs.toArray cc) ∈ all) (htl : ∀ p ∈ tl, p ∈ all) (hne : D ≠ I) (hnt : ∀ p ∈ tl, p.1 ≠ I)
    (k1 : m' (Str.ofString "b") = some (.int b tb)) (k2 : m' (Str.ofString "n") = some (.int n tn)) (k3 : m' (Str.ofString "nt") = some (.int nt tt)) (k4 : m' (Str.ofString "count") = some (.ref D))
    (k5 : m' (Str.ofString "S") = some (.str (Str.ofString " ") 243)) (k6 : m' (Str.ofString "T") = some (.str (Str.ofString "\t") 244)) (k7 : m' (Str.ofString "self") = some (.ref x)) (hP : P i ⟨b, n, nt, tb, tn, tt, D, vs, cc⟩) :
    UnrEnd h₀ L s₁ I it (JS (wled tl) (wps x) P i) { s₁ with heap := h', toks := tk } :=
  UnrEnd.js F N ⟨b, n, nt, tb, tn, tt, D, vs, cc⟩ hI (List.forall_mem_cons.mpr ⟨hD, htl⟩) (List.forall_mem_cons.mpr ⟨hne, hnt⟩)
    (List.forall_mem_cons.mpr ⟨k1, List.forall_mem_cons.mpr ⟨k2, List.forall_mem_cons.mpr ⟨k3, List.forall_mem_cons.mpr ⟨k4, List.forall_mem_cons.mpr ⟨k5, List.forall_mem_cons.mpr ⟨k6, List.forall_mem_cons.mpr ⟨k7, List.forall_mem_nil _⟩⟩⟩⟩⟩⟩⟩) hP
theorem ws_apart {h₀ h : Heap} {L I D Dt x d C : Addr} {it : Obj} {v ts : Array Value} {cc k nt : Nat} {es : List DictEntry} (N : News h₀ L h ((I, it) :: (D, listOf v cc) :: (Dt, { cls := .type "tuple", data := .seq ts nt }) :: (x, instObj C d) :: (d, dictOf es k) :: []))
    (hne : ∀ p ∈ [(D, listOf v cc), (Dt, { cls := .type "tuple", data := .seq ts nt }), (x, instObj C d), (d, dictOf es k)], p.1 ≠ I) :
    (@Ne Nat D Dt ∧ @Ne Nat D x ∧ @Ne Nat D d) ∧ (@Ne Nat D I ∧ @Ne Nat Dt I ∧ @Ne Nat x I ∧ @Ne Nat d I) := by
  have o1 := (N (D, listOf v cc) (.tail _ (.head _))).1
  refine ⟨⟨fun e => ?_, fun e => ?_, fun e => ?_⟩, hne _ (.head _), hne _ (.tail _ (.head _)), hne _ (.tail _ (.tail _ (.head _))), hne _ (.tail _ (.tail _ (.tail _ (.head _))))⟩
  · have o2 := (N (Dt, { cls := .type "tuple", data := .seq ts nt }) (.tail _ (.tail _ (.head _)))).1
    have e' : D = Dt := e
    subst e'
    rw [o1] at o2
    exact absurd (Value.type.inj (congrArg Obj.cls (Option.some.inj o2))) (by decide)
  · have o2 := (N (x, instObj C d) (.tail _ (.tail _ (.tail _ (.head _))))).1
    have e' : D = x := e
    subst e'
    rw [o1] at o2
    exact nomatch (congrArg Obj.cls (Option.some.inj o2))
  · have o2 := (N (d, dictOf es k) (.tail _ (.tail _ (.tail _ (.tail _ (.head _)))))).1
    have e' : D = d := e
    subst e'
    rw [o1] at o2
    exact absurd (Value.type.inj (congrArg Obj.cls (Option.some.inj o2))) (by decide)
abbrev tupOf (vs : List Value) : Obj := { cls := .type "tuple", data := .seq vs.toArray }
theorem ws_back {g h₀ h' : Heap} {L L' x d Tn Tc I D Dt : Addr} {m' : Str → Option Value} {on oc oi ol ot od : Obj} {news : List (Addr × Obj)} (bk : Back g h₀ L [(x, instObj 97 d), (d, dictOf [] 0)] ((x, instObj 97 d) :: (d, dictOf [] 0) :: news)) (F' : Fr g L' h' m')
    (N' : News h₀ L h' [(Tn, on), (Tc, oc), (I, oi), (D, ol), (Dt, ot), (x, instObj 97 d), (d, od)]) (l1 : ∀ p ∈ news, p.1 < d) (l2 : @LT.lt Nat _ d x) : News h₀ L h' ((x, instObj 97 d) :: (d, od) :: (Tn, on) :: (Tc, oc) :: news) :=
  bk.gen (tl := [(x, instObj 97 d), (d, od), (Tn, on), (Tc, oc)]) (kp := news) F' (cb_drop N' (by
    intro p hp
    simp only [List.mem_cons, List.not_mem_nil, or_false] at hp ⊢
    rcases hp with h | h | h | h <;> simp [h])) fun q hq => ⟨.tail _ (.tail _ hq), fun hm => by
    have hlt : @LT.lt Nat _ q.1 d := l1 q hq
    rcases List.mem_cons.mp hm with e | hm
    · have e' : @Eq Nat q.1 x := e
      omega
    · have e' : @Eq Nat q.1 d := List.mem_singleton.mp hm
      omega⟩
theorem ws_end {r e : Nat} {c : WC} (hP : WP r e (wsText r e).cps.size c) : False := by
  have h : (wsText r e).cps.size = r + e + 3 := by
    show (List.replicate r 32 ++ 9 :: (List.replicate e 32 ++ [9, 120])).toArray.size = _
    simp; omega
  rw [h] at hP
  obtain ⟨_, _, h | h | h⟩ := hP <;> omega
end Mine

namespace Mine
open PySem PySem.Spec PySem.Calls PyProof.Rows PySem.W
def bl (n : Int) : Str := ⟨(List.replicate n.toNat 32).toArray⟩
def ld1 (n : Int) : Str := bl n ++ Str.ofString "\t"
def ld2 (n k : Int) : Str := ld1 n ++ bl k
theorem six {n : Int} (h : 0 ≤ n ∧ n ≤ 5) : n = 0 ∨ n = 1 ∨ n = 2 ∨ n = 3 ∨ n = 4 ∨ n = 5 := by omega
section
variable {prog : Program} {w : World} {A : Around} {E : Value → Shared → Prop} {s : Shared} {Q : Value → Shared → Prop} {t u : Tok} {n k : Int}
theorem bl_mul (h : 0 ≤ n ∧ n ≤ 5) : Txt.mul (Str.ofString " ") n = bl n := by
  rcases six h with rfl | rfl | rfl | rfl | rfl | rfl <;> decide +kernel
theorem lead_0 (hn : 0 ≤ n ∧ n ≤ 5) (h : ∀ t tk, Q (.str (bl n) t) { s with toks := tk }) : wpAny (model prog w) A (binaryOp .Mult (.str (Str.ofString " ") t) (.int n u)) Q E s :=
  SB.mul (mulOk_of 16 16 (by decide) (by omega) (by omega) (by decide) (by decide)) fun t' k => by rw [bl_mul hn]; exact h _ _
theorem lead_1 (hn : 0 ≤ n ∧ n ≤ 5) (h : ∀ t tk, Q (.str (ld1 n) t) { s with toks := tk }) : wpAny (model prog w) A (binaryOp .Add (.str (bl n) t) (.str (Str.ofString "\t") u)) Q E s :=
  PyProof.Rows.add_str h (by rcases six hn with rfl | rfl | rfl | rfl | rfl | rfl <;> decide +kernel)
theorem lead_2 (hn : 0 ≤ n ∧ n ≤ 5) (hk : 0 ≤ k ∧ k ≤ 2) (h : ∀ t tk, Q (.str (ld2 n k) t) { s with toks := tk }) : wpAny (model prog w) A (binaryOp .Add (.str (ld1 n) t) (.str (bl k) u)) Q E s :=
  PyProof.Rows.add_str h (by
    have h3 : k = 0 ∨ k = 1 ∨ k = 2 := by omega
    rcases six hn with rfl | rfl | rfl | rfl | rfl | rfl <;> rcases h3 with rfl | rfl | rfl <;> decide +kernel)
theorem lead_3 (hn : 0 ≤ n ∧ n ≤ 5) (hk : 0 ≤ k ∧ k ≤ 2) (h : ∀ t tk, Q (.str (wsText n.toNat k.toNat) t) { s with toks := tk }) : wpAny (model prog w) A (binaryOp .Add (.str (ld2 n k) t) (.str (Str.ofString "\tx") u)) Q E s := by
  have h3 : k = 0 ∨ k = 1 ∨ k = 2 := by omega
  have e : ld2 n k ++ Str.ofString "\tx" = wsText n.toNat k.toNat := by
    rcases six hn with rfl | rfl | rfl | rfl | rfl | rfl <;> rcases h3 with rfl | rfl | rfl <;> decide +kernel
  refine PyProof.Rows.add_str (fun t' tk => by rw [e]; exact h _ _) ?_
  rcases six hn with rfl | rfl | rfl | rfl | rfl | rfl <;> rcases h3 with rfl | rfl | rfl <;> decide +kernel
end
/-- the sum over the first i turns -/
def ilf (size : Int) (ns : List Int) : Nat → Int
  | 0 => 0
  | i + 1 => ilf size ns i + (size + (i : Int)) / size * ns.getD (size + (i : Int)).toNat 0
theorem col_chk : ((List.range 6).all fun r => (List.range 3).all fun e => (List.range 3).all fun z => ((z + 1 : Int) * (ilf (z + 1) (tabs e (tabs r [])) (((tabs e (tabs r [])).length : Int) - (z + 1)).toNat + 2) == ((r : Int) / (z + 1) + (e : Int) / (z + 1) + 2) * (z + 1))) = true := by decide +kernel
theorem col_is {n k z : Int} (hn : 0 ≤ n ∧ n ≤ 5) (hk : 0 ≤ k ∧ k ≤ 2) (hz : 1 ≤ z ∧ z ≤ 3) :
    0 + z * (ilf z (tabs k.toNat (tabs n.toNat [])) (((tabs k.toNat (tabs n.toNat [])).length : Int) - z).toNat + 2) = (n / z + k / z + 2) * z := by
  have h1 := List.all_eq_true.mp col_chk n.toNat (List.mem_range.mpr (by omega))
  have h2 := List.all_eq_true.mp h1 k.toNat (List.mem_range.mpr (by omega))
  have h3 := List.all_eq_true.mp h2 (z - 1).toNat (List.mem_range.mpr (by omega))
  have e1 : (((z - 1).toNat : Nat) : Int) + 1 = z := by omega
  have e2 : ((n.toNat : Nat) : Int) = n := by omega
  have e3 : ((k.toNat : Nat) : Int) = k := by omega
  simp only [e1, e2, e3, beq_iff_eq] at h3
  rw [Int.zero_add]
  exact h3
theorem tabs_bound {b : Nat} {ns : List Int} {c : Int} (h : ∀ k, 0 ≤ ns.getD k 0 ∧ ns.getD k 0 ≤ c) (hc : 0 ≤ c) : ∀ k, 0 ≤ (tabs b ns).getD k 0 ∧ (tabs b ns).getD k 0 ≤ c + 1 := by
  have g : ∀ k, 0 ≤ (ns ++ List.replicate (b + 1 - ns.length) 0).getD k 0 ∧ (ns ++ List.replicate (b + 1 - ns.length) 0).getD k 0 ≤ c := by
    intro k
    rw [List.getD_eq_getElem?_getD, List.getElem?_append]
    by_cases h1 : k < ns.length
    · rw [if_pos h1, ← List.getD_eq_getElem?_getD]; exact h k
    · rw [if_neg h1, List.getElem?_replicate]
      by_cases h2 : k - ns.length < b + 1 - ns.length
      · rw [if_pos h2]; exact ⟨Int.le_refl 0, hc⟩
      · rw [if_neg h2]; exact ⟨Int.le_refl 0, hc⟩
  intro k
  unfold tabs
  rw [List.getD_eq_getElem?_getD, List.getElem?_set]
  by_cases h1 : b = k
  · rw [if_pos h1]
    have g1 := g b
    by_cases h2 : b < (ns ++ List.replicate (b + 1 - ns.length) 0).length
    · rw [if_pos h2]
      show 0 ≤ _ + 1 ∧ _ + 1 ≤ _
      omega
    · rw [if_neg h2]
      show 0 ≤ (0 : Int) ∧ (0 : Int) ≤ _
      omega
  · rw [if_neg h1, ← List.getD_eq_getElem?_getD]
    have g1 := g k
    omega
theorem tabs2_bound (e r k : Nat) : 0 ≤ (tabs e (tabs r [])).getD k 0 ∧ (tabs e (tabs r [])).getD k 0 ≤ 2 :=
  tabs_bound (c := 1) (tabs_bound (c := 0) (fun k => by simp) (Int.le_refl 0)) (by decide) k
theorem tabs2_len {e r : Nat} (he : e ≤ 2) (hr : r ≤ 5) : 1 ≤ (tabs e (tabs r [])).length ∧ (tabs e (tabs r [])).length ≤ 6 := by
  rw [tabs_len, tabs_len, List.length_nil]; omega
end Mine

namespace Mine
open PySem PySem.Spec PySem.Calls PyProof.Rows PySem.W
theorem drawn_is (ns : List Int) : ∃ d0 d1 d2 d3 d4 d5 d6 rest, ns ++ ([8, 6, 15, 4, 11, 9, 1] : List Int).drop ((ns.length : Nat) : Int).toNat = d0 :: d1 :: d2 :: d3 :: d4 :: d5 :: d6 :: rest := by
  rcases ns with _ | ⟨a, _ | ⟨b, _ | ⟨c, _ | ⟨d, _ | ⟨e, _ | ⟨f, _ | ⟨g, r⟩⟩⟩⟩⟩⟩⟩
  all_goals exact ⟨_, _, _, _, _, _, _, _, rfl⟩
theorem ints_drawn {ws : List Value} {ns : List Int} (h : IntsAre ws (ns ++ ([8, 6, 15, 4, 11, 9, 1] : List Int).drop ((ns.length : Nat) : Int).toNat)) : ∃ d0 d1 d2 d3 d4 d5 d6 rest, IntsAre ws (d0 :: d1 :: d2 :: d3 :: d4 :: d5 :: d6 :: rest) ∧ ws.length ≤ ns.length + 7 := by
  have hl := h.length
  rw [List.length_append, List.length_drop] at hl
  obtain ⟨d0, d1, d2, d3, d4, d5, d6, rest, e⟩ := drawn_is ns
  rw [e] at h
  exact ⟨d0, d1, d2, d3, d4, d5, d6, rest, h, by simp only [List.length_cons, List.length_nil] at hl; omega⟩
theorem ints7 {a b c d e f g : Int} {t1 t2 t3 t4 t5 t6 t7 : Tok} : IntsAre [.int a t1, .int b t2, .int c t3, .int d t4, .int e t5, .int f t6, .int g t7] [a, b, c, d, e, f, g] :=
  .cons _ _ (.cons _ _ (.cons _ _ (.cons _ _ (.cons _ _ (.cons _ _ (.cons _ _ .nil))))))
theorem ints6 {ws : List Value} {a b c d e f : Int} (h : IntsAre ws [a, b, c, d, e, f]) : ∃ t1 t2 t3 t4 t5 t6, ws = [.int a t1, .int b t2, .int c t3, .int d t4, .int e t5, .int f t6] := by
  cases h with
  | cons i t1 h => cases h with
    | cons i t2 h => cases h with
      | cons i t3 h => cases h with
        | cons i t4 h => cases h with
          | cons i t5 h => cases h with
            | cons i t6 h => cases h with
              | nil => exact ⟨_, _, _, _, _, _, rfl⟩
end Mine

namespace Mine
open PySem PySem.Spec PySem.Calls PyProof.Rows PySem.W LCg
/-- a comprehension whose name is kept in a cell of its own: the rest of its turns -/
def Off4 (I C X D : Addr) (l : List (Addr × Obj)) : Prop := ∀ p ∈ l, p.1 ≠ I ∧ p.1 ≠ C ∧ p.1 ≠ X ∧ p.1 ≠ D
def NestEnd (h₀ : Heap) (L : Addr) (m : Str → Option Value) (s₁ : Shared) (I : Addr) (oI : Obj) (C : Addr) (oC : Obj) (X : Addr) (oX : Obj) (D : Addr) (oD : Obj) (S : List (Addr × Obj) → Prop) (rest : Value → List (Addr × Obj) → Prop) (y : Value) (s₂ : Shared) : Prop :=
  ∃ h' tk news', s₂ = { s₁ with heap := h', toks := tk } ∧ Fr h₀ L h' m ∧ News h₀ L h' ((I, oI) :: (C, oC) :: (X, oX) :: (D, oD) :: news') ∧ Off4 I C X D news' ∧ S news' ∧ rest y news'
def NestRest (prog : Program) (w : World) (A : Around) (h₀ : Heap) (L : Addr) (m : Str → Option Value) (env : Env) (elt : PySem.Expr) (x : Str) (scope : Scope) (cl : List (Str × Addr)) (s : Shared) (S : List (Addr × Obj) → Prop) (P : Nat → Value → Prop)
    (Fin : List Value → List (Addr × Obj) → Prop) : Nat → Nat → List Value → List (Addr × Obj) → Prop
  | 0, _, ys, news => Fin ys news
  | k + 1, i, ys, news => ∀ v I oI C oC X oX D h tk (E' : Value → Shared → Prop), P i v → oX.data = .cell (some v) → Fr h₀ L h m → News h₀ L h ((I, oI) :: (C, oC) :: (X, oX) :: (D, lst ys) :: news) → Off4 I C X D news →
      (@Ne Nat I C ∧ @Ne Nat I X ∧ @Ne Nat I D ∧ @Ne Nat C X ∧ @Ne Nat C D ∧ @Ne Nat X D) →
      wpAny (model prog w) A (eval elt (compEnvC scope ((x, X) :: cl) C env)) (NestEnd h₀ L m { s with heap := h, toks := tk } I oI C oC X oX D (lst ys) S (fun y news' => NestRest prog w A h₀ L m env elt x scope cl s S P Fin k (i + 1) (ys ++ [y]) news')) E' { s with heap := h, toks := tk }
section
variable {prog : Program} {w : World} {A : Around} {E : Value → Shared → Prop} {s : Shared} {h₀ : Heap} {L : Addr} {m : Str → Option Value} {env : Env}
theorem off1_of {D : Addr} : ∀ {l : List (Addr × Obj)}, (∀ p ∈ l, p.1 ≠ D) → Off1 D l
  | [], _ => trivial
  | _ :: _, h => ⟨h _ (.head _), off1_of fun p hp => h p (.tail _ hp)⟩
theorem nest_env {scope : Scope} {x : Str} {cl : List (Str × Addr)} {Q : Env → Shared → Prop} (hcf : ∀ k, cellsFrom k scope.names cl = (x, k) :: cl) (hpc : ∀ h, pushCells h scope.names = h.push { cls := .type "cell", data := .cell none })
    (hQ : Q { scope := scope, locals := s.heap.objs.size, globals := env.globals, cells := (x, s.heap.objs.size + 1) :: cl, qual := env.qual, func := none, code := env.code, frame := env.frame, builtins := env.builtins }
      { s with heap := (s.heap.push { cls := .type "dict", data := .dict #[] }).push { cls := .type "cell", data := .cell none } }) :
    wpAny (model prog w) A (newFunctionEnv scope env.globals cl [] env.qual none .none (some env)) Q E s := by
  simp only [newFunctionEnv, Option.isSome_some, if_true]
  refine wpAny_bind (wpAny_alloc ?_)
  refine wpAny_bind (wpAny_layCells _ (fun name kind cells => by cases hkc : kind == NameKind.cell <;> simp [hkc]) _ _ _ _ ?_)
  rw [hcf, hpc]
  refine wpAny_bind ?_
  rw [List.forIn_nil]
  refine wpAny_pure (wpAny_pure ?_)
  have e : ({ s with heap := s.heap.push { cls := .type "dict", data := .dict #[] } } : Shared).heap.objs.size = s.heap.objs.size + 1 := Heap.size_push ..
  rw [e]
  exact hQ
theorem nest_block {elt iter : PySem.Expr} {x : Str} {px : Pos} {scope : Scope} {cl : List (Str × Addr)} {pos : Pos} {s₂ : Shared} {I : Addr} {fp : List Addr} {n : Nat} {P : Nat → Value → Prop} {St : Nat → Heap → Prop} {S : List (Addr × Obj) → Prop} {news : List (Addr × Obj)}
    {Fin : List Value → List (Addr × Obj) → Prop} {RR : Value → Addr → Result → Shared → Prop}
    (W : Walks prog w A I fp [I] n P St) (hsz : n ≤ sizeLine) (hIo : ∀ i h, St i h → ∃ o, h.get? I = some o)
    (hSt : ∀ i h h' o nw, St i h → h.get? I = some o → h'.get? I = some o → (∀ b o, h₀.get? b = some o → h'.get? b = some o) → News h₀ L h' nw → S nw → St i h')
    (hcf : ∀ k, cellsFrom k scope.names cl = (x, k) :: cl) (hpc : ∀ h, pushCells h scope.names = h.push { cls := .type "cell", data := .cell none }) (hkind : scope.kind = .function)
    (hx : ∀ C X, (compEnvC scope ((x, X) :: cl) C env).kindOf x = some .cell) (hst : St 0 s₂.heap) (hfp : ∀ b ∈ fp, b < s₂.heap.objs.size)
    (F : Fr h₀ L s₂.heap m) (N : News h₀ L s₂.heap news) (hIL : L ≠ I) (hI₀ : h₀.get? I = none) (off : ∀ p ∈ news, p.1 ≠ I) (hS : S news)
    (R : NestRest prog w A h₀ L m env elt x scope cl s₂ S P Fin n 0 [] news)
    (hRR : ∀ D C h tk m' ys news', Fr h₀ L h m → News h₀ L h ((D, lst ys) :: news') → Off1 D news' → h.Ns C m' → h₀.get? C = none → C ≠ L → C ≠ D → (∀ p ∈ news', p.1 ≠ C) → Fin ys news' → RR (.ref D) C (.ok .next) { s₂ with heap := h, toks := tk }) :
    wpAny (model prog w) A (newList []) (fun acc s₃ => wpAny (model prog w) A (newFunctionEnv scope env.globals cl [] env.qual none .none (some env)) (fun cenv s₄ =>
      codeAny (model prog w) A (.compStart (.ListComp elt [⟨.Name x px, iter, [], 0⟩] scope pos) 0 (.ref I) acc { cenv with scope := relabel scope env }) (RR acc cenv.locals) s₄) E s₃) E s₂ := by
  refine wpAny_newObj_type (nest_env hcf hpc ?_)
  dsimp only
  have hD0 : (s₂.heap.push { cls := .type "list", dict := none, data := .seq ([] : List Value).toArray }).objs.size = s₂.heap.objs.size + 1 := Heap.size_push ..
  rw [hD0]
  generalize hH : ((s₂.heap.push { cls := .type "list", dict := none, data := .seq ([] : List Value).toArray }).push { cls := .type "dict", data := .dict #[] }).push { cls := .type "cell", data := .cell none } = h₁
  have z1 := Heap.size_push (h := s₂.heap) (o := { cls := .type "list", dict := none, data := .seq ([] : List Value).toArray })
  have old : ∀ b o, s₂.heap.get? b = some o → h₁.get? b = some o := fun b o e => hH ▸ Heap.get?_push_of_some _ (Heap.get?_push_of_some _ (Heap.get?_push_of_some _ e))
  generalize hDd : s₂.heap.objs.size = D at *
  have gD : h₁.get? D = some (lst []) := by
    rw [← hH]
    exact Heap.get?_push_of_some _ (Heap.get?_push_of_some _ (hDd ▸ Heap.get?_push_size _ rfl))
  have gC : h₁.get? (D + 1) = some { cls := .type "dict", data := .dict #[] } := by
    rw [← hH]
    refine Heap.get?_push_of_some _ ?_
    have := Heap.get?_push_size (s₂.heap.push { cls := .type "list", dict := none, data := .seq ([] : List Value).toArray }) (o := { cls := .type "dict", data := .dict #[] }) rfl
    rwa [z1] at this
  have gX : h₁.get? (D + 1 + 1) = some { cls := .type "cell", data := .cell none } := by
    rw [← hH]
    have z2 := Heap.size_push (h := s₂.heap.push { cls := .type "list", dict := none, data := .seq ([] : List Value).toArray }) (o := { cls := .type "dict", data := .dict #[] })
    have := Heap.get?_push_size ((s₂.heap.push { cls := .type "list", dict := none, data := .seq ([] : List Value).toArray }).push { cls := .type "dict", data := .dict #[] }) (o := { cls := .type "cell", data := .cell none }) rfl
    rwa [z2, z1] at this
  have fresh₀ : ∀ a, D ≤ a → h₀.get? a = none := fun a ha => by
    cases e : h₀.get? a with
    | none => rfl
    | some o' => exact absurd (Heap.lt_size (F.keep a o' e)) (Nat.not_lt.mpr (hDd ▸ ha))
  have hLD : @LT.lt Nat _ L D := hDd ▸ F.ns.lt
  have hID : @LT.lt Nat _ I D := hDd ▸ (by rw [hDd]; exact hfp I (W.sub I (List.mem_singleton.mpr rfl)))
  have hDL : D ≠ L := Nat.ne_of_gt hLD
  have hCL : D + 1 ≠ L := Nat.ne_of_gt (Nat.lt_succ_of_lt hLD)
  have hXL : D + 1 + 1 ≠ L := Nat.ne_of_gt (Nat.lt_succ_of_lt (Nat.lt_succ_of_lt hLD))
  have hCI : I ≠ D + 1 := Nat.ne_of_lt (Nat.lt_succ_of_lt hID)
  have hXI : I ≠ D + 1 + 1 := Nat.ne_of_lt (Nat.lt_succ_of_lt (Nat.lt_succ_of_lt hID))
  have hDI : I ≠ D := Nat.ne_of_lt hID
  have hCD : D + 1 ≠ D := Nat.succ_ne_self D
  have hXD : D + 1 + 1 ≠ D := Nat.ne_of_gt (Nat.lt_succ_of_lt (Nat.lt_succ_self D))
  have hXC : D + 1 + 1 ≠ D + 1 := Nat.succ_ne_self _
  have hDf : D ∉ fp := fun hm => Nat.lt_irrefl _ (hfp _ hm)
  have hCf : D + 1 ∉ fp := fun hm => Nat.lt_irrefl _ (Nat.lt_of_succ_lt (hfp _ hm))
  have hXf : D + 1 + 1 ∉ fp := fun hm => Nat.lt_irrefl _ (Nat.lt_of_succ_lt (Nat.lt_of_succ_lt (hfp _ hm)))
  have nlt : ∀ p ∈ news, @LT.lt Nat _ p.1 D := fun p hp => by rw [← hDd]; exact Heap.lt_size (N p hp).1
  have off₀ : Off4 I (D + 1) (D + 1 + 1) D news := fun p hp => ⟨off p hp, Nat.ne_of_lt (Nat.lt_succ_of_lt (nlt p hp)), Nat.ne_of_lt (Nat.lt_succ_of_lt (Nat.lt_succ_of_lt (nlt p hp))), Nat.ne_of_lt (nlt p hp)⟩
  have hst₁ : St 0 h₁ := W.frame _ _ _ hst fun b _ o e => old b o e
  have loop : ∀ s₃ : Shared, s₃ = { s₂ with heap := h₁ } →
      codeAny (model prog w) A (.compLoop (.ListComp elt [⟨.Name x px, iter, [], 0⟩] scope pos) 0 (.ref I) (.ref D) (compEnvC scope ((x, D + 1 + 1) :: cl) (D + 1) env)) (RR (.ref D) (D + 1)) s₃ := by
    rintro s₃ rfl
    refine codeAny_compLoop_tests
      (fun k s' => ∃ h' tk i ys oC oX v₀ news', s' = { s₂ with heap := h', toks := tk } ∧ i ≤ n ∧ k = n + 1 - i ∧ ys.length = i ∧ St i h' ∧ Fr h₀ L h' m ∧ oC.data = .dict #[] ∧ oX.data = .cell v₀ ∧ News h₀ L h' ((D + 1, oC) :: (D + 1 + 1, oX) :: (D, lst ys) :: news') ∧
        Off4 I (D + 1) (D + 1 + 1) D news' ∧ S news' ∧ NestRest prog w A h₀ L m env elt x scope cl s₂ S P Fin (n - i) i ys news') ?_ (n + 1)
      ⟨h₁, _, 0, [], { cls := .type "dict", data := .dict #[] }, { cls := .type "cell", data := .cell none }, none, news, rfl, Nat.zero_le _, rfl, rfl, hst₁, F.keeps old, rfl, rfl, fun p hp => ?_, off₀, hS, R⟩
    · rintro k s' ⟨h', tk, i, ys, oC, oX, v₀, news', rfl, hi, rfl, hyl, hst', F', hdC, hdX, N', off', hS', R'⟩
      have own : ∀ p ∈ (D + 1, oC) :: (D + 1 + 1, oX) :: (D, lst ys) :: news', p.1 ≠ I := fun p hp => by
        rcases List.mem_cons.mp hp with rfl | hp
        · exact Ne.symm hCI
        · rcases List.mem_cons.mp hp with rfl | hp
          · exact Ne.symm hXI
          · rcases List.mem_cons.mp hp with rfl | hp
            · exact Ne.symm hDI
            · exact (off' p hp).1
      by_cases hlt : i < n
      · obtain ⟨j, hj⟩ : ∃ j, n - i = j + 1 := ⟨n - i - 1, by omega⟩
        rw [hj] at R'
        refine W.item i _ _ _ hlt hst' fun v h₂ tk₂ hPv hst₂ hk₂ => ?_
        have N₂ := news_but N' hk₂ own
        refine wpAny_assign_Name (wpAny_storeName_cell (c := D + 1 + 1) hkind (hx _ _) (by show List.lookup x ((x, D + 1 + 1) :: cl) = _; simp) ⟨oX, (N₂ _ (.tail _ (.head _))).1, hdX⟩ (fun h₃ hv₃ hs₃ => ?_))
        refine wpAny_tests_nil ?_
        simp only [if_true]
        obtain ⟨oX', eX, dX⟩ := hv₃
        have hst₃ : St (i + 1) h₃ := W.frame _ _ _ hst₂ fun b hb o e => hs₃.extBut b o (fun q => hXf (by have q' : b = D + 1 + 1 := q; rw [← q']; exact hb)) e
        obtain ⟨oI, heI⟩ := hIo _ _ hst₃
        have F₃ : Fr h₀ L h₃ m := (fr_but F' hk₂ hIL hI₀).change hs₃ hXL (fresh₀ _ (by omega))
        have N₃ : News h₀ L h₃ ((I, oI) :: (D + 1, oC) :: (D + 1 + 1, oX') :: (D, lst ys) :: news') := fun p hp => by
          rcases List.mem_cons.mp hp with rfl | hp
          · exact ⟨heI, Ne.symm hIL, hI₀⟩
          · rcases List.mem_cons.mp hp with rfl | hp
            · have z := N₂ _ (.head _)
              exact ⟨hs₃.extBut _ _ (Ne.symm hXC) z.1, z.2⟩
            · rcases List.mem_cons.mp hp with rfl | hp
              · exact ⟨eX, hXL, fresh₀ _ (by show D ≤ D + 1 + 1; omega)⟩
              · have z := N₂ p (.tail _ (.tail _ hp))
                refine ⟨hs₃.extBut _ _ ?_ z.1, z.2⟩
                rcases List.mem_cons.mp hp with rfl | hp
                · exact Ne.symm hXD
                · exact (off' p hp).2.2.1
        refine wpAny_mono (R' v I oI (D + 1) oC (D + 1 + 1) oX' D h₃ _ _ hPv dX F₃ N₃ off' ⟨hCI, hXI, hDI, Ne.symm hXC, hCD, hXD⟩) (fun y s₄ h₄ => ?_) fun _ _ e => e
        obtain ⟨h₄, tk₄, news₄, rfl, F₄, N₄, off₄, hS₄, R₄⟩ := h₄
        have zI := (N₄ (I, oI) (.head _)).1
        have zD := (N₄ (D, lst ys) (.tail _ (.tail _ (.tail _ (.head _))))).1
        have N₄' : News h₀ L h₄ news₄ := fun p hp => N₄ p (.tail _ (.tail _ (.tail _ (.tail _ hp))))
        have hst₄ : St (i + 1) h₄ := hSt _ _ _ _ _ hst₃ heI zI F₄.keep N₄' hS₄
        refine append_at (hsz := by show ys.toArray.size ≤ sizeLine; rw [List.size_toArray, hyl]; exact Nat.le_trans hi hsz) zD fun h₅ hs₅ hD₅ => ?_
        refine ⟨n + 1 - (i + 1), by omega, h₅, tk₄, i + 1, ys ++ [y], oC, oX', _, news₄, rfl, hlt, rfl, by rw [List.length_append, List.length_singleton, hyl], W.frame _ _ _ hst₄ fun b hb o e => hs₅.extBut b o (fun q => hDf (q ▸ hb)) e, F₄.change hs₅ hDL (fresh₀ _ (Nat.le_refl _)),
          hdC, dX, fun p hp => ?_, off₄, hS₄, ?_⟩
        · rcases List.mem_cons.mp hp with rfl | hp
          · have z := N₄ (D + 1, oC) (.tail _ (.head _))
            exact ⟨hs₅.extBut _ _ hCD z.1, z.2⟩
          · rcases List.mem_cons.mp hp with rfl | hp
            · have z := N₄ (D + 1 + 1, oX') (.tail _ (.tail _ (.head _)))
              exact ⟨hs₅.extBut _ _ hXD z.1, z.2⟩
            · rcases List.mem_cons.mp hp with rfl | hp
              · exact ⟨hD₅.trans (congrArg some (lst_snoc ys y)), hDL, fresh₀ _ (Nat.le_refl _)⟩
              · exact ⟨hs₅.extBut _ _ (off₄ p hp).2.2.2 (N₄' p hp).1, (N₄' p hp).2⟩
        · rw [show n - (i + 1) = j by omega]
          exact R₄
      · obtain rfl : i = n := Nat.le_antisymm hi (Nat.not_lt.mp hlt)
        rw [Nat.sub_self] at R'
        refine W.done _ _ _ hst' fun h₂ tk₂ hk₂ => ?_
        have N₂ := news_but N' hk₂ own
        have zC := (N₂ (D + 1, oC) (.head _)).1
        refine hRR _ _ h₂ tk₂ (fun _ => none) ys news' (fr_but F' hk₂ hIL hI₀) (cb_drop N₂ fun p hp => .tail _ (.tail _ hp)) ?_ ?_ (fresh₀ _ (by omega)) hCL hCD (fun p hp => (off' p hp).2.1) R'
        · exact off1_of fun p hp => (off' p hp).2.2.2
        · exact ⟨oC, _, _, zC, hdC, by unfold StrKeys; simp, fun _ => rfl⟩
    · rcases List.mem_cons.mp hp with rfl | hp
      · exact ⟨gC, hCL, fresh₀ _ (by show D ≤ D + 1; omega)⟩
      · rcases List.mem_cons.mp hp with rfl | hp
        · exact ⟨gX, hXL, fresh₀ _ (by show D ≤ D + 1 + 1; omega)⟩
        · rcases List.mem_cons.mp hp with rfl | hp
          · exact ⟨gD, hDL, fresh₀ _ (Nat.le_refl _)⟩
          · exact ⟨old _ _ (N p hp).1, (N p hp).2⟩
  exact codeAny_compStart_list (loop _ rfl) (W.self 0 _ _ _ hst₁ (loop _ rfl))
def NestSrc (prog : Program) (w : World) (A : Around) (h₀ : Heap) (L : Addr) (m : Str → Option Value) (env : Env) (elt : PySem.Expr) (x : Str) (scope : Scope) (cl : List (Str × Addr)) (Q : Value → Shared → Prop) (xv : Value) (s₁ : Shared) : Prop :=
  (∃ ax its k news, xv = .ref ax ∧ A.handled = none ∧ Fr h₀ L s₁.heap m ∧ News h₀ L s₁.heap news ∧ (ax, ({ cls := .type "list", data := .seq its k } : Obj)) ∈ news ∧ its.size ≤ sizeLine ∧
    ∀ g, NestRest prog w A h₀ L m env elt x scope cl { s₁ with heap := g } (SrcAt h₀ ax its) (fun i v => its[i]? = some v) (FinE h₀ L m { s₁ with heap := g } Q) its.size 0 [] news) ∨
  (∃ r a b t u v n news, xv = .ref r ∧ A.handled = none ∧ Fr h₀ L s₁.heap m ∧ News h₀ L s₁.heap news ∧ IsRange s₁.heap r a b 1 t u v ∧ Builtin.Range.small a b 1 = true ∧ Builtin.Range.rangeSize a b 1 = ((n : Nat) : Int) ∧ n ≤ sizeLine ∧
    ∀ g, NestRest prog w A h₀ L m env elt x scope cl { s₁ with heap := g } (fun _ => True) (fun i v => ∃ t, v = .int (a + (i : Int)) t) (FinE h₀ L m { s₁ with heap := g } Q) n 0 [] news)
theorem nest_comp {elt iter : PySem.Expr} {x : Str} {px : Pos} {scope : Scope} {cl : List (Str × Addr)} {pos : Pos} {Q : Value → Shared → Prop} (F₀ : Fr h₀ L s.heap m)
    (hclos : closureFor scope env = pure cl) (hcf : ∀ k, cellsFrom k scope.names cl = (x, k) :: cl) (hpc : ∀ h, pushCells h scope.names = h.push { cls := .type "cell", data := .cell none }) (hkind : scope.kind = .function)
    (hnames : ∀ y ∈ scope.names, y.2 = .local → scope.names.lookup y.1 = some .local) (hx : ∀ C X, (compEnvC scope ((x, X) :: cl) C env).kindOf x = some .cell)
    (h : wpAny (model prog w) A (eval iter env) (NestSrc prog w A h₀ L m env elt x scope cl Q) E s)
    (hs : ∀ x, foldedSetIterable iter env x = pure x := by intro _; rfl) :
    wpAny (model prog w) A (eval (.ListComp elt [⟨.Name x px, iter, [], 0⟩] scope pos) env) Q E s := by
  have fin_ : ∀ {s₁ : Shared} {g : Heap} {D C : Addr} {h : Heap} {tk : Nat} {m' : Str → Option Value} {ys : List Value} {news' : List (Addr × Obj)}, Fr h₀ L h m → News h₀ L h ((D, lst ys) :: news') → Off1 D news' → h.Ns C m' → h₀.get? C = none → C ≠ L → C ≠ D → (∀ p ∈ news', p.1 ≠ C) → FinE h₀ L m { s₁ with heap := g } Q ys news' →
      ∃ m, ({ s₁ with heap := h, toks := tk } : Shared).heap.Ns C m ∧ ∀ h', Heap.SameBut C ({ s₁ with heap := h, toks := tk } : Shared).heap h' → Q (.ref D) { s₁ with heap := h', toks := tk } := by
    intro s₁ g D C h tk m' ys news' F' N' o1 hn hC₀ hCL hCD offC fin
    refine ⟨m', hn, fun h'' hs'' => fin D h'' tk (F'.change hs'' hCL hC₀) (fun p hp => ?_) o1⟩
    refine ⟨hs''.extBut _ _ ?_ (N' p hp).1, (N' p hp).2⟩
    rcases List.mem_cons.mp hp with rfl | hp
    · exact Ne.symm hCD
    · exact offC p hp
  rw [eval_ListComp]
  refine wpAny_comprehension_free (use := none) rfl hs hclos hkind hnames (wpAny_mono h (fun xv s₁ h₁ => ?_) fun _ _ e => e)
  rcases h₁ with ⟨ax, its, k, news, rfl, hh, F, N, hm, hsz, R⟩ | ⟨r, a, b, t, u, v, n, news, rfl, hh, F, N, hr, hsm, hn, hsz, R⟩
  · have S : SrcAt h₀ ax its news := .inr ⟨_, hm, rfl, _, rfl⟩
    have hl := S.list F.keep N
    have hlt : ax < s₁.heap.objs.size := by obtain ⟨_, e, _⟩ := hl; exact Heap.lt_size e
    refine wpAny_pyIter_list hl ?_
    have up : ∀ b o, s₁.heap.get? b = some o → (s₁.heap.push { cls := .type "list_iterator", data := .fields #[.ref ax, .int 0 0] }).get? b = some o := fun b o e => Heap.get?_push_of_some _ e
    refine nest_block (Walks.list hh s₁.heap.objs.size ax (Nat.ne_of_lt hlt) its) hsz (fun i h st => by obtain ⟨o, e, _⟩ := st.1; exact ⟨o, e⟩) list_st hcf hpc hkind hx ⟨⟨_, Heap.get?_push_size _ rfl, rfl, rfl⟩, hl.push _⟩ (fun b hb => ?_)
      (F.keeps up) (N.grown up) (Nat.ne_of_lt F.ns.lt) (next_is_new F) (fun p hp => Nat.ne_of_lt (Heap.lt_size (N p hp).1)) S (R _) fun D C h tk m' ys news' a b c d e f g h' i' => fin_ a b c d e f g h' i'
    show b < (s₁.heap.push _).objs.size
    rw [Heap.size_push]
    rcases List.mem_cons.mp hb with rfl | hb
    · exact Nat.lt_succ_self _
    · rw [List.mem_singleton.mp hb]; exact Nat.lt_succ_of_lt hlt
  · refine wpAny_pyIter_range hr hsm ?_
    refine nest_block (range_walks hh a n) hsz (fun i h st => ⟨_, st⟩) range_st hcf hpc hkind hx (by show IsRangeIter _ _ _ _ _; rw [hn]; simpa using Heap.get?_push_size _ rfl) (fun b hb => ?_)
      (F.keeps fun _ _ e => Heap.get?_push_of_some _ e) (N.grown fun _ _ e => Heap.get?_push_of_some _ e) (Nat.ne_of_lt F.ns.lt) (next_is_new F) (fun p hp => Nat.ne_of_lt (Heap.lt_size (N p hp).1)) trivial (R _) fun D C h tk m' ys news' a b c d e f g h' i' => fin_ a b c d e f g h' i'
    rw [List.mem_singleton.mp hb]
    show s₁.heap.objs.size < (s₁.heap.push _).objs.size
    rw [Heap.size_push]; exact Nat.lt_succ_self _
theorem NestSrc.ledger {elt : PySem.Expr} {x : Str} {scope : Scope} {cl : List (Str × Addr)} {Q : Value → Shared → Prop} {ax : Addr} {its : Array Value} {k : Nat} {news : List (Addr × Obj)} {s₁ : Shared}
    (hh : A.handled = none) (F : Fr h₀ L s₁.heap m) (N : News h₀ L s₁.heap news) (hm : (ax, ({ cls := .type "list", data := .seq its k } : Obj)) ∈ news) (hsz : its.size ≤ sizeLine)
    (h : ∀ g, NestRest prog w A h₀ L m env elt x scope cl { s₁ with heap := g } (SrcAt h₀ ax its) (fun i v => its[i]? = some v) (FinE h₀ L m { s₁ with heap := g } Q) its.size 0 [] news) :
    NestSrc prog w A h₀ L m env elt x scope cl Q (.ref ax) s₁ := .inl ⟨ax, its, k, news, rfl, hh, F, N, hm, hsz, h⟩
theorem NestSrc.range {elt : PySem.Expr} {x : Str} {scope : Scope} {cl : List (Str × Addr)} {Q : Value → Shared → Prop} {r : Addr} {a b : Int} {t u v : Tok} {n : Nat} {news : List (Addr × Obj)} {s₁ : Shared}
    (hh : A.handled = none) (F : Fr h₀ L s₁.heap m) (N : News h₀ L s₁.heap news) (hr : IsRange s₁.heap r a b 1 t u v) (hsm : Builtin.Range.small a b 1 = true) (hn : Builtin.Range.rangeSize a b 1 = ((n : Nat) : Int)) (hsz : n ≤ sizeLine)
    (h : ∀ g, NestRest prog w A h₀ L m env elt x scope cl { s₁ with heap := g } (fun _ => True) (fun i v => ∃ t, v = .int (a + (i : Int)) t) (FinE h₀ L m { s₁ with heap := g } Q) n 0 [] news) :
    NestSrc prog w A h₀ L m env elt x scope cl Q (.ref r) s₁ := .inr ⟨r, a, b, t, u, v, n, news, rfl, hh, F, N, hr, hsm, hn, hsz, h⟩
theorem NestEnd.one {I C X D Dn : Addr} {oI oC oX oD on : Obj} {S : List (Addr × Obj) → Prop} {rest : Value → List (Addr × Obj) → Prop} {y : Value} {s₁ : Shared} {h' : Heap} {tk : Nat} {news : List (Addr × Obj)} (F : Fr h₀ L h' m)
    (N : News h₀ L h' ((Dn, on) :: (I, oI) :: (C, oC) :: (X, oX) :: (D, oD) :: news)) (o1 : @Ne Nat Dn I ∧ @Ne Nat Dn C ∧ @Ne Nat Dn X ∧ @Ne Nat Dn D) (off : Off4 I C X D news) (hS : S ((Dn, on) :: news)) (r : rest y ((Dn, on) :: news)) :
    NestEnd h₀ L m s₁ I oI C oC X oX D oD S rest y { s₁ with heap := h', toks := tk } :=
  ⟨h', tk, (Dn, on) :: news, rfl, F, fun p hp => by
    simp only [List.mem_cons] at hp
    rcases hp with h | h | h | h | h | h
    · exact N p (h ▸ .tail _ (.head _))
    · exact N p (h ▸ .tail _ (.tail _ (.head _)))
    · exact N p (h ▸ .tail _ (.tail _ (.tail _ (.head _))))
    · exact N p (h ▸ .tail _ (.tail _ (.tail _ (.tail _ (.head _)))))
    · exact N p (h ▸ .head _)
    · exact N p (.tail _ (.tail _ (.tail _ (.tail _ (.tail _ h))))), fun p hp => by
    rcases List.mem_cons.mp hp with rfl | hp
    · exact o1
    · exact off p hp, hS, r⟩
theorem NestEnd.two {I C X D Dn Ds : Addr} {oI oC oX oD on os : Obj} {S : List (Addr × Obj) → Prop} {rest : Value → List (Addr × Obj) → Prop} {y : Value} {s₁ : Shared} {h' : Heap} {tk : Nat} {news : List (Addr × Obj)} (F : Fr h₀ L h' m)
    (N : News h₀ L h' ((Dn, on) :: (Ds, os) :: (I, oI) :: (C, oC) :: (X, oX) :: (D, oD) :: news)) (o1 : @Ne Nat Dn I ∧ @Ne Nat Dn C ∧ @Ne Nat Dn X ∧ @Ne Nat Dn D) (off : Off4 I C X D news) (hS : S ((Dn, on) :: news)) (r : rest y ((Dn, on) :: news)) :
    NestEnd h₀ L m s₁ I oI C oC X oX D oD S rest y { s₁ with heap := h', toks := tk } :=
  NestEnd.one F (cb_drop N fun p hp => by
    rcases List.mem_cons.mp hp with h | h
    · exact h ▸ .head _
    · exact .tail _ (.tail _ h)) o1 off hS r
theorem NestRest.zero {elt : PySem.Expr} {x : Str} {scope : Scope} {cl : List (Str × Addr)} {S : List (Addr × Obj) → Prop} {P : Nat → Value → Prop} {Fin : List Value → List (Addr × Obj) → Prop} {i : Nat} {ys : List Value} {news : List (Addr × Obj)} (h : Fin ys news) :
    NestRest prog w A h₀ L m env elt x scope cl s S P Fin 0 i ys news := h
theorem NestRest.succ {elt : PySem.Expr} {x : Str} {scope : Scope} {cl : List (Str × Addr)} {S : List (Addr × Obj) → Prop} {P : Nat → Value → Prop} {Fin : List Value → List (Addr × Obj) → Prop} {k i : Nat} {ys : List Value} {news : List (Addr × Obj)}
    (h : ∀ v I oI C oC X oX D h tk (E' : Value → Shared → Prop), P i v → oX.data = .cell (some v) → Fr h₀ L h m → News h₀ L h ((I, oI) :: (C, oC) :: (X, oX) :: (D, lst ys) :: news) → Off4 I C X D news →
      (@Ne Nat I C ∧ @Ne Nat I X ∧ @Ne Nat I D ∧ @Ne Nat C X ∧ @Ne Nat C D ∧ @Ne Nat X D) →
      wpAny (model prog w) A (eval elt (compEnvC scope ((x, X) :: cl) C env)) (NestEnd h₀ L m { s with heap := h, toks := tk } I oI C oC X oX D (lst ys) S (fun y news' => NestRest prog w A h₀ L m env elt x scope cl s S P Fin k (i + 1) (ys ++ [y]) news')) E' { s with heap := h, toks := tk }) :
    NestRest prog w A h₀ L m env elt x scope cl s S P Fin (k + 1) i ys news := h
end
end Mine

namespace Mine
def val : Nat → (Nat → Int) → Int
  | 0, _ => 0
  | k + 1, c => c 0 + 8 * val k fun j => c (j + 1)
theorem digs_val : ∀ (k : Nat) (c : Nat → Int), (∀ j, 0 ≤ c j ∧ c j < 8) → digs k (val k c) = (List.range k).map c
  | 0, _, _ => rfl
  | k + 1, c, h => by
    have h0 := h 0
    have e1 : (c 0 + 8 * val k fun j => c (j + 1)) % 8 = c 0 := by omega
    have e2 : (c 0 + 8 * val k fun j => c (j + 1)) / 8 = val k fun j => c (j + 1) := by omega
    rw [digs, val, e1, e2, digs_val k _ fun j => h (j + 1), List.range_succ_eq_map, List.map_cons, List.map_map]
    rfl
theorem val_zero : ∀ k, val k (fun _ => 0) = 0
  | 0 => rfl
  | k + 1 => by rw [val, val_zero k]; rfl
theorem val_add : ∀ (k : Nat) (c d : Nat → Int), val k (fun j => c j + d j) = val k c + val k d
  | 0, _, _ => rfl
  | k + 1, c, d => by rw [val, val, val, val_add k (fun j => c (j + 1)) fun j => d (j + 1)]; omega
theorem val_one : ∀ (k a : Nat), a < k → val k (fun j => if j = a then 1 else 0) = 8 ^ a
  | 0, _, h => absurd h (Nat.not_lt_zero _)
  | k + 1, 0, _ => by
    rw [val]
    have e : (fun j : Nat => if j + 1 = 0 then (1 : Int) else 0) = fun _ => 0 := by funext j; simp
    rw [e, val_zero]; rfl
  | k + 1, a + 1, h => by
    rw [val]
    have e : (fun j : Nat => if j + 1 = a + 1 then (1 : Int) else 0) = fun j => if j = a then 1 else 0 := by funext j; simp
    rw [e, val_one k a (by omega), Int.pow_succ]
    simp only [Nat.zero_ne_add_one, if_false]
    omega
def cnt (s : List Nat) (j : Nat) : Int := (s.count j : Nat)
theorem cnt_cons (a : Nat) (s : List Nat) : cnt (a :: s) = fun j => cnt s j + if j = a then 1 else 0 := by
  funext j
  unfold cnt
  rw [List.count_cons]
  by_cases h : a = j
  · subst h; simp
  · have h' : ¬ j = a := fun e => h e.symm
    simp [h, h']
theorem val_cnt (k : Nat) : ∀ s : List Nat, (∀ a ∈ s, a < k) → val k (cnt s) = (s.map fun a => (8 : Int) ^ a).sum
  | [], _ => by
    have e : cnt [] = fun _ => 0 := by funext j; simp [cnt]
    rw [e, val_zero]; rfl
  | a :: s, h => by
    rw [cnt_cons, val_add, val_one k a (h a (.head _)), val_cnt k s fun b hb => h b (.tail _ hb), List.map_cons, List.sum_cons]
    omega
theorem sum_filter : ∀ l : List Int, (l.filter fun d => decide (d ≠ 0)).sum = l.sum
  | [] => rfl
  | a :: l => by
    rw [List.filter_cons]
    by_cases h : a = 0
    · subst h; simp only [ne_eq, not_true_eq_false, decide_false, Bool.false_eq_true, if_false]; rw [sum_filter l, List.sum_cons]; omega
    · simp only [ne_eq, h, not_false_eq_true, decide_true, if_true]; rw [List.sum_cons, List.sum_cons, sum_filter l]
theorem count_range (a : Nat) : ∀ k, (List.range k).count a = if a < k then 1 else 0
  | 0 => rfl
  | k + 1 => by
    rw [List.range_succ, List.count_append, count_range a k, List.count_singleton]
    by_cases h : a < k
    · have h1 : ¬ k = a := by omega
      simp [h, h1]; omega
    · by_cases h2 : k = a
      · subst h2; simp
      · have h3 : ¬ a < k + 1 := by omega
        simp [h, h2, h3]
theorem sum_range : ∀ (k : Nat) (s : List Nat), (∀ a ∈ s, a < k) → ((List.range k).map (cnt s)).sum = s.length
  | k, [], _ => by
    have e : cnt [] = fun _ => 0 := by funext j; simp [cnt]
    rw [e]
    induction k with
    | zero => rfl
    | succ k ih => rw [List.range_succ, List.map_append, List.sum_append, ih fun _ h => nomatch h]; rfl
  | k, a :: s, h => by
    have ih := sum_range k s fun b hb => h b (.tail _ hb)
    have aux : ∀ (l : List Nat), (l.map (cnt (a :: s))).sum = (l.map (cnt s)).sum + (l.count a : Nat) := by
      intro l
      induction l with
      | nil => rfl
      | cons b l ihl =>
        rw [List.map_cons, List.sum_cons, ihl, List.map_cons, List.sum_cons, List.count_cons, cnt_cons]
        by_cases hb : b = a
        · subst hb; simp; omega
        · simp [hb]; omega
    rw [aux, ih]
    have hc : (List.range k).count a = 1 := by
      rw [count_range, if_pos (h a (.head _))]
    rw [hc, List.length_cons]
    omega
theorem filter_head {m k : Nat} {c : Nat → Int} (hm : m < k) (h0 : ∀ j, j < m → c j = 0) (h1 : c m ≠ 0) : ∃ r, ((List.range k).map c).filter (fun d => decide (d ≠ 0)) = c m :: r := by
  obtain ⟨n, rfl⟩ : ∃ n, k = m + (n + 1) := ⟨k - m - 1, by omega⟩
  rw [List.range_add, List.map_append, List.filter_append]
  have e : ((List.range m).map c).filter (fun d => decide (d ≠ 0)) = [] := by
    rw [List.filter_eq_nil_iff]
    intro x hx
    obtain ⟨j, hj, rfl⟩ := List.mem_map.mp hx
    simp [h0 j (List.mem_range.mp hj)]
  rw [e, List.nil_append, List.range_succ_eq_map, List.map_cons, List.map_cons, List.filter_cons]
  simp only [Nat.add_zero, ne_eq, h1, not_false_eq_true, decide_true, if_true]
  exact ⟨_, rfl⟩
/-- the nonzero digits of the sum of the powers -/
theorem ways_are {k m : Nat} {s : List Nat} {x : Int} (hx : x = (s.map fun a => (8 : Int) ^ a).sum) (hl : s.length < 8) (hk : ∀ a ∈ s, a < k) (hm : m ∈ s) (hle : ∀ a ∈ s, m ≤ a) :
    ∃ r, (digs k x).filter (fun d => decide (d ≠ 0)) = cnt s m :: r ∧ ((digs k x).filter fun d => decide (d ≠ 0)).sum = s.length := by
  have e : digs k x = (List.range k).map (cnt s) := by
    rw [hx, ← val_cnt k s hk]
    exact digs_val k _ fun j => ⟨Int.natCast_nonneg _, by
      have : s.count j ≤ s.length := List.count_le_length
      unfold cnt; omega⟩
  rw [e]
  obtain ⟨r, hr⟩ := filter_head (c := cnt s) (hk m hm) (fun j hj => by
    have : s.count j = 0 := List.count_eq_zero.mpr fun hmem => absurd (hle j hmem) (by omega)
    unfold cnt; omega) (by
    have : 0 < s.count m := List.count_pos_iff.mpr hm
    unfold cnt; omega)
  exact ⟨r, hr, by rw [sum_filter, sum_range k s hk]⟩

/-- the least of three comes twice -/
def on3 (p q r : Int) : Prop := (p = q ∧ p ≤ r) ∨ (p = r ∧ p ≤ q) ∨ (q = r ∧ q ≤ p)
theorem on3_rot {p q r : Int} (h : on3 p q r) : on3 q p r := by
  rcases h with ⟨e, h⟩ | ⟨e, h⟩ | ⟨e, h⟩
  · exact .inl ⟨e.symm, e ▸ h⟩
  · exact .inr (.inr ⟨e, h⟩)
  · exact .inr (.inl ⟨e, h⟩)
theorem on3_rot2 {p q r : Int} (h : on3 p q r) : on3 p r q := by
  rcases h with ⟨e, h⟩ | ⟨e, h⟩ | ⟨e, h⟩
  · exact .inr (.inl ⟨e, h⟩)
  · exact .inl ⟨e, h⟩
  · exact .inr (.inr ⟨e.symm, e ▸ h⟩)
theorem on3_12 {p q r : Int} : on3 p q r ↔ on3 q p r := ⟨on3_rot, on3_rot⟩
theorem on3_23 {p q r : Int} : on3 p q r ↔ on3 p r q := ⟨on3_rot2, on3_rot2⟩
/-- whichever of the three is taken, another is no more -/
theorem on3_one {p q r : Int} (h : on3 p q r) : q ≤ p ∨ r ≤ p := by
  rcases h with ⟨e, _⟩ | ⟨e, _⟩ | ⟨_, h⟩
  · exact .inl (Int.le_of_eq e.symm)
  · exact .inr (Int.le_of_eq e.symm)
  · exact .inl h
theorem on3_two {p q r : Int} (h : on3 p q r) : p ≤ q ∨ r ≤ q := on3_one (on3_rot h)
theorem on3_three {p q r : Int} (h : on3 p q r) : p ≤ r ∨ q ≤ r := (on3_two (on3_rot2 h))
theorem add_min {a b c : Int} : a + min b c = min (a + b) (a + c) := by omega
theorem e_min {x m n A B : Int} (h1 : x + m = A) (h2 : x + n = B) : x + min m n = min A B := by rw [add_min, h1, h2]
theorem e_min' {x m n A B : Int} (h1 : x + m = A) (h2 : x + n = B) : x + min m n = min B A := by rw [add_min, h1, h2, Int.min_comm]
/-- the least of the six ways comes but once -/
def Less (x a b c d e : Int) : Prop := x < a ∧ x < b ∧ x < c ∧ x < d ∧ x < e
def Uniq (p q r s t u : Int) : Prop := Less p q r s t u ∨ Less q p r s t u ∨ Less r p q s t u ∨ Less s p q r t u ∨ Less t p q r s u ∨ Less u p q r s t
/-- a way that is taken off its columns gives another way that is no dearer -/
theorem swap {x0 x1 x2 y0 y1 y2 z0 z1 z2 l0 l1 l2 : Int} (hx : x1 + l1 ≤ x0 + l0 ∨ x2 + l2 ≤ x0 + l0) (hy : y0 + l0 ≤ y1 + l1 ∨ y2 + l2 ≤ y1 + l1) (hz : z0 + l0 ≤ z2 + l2 ∨ z1 + l1 ≤ z2 + l2) :
    x1 + y0 + z2 ≤ x0 + y1 + z2 ∨ x2 + y1 + z0 ≤ x0 + y1 + z2 ∨ x0 + y2 + z1 ≤ x0 + y1 + z2 ∨ x1 + y2 + z0 ≤ x0 + y1 + z2 ∨ x2 + y0 + z1 ≤ x0 + y1 + z2 := by
  rcases hx with hx | hx <;> rcases hy with hy | hy
  · exact .inl (by omega)
  · rcases hz with hz | hz
    · exact .inr (.inr (.inr (.inl (by omega))))
    · exact .inr (.inr (.inl (by omega)))
  · rcases hz with hz | hz
    · exact .inr (.inl (by omega))
    · exact .inr (.inr (.inr (.inr (by omega))))
  · rcases hz with hz | hz
    · exact .inr (.inl (by omega))
    · exact .inr (.inr (.inl (by omega)))
theorem eq_min {x b c : Int} (hb : x ≤ b) (hc : x ≤ c) : x = min b c ↔ x = b ∨ x = c := by omega
theorem lt_ne {x b : Int} (hb : x ≤ b) : x < b ↔ ¬ x = b := by omega
theorem on3_low {x y z : Int} (hy : x ≤ y) (hz : x ≤ z) : on3 x y z ↔ x = y ∨ x = z := by
  refine ⟨fun h => ?_, fun h => ?_⟩
  · rcases h with ⟨e, _⟩ | ⟨e, _⟩ | ⟨e, h⟩
    · exact .inl e
    · exact .inr e
    · exact .inl (Int.le_antisymm hy h)
  · rcases h with e | e
    · exact .inl ⟨e, hz⟩
    · exact .inr (.inl ⟨e, hy⟩)
theorem taut {Q R S T U : Prop} : (((R ∨ S) ∨ (T ∨ U)) ∨ ((R ∨ T) ∨ (Q ∨ S)) ∨ ((S ∨ U) ∨ (Q ∨ T))) ↔ ¬ (¬ Q ∧ ¬ R ∧ ¬ S ∧ ¬ T ∧ ¬ U) := by
  refine ⟨fun h k => ?_, fun h => Classical.byContradiction fun n => h ⟨fun q => ?_, fun q => ?_, fun q => ?_, fun q => ?_, fun q => ?_⟩⟩
  · obtain ⟨k1, k2, k3, k4, k5⟩ := k
    rcases h with ((h | h) | (h | h)) | ((h | h) | (h | h)) | ((h | h) | (h | h))
    · exact k2 h
    · exact k3 h
    · exact k4 h
    · exact k5 h
    · exact k2 h
    · exact k4 h
    · exact k1 h
    · exact k3 h
    · exact k3 h
    · exact k5 h
    · exact k1 h
    · exact k4 h
  · exact n (.inr (.inl (.inr (.inl q))))
  · exact n (.inl (.inl (.inl q)))
  · exact n (.inl (.inl (.inr q)))
  · exact n (.inl (.inr (.inl q)))
  · exact n (.inl (.inr (.inr q)))
theorem min_low {x a : Int} (h : x ≤ a) : min x a = x := by omega
/-- the least way stands in each of the three groups -/
theorem low_six {x a b c d e : Int} (ha : x ≤ a) (hb : x ≤ b) (hc : x ≤ c) (hd : x ≤ d) (he : x ≤ e) :
    (on3 (min x a) (min b c) (min d e) ∨ on3 (min x e) (min b d) (min a c) ∨ on3 (min x b) (min c e) (min a d)) ↔ ¬ Less x a b c d e := by
  have l {y z : Int} (hy : x ≤ y) (hz : x ≤ z) : x ≤ min y z := by omega
  rw [min_low ha, min_low he, min_low hb, on3_low (l hb hc) (l hd he), on3_low (l hb hd) (l ha hc), on3_low (l hc he) (l ha hd), eq_min hb hc, eq_min hd he, eq_min hb hd, eq_min ha hc, eq_min hc he, eq_min ha hd]
  unfold Less
  rw [lt_ne ha, lt_ne hb, lt_ne hc, lt_ne hd, lt_ne he]
  exact taut
def Six (p q r s t u : Int) : Prop := on3 (min p q) (min r s) (min t u) ∨ on3 (min p u) (min r t) (min q s) ∨ on3 (min p r) (min s u) (min q t)
theorem uniq_p {p q r s t u : Int} (h1 : p ≤ q) (h2 : p ≤ r) (h3 : p ≤ s) (h4 : p ≤ t) (h5 : p ≤ u) : Uniq p q r s t u ↔ Less p q r s t u := by
  refine ⟨fun h => ?_, .inl⟩
  rcases h with h | h | h | h | h | h
  · exact h
  · exact absurd h.1 (Int.not_lt.mpr h1)
  · exact absurd h.1 (Int.not_lt.mpr h2)
  · exact absurd h.1 (Int.not_lt.mpr h3)
  · exact absurd h.1 (Int.not_lt.mpr h4)
  · exact absurd h.1 (Int.not_lt.mpr h5)
theorem lead_law {a0 a1 a2 b0 b1 b2 c0 c1 c2 l0 l1 l2 : Int} (h0 : on3 (a0 + l0) (a1 + l1) (a2 + l2)) (h1 : on3 (b0 + l0) (b1 + l1) (b2 + l2)) (h2 : on3 (c0 + l0) (c1 + l1) (c2 + l2)) :
    ¬ Uniq (a0 + b1 + c2) (a0 + b2 + c1) (a1 + b0 + c2) (a1 + b2 + c0) (a2 + b0 + c1) (a2 + b1 + c0) := by
  have p1 := on3_one h0
  have p2 := on3_two h0
  have p3 := on3_three h0
  have q1 := on3_one h1
  have q2 := on3_two h1
  have q3 := on3_three h1
  have r1 := on3_one h2
  have r2 := on3_two h2
  have r3 := on3_three h2
  rintro (h | h | h | h | h | h)
  · rcases swap p1 q2 r3 with k | k | k | k | k
    · exact absurd h.2.1 (Int.not_lt.mpr k)
    · exact absurd h.2.2.2.2 (Int.not_lt.mpr k)
    · exact absurd h.1 (Int.not_lt.mpr k)
    · exact absurd h.2.2.1 (Int.not_lt.mpr k)
    · exact absurd h.2.2.2.1 (Int.not_lt.mpr k)
  · -- a0 b2 c1
    rcases swap (x0 := a0) (x1 := a2) (x2 := a1) (y0 := b0) (y1 := b2) (y2 := b1) (z0 := c0) (z1 := c2) (z2 := c1) (l0 := l0) (l1 := l2) (l2 := l1) p1.symm q3 r2 with k | k | k | k | k
    · exact absurd h.2.2.2.1 (Int.not_lt.mpr k)
    · exact absurd h.2.2.1 (Int.not_lt.mpr k)
    · exact absurd h.1 (Int.not_lt.mpr k)
    · exact absurd h.2.2.2.2 (Int.not_lt.mpr k)
    · exact absurd h.2.1 (Int.not_lt.mpr k)
  · -- a1 b0 c2
    rcases swap (x0 := a1) (x1 := a0) (x2 := a2) (y0 := b1) (y1 := b0) (y2 := b2) (z0 := c1) (z1 := c0) (z2 := c2) (l0 := l1) (l1 := l0) (l2 := l2) p2 q1 r3.symm with k | k | k | k | k
    · exact absurd h.1 (Int.not_lt.mpr k)
    · exact absurd h.2.2.2.1 (Int.not_lt.mpr k)
    · exact absurd h.2.2.1 (Int.not_lt.mpr k)
    · exact absurd h.2.1 (Int.not_lt.mpr k)
    · exact absurd h.2.2.2.2 (Int.not_lt.mpr k)
  · -- a1 b2 c0
    rcases swap (x0 := a1) (x1 := a2) (x2 := a0) (y0 := b1) (y1 := b2) (y2 := b0) (z0 := c1) (z1 := c2) (z2 := c0) (l0 := l1) (l1 := l2) (l2 := l0) p2.symm q3.symm r1 with k | k | k | k | k
    · exact absurd h.2.2.2.2 (Int.not_lt.mpr k)
    · exact absurd h.2.1 (Int.not_lt.mpr k)
    · exact absurd h.2.2.1 (Int.not_lt.mpr k)
    · exact absurd h.2.2.2.1 (Int.not_lt.mpr k)
    · exact absurd h.1 (Int.not_lt.mpr k)
  · -- a2 b0 c1
    rcases swap (x0 := a2) (x1 := a0) (x2 := a1) (y0 := b2) (y1 := b0) (y2 := b1) (z0 := c2) (z1 := c0) (z2 := c1) (l0 := l2) (l1 := l0) (l2 := l1) p3 q1.symm r2.symm with k | k | k | k | k
    · exact absurd h.2.1 (Int.not_lt.mpr k)
    · exact absurd h.2.2.1 (Int.not_lt.mpr k)
    · exact absurd h.2.2.2.2 (Int.not_lt.mpr k)
    · exact absurd h.1 (Int.not_lt.mpr k)
    · exact absurd h.2.2.2.1 (Int.not_lt.mpr k)
  · -- a2 b1 c0
    rcases swap (x0 := a2) (x1 := a1) (x2 := a0) (y0 := b2) (y1 := b1) (y2 := b0) (z0 := c2) (z1 := c1) (z2 := c0) (l0 := l2) (l1 := l1) (l2 := l0) p3.symm q2.symm r1.symm with k | k | k | k | k
    · exact absurd h.2.2.2.1 (Int.not_lt.mpr k)
    · exact absurd h.1 (Int.not_lt.mpr k)
    · exact absurd h.2.2.2.2 (Int.not_lt.mpr k)
    · exact absurd h.2.2.1 (Int.not_lt.mpr k)
    · exact absurd h.2.1 (Int.not_lt.mpr k)
theorem on3_13 {p q r : Int} : on3 p q r ↔ on3 r q p := on3_12.trans (on3_23.trans on3_12)
theorem on3_231 {p q r : Int} : on3 p q r ↔ on3 q r p := on3_12.trans on3_23
theorem on3_312 {p q r : Int} : on3 p q r ↔ on3 r p q := on3_23.trans on3_12
theorem least : ∀ (a : Int) (l : List Int), ∃ x ∈ a :: l, ∀ y ∈ a :: l, x ≤ y
  | a, [] => ⟨a, .head _, fun y hy => by rw [List.mem_singleton.mp hy]; exact Int.le_refl a⟩
  | a, b :: l => by
    obtain ⟨x, hx, h⟩ := least b l
    rcases Int.le_total a x with k | k
    · exact ⟨a, .head _, fun y hy => by
        rcases List.mem_cons.mp hy with e | e
        · rw [e]; exact Int.le_refl a
        · exact Int.le_trans k (h y e)⟩
    · exact ⟨x, .tail _ hx, fun y hy => by
        rcases List.mem_cons.mp hy with e | e
        · rw [e]; exact k
        · exact h y e⟩
theorem uniq_q' {p q r s t u : Int} (h1 : q ≤ p) (h2 : q ≤ r) (h3 : q ≤ s) (h4 : q ≤ t) (h5 : q ≤ u) : Uniq p q r s t u ↔ Less q p r s t u := by
  refine ⟨fun h => ?_, fun h => .inr (.inl h)⟩
  rcases h with h | h | h | h | h | h
  · exact absurd h.1 (Int.not_lt.mpr h1)
  · exact h
  · exact absurd h.2.1 (Int.not_lt.mpr h2)
  · exact absurd h.2.1 (Int.not_lt.mpr h3)
  · exact absurd h.2.1 (Int.not_lt.mpr h4)
  · exact absurd h.2.1 (Int.not_lt.mpr h5)
theorem uniq_r' {p q r s t u : Int} (h1 : r ≤ p) (h2 : r ≤ q) (h3 : r ≤ s) (h4 : r ≤ t) (h5 : r ≤ u) : Uniq p q r s t u ↔ Less r p q s t u := by
  refine ⟨fun h => ?_, fun h => .inr (.inr (.inl h))⟩
  rcases h with h | h | h | h | h | h
  · exact absurd h.2.1 (Int.not_lt.mpr h1)
  · exact absurd h.2.1 (Int.not_lt.mpr h2)
  · exact h
  · exact absurd h.2.2.1 (Int.not_lt.mpr h3)
  · exact absurd h.2.2.1 (Int.not_lt.mpr h4)
  · exact absurd h.2.2.1 (Int.not_lt.mpr h5)
theorem uniq_s' {p q r s t u : Int} (h1 : s ≤ p) (h2 : s ≤ q) (h3 : s ≤ r) (h4 : s ≤ t) (h5 : s ≤ u) : Uniq p q r s t u ↔ Less s p q r t u := by
  refine ⟨fun h => ?_, fun h => .inr (.inr (.inr (.inl h)))⟩
  rcases h with h | h | h | h | h | h
  · exact absurd h.2.2.1 (Int.not_lt.mpr h1)
  · exact absurd h.2.2.1 (Int.not_lt.mpr h2)
  · exact absurd h.2.2.1 (Int.not_lt.mpr h3)
  · exact h
  · exact absurd h.2.2.2.1 (Int.not_lt.mpr h4)
  · exact absurd h.2.2.2.1 (Int.not_lt.mpr h5)
theorem uniq_t' {p q r s t u : Int} (h1 : t ≤ p) (h2 : t ≤ q) (h3 : t ≤ r) (h4 : t ≤ s) (h5 : t ≤ u) : Uniq p q r s t u ↔ Less t p q r s u := by
  refine ⟨fun h => ?_, fun h => .inr (.inr (.inr (.inr (.inl h))))⟩
  rcases h with h | h | h | h | h | h
  · exact absurd h.2.2.2.1 (Int.not_lt.mpr h1)
  · exact absurd h.2.2.2.1 (Int.not_lt.mpr h2)
  · exact absurd h.2.2.2.1 (Int.not_lt.mpr h3)
  · exact absurd h.2.2.2.1 (Int.not_lt.mpr h4)
  · exact h
  · exact absurd h.2.2.2.2 (Int.not_lt.mpr h5)
theorem uniq_u' {p q r s t u : Int} (h1 : u ≤ p) (h2 : u ≤ q) (h3 : u ≤ r) (h4 : u ≤ s) (h5 : u ≤ t) : Uniq p q r s t u ↔ Less u p q r s t := by
  refine ⟨fun h => ?_, fun h => .inr (.inr (.inr (.inr (.inr (h)))))⟩
  rcases h with h | h | h | h | h | h
  · exact absurd h.2.2.2.2 (Int.not_lt.mpr h1)
  · exact absurd h.2.2.2.2 (Int.not_lt.mpr h2)
  · exact absurd h.2.2.2.2 (Int.not_lt.mpr h3)
  · exact absurd h.2.2.2.2 (Int.not_lt.mpr h4)
  · exact absurd h.2.2.2.2 (Int.not_lt.mpr h5)
  · exact h
theorem six_law {p q r s t u : Int} : Six p q r s t u ↔ ¬ Uniq p q r s t u := by
  obtain ⟨x, hx, h⟩ := least p [q, r, s, t, u]
  simp only [List.mem_cons, List.not_mem_nil, or_false, forall_eq_or_imp, forall_eq] at hx h
  obtain ⟨hp, hq, hr, hs, ht, hu⟩ := h
  unfold Six
  rcases hx with e | e | e | e | e | e <;> subst x
  · -- p
    rw [uniq_p hq hr hs ht hu]
    exact low_six hq hr hs ht hu
  · -- q
    have e1 : on3 (min p q) (min r s) (min t u) ↔ on3 (min q p) (min t u) (min r s) := by rw [Int.min_comm p q]; exact on3_23
    have e2 : on3 (min p u) (min r t) (min q s) ↔ on3 (min q s) (min t r) (min p u) := by rw [Int.min_comm r t]; exact on3_13
    have e3 : on3 (min p r) (min s u) (min q t) ↔ on3 (min q t) (min u s) (min p r) := by rw [Int.min_comm s u]; exact on3_13
    rw [e1, e2, e3, uniq_q' hp hr hs ht hu, low_six hp ht hu hr hs]
    exact not_congr ⟨fun ⟨kp, kt, ku, kr, ks⟩ => ⟨kp, kr, ks, kt, ku⟩, fun ⟨kp, kr, ks, kt, ku⟩ => ⟨kp, kt, ku, kr, ks⟩⟩
  · -- r
    have e1 : on3 (min p q) (min r s) (min t u) ↔ on3 (min r s) (min p q) (min u t) := by rw [Int.min_comm t u]; exact on3_12
    have e2 : on3 (min p u) (min r t) (min q s) ↔ on3 (min r t) (min p u) (min s q) := by rw [Int.min_comm q s]; exact on3_12
    have e3 : on3 (min p r) (min s u) (min q t) ↔ on3 (min r p) (min q t) (min s u) := by rw [Int.min_comm p r]; exact on3_23
    rw [e1, e2, e3, uniq_r' hp hq hs ht hu, low_six hs hp hq hu ht]
    exact not_congr ⟨fun ⟨ks, kp, kq, ku, kt⟩ => ⟨kp, kq, ks, kt, ku⟩, fun ⟨kp, kq, ks, kt, ku⟩ => ⟨ks, kp, kq, ku, kt⟩⟩
  · -- s
    have e1 : on3 (min p q) (min r s) (min t u) ↔ on3 (min s r) (min u t) (min p q) := by rw [Int.min_comm r s, Int.min_comm t u]; exact on3_231
    have e2 : on3 (min p u) (min r t) (min q s) ↔ on3 (min s q) (min u p) (min r t) := by rw [Int.min_comm q s, Int.min_comm p u]; exact on3_312
    have e3 : on3 (min p r) (min s u) (min q t) ↔ on3 (min s u) (min t q) (min r p) := by rw [Int.min_comm q t, Int.min_comm p r]; exact on3_231
    rw [e1, e2, e3, uniq_s' hp hq hr ht hu, low_six hr hu ht hp hq]
    exact not_congr ⟨fun ⟨kr, ku, kt, kp, kq⟩ => ⟨kp, kq, kr, kt, ku⟩, fun ⟨kp, kq, kr, kt, ku⟩ => ⟨kr, ku, kt, kp, kq⟩⟩
  · -- t
    have e1 : on3 (min p q) (min r s) (min t u) ↔ on3 (min t u) (min q p) (min s r) := by rw [Int.min_comm p q, Int.min_comm r s]; exact on3_312
    have e2 : on3 (min p u) (min r t) (min q s) ↔ on3 (min t r) (min q s) (min u p) := by rw [Int.min_comm r t, Int.min_comm p u]; exact on3_231
    have e3 : on3 (min p r) (min s u) (min q t) ↔ on3 (min t q) (min p r) (min u s) := by rw [Int.min_comm q t, Int.min_comm s u]; exact on3_312
    rw [e1, e2, e3, uniq_t' hp hq hr hs hu, low_six hu hq hp hs hr]
    exact not_congr ⟨fun ⟨ku, kq, kp, ks, kr⟩ => ⟨kp, kq, kr, ks, ku⟩, fun ⟨kp, kq, kr, ks, ku⟩ => ⟨ku, kq, kp, ks, kr⟩⟩
  · -- u
    have e1 : on3 (min p q) (min r s) (min t u) ↔ on3 (min u t) (min s r) (min q p) := by rw [Int.min_comm t u, Int.min_comm r s, Int.min_comm p q]; exact on3_13
    have e2 : on3 (min p u) (min r t) (min q s) ↔ on3 (min u p) (min s q) (min t r) := by rw [Int.min_comm p u, Int.min_comm q s, Int.min_comm r t]; exact on3_23
    have e3 : on3 (min p r) (min s u) (min q t) ↔ on3 (min u s) (min r p) (min t q) := by rw [Int.min_comm s u, Int.min_comm p r, Int.min_comm q t]; exact on3_12
    rw [e1, e2, e3, uniq_u' hp hq hr hs ht, low_six ht hs hr hq hp]
    exact not_congr ⟨fun ⟨kt, ks, kr, kq, kp⟩ => ⟨kp, kq, kr, ks, kt⟩, fun ⟨kp, kq, kr, ks, kt⟩ => ⟨kt, ks, kr, kq, kp⟩⟩
theorem cnt_six {p q r s t u m : Nat} : cnt [p, q, r, s, t, u] m = (if m = p then 1 else 0) + ((if m = q then 1 else 0) + ((if m = r then 1 else 0) + ((if m = s then 1 else 0) + ((if m = t then 1 else 0) + (if m = u then 1 else 0))))) := by
  have e : cnt [] m = 0 := rfl
  rw [cnt_cons, cnt_cons, cnt_cons, cnt_cons, cnt_cons, cnt_cons]
  simp only [e]
  omega
theorem one_ge (P : Prop) [Decidable P] : (0 : Int) ≤ if P then 1 else 0 := by
  split <;> decide
theorem sum_ge {a b : Int} (ha : 0 ≤ a) (hb : 0 ≤ b) : 0 ≤ a + b := Int.add_nonneg ha hb
theorem one_more {a b c d e : Int} (ha : 0 ≤ a) (hb : 0 ≤ b) (hc : 0 ≤ c) (hd : 0 ≤ d) (he : 0 ≤ e) (h : a = 1 ∨ b = 1 ∨ c = 1 ∨ d = 1 ∨ e = 1) : 1 < 1 + (a + (b + (c + (d + e)))) := by
  rcases h with h | h | h | h | h <;> omega
/-- the least of six is met more than once, or it is less than the others -/
theorem cnt_first {m a b c d e : Nat} (ha : m ≤ a) (hb : m ≤ b) (hc : m ≤ c) (hd : m ≤ d) (he : m ≤ e) : 1 < cnt [m, a, b, c, d, e] m ↔ ¬ Less (m : Int) a b c d e := by
  rw [cnt_six, if_pos rfl]
  refine ⟨fun h k => ?_, fun h => ?_⟩
  · obtain ⟨k1, k2, k3, k4, k5⟩ := k
    have n {x : Nat} (hx : (m : Int) < x) : ¬ m = x := fun e => by rw [e] at hx; exact Int.lt_irrefl _ hx
    rw [if_neg (n k1), if_neg (n k2), if_neg (n k3), if_neg (n k4), if_neg (n k5)] at h
    exact absurd h (by decide)
  · refine one_more (one_ge _) (one_ge _) (one_ge _) (one_ge _) (one_ge _) ?_
    refine Classical.byContradiction fun n => h ?_
    have lt {x : Nat} (hx : m ≤ x) (hn : ¬ (if m = x then (1 : Int) else 0) = 1) : (m : Int) < x := by
      refine Int.ofNat_lt.mpr (Nat.lt_of_le_of_ne hx fun e => hn (if_pos e))
    exact ⟨lt ha fun q => n (.inl q), lt hb fun q => n (.inr (.inl q)), lt hc fun q => n (.inr (.inr (.inl q))), lt hd fun q => n (.inr (.inr (.inr (.inl q)))), lt he fun q => n (.inr (.inr (.inr (.inr q))))⟩
theorem cnt_perm {l k : List Nat} (h : l.Perm k) (m : Nat) : cnt l m = cnt k m := by
  unfold cnt
  rw [h.count_eq]
theorem cnt_uniq {p q r s t u m : Nat} (hm : m = p ∨ m = q ∨ m = r ∨ m = s ∨ m = t ∨ m = u) (hle : m ≤ p ∧ m ≤ q ∧ m ≤ r ∧ m ≤ s ∧ m ≤ t ∧ m ≤ u) :
    1 < cnt [p, q, r, s, t, u] m ↔ ¬ Uniq p q r s t u := by
  obtain ⟨hp, hq, hr, hs, ht, hu⟩ := hle
  have i {x : Nat} (h : m ≤ x) : (m : Int) ≤ x := Int.ofNat_le.mpr h
  rcases hm with e | e | e | e | e | e <;> subst m
  · rw [uniq_p (i hq) (i hr) (i hs) (i ht) (i hu)]
    exact cnt_first hq hr hs ht hu
  · rw [uniq_q' (i hp) (i hr) (i hs) (i ht) (i hu), cnt_perm (l := [p, q, r, s, t, u]) (k := [q, p, r, s, t, u]) (List.perm_middle (l₁ := [p]) (l₂ := [r, s, t, u]) (a := q)) q]
    exact cnt_first hp hr hs ht hu
  · rw [uniq_r' (i hp) (i hq) (i hs) (i ht) (i hu), cnt_perm (l := [p, q, r, s, t, u]) (k := [r, p, q, s, t, u]) (List.perm_middle (l₁ := [p, q]) (l₂ := [s, t, u]) (a := r)) r]
    exact cnt_first hp hq hs ht hu
  · rw [uniq_s' (i hp) (i hq) (i hr) (i ht) (i hu), cnt_perm (l := [p, q, r, s, t, u]) (k := [s, p, q, r, t, u]) (List.perm_middle (l₁ := [p, q, r]) (l₂ := [t, u]) (a := s)) s]
    exact cnt_first hp hq hr ht hu
  · rw [uniq_t' (i hp) (i hq) (i hr) (i hs) (i hu), cnt_perm (l := [p, q, r, s, t, u]) (k := [t, p, q, r, s, u]) (List.perm_middle (l₁ := [p, q, r, s]) (l₂ := [u]) (a := t)) t]
    exact cnt_first hp hq hr hs hu
  · rw [uniq_u' (i hp) (i hq) (i hr) (i hs) (i ht), cnt_perm (l := [p, q, r, s, t, u]) (k := [u, p, q, r, s, t]) (List.perm_middle (l₁ := [p, q, r, s, t]) (l₂ := []) (a := u)) u]
    exact cnt_first hp hq hr hs ht
theorem leastN : ∀ (a : Nat) (l : List Nat), ∃ x ∈ a :: l, ∀ y ∈ a :: l, x ≤ y
  | a, [] => ⟨a, .head _, fun y hy => by rw [List.mem_singleton.mp hy]; exact Nat.le_refl a⟩
  | a, b :: l => by
    obtain ⟨x, hx, h⟩ := leastN b l
    rcases Nat.le_total a x with k | k
    · exact ⟨a, .head _, fun y hy => by
        rcases List.mem_cons.mp hy with e | e
        · rw [e]; exact Nat.le_refl a
        · exact Nat.le_trans k (h y e)⟩
    · exact ⟨x, .tail _ hx, fun y hy => by
        rcases List.mem_cons.mp hy with e | e
        · rw [e]; exact k
        · exact h y e⟩
/-- what _law_ways hands back, of the six sums -/
def WaysOk (p q r s t u : Int) (ws : List Int) : Prop := ∃ c rest, ws = c :: rest ∧ ws.sum = 6 ∧ (1 < c ↔ ¬ Uniq p q r s t u)
theorem ways_ok {p q r s t u x : Int} {k : Nat} (hp : 0 ≤ p) (hq : 0 ≤ q) (hr : 0 ≤ r) (hs : 0 ≤ s) (ht : 0 ≤ t) (hu : 0 ≤ u)
    (hx : x = 8 ^ p.toNat + 8 ^ q.toNat + 8 ^ r.toNat + 8 ^ s.toNat + 8 ^ t.toNat + 8 ^ u.toNat) (hk : x < 8 ^ k) :
    WaysOk p q r s t u ((digs k x).filter fun a => a != 0) := by
  have pos : ∀ n : Nat, (0 : Int) < 8 ^ n := fun n => Int.pow_pos (by decide)
  have lt : ∀ n : Nat, (8 : Int) ^ n ≤ x → n < k := fun n h => by
    refine Nat.lt_of_not_le fun hkn => ?_
    have h1 : (8 : Nat) ^ k ≤ 8 ^ n := Nat.pow_le_pow_right (by decide) hkn
    have e1 : ((8 ^ k : Nat) : Int) = (8 : Int) ^ k := by simp
    have e2 : ((8 ^ n : Nat) : Int) = (8 : Int) ^ n := by simp
    omega
  have p1 := pos p.toNat
  have p2 := pos q.toNat
  have p3 := pos r.toNat
  have p4 := pos s.toNat
  have p5 := pos t.toNat
  have p6 := pos u.toNat
  obtain ⟨m, hm, hle⟩ := leastN p.toNat [q.toNat, r.toNat, s.toNat, t.toNat, u.toNat]
  simp only [List.mem_cons, List.not_mem_nil, or_false, forall_eq_or_imp, forall_eq] at hm hle
  have key := ways_are (k := k) (m := m) (s := [p.toNat, q.toNat, r.toNat, s.toNat, t.toNat, u.toNat]) (x := x)
    (by rw [hx]; simp only [List.map_cons, List.map_nil, List.sum_cons, List.sum_nil]; omega) (by simp)
    (by
      intro a ha
      simp only [List.mem_cons, List.not_mem_nil, or_false] at ha
      rcases ha with h | h | h | h | h | h <;> (subst h; exact lt _ (by omega)))
    (by simp only [List.mem_cons, List.not_mem_nil, or_false]; exact hm)
    (by
      intro a ha
      simp only [List.mem_cons, List.not_mem_nil, or_false] at ha
      rcases ha with h | h | h | h | h | h <;> (subst h; omega))
  obtain ⟨rest, e1, e2⟩ := key
  have ef : (fun a : Int => a != 0) = fun d => decide (d ≠ 0) := by funext a; by_cases h : a = 0 <;> simp [h]
  rw [ef]
  refine ⟨_, rest, e1, by rw [e2]; rfl, ?_⟩
  rw [cnt_uniq hm hle]
  rw [Int.toNat_of_nonneg hp, Int.toNat_of_nonneg hq, Int.toNat_of_nonneg hr, Int.toNat_of_nonneg hs, Int.toNat_of_nonneg ht, Int.toNat_of_nonneg hu]
end Mine

namespace Mine
open PySem PySem.Spec PySem.Calls PyProof.Rows PySem.W PySem.SeqAt PyProof.V
section
variable {prog : Program} {w : World} {A : Around} {s : Shared} {h₀ : Heap} {L : Addr} {m : Str → Option Value} {news : List (Addr × Obj)}
/-- a table of three rows of three ints -/
def tabD (a0 a1 a2 b0 b1 b2 c0 c1 c2 : Int) : PyData := .list [.list ([a0, a1, a2].map PyData.int), .list ([b0, b1, b2].map PyData.int), .list ([c0, c1, c2].map PyData.int)]
theorem row_ints {a b c : Int} {t u v : Tok} : IntsAre [.int a t, .int b u, .int c v] [a, b, c] := .cons _ _ (.cons _ _ (.cons _ _ .nil))
theorem tab_reads {pt r0 r1 r2 : Addr} {a0 a1 a2 b0 b1 b2 c0 c1 c2 : Int} {t1 t2 t3 t4 t5 t6 t7 t8 t9 : Tok} {nt n0 n1 n2 : Nat} {h : Heap} (N : News h₀ L h news)
    (hm : (pt, listOf [Value.ref r0, .ref r1, .ref r2].toArray nt) ∈ news) (h0 : (r0, listOf [Value.int a0 t1, .int a1 t2, .int a2 t3].toArray n0) ∈ news) (h1 : (r1, listOf [Value.int b0 t4, .int b1 t5, .int b2 t6].toArray n1) ∈ news) (h2 : (r2, listOf [Value.int c0 t7, .int c1 t8, .int c2 t9].toArray n2) ∈ news) :
    Reads h (.ref pt) (tabD a0 a1 a2 b0 b1 b2 c0 c1 c2) [pt, r0, r1, r2] :=
  Reads.list (N _ hm).1 rfl rfl (.cons (reads_of_ints (my_listof N h0) row_ints) (.cons (reads_of_ints (my_listof N h1) row_ints) (.cons (reads_of_ints (my_listof N h2) row_ints) .nil)))
theorem tab_shaped {a0 a1 a2 b0 b1 b2 c0 c1 c2 : Int} : shaped (tabD a0 a1 a2 b0 b1 b2 c0 c1 c2) = true := by
  simp [shaped, tabD, PyData.canLay0, PyData.canLayAll0, PyData.depth, PyData.depthAll]
theorem tab_noMix {a0 a1 a2 b0 b1 b2 c0 c1 c2 : Int} : noMix (tabD a0 a1 a2 b0 b1 b2 c0 c1 c2) (tabD a0 a1 a2 b0 b1 b2 c0 c1 c2) = true := by
  simp [tabD, noMix, noMixAll]
theorem tab_same {a0 a1 a2 b0 b1 b2 c0 c1 c2 : Int} : PySem.Spec.same (tabD a0 a1 a2 b0 b1 b2 c0 c1 c2) (tabD a0 a1 a2 b0 b1 b2 c0 c1 c2) = true := by
  simp [tabD, PySem.Spec.same, PySem.Spec.sameAll]
theorem ne_tabs {pt r0 r1 r2 qt q0 q1 q2 : Addr} {a0 a1 a2 b0 b1 b2 c0 c1 c2 : Int} {t1 t2 t3 t4 t5 t6 t7 t8 t9 u1 u2 u3 u4 u5 u6 u7 u8 u9 : Tok} {nt n0 n1 n2 k k0 k1 k2 : Nat} {Q E : Value → Shared → Prop} (N : News h₀ L s.heap news)
    (hm : (pt, listOf [Value.ref r0, .ref r1, .ref r2].toArray nt) ∈ news) (h0 : (r0, listOf [Value.int a0 t1, .int a1 t2, .int a2 t3].toArray n0) ∈ news) (h1 : (r1, listOf [Value.int b0 t4, .int b1 t5, .int b2 t6].toArray n1) ∈ news) (h2 : (r2, listOf [Value.int c0 t7, .int c1 t8, .int c2 t9].toArray n2) ∈ news)
    (gm : (qt, listOf [Value.ref q0, .ref q1, .ref q2].toArray k) ∈ news) (g0 : (q0, listOf [Value.int a0 u1, .int a1 u2, .int a2 u3].toArray k0) ∈ news) (g1 : (q1, listOf [Value.int b0 u4, .int b1 u5, .int b2 u6].toArray k1) ∈ news) (g2 : (q2, listOf [Value.int c0 u7, .int c1 u8, .int c2 u9].toArray k2) ∈ news)
    (hu : A.units + 64 < cLine) (h : Q (.bool false) s) : wpAny (model prog w) A (compareOp .NotEq (.ref pt) (.ref qt)) Q E s :=
  ne_dataH_same (tab_reads N hm h0 h1 h2) (tab_reads N gm g0 g1 g2) tab_shaped tab_shaped hu tab_noMix (by rw [tab_same]; exact h)
end
end Mine

namespace Mine
open PySem PySem.Spec PySem.Calls PyProof.Rows PySem.W
local macro_rules | `(tactic| k_room) => `(tactic| ktr_room)
section
variable {w : World} {p : Program} {loose : List Str} {mean : ExcName → Option Value} {mg mb : Str → Option Value} {dp un : Nat} {gd : Option (List Code)} {cn : Str} {cs : Scope} {a : Addr} {ccd : Value} {cl : List (Str × Addr)} {outer : List Env} {A₀ : Around} {base h₀ : Heap} {L : Addr} {m : Str → Option Value} {news : List (Addr × Obj)} {s : Shared} {Q E : Value → Shared → Prop}

section -- C1
theorem ct_line {px py : Addr} {x0 x1 x2 y0 y1 y2 : Int} {t0 t1 t2 u0 u1 u2 : Tok} {nx ny : Nat} (B : Below A₀ base outer h₀) (F : Fr h₀ L s.heap m) (X : (Mine.fr.heap_1 w.params).In h₀) (N : News h₀ L s.heap news) (T : Top p loose mean mg mb h₀) (hk : cs.kind = .function)
    (hsub : ∀ q ∈ [(px, listOf [Value.int x0 t0, .int x1 t1, .int x2 t2].toArray nx), (py, listOf [Value.int y0 u0, .int y1 u1, .int y2 u2].toArray ny)], q ∈ news)
    (hd : dp + 1 < recursionLimit)
    (ret : ∀ r c0 c1 c2 v0 v1 v2 n h' tk', c0 = min (x1 + y2) (x2 + y1) → c1 = min (x0 + y2) (x2 + y0) → c2 = min (x0 + y1) (x1 + y0) → Fr h₀ L h' m → News h₀ L h' ((r, listOf [Value.int c0 v0, .int c1 v1, .int c2 v2].toArray n) :: news) → (∀ q ∈ news, q.1 ≠ r) → Q (.ref r) { s with heap := h', toks := tk' }) :
    wpAny (model PySem.Challenge.rw_sh0040_01.row.prog w) (ktrTop dp un gd cn cs L a ccd cl outer) (call (.ref 141) [.ref px, .ref py]) Q E s := by
  ((revert X; k_fill; intro X; refine wpAny_call ?_; k_dflt first | (refine' enterF ?z1k1 ?z1k2 ?z1k3 ?z1k4 ?z1k5 ?z1ks ?z1kA ?z1kF ?z1kK ?z1k6 ?z1k7 ?z1k8 ?z1k9 ?z1kB ?_ ?z1c2 ?z1c3 ?z1c4 ?z1c5; (case z1kA => exact rfl); (case z1kF => exact rfl); (case z1kK => assumption); (case z1k1 => k_asm); (case z1k2 => k_asm); (case z1k3 => k_asm); (case z1k4 => k_asm); (case z1k5 => k_asm); (case z1ks => first | assumption | exact no_sub); (case z1k6 => k_is); (case z1k7 => k_is); (case z1k8 => ktr_room); (case z1k9 => exact BindsTo.of_eq rfl); (case z1c5 => decide); (case z1kB => exact locs rfl); (case z1c2 => exact rfl); (case z1c3 => exact rfl); (case z1c4 => exact rfl); k_whole; intro g_q' L_q' h_q' tk_q' bk_q' FG_q' F_q' N_q' B_q' X_q' T_q' l1_q; (try k_lt l1_q); (try dsimp only); (try k_lift B_q'); (try k_fold)) | (refine' enterFC ?z1k1 ?z1k2 ?z1k3 ?z1k4 ?z1k5 ?z1ks ?z1kA ?z1kF ?z1kK ?z1k6 ?z1k7 ?z1k8 ?z1k9 ?z1kB ?z1kD ?_ ?z1c2 ?z1c3 ?z1c4; (case z1kA => exact rfl); (case z1kF => exact rfl); (case z1kK => assumption); (case z1k1 => k_asm); (case z1k2 => k_asm); (case z1k3 => k_asm); (case z1k4 => k_asm); (case z1k5 => k_asm); (case z1ks => first | assumption | exact no_sub); (case z1k6 => k_is); (case z1k7 => k_is); (case z1k8 => ktr_room); (case z1k9 => exact BindsTo.of_eq rfl); (case z1kB => exact rfl); (case z1kD => decide +kernel); (case z1c2 => exact rfl); (case z1c3 => exact rfl); (case z1c4 => exact rfl); k_whole; intro g_q' L_q' h_q' tk_q' cells_q' bk_q' FG_q' F_q' N_q' Y_q' B_q' X_q' T_q' l1_q; (try k_lt l1_q); k_cells Y_q'; (try simp only [List.cons_append, List.nil_append] at N_q'); (try dsimp only); (try k_lift B_q'); (try k_fold))); (show wpAny _ ?A9 _ _ _ _); (let ak : Around := ?A9); (change wpAny _ ak _ _ _ _); k_fold)
  (repeat' (first | (k_unfold; (try dsimp only)) | (k_end; kc_close) | ((with_reducible first | show wpAny _ _ (execs _ _) _ _ _ | show wpAny _ _ (exec (.For ..) _) _ _ _ | show wpAny _ _ (exec (.While ..) _) _ _ _); k_fold) | ((with_reducible show wpAny _ _ (eval (Expr.Call ..) _) _ _ _); first | (with_reducible k_dflt (refine Call_ ?_))) | ((with_reducible show wpAny _ _ (subscriptTail (Expr.Subscript ..) (Expr.Constant ..) (Value.ref _) (Value.int _ _)) _ _ _); first | (with_reducible (k_here; (with_reducible show wpAny _ _ (subscriptTail _ _ (Value.ref _) (Value.int _ _)) _ _ _); (with_reducible rename News _ _ _ _ => N9_q); (k_dflt (refine' my_item ?z2k1 ?z2k2 ?z2k3 ?z2k4 ?_ ?z2k6; (case z2k1 => exact my_listof N9_q (by kcj_m)); (case z2k2 => decide); (case z2k3 => decide); (case z2k4 => exact rfl); (case z2k6 => with_unfolding_all rfl))); (try dsimp only)))) | ((with_reducible show wpAny _ _ (subscriptTail (Expr.Subscript ..) (Expr.BinOp ..) (Value.ref _) (Value.int _ _)) _ _ _); first | (with_reducible (k_here; (with_reducible show wpAny _ _ (subscriptTail _ _ (Value.ref _) (Value.int _ _)) _ _ _); (with_reducible rename News _ _ _ _ => N9_q); (k_dflt (refine' my_item ?z2k1 ?z2k2 ?z2k3 ?z2k4 ?_ ?z2k6; (case z2k1 => exact my_listof N9_q (by kcj_m)); (case z2k2 => decide); (case z2k3 => decide); (case z2k4 => exact rfl); (case z2k6 => with_unfolding_all rfl))); (try dsimp only)))) | ((with_reducible show wpAny _ _ (subscriptTail (Expr.Subscript ..) (Expr.Name ..) (Value.ref _) (Value.int _ _)) _ _ _); first | (with_reducible (k_here; (with_reducible show wpAny _ _ (subscriptTail _ _ (Value.ref _) (Value.int _ _)) _ _ _); (with_reducible rename News _ _ _ _ => N9_q); (k_dflt (refine' my_item ?z2k1 ?z2k2 ?z2k3 ?z2k4 ?_ ?z2k6; (case z2k1 => exact my_listof N9_q (by kcj_m)); (case z2k2 => decide); (case z2k3 => decide); (case z2k4 => exact rfl); (case z2k6 => with_unfolding_all rfl))); (try dsimp only)))) | ((with_reducible show wpAny _ _ (subscriptTail (Expr.Name ..) (Expr.BinOp ..) (Value.ref _) (Value.int _ _)) _ _ _); first | (with_reducible (k_here; (with_reducible show wpAny _ _ (subscriptTail _ _ (Value.ref _) (Value.int _ _)) _ _ _); (with_reducible rename News _ _ _ _ => N9_q); (k_dflt (refine' my_item ?z2k1 ?z2k2 ?z2k3 ?z2k4 ?_ ?z2k6; (case z2k1 => exact my_listof N9_q (by kcj_m)); (case z2k2 => decide); (case z2k3 => decide); (case z2k4 => exact rfl); (case z2k6 => with_unfolding_all rfl))); (try dsimp only)))) | ((with_reducible show wpAny _ _ (subscriptTail (Expr.Name ..) (Expr.Name ..) (Value.ref _) (Value.int _ _)) _ _ _); first | (with_reducible (k_here; (with_reducible show wpAny _ _ (subscriptTail _ _ (Value.ref _) (Value.int _ _)) _ _ _); (with_reducible rename News _ _ _ _ => N9_q); (k_dflt (refine' my_item ?z2k1 ?z2k2 ?z2k3 ?z2k4 ?_ ?z2k6; (case z2k1 => exact my_listof N9_q (by kcj_m)); (case z2k2 => decide); (case z2k3 => decide); (case z2k4 => exact rfl); (case z2k6 => with_unfolding_all rfl))); (try dsimp only)))) | ((with_reducible show wpAny _ _ (subscriptTail (Expr.Name ..) (Expr.Constant ..) (Value.ref _) (Value.int _ _)) _ _ _); first | (with_reducible (k_here; (with_reducible show wpAny _ _ (subscriptTail _ _ (Value.ref _) (Value.int _ _)) _ _ _); (with_reducible rename News _ _ _ _ => N9_q); (k_dflt (refine' my_item ?z2k1 ?z2k2 ?z2k3 ?z2k4 ?_ ?z2k6; (case z2k1 => exact my_listof N9_q (by kcj_m)); (case z2k2 => decide); (case z2k3 => decide); (case z2k4 => exact rfl); (case z2k6 => with_unfolding_all rfl))); (try dsimp only)))) | ((with_reducible show wpAny _ _ (subscriptTail _ _ _ _) _ _ _); first | (with_reducible (k_here; (with_reducible show wpAny _ _ (subscriptTail _ _ (Value.ref _) (Value.int _ _)) _ _ _); (with_reducible rename News _ _ _ _ => N9_q); (k_dflt (refine' my_item ?z2k1 ?z2k2 ?z2k3 ?z2k4 ?_ ?z2k6; (case z2k1 => exact my_listof N9_q (by kcj_m)); (case z2k2 => decide); (case z2k3 => decide); (case z2k4 => exact rfl); (case z2k6 => with_unfolding_all rfl))); (try dsimp only)))) | ((with_reducible show wpAny _ _ (storeName _ _ _) _ _ _); first | (with_reducible (k_here; (try dsimp only); k_dflt (refine' storeX_L ?z0F ?z0N ?_ ?z0a ?z0b; (case z0F => k_asm); (case z0N => k_asm); (case z0a => rfl); (case z0b => rfl); k_whole; intro h_q' F_q' N_q'; let mk_q := mOf F_q'; have Fk_q : Fr _ _ _ mk_q := F_q'; (try k_sweep))))) | walk1 | (dsimp only; walk1) | (leave1; (try dsimp only)) | fail "no step"))
  obtain ⟨n9, a9⟩ := Back.end1 (by assumption) (by assumption) (by assumption) (by assumption) (.head _) (by kcj_all) (by k_all)
  refine ret _ _ _ _ _ _ _ _ _ _ ?_ ?_ ?_ (by k_asm) n9 a9
  all_goals ((try simp only [Int.reduceToNat, List.getD_cons_zero, List.getD_cons_succ]); omega)
end

section -- C2
def IsL (p : Nat) : Prop := p = 97 ∨ p = 65 ∨ p = 98 ∨ p = 66
def low (p : Nat) : Nat := if p = 97 ∨ p = 65 then 97 else 98
def cost (p q : Nat) : Int := if p = q then 0 else if low p = low q then 1 else 2
theorem cost_b (p q : Nat) : 0 ≤ cost p q ∧ cost p q ≤ 2 := by unfold cost; split <;> (try split) <;> decide
theorem cost_comm (p q : Nat) : cost p q = cost q p := by
  unfold cost
  by_cases h : p = q
  · subst h; rfl
  · have h' : ¬ q = p := fun e => h e.symm
    rw [if_neg h, if_neg h']
    by_cases k : low p = low q
    · rw [if_pos k, if_pos k.symm]
    · rw [if_neg k, if_neg fun e => k e.symm]
theorem cost_self (p : Nat) : cost p p = 0 := by simp [cost]
theorem ct_subst {c d : Nat} {t u : Tok} (B : Below A₀ base outer h₀) (F : Fr h₀ L s.heap m) (X : (Mine.fr.heap_1 w.params).In h₀) (N : News h₀ L s.heap news) (T : Top p loose mean mg mb h₀) (hk : cs.kind = .function) (hp : IsL c) (hq : IsL d)
    (hd : dp + 1 < recursionLimit)
    (ret : ∀ x h' tk' t', x = cost c d → Fr h₀ L h' m → News h₀ L h' news → Q (.int x t') { s with heap := h', toks := tk' }) :
    wpAny (model PySem.Challenge.rw_sh0040_01.row.prog w) (ktrTop dp un gd cn cs L a ccd cl outer) (call (.ref 108) [.str (Str.mk #[c]) t, .str (Str.mk #[d]) u]) Q E s := by
  (((revert X; k_fill; intro X; refine wpAny_call ?_; k_dflt first | (refine' enterF ?z1k1 ?z1k2 ?z1k3 ?z1k4 ?z1k5 ?z1ks ?z1kA ?z1kF ?z1kK ?z1k6 ?z1k7 ?z1k8 ?z1k9 ?z1kB ?_ ?z1c2 ?z1c3 ?z1c4 ?z1c5; (case z1kA => exact rfl); (case z1kF => exact rfl); (case z1kK => assumption); (case z1k1 => k_asm); (case z1k2 => k_asm); (case z1k3 => k_asm); (case z1k4 => k_asm); (case z1k5 => k_asm); (case z1ks => first | assumption | exact no_sub); (case z1k6 => k_is); (case z1k7 => k_is); (case z1k8 => ktr_room); (case z1k9 => exact BindsTo.of_eq rfl); (case z1c5 => decide); (case z1kB => exact locs rfl); (case z1c2 => exact rfl); (case z1c3 => exact rfl); (case z1c4 => exact rfl); k_whole; intro g_q' L_q' h_q' tk_q' bk_q' FG_q' F_q' N_q' B_q' X_q' T_q' l1_q; (try k_lt l1_q); (try dsimp only); (try k_lift B_q'); (try k_fold)) | (refine' enterFC ?z1k1 ?z1k2 ?z1k3 ?z1k4 ?z1k5 ?z1ks ?z1kA ?z1kF ?z1kK ?z1k6 ?z1k7 ?z1k8 ?z1k9 ?z1kB ?z1kD ?_ ?z1c2 ?z1c3 ?z1c4; (case z1kA => exact rfl); (case z1kF => exact rfl); (case z1kK => assumption); (case z1k1 => k_asm); (case z1k2 => k_asm); (case z1k3 => k_asm); (case z1k4 => k_asm); (case z1k5 => k_asm); (case z1ks => first | assumption | exact no_sub); (case z1k6 => k_is); (case z1k7 => k_is); (case z1k8 => ktr_room); (case z1k9 => exact BindsTo.of_eq rfl); (case z1kB => exact rfl); (case z1kD => decide +kernel); (case z1c2 => exact rfl); (case z1c3 => exact rfl); (case z1c4 => exact rfl); k_whole; intro g_q' L_q' h_q' tk_q' cells_q' bk_q' FG_q' F_q' N_q' Y_q' B_q' X_q' T_q' l1_q; (try k_lt l1_q); k_cells Y_q'; (try simp only [List.cons_append, List.nil_append] at N_q'); (try dsimp only); (try k_lift B_q'); (try k_fold))); (show wpAny _ ?A9 _ _ _ _); (let ak : Around := ?A9); (change wpAny _ ak _ _ _ _); k_fold); (repeat' (first | (k_unfold; (try dsimp only)) | (k_end; kc_close) | ((with_reducible first | show wpAny _ _ (execs _ _) _ _ _ | show wpAny _ _ (exec (.For ..) _) _ _ _ | show wpAny _ _ (exec (.While ..) _) _ _ _); k_fold) | ((with_reducible show wpAny _ _ (eval (Expr.Call ..) _) _ _ _); first | (with_reducible k_dflt (refine Call_ ?_))) | ((with_reducible show wpAny _ _ (subscriptTail (Expr.Subscript ..) (Expr.Constant ..) (Value.ref _) (Value.int _ _)) _ _ _); first | (with_reducible (k_here; (with_reducible show wpAny _ _ (subscriptTail _ _ (Value.ref _) (Value.int _ _)) _ _ _); (with_reducible rename News _ _ _ _ => N9_q); (k_dflt (refine' my_item ?z2k1 ?z2k2 ?z2k3 ?z2k4 ?_ ?z2k6; (case z2k1 => exact my_listof N9_q (by kcj_m)); (case z2k2 => decide); (case z2k3 => decide); (case z2k4 => exact rfl); (case z2k6 => with_unfolding_all rfl))); (try dsimp only)))) | ((with_reducible show wpAny _ _ (subscriptTail (Expr.Subscript ..) (Expr.BinOp ..) (Value.ref _) (Value.int _ _)) _ _ _); first | (with_reducible (k_here; (with_reducible show wpAny _ _ (subscriptTail _ _ (Value.ref _) (Value.int _ _)) _ _ _); (with_reducible rename News _ _ _ _ => N9_q); (k_dflt (refine' my_item ?z2k1 ?z2k2 ?z2k3 ?z2k4 ?_ ?z2k6; (case z2k1 => exact my_listof N9_q (by kcj_m)); (case z2k2 => decide); (case z2k3 => decide); (case z2k4 => exact rfl); (case z2k6 => with_unfolding_all rfl))); (try dsimp only)))) | ((with_reducible show wpAny _ _ (subscriptTail (Expr.Subscript ..) (Expr.Name ..) (Value.ref _) (Value.int _ _)) _ _ _); first | (with_reducible (k_here; (with_reducible show wpAny _ _ (subscriptTail _ _ (Value.ref _) (Value.int _ _)) _ _ _); (with_reducible rename News _ _ _ _ => N9_q); (k_dflt (refine' my_item ?z2k1 ?z2k2 ?z2k3 ?z2k4 ?_ ?z2k6; (case z2k1 => exact my_listof N9_q (by kcj_m)); (case z2k2 => decide); (case z2k3 => decide); (case z2k4 => exact rfl); (case z2k6 => with_unfolding_all rfl))); (try dsimp only)))) | ((with_reducible show wpAny _ _ (subscriptTail (Expr.Name ..) (Expr.BinOp ..) (Value.ref _) (Value.int _ _)) _ _ _); first | (with_reducible (k_here; (with_reducible show wpAny _ _ (subscriptTail _ _ (Value.ref _) (Value.int _ _)) _ _ _); (with_reducible rename News _ _ _ _ => N9_q); (k_dflt (refine' my_item ?z2k1 ?z2k2 ?z2k3 ?z2k4 ?_ ?z2k6; (case z2k1 => exact my_listof N9_q (by kcj_m)); (case z2k2 => decide); (case z2k3 => decide); (case z2k4 => exact rfl); (case z2k6 => with_unfolding_all rfl))); (try dsimp only)))) | ((with_reducible show wpAny _ _ (subscriptTail (Expr.Name ..) (Expr.Name ..) (Value.ref _) (Value.int _ _)) _ _ _); first | (with_reducible (k_here; (with_reducible show wpAny _ _ (subscriptTail _ _ (Value.ref _) (Value.int _ _)) _ _ _); (with_reducible rename News _ _ _ _ => N9_q); (k_dflt (refine' my_item ?z2k1 ?z2k2 ?z2k3 ?z2k4 ?_ ?z2k6; (case z2k1 => exact my_listof N9_q (by kcj_m)); (case z2k2 => decide); (case z2k3 => decide); (case z2k4 => exact rfl); (case z2k6 => with_unfolding_all rfl))); (try dsimp only)))) | ((with_reducible show wpAny _ _ (subscriptTail (Expr.Name ..) (Expr.Constant ..) (Value.ref _) (Value.int _ _)) _ _ _); first | (with_reducible (k_here; (with_reducible show wpAny _ _ (subscriptTail _ _ (Value.ref _) (Value.int _ _)) _ _ _); (with_reducible rename News _ _ _ _ => N9_q); (k_dflt (refine' my_item ?z2k1 ?z2k2 ?z2k3 ?z2k4 ?_ ?z2k6; (case z2k1 => exact my_listof N9_q (by kcj_m)); (case z2k2 => decide); (case z2k3 => decide); (case z2k4 => exact rfl); (case z2k6 => with_unfolding_all rfl))); (try dsimp only)))) | ((with_reducible show wpAny _ _ (subscriptTail _ _ _ _) _ _ _); first | (with_reducible (k_here; (with_reducible show wpAny _ _ (subscriptTail _ _ (Value.ref _) (Value.int _ _)) _ _ _); (with_reducible rename News _ _ _ _ => N9_q); (k_dflt (refine' my_item ?z2k1 ?z2k2 ?z2k3 ?z2k4 ?_ ?z2k6; (case z2k1 => exact my_listof N9_q (by kcj_m)); (case z2k2 => decide); (case z2k3 => decide); (case z2k4 => exact rfl); (case z2k6 => with_unfolding_all rfl))); (try dsimp only)))) | ((with_reducible show wpAny _ _ (storeName _ _ _) _ _ _); first | (with_reducible (k_here; (try dsimp only); k_dflt (refine' storeX_L ?z0F ?z0N ?_ ?z0a ?z0b; (case z0F => k_asm); (case z0N => k_asm); (case z0a => rfl); (case z0b => rfl); k_whole; intro h_q' F_q' N_q'; let mk_q := mOf F_q'; have Fk_q : Fr _ _ _ mk_q := F_q'; (try k_sweep))))) | walk1 | (dsimp only; walk1) | (leave1; (try dsimp only)) | fail "no step")))
  all_goals (
    rcases hp with rfl | rfl | rfl | rfl <;> rcases hq with rfl | rfl | rfl | rfl <;>
    first
    | (rename ((_ == _) = _) => h9; exact absurd h9 (by decide +kernel))
    | exact ret _ _ _ _ (by decide) (by k_asm) (Back.end0 (by assumption) (by assumption) (by assumption) (by kcj_all))
    | ((repeat' (first | (k_unfold; (try dsimp only)) | (k_end; kc_close) | ((with_reducible first | show wpAny _ _ (execs _ _) _ _ _ | show wpAny _ _ (exec (.For ..) _) _ _ _ | show wpAny _ _ (exec (.While ..) _) _ _ _); k_fold) | ((with_reducible show wpAny _ _ (eval (Expr.Call ..) _) _ _ _); first | (with_reducible k_dflt (refine Call_ ?_))) | ((with_reducible show wpAny _ _ (subscriptTail (Expr.Subscript ..) (Expr.Constant ..) (Value.ref _) (Value.int _ _)) _ _ _); first | (with_reducible (k_here; (with_reducible show wpAny _ _ (subscriptTail _ _ (Value.ref _) (Value.int _ _)) _ _ _); (with_reducible rename News _ _ _ _ => N9_q); (k_dflt (refine' my_item ?z2k1 ?z2k2 ?z2k3 ?z2k4 ?_ ?z2k6; (case z2k1 => exact my_listof N9_q (by kcj_m)); (case z2k2 => decide); (case z2k3 => decide); (case z2k4 => exact rfl); (case z2k6 => with_unfolding_all rfl))); (try dsimp only)))) | ((with_reducible show wpAny _ _ (subscriptTail (Expr.Subscript ..) (Expr.BinOp ..) (Value.ref _) (Value.int _ _)) _ _ _); first | (with_reducible (k_here; (with_reducible show wpAny _ _ (subscriptTail _ _ (Value.ref _) (Value.int _ _)) _ _ _); (with_reducible rename News _ _ _ _ => N9_q); (k_dflt (refine' my_item ?z2k1 ?z2k2 ?z2k3 ?z2k4 ?_ ?z2k6; (case z2k1 => exact my_listof N9_q (by kcj_m)); (case z2k2 => decide); (case z2k3 => decide); (case z2k4 => exact rfl); (case z2k6 => with_unfolding_all rfl))); (try dsimp only)))) | ((with_reducible show wpAny _ _ (subscriptTail (Expr.Subscript ..) (Expr.Name ..) (Value.ref _) (Value.int _ _)) _ _ _); first | (with_reducible (k_here; (with_reducible show wpAny _ _ (subscriptTail _ _ (Value.ref _) (Value.int _ _)) _ _ _); (with_reducible rename News _ _ _ _ => N9_q); (k_dflt (refine' my_item ?z2k1 ?z2k2 ?z2k3 ?z2k4 ?_ ?z2k6; (case z2k1 => exact my_listof N9_q (by kcj_m)); (case z2k2 => decide); (case z2k3 => decide); (case z2k4 => exact rfl); (case z2k6 => with_unfolding_all rfl))); (try dsimp only)))) | ((with_reducible show wpAny _ _ (subscriptTail (Expr.Name ..) (Expr.BinOp ..) (Value.ref _) (Value.int _ _)) _ _ _); first | (with_reducible (k_here; (with_reducible show wpAny _ _ (subscriptTail _ _ (Value.ref _) (Value.int _ _)) _ _ _); (with_reducible rename News _ _ _ _ => N9_q); (k_dflt (refine' my_item ?z2k1 ?z2k2 ?z2k3 ?z2k4 ?_ ?z2k6; (case z2k1 => exact my_listof N9_q (by kcj_m)); (case z2k2 => decide); (case z2k3 => decide); (case z2k4 => exact rfl); (case z2k6 => with_unfolding_all rfl))); (try dsimp only)))) | ((with_reducible show wpAny _ _ (subscriptTail (Expr.Name ..) (Expr.Name ..) (Value.ref _) (Value.int _ _)) _ _ _); first | (with_reducible (k_here; (with_reducible show wpAny _ _ (subscriptTail _ _ (Value.ref _) (Value.int _ _)) _ _ _); (with_reducible rename News _ _ _ _ => N9_q); (k_dflt (refine' my_item ?z2k1 ?z2k2 ?z2k3 ?z2k4 ?_ ?z2k6; (case z2k1 => exact my_listof N9_q (by kcj_m)); (case z2k2 => decide); (case z2k3 => decide); (case z2k4 => exact rfl); (case z2k6 => with_unfolding_all rfl))); (try dsimp only)))) | ((with_reducible show wpAny _ _ (subscriptTail (Expr.Name ..) (Expr.Constant ..) (Value.ref _) (Value.int _ _)) _ _ _); first | (with_reducible (k_here; (with_reducible show wpAny _ _ (subscriptTail _ _ (Value.ref _) (Value.int _ _)) _ _ _); (with_reducible rename News _ _ _ _ => N9_q); (k_dflt (refine' my_item ?z2k1 ?z2k2 ?z2k3 ?z2k4 ?_ ?z2k6; (case z2k1 => exact my_listof N9_q (by kcj_m)); (case z2k2 => decide); (case z2k3 => decide); (case z2k4 => exact rfl); (case z2k6 => with_unfolding_all rfl))); (try dsimp only)))) | ((with_reducible show wpAny _ _ (subscriptTail _ _ _ _) _ _ _); first | (with_reducible (k_here; (with_reducible show wpAny _ _ (subscriptTail _ _ (Value.ref _) (Value.int _ _)) _ _ _); (with_reducible rename News _ _ _ _ => N9_q); (k_dflt (refine' my_item ?z2k1 ?z2k2 ?z2k3 ?z2k4 ?_ ?z2k6; (case z2k1 => exact my_listof N9_q (by kcj_m)); (case z2k2 => decide); (case z2k3 => decide); (case z2k4 => exact rfl); (case z2k6 => with_unfolding_all rfl))); (try dsimp only)))) | ((with_reducible show wpAny _ _ (storeName _ _ _) _ _ _); first | (with_reducible (k_here; (try dsimp only); k_dflt (refine' storeX_L ?z0F ?z0N ?_ ?z0a ?z0b; (case z0F => k_asm); (case z0N => k_asm); (case z0a => rfl); (case z0b => rfl); k_whole; intro h_q' F_q' N_q'; let mk_q := mOf F_q'; have Fk_q : Fr _ _ _ mk_q := F_q'; (try k_sweep))))) | walk1 | (dsimp only; walk1) | (leave1; (try dsimp only)) | fail "no step")); exact ret _ _ _ _ (by decide) (by k_asm) (Back.end0 (by assumption) (by assumption) (by assumption) (by kcj_all))))
theorem ct_unlike {c d : Nat} {t u : Tok} (B : Below A₀ base outer h₀) (F : Fr h₀ L s.heap m) (X : (Mine.fr.heap_1 w.params).In h₀) (N : News h₀ L s.heap news) (T : Top p loose mean mg mb h₀) (hk : cs.kind = .function) (hp : IsL c) (hq : IsL d)
    (hd : dp + 1 < recursionLimit)
    (ret : ∀ x h' tk' t', x = cost c d → Fr h₀ L h' m → News h₀ L h' news → Q (.int x t') { s with heap := h', toks := tk' }) :
    wpAny (model PySem.Challenge.rw_sh0040_01.row.prog w) (ktrTop dp un gd cn cs L a ccd cl outer) (call (.ref 122) [.str (Str.mk #[c]) t, .str (Str.mk #[d]) u]) Q E s := by
  (((revert X; k_fill; intro X; refine wpAny_call ?_; k_dflt first | (refine' enterF ?z1k1 ?z1k2 ?z1k3 ?z1k4 ?z1k5 ?z1ks ?z1kA ?z1kF ?z1kK ?z1k6 ?z1k7 ?z1k8 ?z1k9 ?z1kB ?_ ?z1c2 ?z1c3 ?z1c4 ?z1c5; (case z1kA => exact rfl); (case z1kF => exact rfl); (case z1kK => assumption); (case z1k1 => k_asm); (case z1k2 => k_asm); (case z1k3 => k_asm); (case z1k4 => k_asm); (case z1k5 => k_asm); (case z1ks => first | assumption | exact no_sub); (case z1k6 => k_is); (case z1k7 => k_is); (case z1k8 => ktr_room); (case z1k9 => exact BindsTo.of_eq rfl); (case z1c5 => decide); (case z1kB => exact locs rfl); (case z1c2 => exact rfl); (case z1c3 => exact rfl); (case z1c4 => exact rfl); k_whole; intro g_q' L_q' h_q' tk_q' bk_q' FG_q' F_q' N_q' B_q' X_q' T_q' l1_q; (try k_lt l1_q); (try dsimp only); (try k_lift B_q'); (try k_fold)) | (refine' enterFC ?z1k1 ?z1k2 ?z1k3 ?z1k4 ?z1k5 ?z1ks ?z1kA ?z1kF ?z1kK ?z1k6 ?z1k7 ?z1k8 ?z1k9 ?z1kB ?z1kD ?_ ?z1c2 ?z1c3 ?z1c4; (case z1kA => exact rfl); (case z1kF => exact rfl); (case z1kK => assumption); (case z1k1 => k_asm); (case z1k2 => k_asm); (case z1k3 => k_asm); (case z1k4 => k_asm); (case z1k5 => k_asm); (case z1ks => first | assumption | exact no_sub); (case z1k6 => k_is); (case z1k7 => k_is); (case z1k8 => ktr_room); (case z1k9 => exact BindsTo.of_eq rfl); (case z1kB => exact rfl); (case z1kD => decide +kernel); (case z1c2 => exact rfl); (case z1c3 => exact rfl); (case z1c4 => exact rfl); k_whole; intro g_q' L_q' h_q' tk_q' cells_q' bk_q' FG_q' F_q' N_q' Y_q' B_q' X_q' T_q' l1_q; (try k_lt l1_q); k_cells Y_q'; (try simp only [List.cons_append, List.nil_append] at N_q'); (try dsimp only); (try k_lift B_q'); (try k_fold))); (show wpAny _ ?A9 _ _ _ _); (let ak : Around := ?A9); (change wpAny _ ak _ _ _ _); k_fold); (repeat' (first | (k_unfold; (try dsimp only)) | (k_end; kc_close) | ((with_reducible first | show wpAny _ _ (execs _ _) _ _ _ | show wpAny _ _ (exec (.For ..) _) _ _ _ | show wpAny _ _ (exec (.While ..) _) _ _ _); k_fold) | ((with_reducible show wpAny _ _ (eval (Expr.Call ..) _) _ _ _); first | (with_reducible k_dflt (refine Call_ ?_))) | ((with_reducible show wpAny _ _ (subscriptTail (Expr.Subscript ..) (Expr.Constant ..) (Value.ref _) (Value.int _ _)) _ _ _); first | (with_reducible (k_here; (with_reducible show wpAny _ _ (subscriptTail _ _ (Value.ref _) (Value.int _ _)) _ _ _); (with_reducible rename News _ _ _ _ => N9_q); (k_dflt (refine' my_item ?z2k1 ?z2k2 ?z2k3 ?z2k4 ?_ ?z2k6; (case z2k1 => exact my_listof N9_q (by kcj_m)); (case z2k2 => decide); (case z2k3 => decide); (case z2k4 => exact rfl); (case z2k6 => with_unfolding_all rfl))); (try dsimp only)))) | ((with_reducible show wpAny _ _ (subscriptTail (Expr.Subscript ..) (Expr.BinOp ..) (Value.ref _) (Value.int _ _)) _ _ _); first | (with_reducible (k_here; (with_reducible show wpAny _ _ (subscriptTail _ _ (Value.ref _) (Value.int _ _)) _ _ _); (with_reducible rename News _ _ _ _ => N9_q); (k_dflt (refine' my_item ?z2k1 ?z2k2 ?z2k3 ?z2k4 ?_ ?z2k6; (case z2k1 => exact my_listof N9_q (by kcj_m)); (case z2k2 => decide); (case z2k3 => decide); (case z2k4 => exact rfl); (case z2k6 => with_unfolding_all rfl))); (try dsimp only)))) | ((with_reducible show wpAny _ _ (subscriptTail (Expr.Subscript ..) (Expr.Name ..) (Value.ref _) (Value.int _ _)) _ _ _); first | (with_reducible (k_here; (with_reducible show wpAny _ _ (subscriptTail _ _ (Value.ref _) (Value.int _ _)) _ _ _); (with_reducible rename News _ _ _ _ => N9_q); (k_dflt (refine' my_item ?z2k1 ?z2k2 ?z2k3 ?z2k4 ?_ ?z2k6; (case z2k1 => exact my_listof N9_q (by kcj_m)); (case z2k2 => decide); (case z2k3 => decide); (case z2k4 => exact rfl); (case z2k6 => with_unfolding_all rfl))); (try dsimp only)))) | ((with_reducible show wpAny _ _ (subscriptTail (Expr.Name ..) (Expr.BinOp ..) (Value.ref _) (Value.int _ _)) _ _ _); first | (with_reducible (k_here; (with_reducible show wpAny _ _ (subscriptTail _ _ (Value.ref _) (Value.int _ _)) _ _ _); (with_reducible rename News _ _ _ _ => N9_q); (k_dflt (refine' my_item ?z2k1 ?z2k2 ?z2k3 ?z2k4 ?_ ?z2k6; (case z2k1 => exact my_listof N9_q (by kcj_m)); (case z2k2 => decide); (case z2k3 => decide); (case z2k4 => exact rfl); (case z2k6 => with_unfolding_all rfl))); (try dsimp only)))) | ((with_reducible show wpAny _ _ (subscriptTail (Expr.Name ..) (Expr.Name ..) (Value.ref _) (Value.int _ _)) _ _ _); first | (with_reducible (k_here; (with_reducible show wpAny _ _ (subscriptTail _ _ (Value.ref _) (Value.int _ _)) _ _ _); (with_reducible rename News _ _ _ _ => N9_q); (k_dflt (refine' my_item ?z2k1 ?z2k2 ?z2k3 ?z2k4 ?_ ?z2k6; (case z2k1 => exact my_listof N9_q (by kcj_m)); (case z2k2 => decide); (case z2k3 => decide); (case z2k4 => exact rfl); (case z2k6 => with_unfolding_all rfl))); (try dsimp only)))) | ((with_reducible show wpAny _ _ (subscriptTail (Expr.Name ..) (Expr.Constant ..) (Value.ref _) (Value.int _ _)) _ _ _); first | (with_reducible (k_here; (with_reducible show wpAny _ _ (subscriptTail _ _ (Value.ref _) (Value.int _ _)) _ _ _); (with_reducible rename News _ _ _ _ => N9_q); (k_dflt (refine' my_item ?z2k1 ?z2k2 ?z2k3 ?z2k4 ?_ ?z2k6; (case z2k1 => exact my_listof N9_q (by kcj_m)); (case z2k2 => decide); (case z2k3 => decide); (case z2k4 => exact rfl); (case z2k6 => with_unfolding_all rfl))); (try dsimp only)))) | ((with_reducible show wpAny _ _ (subscriptTail _ _ _ _) _ _ _); first | (with_reducible (k_here; (with_reducible show wpAny _ _ (subscriptTail _ _ (Value.ref _) (Value.int _ _)) _ _ _); (with_reducible rename News _ _ _ _ => N9_q); (k_dflt (refine' my_item ?z2k1 ?z2k2 ?z2k3 ?z2k4 ?_ ?z2k6; (case z2k1 => exact my_listof N9_q (by kcj_m)); (case z2k2 => decide); (case z2k3 => decide); (case z2k4 => exact rfl); (case z2k6 => with_unfolding_all rfl))); (try dsimp only)))) | ((with_reducible show wpAny _ _ (storeName _ _ _) _ _ _); first | (with_reducible (k_here; (try dsimp only); k_dflt (refine' storeX_L ?z0F ?z0N ?_ ?z0a ?z0b; (case z0F => k_asm); (case z0N => k_asm); (case z0a => rfl); (case z0b => rfl); k_whole; intro h_q' F_q' N_q'; let mk_q := mOf F_q'; have Fk_q : Fr _ _ _ mk_q := F_q'; (try k_sweep))))) | walk1 | (dsimp only; walk1) | (leave1; (try dsimp only)) | fail "no step")))
  all_goals (refine ret _ _ _ _ ?_ (by k_asm) (Back.end0 (by assumption) (by assumption) (by assumption) (by kcj_all)))
  · rename ((_ == _) = _) => h9
    revert h9; rcases hp with rfl | rfl | rfl | rfl <;> rcases hq with rfl | rfl | rfl | rfl <;> decide +kernel
  · rename ((_ == _) = _) => h9; revert h9; rename ((_ == _) = _) => h9; revert h9; 
    rcases hp with rfl | rfl | rfl | rfl <;> rcases hq with rfl | rfl | rfl | rfl <;> decide +kernel
  · rename ((_ == _) = _) => h9; revert h9; rename ((_ == _) = _) => h9; revert h9; 
    rcases hp with rfl | rfl | rfl | rfl <;> rcases hq with rfl | rfl | rfl | rfl <;> decide +kernel
end

section -- C11
theorem rep_flat {v : Value} {k : Nat} : (List.replicate k [v]).flatten = List.replicate k v := by
  induction k with
  | zero => rfl
  | succ k ih => rw [List.replicate_succ, List.flatten_cons, ih]; rfl
section
section
theorem ct_i2d {x : Int} {t u : Tok} (B : Below A₀ base outer h₀) (F : Fr h₀ L s.heap m) (X : (Mine.fr.heap_1 w.params).In h₀) (N : News h₀ L s.heap news) (T : Top p loose mean mg mb h₀) (hk : cs.kind = .function) (hx' : 0 < x ∧ x < 549755813888)
    {gg : Obj → List (Addr × Obj)} (C : CodeHd base 34 30) (hsub : ∀ q ∈ [((30 : Addr), tabObj #[])], q ∈ news) (U : UpdF 30 (tabObj #[]) news gg)
    (hd : dp + 20 < recursionLimit)
    (ret : ∀ r us n ps h' tk', (((Builtin.Int.intBits x : Int) + 3 - 1).fdiv 3).toNat ≤ 13 → IntsAre us (digs (((Builtin.Int.intBits x : Int) + 3 - 1).fdiv 3).toNat x) → Fr h₀ L h' m → News h₀ L h' ((r, listOf us.toArray n) :: gg (tabObj ps)) → (∀ q ∈ gg (tabObj ps), q.1 ≠ r) → Q (.ref r) { s with heap := h', toks := tk' }) :
    wpAny (model PySem.Challenge.rw_sh0040_01.row.prog w) (ktrTop dp un gd cn cs L a ccd cl outer) (call (.ref 35) [.int x t, .int 3 u]) Q E s := by
  have hx : 0 < x ∧ x < 8 ^ 13 := hx'
  have hk9 := bits_k hx
  have hx8 := bits_lt hx.1
  (((revert X; k_fill; intro X; refine wpAny_call ?_; k_dflt first | (refine' enterF ?z1k1 ?z1k2 ?z1k3 ?z1k4 ?z1k5 ?z1ks ?z1kA ?z1kF ?z1kK ?z1k6 ?z1k7 ?z1k8 ?z1k9 ?z1kB ?_ ?z1c2 ?z1c3 ?z1c4 ?z1c5; (case z1kA => exact rfl); (case z1kF => exact rfl); (case z1kK => assumption); (case z1k1 => k_asm); (case z1k2 => k_asm); (case z1k3 => k_asm); (case z1k4 => k_asm); (case z1k5 => k_asm); (case z1ks => first | assumption | exact no_sub); (case z1k6 => k_is); (case z1k7 => k_is); (case z1k8 => ktr_room); (case z1k9 => exact BindsTo.of_eq rfl); (case z1c5 => decide); (case z1kB => exact locs rfl); (case z1c2 => exact rfl); (case z1c3 => exact rfl); (case z1c4 => exact rfl); k_whole; intro g_q' L_q' h_q' tk_q' bk_q' FG_q' F_q' N_q' B_q' X_q' T_q' l1_q; (try k_lt l1_q); (try dsimp only); (try k_lift B_q'); (try k_fold)) | (refine' enterFC ?z1k1 ?z1k2 ?z1k3 ?z1k4 ?z1k5 ?z1ks ?z1kA ?z1kF ?z1kK ?z1k6 ?z1k7 ?z1k8 ?z1k9 ?z1kB ?z1kD ?_ ?z1c2 ?z1c3 ?z1c4; (case z1kA => exact rfl); (case z1kF => exact rfl); (case z1kK => assumption); (case z1k1 => k_asm); (case z1k2 => k_asm); (case z1k3 => k_asm); (case z1k4 => k_asm); (case z1k5 => k_asm); (case z1ks => first | assumption | exact no_sub); (case z1k6 => k_is); (case z1k7 => k_is); (case z1k8 => ktr_room); (case z1k9 => exact BindsTo.of_eq rfl); (case z1kB => exact rfl); (case z1kD => decide +kernel); (case z1c2 => exact rfl); (case z1c3 => exact rfl); (case z1c4 => exact rfl); k_whole; intro g_q' L_q' h_q' tk_q' cells_q' bk_q' FG_q' F_q' N_q' Y_q' B_q' X_q' T_q' l1_q; (try k_lt l1_q); k_cells Y_q'; (try simp only [List.cons_append, List.nil_append] at N_q'); (try dsimp only); (try k_lift B_q'); (try k_fold))); (show wpAny _ ?A9 _ _ _ _); (let ak : Around := ?A9); (change wpAny _ ak _ _ _ _); k_fold); (repeat' (first | (k_unfold; (try dsimp only)) | (k_end; kc_close) | ((with_reducible first | show wpAny _ _ (execs _ _) _ _ _ | show wpAny _ _ (exec (.For ..) _) _ _ _ | show wpAny _ _ (exec (.While ..) _) _ _ _); k_fold) | ((with_reducible show wpAny _ _ (call (Value.ref _) _) _ _ _); first | (with_reducible (k_here; (rename (∀ k, k < _ → InC _ _ _ _ _ _ _ _ _ _ _ k) => IH9_q); (k_dflt ((refine' InC.use (IH9_q _ ?z11kl) ?z11k1 ?z11k2 ?z11k3 ?z11k4 ?z11k5 ?z11k6 ?z11U ?z11hs ?z11hb ?z11hx ?z11hd ?_); (case z11kl => omega); (case z11k1 => k_asm); (case z11k2 => k_asm); (case z11k3 => k_asm); (case z11k4 => k_asm); (case z11k5 => k_asm); (case z11k6 => first | exact rfl | assumption); (case z11U => k_updF); (case z11hs => kcj_all); (case z11hb => omega); (case z11hx => first | assumption | exact ⟨by omega, up_lt (by assumption) (by assumption) (by omega)⟩); (case z11hd => ktr_room); k_whole; intro h9_q tk9_q us9_q vs9_q cc9_q e9_q f9_q F9_q N9_q i9_q; (try dsimp only))); (try dsimp only at N9_q); (try k_sweep); (try k_fold))) | (with_reducible (k_here; (k_dflt ((refine' inner_call ?z10k1 ?z10k2 ?z10k3 ?z10k4 ?z10k5 ?z10k6 ?z10U ?z10hb ?z10hx ?z10hd ?_ ?z10step); (case z10k4 => k_asm); (case z10k1 => k_asm); (case z10k2 => k_asm); (case z10k3 => k_asm); (case z10k5 => k_asm); (case z10k6 => first | exact rfl | assumption); (case z10U => k_updF); (case z10hb => ((simp only [List.length_replicate]); omega)); (case z10hx => exact ⟨by omega, by (rename (∀ j : Nat, _ → _ < _) => h8; exact h8 _ (by omega))⟩); (case z10hd => ktr_room); k_whole; intro h9_q tk9_q us9_q vs9_q cc9_q e9_q f9_q F9_q N9_q i9_q; (try dsimp only))); (try dsimp only at N9_q); (try k_sweep); (try k_fold)))) | ((with_reducible show wpAny _ _ (setItem (Value.ref _) (Value.int _ _) _) _ _ _); first | (with_reducible (k_here; (k_dflt (refine' my_set ?z8F ?z8N ?z8U ?z8z ?z8y ?z8x ?_; (case z8F => k_asm); (case z8N => k_asm); (case z8U => k_upd); (case z8z => omega); (case z8y => omega); (case z8x => omega))); intro h9_q F9_q N9_q; (try dsimp only)))) | ((with_reducible show wpAny _ _ (binaryOp Operator.BitXor (Value.int _ _) (Value.int _ _)) _ _ _); first | (with_reducible (k_here; (with_reducible (refine' xor_oct ?z7z ?z7y ?z7x ?_)); (case z7z => omega); (case z7x => with_reducible assumption); (case z7y => with_reducible assumption); intro c9_q e9_q f9_q; (try dsimp only)))) | ((with_reducible show wpAny _ _ (binaryOp Operator.LShift (Value.int _ _) (Value.int _ _)) _ _ _); first | (with_reducible (k_here; (with_reducible (refine lsh_oct ?z6z ?z6y ?z6x ?_)); (case z6z => omega); (case z6y => omega); (case z6x => omega); intro c9_q e9_q; (try dsimp only)))) | ((with_reducible show wpAny _ _ (binaryOp Operator.RShift (Value.int _ _) (Value.int _ _)) _ _ _); first | (with_reducible (k_here; first | (with_reducible (refine rsh_one ?_); intro c9_q e9_q; (try dsimp only)) | (with_reducible (refine rsh_oct ?z5z ?z5y ?_); (case z5z => omega); (case z5y => omega); intro c9_q e9_q f9_q; (try dsimp only))))) | ((with_reducible show wpAny _ _ (call _ _) _ _ _); first | (with_reducible (k_here; (with_reducible show wpAny _ _ (call (Value.builtin "len") [Value.ref _]) _ _ _); (k_dflt (refine' my_len ?z4N ?z4m ?z4e ?z4z ?_; (case z4N => k_asm); (case z4m => k_mem); (case z4e => (first | (simp only [List.length_replicate]; exact rfl) | exact rfl)); (case z4z => (first | (simp only [List.length_replicate]; omega) | omega)))); intro t9_q k9_q; (try dsimp only)))) | ((with_reducible show wpAny _ _ (binaryOp Operator.Mult (Value.ref _) (Value.int _ _)) _ _ _); first | (with_reducible (k_here; (k_dflt (refine' KMa.mul ?z3F ?z3N ?z3l ?z3lo ?z3hi ?z3z ?z3e ?_; (case z3F => k_asm); (case z3N => k_asm); (case z3l => is_list); (case z3e => exact rep_flat); (case z3lo => omega); (case z3hi => omega); (case z3z => (simp only [List.length_cons, List.length_nil]; omega)))); intro D_q' h_q' F_q' N_q' l1_q; (try k_lt l1_q); (try k_sweep); (try dsimp only)))) | ((with_reducible show wpAny _ _ (eval (Expr.Call ..) _) _ _ _); first | (with_reducible k_dflt (refine Call_ ?_))) | ((with_reducible show wpAny _ _ (subscriptTail (Expr.Subscript ..) (Expr.Constant ..) (Value.ref _) (Value.int _ _)) _ _ _); first | (with_reducible (k_here; (with_reducible show wpAny _ _ (subscriptTail _ _ (Value.ref _) (Value.int _ _)) _ _ _); (with_reducible rename News _ _ _ _ => N9_q); (k_dflt (refine' my_item ?z2k1 ?z2k2 ?z2k3 ?z2k4 ?_ ?z2k6; (case z2k1 => exact my_listof N9_q (by kcj_m)); (case z2k2 => decide); (case z2k3 => decide); (case z2k4 => exact rfl); (case z2k6 => with_unfolding_all rfl))); (try dsimp only)))) | ((with_reducible show wpAny _ _ (subscriptTail (Expr.Subscript ..) (Expr.BinOp ..) (Value.ref _) (Value.int _ _)) _ _ _); first | (with_reducible (k_here; (with_reducible show wpAny _ _ (subscriptTail _ _ (Value.ref _) (Value.int _ _)) _ _ _); (with_reducible rename News _ _ _ _ => N9_q); (k_dflt (refine' my_item ?z2k1 ?z2k2 ?z2k3 ?z2k4 ?_ ?z2k6; (case z2k1 => exact my_listof N9_q (by kcj_m)); (case z2k2 => decide); (case z2k3 => decide); (case z2k4 => exact rfl); (case z2k6 => with_unfolding_all rfl))); (try dsimp only)))) | ((with_reducible show wpAny _ _ (subscriptTail (Expr.Subscript ..) (Expr.Name ..) (Value.ref _) (Value.int _ _)) _ _ _); first | (with_reducible (k_here; (with_reducible show wpAny _ _ (subscriptTail _ _ (Value.ref _) (Value.int _ _)) _ _ _); (with_reducible rename News _ _ _ _ => N9_q); (k_dflt (refine' my_item ?z2k1 ?z2k2 ?z2k3 ?z2k4 ?_ ?z2k6; (case z2k1 => exact my_listof N9_q (by kcj_m)); (case z2k2 => decide); (case z2k3 => decide); (case z2k4 => exact rfl); (case z2k6 => with_unfolding_all rfl))); (try dsimp only)))) | ((with_reducible show wpAny _ _ (subscriptTail (Expr.Name ..) (Expr.BinOp ..) (Value.ref _) (Value.int _ _)) _ _ _); first | (with_reducible (k_here; (with_reducible show wpAny _ _ (subscriptTail _ _ (Value.ref _) (Value.int _ _)) _ _ _); (with_reducible rename News _ _ _ _ => N9_q); (k_dflt (refine' my_item ?z2k1 ?z2k2 ?z2k3 ?z2k4 ?_ ?z2k6; (case z2k1 => exact my_listof N9_q (by kcj_m)); (case z2k2 => decide); (case z2k3 => decide); (case z2k4 => exact rfl); (case z2k6 => with_unfolding_all rfl))); (try dsimp only)))) | ((with_reducible show wpAny _ _ (subscriptTail (Expr.Name ..) (Expr.Name ..) (Value.ref _) (Value.int _ _)) _ _ _); first | (with_reducible (k_here; (with_reducible show wpAny _ _ (subscriptTail _ _ (Value.ref _) (Value.int _ _)) _ _ _); (with_reducible rename News _ _ _ _ => N9_q); (k_dflt (refine' my_item ?z2k1 ?z2k2 ?z2k3 ?z2k4 ?_ ?z2k6; (case z2k1 => exact my_listof N9_q (by kcj_m)); (case z2k2 => decide); (case z2k3 => decide); (case z2k4 => exact rfl); (case z2k6 => with_unfolding_all rfl))); (try dsimp only)))) | ((with_reducible show wpAny _ _ (subscriptTail (Expr.Name ..) (Expr.Constant ..) (Value.ref _) (Value.int _ _)) _ _ _); first | (with_reducible (k_here; (with_reducible show wpAny _ _ (subscriptTail _ _ (Value.ref _) (Value.int _ _)) _ _ _); (with_reducible rename News _ _ _ _ => N9_q); (k_dflt (refine' my_item ?z2k1 ?z2k2 ?z2k3 ?z2k4 ?_ ?z2k6; (case z2k1 => exact my_listof N9_q (by kcj_m)); (case z2k2 => decide); (case z2k3 => decide); (case z2k4 => exact rfl); (case z2k6 => with_unfolding_all rfl))); (try dsimp only)))) | ((with_reducible show wpAny _ _ (subscriptTail _ _ _ _) _ _ _); first | (with_reducible (k_here; (with_reducible show wpAny _ _ (subscriptTail _ _ (Value.ref _) (Value.int _ _)) _ _ _); (with_reducible rename News _ _ _ _ => N9_q); (k_dflt (refine' my_item ?z2k1 ?z2k2 ?z2k3 ?z2k4 ?_ ?z2k6; (case z2k1 => exact my_listof N9_q (by kcj_m)); (case z2k2 => decide); (case z2k3 => decide); (case z2k4 => exact rfl); (case z2k6 => with_unfolding_all rfl))); (try dsimp only)))) | ((with_reducible show wpAny _ _ (storeName _ _ _) _ _ _); first | (with_reducible (k_here; (try dsimp only); k_dflt (refine' storeX_L ?z0F ?z0N ?_ ?z0a ?z0b; (case z0F => k_asm); (case z0N => k_asm); (case z0a => rfl); (case z0b => rfl); k_whole; intro h_q' F_q' N_q'; let mk_q := mOf F_q'; have Fk_q : Fr _ _ _ mk_q := F_q'; (try k_sweep))))) | walk1 | (dsimp only; walk1) | (leave1; (try dsimp only)) | fail "no step")))
  · rename (_ = List.take _ _ ++ _ ++ _) => ea
    rename IntsAre _ _ => ia
    have e2 := ia.length
    rw [digs_len] at e2
    have e3 : ((((((Builtin.Int.intBits x : Int) + 3 - 1).fdiv 3).toNat : Nat) : Int) - 0).toNat = (((Builtin.Int.intBits x : Int) + 3 - 1).fdiv 3).toNat := by omega
    rw [e3] at ia
    rw [Int.toNat_zero, List.take_zero, List.nil_append, List.drop_of_length_le (by rw [List.length_replicate]; omega), List.append_nil] at ea
    subst ea
    obtain ⟨n9, a9⟩ := Back.upd1 (by assumption) N (by assumption) (by assumption) (by assumption) U (by kcj_all) (by kcj_all) (by kcj_m) (.tail _ (.tail _ (.head _))) (by k_all)
    exact ret _ _ _ _ _ _ (by omega) ia (by k_asm) n9 a9
  · clear ret
    refine ⟨fun n IH => ?_⟩
    unfold InC
    intro lo hi x vs cc tx tl th dp un gd cn cs a ccd cl outer A₀ base h₀ L m news gg s Q E B F X N T hk U hs hb hx hd hret
    have hx64 : x < 18446744073709551616 := Int.lt_of_lt_of_le hx.2 (pow8_le (by omega))
    have hxl := hx.2
    have hm1 := hs _ (.tail _ (.tail _ (.head _)))
    refine wpAny_call ?_
    k_dflt (refine' enterN ?z9k1 ?z9k2 ?z9k3 ?z9k4 ?z9k5 ?z9ks ?z9kA ?z9kF ?z9kK ?z9k6 ?z9k7 ?z9k8 ?z9k9 ?z9kB ?_ ?z9c2 ?z9c3 ?z9c4 ?z9c5; (case z9kA => exact rfl); (case z9kF => exact rfl); (case z9kK => assumption); (case z9k1 => k_asm); (case z9k2 => k_asm); (case z9k3 => k_asm); (case z9k4 => k_asm); (case z9k5 => k_asm); (case z9ks => assumption); (case z9k6 => k_mem); (case z9k7 => exact codeRec_news (by k_asm) (by assumption) (by assumption) (by assumption)); (case z9k8 => ktr_room); (case z9k9 => exact BindsTo.of_eq rfl); (case z9c5 => decide); (case z9kB => exact locs rfl); (case z9c2 => exact rfl); (case z9c3 => exact rfl); (case z9c4 => exact rfl); k_whole; intro g_q' L_q' h_q' tk_q' bk_q' FG_q' F_q' N_q' B_q' X_q' T_q' l1_q; (try k_lt l1_q); (try dsimp only); (try k_lift B_q'); (try k_fold))
    (repeat' (first | (k_unfold; (try dsimp only)) | (k_end; kc_close) | ((with_reducible first | show wpAny _ _ (execs _ _) _ _ _ | show wpAny _ _ (exec (.For ..) _) _ _ _ | show wpAny _ _ (exec (.While ..) _) _ _ _); k_fold) | ((with_reducible show wpAny _ _ (call (Value.ref _) _) _ _ _); first | (with_reducible (k_here; (rename (∀ k, k < _ → InC _ _ _ _ _ _ _ _ _ _ _ k) => IH9_q); (k_dflt ((refine' InC.use (IH9_q _ ?z11kl) ?z11k1 ?z11k2 ?z11k3 ?z11k4 ?z11k5 ?z11k6 ?z11U ?z11hs ?z11hb ?z11hx ?z11hd ?_); (case z11kl => omega); (case z11k1 => k_asm); (case z11k2 => k_asm); (case z11k3 => k_asm); (case z11k4 => k_asm); (case z11k5 => k_asm); (case z11k6 => first | exact rfl | assumption); (case z11U => k_updF); (case z11hs => kcj_all); (case z11hb => omega); (case z11hx => first | assumption | exact ⟨by omega, up_lt (by assumption) (by assumption) (by omega)⟩); (case z11hd => ktr_room); k_whole; intro h9_q tk9_q us9_q vs9_q cc9_q e9_q f9_q F9_q N9_q i9_q; (try dsimp only))); (try dsimp only at N9_q); (try k_sweep); (try k_fold))) | (with_reducible (k_here; (k_dflt ((refine' inner_call ?z10k1 ?z10k2 ?z10k3 ?z10k4 ?z10k5 ?z10k6 ?z10U ?z10hb ?z10hx ?z10hd ?_ ?z10step); (case z10k4 => k_asm); (case z10k1 => k_asm); (case z10k2 => k_asm); (case z10k3 => k_asm); (case z10k5 => k_asm); (case z10k6 => first | exact rfl | assumption); (case z10U => k_updF); (case z10hb => ((simp only [List.length_replicate]); omega)); (case z10hx => exact ⟨by omega, by (rename (∀ j : Nat, _ → _ < _) => h8; exact h8 _ (by omega))⟩); (case z10hd => ktr_room); k_whole; intro h9_q tk9_q us9_q vs9_q cc9_q e9_q f9_q F9_q N9_q i9_q; (try dsimp only))); (try dsimp only at N9_q); (try k_sweep); (try k_fold)))) | ((with_reducible show wpAny _ _ (setItem (Value.ref _) (Value.int _ _) _) _ _ _); first | (with_reducible (k_here; (k_dflt (refine' my_set ?z8F ?z8N ?z8U ?z8z ?z8y ?z8x ?_; (case z8F => k_asm); (case z8N => k_asm); (case z8U => k_upd); (case z8z => omega); (case z8y => omega); (case z8x => omega))); intro h9_q F9_q N9_q; (try dsimp only)))) | ((with_reducible show wpAny _ _ (binaryOp Operator.BitXor (Value.int _ _) (Value.int _ _)) _ _ _); first | (with_reducible (k_here; (with_reducible (refine' xor_oct ?z7z ?z7y ?z7x ?_)); (case z7z => omega); (case z7x => with_reducible assumption); (case z7y => with_reducible assumption); intro c9_q e9_q f9_q; (try dsimp only)))) | ((with_reducible show wpAny _ _ (binaryOp Operator.LShift (Value.int _ _) (Value.int _ _)) _ _ _); first | (with_reducible (k_here; (with_reducible (refine lsh_oct ?z6z ?z6y ?z6x ?_)); (case z6z => omega); (case z6y => omega); (case z6x => omega); intro c9_q e9_q; (try dsimp only)))) | ((with_reducible show wpAny _ _ (binaryOp Operator.RShift (Value.int _ _) (Value.int _ _)) _ _ _); first | (with_reducible (k_here; first | (with_reducible (refine rsh_one ?_); intro c9_q e9_q; (try dsimp only)) | (with_reducible (refine rsh_oct ?z5z ?z5y ?_); (case z5z => omega); (case z5y => omega); intro c9_q e9_q f9_q; (try dsimp only))))) | ((with_reducible show wpAny _ _ (call _ _) _ _ _); first | (with_reducible (k_here; (with_reducible show wpAny _ _ (call (Value.builtin "len") [Value.ref _]) _ _ _); (k_dflt (refine' my_len ?z4N ?z4m ?z4e ?z4z ?_; (case z4N => k_asm); (case z4m => k_mem); (case z4e => (first | (simp only [List.length_replicate]; exact rfl) | exact rfl)); (case z4z => (first | (simp only [List.length_replicate]; omega) | omega)))); intro t9_q k9_q; (try dsimp only)))) | ((with_reducible show wpAny _ _ (binaryOp Operator.Mult (Value.ref _) (Value.int _ _)) _ _ _); first | (with_reducible (k_here; (k_dflt (refine' KMa.mul ?z3F ?z3N ?z3l ?z3lo ?z3hi ?z3z ?z3e ?_; (case z3F => k_asm); (case z3N => k_asm); (case z3l => is_list); (case z3e => exact rep_flat); (case z3lo => omega); (case z3hi => omega); (case z3z => (simp only [List.length_cons, List.length_nil]; omega)))); intro D_q' h_q' F_q' N_q' l1_q; (try k_lt l1_q); (try k_sweep); (try dsimp only)))) | ((with_reducible show wpAny _ _ (eval (Expr.Call ..) _) _ _ _); first | (with_reducible k_dflt (refine Call_ ?_))) | ((with_reducible show wpAny _ _ (subscriptTail (Expr.Subscript ..) (Expr.Constant ..) (Value.ref _) (Value.int _ _)) _ _ _); first | (with_reducible (k_here; (with_reducible show wpAny _ _ (subscriptTail _ _ (Value.ref _) (Value.int _ _)) _ _ _); (with_reducible rename News _ _ _ _ => N9_q); (k_dflt (refine' my_item ?z2k1 ?z2k2 ?z2k3 ?z2k4 ?_ ?z2k6; (case z2k1 => exact my_listof N9_q (by kcj_m)); (case z2k2 => decide); (case z2k3 => decide); (case z2k4 => exact rfl); (case z2k6 => with_unfolding_all rfl))); (try dsimp only)))) | ((with_reducible show wpAny _ _ (subscriptTail (Expr.Subscript ..) (Expr.BinOp ..) (Value.ref _) (Value.int _ _)) _ _ _); first | (with_reducible (k_here; (with_reducible show wpAny _ _ (subscriptTail _ _ (Value.ref _) (Value.int _ _)) _ _ _); (with_reducible rename News _ _ _ _ => N9_q); (k_dflt (refine' my_item ?z2k1 ?z2k2 ?z2k3 ?z2k4 ?_ ?z2k6; (case z2k1 => exact my_listof N9_q (by kcj_m)); (case z2k2 => decide); (case z2k3 => decide); (case z2k4 => exact rfl); (case z2k6 => with_unfolding_all rfl))); (try dsimp only)))) | ((with_reducible show wpAny _ _ (subscriptTail (Expr.Subscript ..) (Expr.Name ..) (Value.ref _) (Value.int _ _)) _ _ _); first | (with_reducible (k_here; (with_reducible show wpAny _ _ (subscriptTail _ _ (Value.ref _) (Value.int _ _)) _ _ _); (with_reducible rename News _ _ _ _ => N9_q); (k_dflt (refine' my_item ?z2k1 ?z2k2 ?z2k3 ?z2k4 ?_ ?z2k6; (case z2k1 => exact my_listof N9_q (by kcj_m)); (case z2k2 => decide); (case z2k3 => decide); (case z2k4 => exact rfl); (case z2k6 => with_unfolding_all rfl))); (try dsimp only)))) | ((with_reducible show wpAny _ _ (subscriptTail (Expr.Name ..) (Expr.BinOp ..) (Value.ref _) (Value.int _ _)) _ _ _); first | (with_reducible (k_here; (with_reducible show wpAny _ _ (subscriptTail _ _ (Value.ref _) (Value.int _ _)) _ _ _); (with_reducible rename News _ _ _ _ => N9_q); (k_dflt (refine' my_item ?z2k1 ?z2k2 ?z2k3 ?z2k4 ?_ ?z2k6; (case z2k1 => exact my_listof N9_q (by kcj_m)); (case z2k2 => decide); (case z2k3 => decide); (case z2k4 => exact rfl); (case z2k6 => with_unfolding_all rfl))); (try dsimp only)))) | ((with_reducible show wpAny _ _ (subscriptTail (Expr.Name ..) (Expr.Name ..) (Value.ref _) (Value.int _ _)) _ _ _); first | (with_reducible (k_here; (with_reducible show wpAny _ _ (subscriptTail _ _ (Value.ref _) (Value.int _ _)) _ _ _); (with_reducible rename News _ _ _ _ => N9_q); (k_dflt (refine' my_item ?z2k1 ?z2k2 ?z2k3 ?z2k4 ?_ ?z2k6; (case z2k1 => exact my_listof N9_q (by kcj_m)); (case z2k2 => decide); (case z2k3 => decide); (case z2k4 => exact rfl); (case z2k6 => with_unfolding_all rfl))); (try dsimp only)))) | ((with_reducible show wpAny _ _ (subscriptTail (Expr.Name ..) (Expr.Constant ..) (Value.ref _) (Value.int _ _)) _ _ _); first | (with_reducible (k_here; (with_reducible show wpAny _ _ (subscriptTail _ _ (Value.ref _) (Value.int _ _)) _ _ _); (with_reducible rename News _ _ _ _ => N9_q); (k_dflt (refine' my_item ?z2k1 ?z2k2 ?z2k3 ?z2k4 ?_ ?z2k6; (case z2k1 => exact my_listof N9_q (by kcj_m)); (case z2k2 => decide); (case z2k3 => decide); (case z2k4 => exact rfl); (case z2k6 => with_unfolding_all rfl))); (try dsimp only)))) | ((with_reducible show wpAny _ _ (subscriptTail _ _ _ _) _ _ _); first | (with_reducible (k_here; (with_reducible show wpAny _ _ (subscriptTail _ _ (Value.ref _) (Value.int _ _)) _ _ _); (with_reducible rename News _ _ _ _ => N9_q); (k_dflt (refine' my_item ?z2k1 ?z2k2 ?z2k3 ?z2k4 ?_ ?z2k6; (case z2k1 => exact my_listof N9_q (by kcj_m)); (case z2k2 => decide); (case z2k3 => decide); (case z2k4 => exact rfl); (case z2k6 => with_unfolding_all rfl))); (try dsimp only)))) | ((with_reducible show wpAny _ _ (storeName _ _ _) _ _ _); first | (with_reducible (k_here; (try dsimp only); k_dflt (refine' storeX_L ?z0F ?z0N ?_ ?z0a ?z0b; (case z0F => k_asm); (case z0N => k_asm); (case z0a => rfl); (case z0b => rfl); k_whole; intro h_q' F_q' N_q'; let mk_q := mOf F_q'; have Fk_q : Fr _ _ _ mk_q := F_q'; (try k_sweep))))) | walk1 | (dsimp only; walk1) | (leave1; (try dsimp only)) | fail "no step"))
    · obtain ⟨q1, q2⟩ := inner_one (t := tx) hb (by assumption) hx
      exact hret _ _ _ _ _ q1 (List.length_set ..) (by k_asm) (Back.upd (by assumption) (by assumption) (by assumption) (by assumption) (by assumption) (by kcj_all) (fun q hq => hs q (.tail _ hq)) (by kcj_m)) q2
    · obtain ⟨q1, q2⟩ := inner_two hb (by assumption) (by assumption) (by assumption) (by assumption) (by assumption) (by assumption) (by assumption) (by assumption)
      exact hret _ _ _ _ _ q1 (by omega) (by k_asm) (Back.upd (by assumption) (by assumption) (by assumption) (by assumption) (by assumption) (by kcj_all) (fun q hq => hs q (.tail _ hq)) (by kcj_m)) q2
  · omega
end
end
end

section -- C12
theorem apart_of {r9 a D : Addr} {o9 o o' : Obj} {fx : List (Addr × Obj)} (h : ∀ p ∈ (r9, o9) :: (a, o') :: fx, p.1 ≠ D) : ∀ q ∈ (a, o) :: fx, q.1 ≠ D := by
  intro q hq
  rcases List.mem_cons.mp hq with rfl | hq
  · exact h (a, o') (.tail _ (.head _))
  · exact h q (.tail _ (.tail _ hq))
theorem sum_six {c d e f g h : Int} {p q r s t u : Nat} (h1 : c = 8 ^ p) (h2 : d = 8 ^ q) (h3 : e = 8 ^ r) (h4 : f = 8 ^ s) (h5 : g = 8 ^ t) (h6 : h = 8 ^ u) : 0 + c + d + e + f + g + h = 8 ^ p + 8 ^ q + 8 ^ r + 8 ^ s + 8 ^ t + 8 ^ u := by
  subst h1 h2 h3 h4 h5 h6; omega
theorem k_lt_of {x : Int} (hx : 0 < x ∧ x < 549755813888) : x < 8 ^ (((Builtin.Int.intBits x : Int) + 3 - 1).fdiv 3).toNat := by
  have h := bits_k (x := x) hx
  exact bits_lt hx.1 _ (by omega)
section
theorem ct_ways {pt r0 r1 r2 : Addr} {a0 a1 a2 b0 b1 b2 c0 c1 c2 : Int} {t1 t2 t3 t4 t5 t6 t7 t8 t9 : Tok} {nt n0 n1 n2 : Nat} {gg : Obj → List (Addr × Obj)} (B : Below A₀ base outer h₀) (F : Fr h₀ L s.heap m) (X : (Mine.fr.heap_1 w.params).In h₀) (N : News h₀ L s.heap news) (T : Top p loose mean mg mb h₀) (hk : cs.kind = .function)
    (hsub : ∀ q ∈ [(30, tabObj #[]), (pt, listOf [Value.ref r0, .ref r1, .ref r2].toArray nt), (r0, listOf [Value.int a0 t1, .int a1 t2, .int a2 t3].toArray n0), (r1, listOf [Value.int b0 t4, .int b1 t5, .int b2 t6].toArray n1), (r2, listOf [Value.int c0 t7, .int c1 t8, .int c2 t9].toArray n2)], q ∈ news)
    (ha : (0 ≤ a0 ∧ a0 ≤ 4) ∧ (0 ≤ a1 ∧ a1 ≤ 4) ∧ (0 ≤ a2 ∧ a2 ≤ 4)) (hb : (0 ≤ b0 ∧ b0 ≤ 4) ∧ (0 ≤ b1 ∧ b1 ≤ 4) ∧ (0 ≤ b2 ∧ b2 ≤ 4)) (hc : (0 ≤ c0 ∧ c0 ≤ 4) ∧ (0 ≤ c1 ∧ c1 ≤ 4) ∧ (0 ≤ c2 ∧ c2 ≤ 4))
    (C : CodeHd base 34 30) (U : UpdF 30 (tabObj #[]) news gg) (hl : @Ne Nat pt 30 ∧ @Ne Nat r0 30 ∧ @Ne Nat r1 30 ∧ @Ne Nat r2 30)
    (hd : dp + 30 < recursionLimit)
    (ret : ∀ r us ws n ps h' tk', IntsAre us ws → WaysOk (a0 + b1 + c2) (a0 + b2 + c1) (a1 + b0 + c2) (a1 + b2 + c0) (a2 + b0 + c1) (a2 + b1 + c0) ws → Fr h₀ L h' m → News h₀ L h' ((r, listOf us.toArray n) :: gg (tabObj ps)) → (∀ q ∈ gg (tabObj ps), q.1 ≠ r) → Q (.ref r) { s with heap := h', toks := tk' }) :
    wpAny (model PySem.Challenge.rw_sh0040_01.row.prog w) (ktrTop dp un gd cn cs L a ccd cl outer) (call (.ref 134) [.ref pt]) Q E s := by
  (((revert X; k_fill; intro X; refine wpAny_call ?_; k_dflt first | (refine' enterF ?z1k1 ?z1k2 ?z1k3 ?z1k4 ?z1k5 ?z1ks ?z1kA ?z1kF ?z1kK ?z1k6 ?z1k7 ?z1k8 ?z1k9 ?z1kB ?_ ?z1c2 ?z1c3 ?z1c4 ?z1c5; (case z1kA => exact rfl); (case z1kF => exact rfl); (case z1kK => assumption); (case z1k1 => k_asm); (case z1k2 => k_asm); (case z1k3 => k_asm); (case z1k4 => k_asm); (case z1k5 => k_asm); (case z1ks => first | assumption | exact no_sub); (case z1k6 => k_is); (case z1k7 => k_is); (case z1k8 => ktr_room); (case z1k9 => exact BindsTo.of_eq rfl); (case z1c5 => decide); (case z1kB => exact locs rfl); (case z1c2 => exact rfl); (case z1c3 => exact rfl); (case z1c4 => exact rfl); k_whole; intro g_q' L_q' h_q' tk_q' bk_q' FG_q' F_q' N_q' B_q' X_q' T_q' l1_q; (try k_lt l1_q); (try dsimp only); (try k_lift B_q'); (try k_fold)) | (refine' enterFC ?z1k1 ?z1k2 ?z1k3 ?z1k4 ?z1k5 ?z1ks ?z1kA ?z1kF ?z1kK ?z1k6 ?z1k7 ?z1k8 ?z1k9 ?z1kB ?z1kD ?_ ?z1c2 ?z1c3 ?z1c4; (case z1kA => exact rfl); (case z1kF => exact rfl); (case z1kK => assumption); (case z1k1 => k_asm); (case z1k2 => k_asm); (case z1k3 => k_asm); (case z1k4 => k_asm); (case z1k5 => k_asm); (case z1ks => first | assumption | exact no_sub); (case z1k6 => k_is); (case z1k7 => k_is); (case z1k8 => ktr_room); (case z1k9 => exact BindsTo.of_eq rfl); (case z1kB => exact rfl); (case z1kD => decide +kernel); (case z1c2 => exact rfl); (case z1c3 => exact rfl); (case z1c4 => exact rfl); k_whole; intro g_q' L_q' h_q' tk_q' cells_q' bk_q' FG_q' F_q' N_q' Y_q' B_q' X_q' T_q' l1_q; (try k_lt l1_q); k_cells Y_q'; (try simp only [List.cons_append, List.nil_append] at N_q'); (try dsimp only); (try k_lift B_q'); (try k_fold))); (show wpAny _ ?A9 _ _ _ _); (let ak : Around := ?A9); (change wpAny _ ak _ _ _ _); k_fold); (repeat' (first | (k_unfold; (try dsimp only)) | (k_end; kc_close) | ((with_reducible first | show wpAny _ _ (execs _ _) _ _ _ | show wpAny _ _ (exec (.For ..) _) _ _ _ | show wpAny _ _ (exec (.While ..) _) _ _ _); k_fold) | ((with_reducible show wpAny _ _ (pyIter (Value.ref _)) _ _ _); first | (with_reducible (k_dflt ((with_reducible show wpAny _ _ (pyIter _) (CompPost _ _ _ _ _ _ _ _ _) _ _); (rename Fr _ _ _ _ => F_q'); (rename News _ _ _ _ => N_q'); (with_reducible apply srcC_listDW); (case hh => with_unfolding_all rfl); (case hl => with_unfolding_all exact my_listof N_q' (by kcj_m)); (case hi => with_unfolding_all exact IntsAre.areOf (by assumption)); (case hsz => (rw [digs_len, sizeLine_eq]; omega)); (case F => with_unfolding_all exact F_q'); (case N => with_unfolding_all exact N_q'); (case' g3 => (intros; (with_reducible rename NewPlain _ _ _ _ => np9_q); (have ap9_q := np9_q.2))); (case' g2 => (intros; (rename ItemKind.is _ _ _ => i_q'); (obtain ⟨_, e_q'⟩ := ItemKind.int_is i_q'; subst e_q'); (try (((with_reducible refine wpAny_leafK ?_); (try (first | ((with_reducible refine markB ?_); intro _) | ((with_reducible refine markD ?_); intro _)))))))); (case' g1 => (intros; (rename ItemKind.is _ _ _ => i_q'); (obtain ⟨_, e_q'⟩ := ItemKind.int_is i_q'; subst e_q'))))))) | ((with_reducible show wpAny _ _ (call (Value.ref _) _) _ _ _); first | (with_reducible (k_here; k_dflt ((refine' ct_i2d ?z13k1 ?z13k2 ?z13k3 ?z13k4 ?z13k5 ?z13k6 ?z13p0 ?z13p1 ?z13p2 ?z13p3 ?z13kd ?_); (case z13k1 => k_asm); (case z13k2 => k_asm); (case z13k3 => k_asm); (case z13k4 => k_asm); (case z13k5 => k_asm); (case z13k6 => first | exact rfl | assumption); (case z13p0 => omega); (case z13p1 => assumption); (case z13p2 => kcj_all); (case z13p3 => k_updF); (case z13kd => ktr_room); k_whole; intro r9_q us9_q n9_q ps9_q h9_q tk9_q z9_q i9_q F9_q N9_q l9_q; (try dsimp only)); (try k_sweep); skip))) | ((with_reducible show wpAny _ _ (binaryOp Operator.LShift (Value.int _ _) (Value.int _ _)) _ _ _); first | (with_reducible (k_here; (with_reducible (refine lsh_unit ?z12z ?z12y ?_)); (case z12z => omega); (case z12y => omega); intro c9_q e9_q f9_q; (try dsimp only)))) | ((with_reducible show wpAny _ _ (eval (Expr.Call ..) _) _ _ _); first | (with_reducible k_dflt (refine Call_ ?_))) | ((with_reducible show wpAny _ _ (subscriptTail (Expr.Subscript ..) (Expr.Constant ..) (Value.ref _) (Value.int _ _)) _ _ _); first | (with_reducible (k_here; (with_reducible show wpAny _ _ (subscriptTail _ _ (Value.ref _) (Value.int _ _)) _ _ _); (with_reducible rename News _ _ _ _ => N9_q); (k_dflt (refine' my_item ?z2k1 ?z2k2 ?z2k3 ?z2k4 ?_ ?z2k6; (case z2k1 => exact my_listof N9_q (by kcj_m)); (case z2k2 => decide); (case z2k3 => decide); (case z2k4 => exact rfl); (case z2k6 => with_unfolding_all rfl))); (try dsimp only)))) | ((with_reducible show wpAny _ _ (subscriptTail (Expr.Subscript ..) (Expr.BinOp ..) (Value.ref _) (Value.int _ _)) _ _ _); first | (with_reducible (k_here; (with_reducible show wpAny _ _ (subscriptTail _ _ (Value.ref _) (Value.int _ _)) _ _ _); (with_reducible rename News _ _ _ _ => N9_q); (k_dflt (refine' my_item ?z2k1 ?z2k2 ?z2k3 ?z2k4 ?_ ?z2k6; (case z2k1 => exact my_listof N9_q (by kcj_m)); (case z2k2 => decide); (case z2k3 => decide); (case z2k4 => exact rfl); (case z2k6 => with_unfolding_all rfl))); (try dsimp only)))) | ((with_reducible show wpAny _ _ (subscriptTail (Expr.Subscript ..) (Expr.Name ..) (Value.ref _) (Value.int _ _)) _ _ _); first | (with_reducible (k_here; (with_reducible show wpAny _ _ (subscriptTail _ _ (Value.ref _) (Value.int _ _)) _ _ _); (with_reducible rename News _ _ _ _ => N9_q); (k_dflt (refine' my_item ?z2k1 ?z2k2 ?z2k3 ?z2k4 ?_ ?z2k6; (case z2k1 => exact my_listof N9_q (by kcj_m)); (case z2k2 => decide); (case z2k3 => decide); (case z2k4 => exact rfl); (case z2k6 => with_unfolding_all rfl))); (try dsimp only)))) | ((with_reducible show wpAny _ _ (subscriptTail (Expr.Name ..) (Expr.BinOp ..) (Value.ref _) (Value.int _ _)) _ _ _); first | (with_reducible (k_here; (with_reducible show wpAny _ _ (subscriptTail _ _ (Value.ref _) (Value.int _ _)) _ _ _); (with_reducible rename News _ _ _ _ => N9_q); (k_dflt (refine' my_item ?z2k1 ?z2k2 ?z2k3 ?z2k4 ?_ ?z2k6; (case z2k1 => exact my_listof N9_q (by kcj_m)); (case z2k2 => decide); (case z2k3 => decide); (case z2k4 => exact rfl); (case z2k6 => with_unfolding_all rfl))); (try dsimp only)))) | ((with_reducible show wpAny _ _ (subscriptTail (Expr.Name ..) (Expr.Name ..) (Value.ref _) (Value.int _ _)) _ _ _); first | (with_reducible (k_here; (with_reducible show wpAny _ _ (subscriptTail _ _ (Value.ref _) (Value.int _ _)) _ _ _); (with_reducible rename News _ _ _ _ => N9_q); (k_dflt (refine' my_item ?z2k1 ?z2k2 ?z2k3 ?z2k4 ?_ ?z2k6; (case z2k1 => exact my_listof N9_q (by kcj_m)); (case z2k2 => decide); (case z2k3 => decide); (case z2k4 => exact rfl); (case z2k6 => with_unfolding_all rfl))); (try dsimp only)))) | ((with_reducible show wpAny _ _ (subscriptTail (Expr.Name ..) (Expr.Constant ..) (Value.ref _) (Value.int _ _)) _ _ _); first | (with_reducible (k_here; (with_reducible show wpAny _ _ (subscriptTail _ _ (Value.ref _) (Value.int _ _)) _ _ _); (with_reducible rename News _ _ _ _ => N9_q); (k_dflt (refine' my_item ?z2k1 ?z2k2 ?z2k3 ?z2k4 ?_ ?z2k6; (case z2k1 => exact my_listof N9_q (by kcj_m)); (case z2k2 => decide); (case z2k3 => decide); (case z2k4 => exact rfl); (case z2k6 => with_unfolding_all rfl))); (try dsimp only)))) | ((with_reducible show wpAny _ _ (subscriptTail _ _ _ _) _ _ _); first | (with_reducible (k_here; (with_reducible show wpAny _ _ (subscriptTail _ _ (Value.ref _) (Value.int _ _)) _ _ _); (with_reducible rename News _ _ _ _ => N9_q); (k_dflt (refine' my_item ?z2k1 ?z2k2 ?z2k3 ?z2k4 ?_ ?z2k6; (case z2k1 => exact my_listof N9_q (by kcj_m)); (case z2k2 => decide); (case z2k3 => decide); (case z2k4 => exact rfl); (case z2k6 => with_unfolding_all rfl))); (try dsimp only)))) | ((with_reducible show wpAny _ _ (storeName _ _ _) _ _ _); first | (with_reducible (k_here; (try dsimp only); k_dflt (refine' storeX_L ?z0F ?z0N ?_ ?z0a ?z0b; (case z0F => k_asm); (case z0N => k_asm); (case z0a => rfl); (case z0b => rfl); k_whole; intro h_q' F_q' N_q'; let mk_q := mOf F_q'; have Fk_q : Fr _ _ _ mk_q := F_q'; (try k_sweep))))) | walk1 | (dsimp only; walk1) | (leave1; (try dsimp only)) | fail "no step")))
  · exact ⟨_, _, rfl, fun _ _ e => e⟩
  · rename (IntsAre _ (List.map _ (List.filter _ (digs (Int.fdiv _ _).toNat _)))) => iX
    rw [List.map_id'] at iX
    have hs6 := sum_six (p := (a0 + b1 + c2).toNat) (q := (a0 + b2 + c1).toNat) (r := (a1 + b0 + c2).toNat) (s := (a1 + b2 + c0).toNat) (t := (a2 + b0 + c1).toNat) (u := (a2 + b1 + c0).toNat) (by assumption) (by assumption) (by assumption) (by assumption) (by assumption) (by assumption)
    have q := ways_ok (by omega) (by omega) (by omega) (by omega) (by omega) (by omega) hs6 (k_lt_of (by omega))
    obtain ⟨n9, a9⟩ := Back.upd1 (by assumption) N (by assumption) (by assumption) (by assumption) U (by kcj_all) (fun q hq => hsub q (.tail _ hq)) (by kcj_m) (.head _) (apart_of (by assumption))
    exact ret _ _ _ _ _ _ _ iX q (by k_asm) n9 a9
end
end

section -- C3
section

theorem ct_apart {c d c' d' : Nat} {t u : Tok} (B : Below A₀ base outer h₀) (F : Fr h₀ L s.heap m) (X : (Mine.fr.heap_1 w.params).In h₀) (N : News h₀ L s.heap news) (T : Top p loose mean mg mb h₀) (hk : cs.kind = .function) (hp : IsL c) (hq : IsL d) (hp' : IsL c') (hq' : IsL d') 
    (hd : dp + 2 < recursionLimit)
    (ret : ∀ x h' tk' t', x = cost c c' + cost d d' → Fr h₀ L h' m → News h₀ L h' news → Q (.int x t') { s with heap := h', toks := tk' }) :
    wpAny (model PySem.Challenge.rw_sh0040_01.row.prog w) (ktrTop dp un gd cn cs L a ccd cl outer) (call (.ref 129) [.str (Str.mk #[c, d]) t, .str (Str.mk #[c', d']) u]) Q E s := by
  (((revert X; k_fill; intro X; refine wpAny_call ?_; k_dflt first | (refine' enterF ?z1k1 ?z1k2 ?z1k3 ?z1k4 ?z1k5 ?z1ks ?z1kA ?z1kF ?z1kK ?z1k6 ?z1k7 ?z1k8 ?z1k9 ?z1kB ?_ ?z1c2 ?z1c3 ?z1c4 ?z1c5; (case z1kA => exact rfl); (case z1kF => exact rfl); (case z1kK => assumption); (case z1k1 => k_asm); (case z1k2 => k_asm); (case z1k3 => k_asm); (case z1k4 => k_asm); (case z1k5 => k_asm); (case z1ks => first | assumption | exact no_sub); (case z1k6 => k_is); (case z1k7 => k_is); (case z1k8 => ktr_room); (case z1k9 => exact BindsTo.of_eq rfl); (case z1c5 => decide); (case z1kB => exact locs rfl); (case z1c2 => exact rfl); (case z1c3 => exact rfl); (case z1c4 => exact rfl); k_whole; intro g_q' L_q' h_q' tk_q' bk_q' FG_q' F_q' N_q' B_q' X_q' T_q' l1_q; (try k_lt l1_q); (try dsimp only); (try k_lift B_q'); (try k_fold)) | (refine' enterFC ?z1k1 ?z1k2 ?z1k3 ?z1k4 ?z1k5 ?z1ks ?z1kA ?z1kF ?z1kK ?z1k6 ?z1k7 ?z1k8 ?z1k9 ?z1kB ?z1kD ?_ ?z1c2 ?z1c3 ?z1c4; (case z1kA => exact rfl); (case z1kF => exact rfl); (case z1kK => assumption); (case z1k1 => k_asm); (case z1k2 => k_asm); (case z1k3 => k_asm); (case z1k4 => k_asm); (case z1k5 => k_asm); (case z1ks => first | assumption | exact no_sub); (case z1k6 => k_is); (case z1k7 => k_is); (case z1k8 => ktr_room); (case z1k9 => exact BindsTo.of_eq rfl); (case z1kB => exact rfl); (case z1kD => decide +kernel); (case z1c2 => exact rfl); (case z1c3 => exact rfl); (case z1c4 => exact rfl); k_whole; intro g_q' L_q' h_q' tk_q' cells_q' bk_q' FG_q' F_q' N_q' Y_q' B_q' X_q' T_q' l1_q; (try k_lt l1_q); k_cells Y_q'; (try simp only [List.cons_append, List.nil_append] at N_q'); (try dsimp only); (try k_lift B_q'); (try k_fold))); (show wpAny _ ?A9 _ _ _ _); (let ak : Around := ?A9); (change wpAny _ ak _ _ _ _); k_fold); (repeat' (first | (k_unfold; (try dsimp only)) | (k_end; kc_close) | ((with_reducible first | show wpAny _ _ (execs _ _) _ _ _ | show wpAny _ _ (exec (.For ..) _) _ _ _ | show wpAny _ _ (exec (.While ..) _) _ _ _); k_fold) | ((with_reducible show wpAny _ _ (call (Value.ref _) _) _ _ _); first | (with_reducible (k_here; k_dflt ((refine' ct_unlike ?z18k1 ?z18k2 ?z18k3 ?z18k4 ?z18k5 ?z18k6 ?z18p0 ?z18p1 ?z18kd ?_); (case z18k1 => k_asm); (case z18k2 => k_asm); (case z18k3 => k_asm); (case z18k4 => k_asm); (case z18k5 => k_asm); (case z18k6 => first | exact rfl | assumption); (case z18p0 => assumption); (case z18p1 => assumption); (case z18kd => ktr_room); k_whole; intro x9_q h9_q tk9_q t9_q e9_q F9_q N9_q; (try dsimp only)); (try k_sweep); (try k_fold)))) | ((with_reducible show wpAny _ _ (subscriptTail (Expr.Name ..) (Expr.Constant ..) (Value.str _ _) (Value.int _ _)) _ _ _); first | (with_reducible (((first | ((k_dflt refine' ms_it 1 (by with_unfolding_all rfl) ?z16e (by decide) (by decide) (by decide) ?_ (by with_unfolding_all rfl) (by intro _; with_unfolding_all rfl)); (case z16e => k_dflt (first | with_reducible exact ti2_0 (by decide) | with_reducible exact ti2_1 (by decide) | with_reducible exact ti2_m (by decide) | with_reducible exact ti2_n (by decide) | with_reducible exact ti1_0 (by decide) | with_reducible exact ti1_m (by decide)))) | ((k_dflt refine' ms_it 2 (by with_unfolding_all rfl) ?z16e (by decide) (by decide) (by decide) ?_ (by with_unfolding_all rfl) (by intro _; with_unfolding_all rfl)); (case z16e => k_dflt (first | with_reducible exact ti2_0 (by decide) | with_reducible exact ti2_1 (by decide) | with_reducible exact ti2_m (by decide) | with_reducible exact ti2_n (by decide) | with_reducible exact ti1_0 (by decide) | with_reducible exact ti1_m (by decide)))))); (try dsimp only)))) | ((with_reducible show wpAny _ _ (call _ _) _ _ _); first | (with_reducible ((((with_reducible show wpAny _ _ (call (Value.builtin "len") [Value.str _ _]) _ _ _); first | (refine ms_len (n := 2) (by with_unfolding_all rfl) (by decide) ?_; intro _ _) | (refine ms_len (n := 1) (by with_unfolding_all rfl) (by decide) ?_; intro _ _))); (try dsimp only))) | (k_here; (rename IsRange _ _ _ _ _ _ _ _ => rgX_q); (first | ((k_dflt refine' ml_range2 ?z14k0 ?z14k1 ?z14k2 rgX_q ?z14k3 ?_); (case z14k0 => rfl); (case z14k1 => k_asm); (case z14k2 => k_asm); (case z14k3 => decide); intro D_q' t_q' u_q' c_q' h_q' tk_q' F_q' N_q' l1_q) | ((k_dflt refine' ml_range1 ?z14k0 ?z14k1 ?z14k2 rgX_q ?z14k3 ?_); (case z14k0 => rfl); (case z14k1 => k_asm); (case z14k2 => k_asm); (case z14k3 => decide); intro D_q' t_q' c_q' h_q' tk_q' F_q' N_q' l1_q)); (try k_lt l1_q); (try k_sweep); (try dsimp only))) | ((with_reducible show wpAny _ _ (compareOp CmpOp.Eq (Value.str _ _) (Value.str _ _)) _ _ _); first | (with_reducible ((((k_dflt refine' ms_eq ?z17e ?_); (case z17e => k_dflt first | assumption | exact beq_self_eq_true _))); (try dsimp only)))) | ((with_reducible show wpAny _ _ (truthy (Value.str _ _)) _ _ _); first | (with_reducible ((first | ((refine KXt.truthy (b := true) (by with_unfolding_all rfl) (by kxi_size) ?_); intro _) | ((refine KXt.truthy (b := false) (by with_unfolding_all rfl) (by kxi_size) ?_); intro _)); (try dsimp only)))) | ((with_reducible show wpAny _ _ (subscriptTail (Expr.Name ..) (Expr.BinOp ..) (Value.str _ _) (Value.int _ _)) _ _ _); first | (with_reducible (((first | ((k_dflt refine' ms_it 1 (by with_unfolding_all rfl) ?z16e (by decide) (by decide) (by decide) ?_ (by with_unfolding_all rfl) (by intro _; with_unfolding_all rfl)); (case z16e => k_dflt (first | with_reducible exact ti2_0 (by decide) | with_reducible exact ti2_1 (by decide) | with_reducible exact ti2_m (by decide) | with_reducible exact ti2_n (by decide) | with_reducible exact ti1_0 (by decide) | with_reducible exact ti1_m (by decide)))) | ((k_dflt refine' ms_it 2 (by with_unfolding_all rfl) ?z16e (by decide) (by decide) (by decide) ?_ (by with_unfolding_all rfl) (by intro _; with_unfolding_all rfl)); (case z16e => k_dflt (first | with_reducible exact ti2_0 (by decide) | with_reducible exact ti2_1 (by decide) | with_reducible exact ti2_m (by decide) | with_reducible exact ti2_n (by decide) | with_reducible exact ti1_0 (by decide) | with_reducible exact ti1_m (by decide)))))); (try dsimp only)))) | ((with_reducible show wpAny _ _ (subscriptTail (Expr.Name ..) (Expr.Name ..) (Value.str _ _) (Value.int _ _)) _ _ _); first | (with_reducible (((first | ((k_dflt refine' ms_it 1 (by with_unfolding_all rfl) ?z16e (by decide) (by decide) (by decide) ?_ (by with_unfolding_all rfl) (by intro _; with_unfolding_all rfl)); (case z16e => k_dflt (first | with_reducible exact ti2_0 (by decide) | with_reducible exact ti2_1 (by decide) | with_reducible exact ti2_m (by decide) | with_reducible exact ti2_n (by decide) | with_reducible exact ti1_0 (by decide) | with_reducible exact ti1_m (by decide)))) | ((k_dflt refine' ms_it 2 (by with_unfolding_all rfl) ?z16e (by decide) (by decide) (by decide) ?_ (by with_unfolding_all rfl) (by intro _; with_unfolding_all rfl)); (case z16e => k_dflt (first | with_reducible exact ti2_0 (by decide) | with_reducible exact ti2_1 (by decide) | with_reducible exact ti2_m (by decide) | with_reducible exact ti2_n (by decide) | with_reducible exact ti1_0 (by decide) | with_reducible exact ti1_m (by decide)))))); (try dsimp only)))) | ((with_reducible show wpAny _ _ (subscriptTail (Expr.Name ..) (Expr.Slice ..) (Value.str _ _) (Value.ref _)) _ _ _); first | (with_reducible ((with_reducible rename Fr _ _ _ _ => F_q'); (with_reducible rename News _ _ _ _ => N_q'); first | ((with_reducible show wpAny _ _ (subscriptTail _ (Expr.Slice (some _) none none _) _ _) _ _ _); (k_dflt (refine' ms_sn (s := ⟨_, _, _, _, _⟩) ?z15e F_q' N_q' ?_ (by with_unfolding_all rfl) (by intro _; with_unfolding_all rfl) (by kxi_size))); (case z15e => k_dflt (first | with_reducible exact tx2_0 (by decide) | with_reducible exact tx2_1 (by decide) | with_reducible exact tx2_2 (by decide) | with_reducible exact tx1_0 (by decide) | with_reducible exact tx1_1 (by decide) | with_reducible exact ty2_1 (by decide) | with_reducible exact ty1_1 (by decide) | with_reducible exact tn2 | with_reducible exact tn1 | with_reducible exact tn0)); intro _ _ _ _ _; (try dsimp only)) | ((with_reducible show wpAny _ _ (subscriptTail _ (Expr.Slice none (some _) none _) _ _) _ _ _); first | (k_dflt (refine' ms_ns (s := ⟨_, _, _, _, _⟩) ?z15e F_q' N_q' ?_ (by with_unfolding_all rfl) (by intro _; with_unfolding_all rfl) (by kxi_size))); (case z15e => k_dflt (first | with_reducible exact tx2_0 (by decide) | with_reducible exact tx2_1 (by decide) | with_reducible exact tx2_2 (by decide) | with_reducible exact tx1_0 (by decide) | with_reducible exact tx1_1 (by decide) | with_reducible exact ty2_1 (by decide) | with_reducible exact ty1_1 (by decide) | with_reducible exact tn2 | with_reducible exact tn1 | with_reducible exact tn0)); intro _ _ _ _ _; (try dsimp only) | (k_dflt (refine' ms_nn (s := ⟨_, _, _, _, _⟩) ?z15e F_q' N_q' ?_ (by with_unfolding_all rfl) (by intro _; with_unfolding_all rfl) (by kxi_size))); (case z15e => k_dflt (first | with_reducible exact tx2_0 (by decide) | with_reducible exact tx2_1 (by decide) | with_reducible exact tx2_2 (by decide) | with_reducible exact tx1_0 (by decide) | with_reducible exact tx1_1 (by decide) | with_reducible exact ty2_1 (by decide) | with_reducible exact ty1_1 (by decide) | with_reducible exact tn2 | with_reducible exact tn1 | with_reducible exact tn0)); intro _ _ _ _ _; (try dsimp only))))) | ((with_reducible show wpAny _ _ (eval (Expr.Call ..) _) _ _ _); first | (with_reducible k_dflt (refine Call_ ?_))) | ((with_reducible show wpAny _ _ (subscriptTail (Expr.Subscript ..) (Expr.Constant ..) (Value.ref _) (Value.int _ _)) _ _ _); first | (with_reducible (k_here; (with_reducible show wpAny _ _ (subscriptTail _ _ (Value.ref _) (Value.int _ _)) _ _ _); (with_reducible rename News _ _ _ _ => N9_q); (k_dflt (refine' my_item ?z2k1 ?z2k2 ?z2k3 ?z2k4 ?_ ?z2k6; (case z2k1 => exact my_listof N9_q (by kcj_m)); (case z2k2 => decide); (case z2k3 => decide); (case z2k4 => exact rfl); (case z2k6 => with_unfolding_all rfl))); (try dsimp only)))) | ((with_reducible show wpAny _ _ (subscriptTail (Expr.Subscript ..) (Expr.BinOp ..) (Value.ref _) (Value.int _ _)) _ _ _); first | (with_reducible (k_here; (with_reducible show wpAny _ _ (subscriptTail _ _ (Value.ref _) (Value.int _ _)) _ _ _); (with_reducible rename News _ _ _ _ => N9_q); (k_dflt (refine' my_item ?z2k1 ?z2k2 ?z2k3 ?z2k4 ?_ ?z2k6; (case z2k1 => exact my_listof N9_q (by kcj_m)); (case z2k2 => decide); (case z2k3 => decide); (case z2k4 => exact rfl); (case z2k6 => with_unfolding_all rfl))); (try dsimp only)))) | ((with_reducible show wpAny _ _ (subscriptTail (Expr.Subscript ..) (Expr.Name ..) (Value.ref _) (Value.int _ _)) _ _ _); first | (with_reducible (k_here; (with_reducible show wpAny _ _ (subscriptTail _ _ (Value.ref _) (Value.int _ _)) _ _ _); (with_reducible rename News _ _ _ _ => N9_q); (k_dflt (refine' my_item ?z2k1 ?z2k2 ?z2k3 ?z2k4 ?_ ?z2k6; (case z2k1 => exact my_listof N9_q (by kcj_m)); (case z2k2 => decide); (case z2k3 => decide); (case z2k4 => exact rfl); (case z2k6 => with_unfolding_all rfl))); (try dsimp only)))) | ((with_reducible show wpAny _ _ (subscriptTail (Expr.Name ..) (Expr.BinOp ..) (Value.ref _) (Value.int _ _)) _ _ _); first | (with_reducible (k_here; (with_reducible show wpAny _ _ (subscriptTail _ _ (Value.ref _) (Value.int _ _)) _ _ _); (with_reducible rename News _ _ _ _ => N9_q); (k_dflt (refine' my_item ?z2k1 ?z2k2 ?z2k3 ?z2k4 ?_ ?z2k6; (case z2k1 => exact my_listof N9_q (by kcj_m)); (case z2k2 => decide); (case z2k3 => decide); (case z2k4 => exact rfl); (case z2k6 => with_unfolding_all rfl))); (try dsimp only)))) | ((with_reducible show wpAny _ _ (subscriptTail (Expr.Name ..) (Expr.Name ..) (Value.ref _) (Value.int _ _)) _ _ _); first | (with_reducible (k_here; (with_reducible show wpAny _ _ (subscriptTail _ _ (Value.ref _) (Value.int _ _)) _ _ _); (with_reducible rename News _ _ _ _ => N9_q); (k_dflt (refine' my_item ?z2k1 ?z2k2 ?z2k3 ?z2k4 ?_ ?z2k6; (case z2k1 => exact my_listof N9_q (by kcj_m)); (case z2k2 => decide); (case z2k3 => decide); (case z2k4 => exact rfl); (case z2k6 => with_unfolding_all rfl))); (try dsimp only)))) | ((with_reducible show wpAny _ _ (subscriptTail (Expr.Name ..) (Expr.Constant ..) (Value.ref _) (Value.int _ _)) _ _ _); first | (with_reducible (k_here; (with_reducible show wpAny _ _ (subscriptTail _ _ (Value.ref _) (Value.int _ _)) _ _ _); (with_reducible rename News _ _ _ _ => N9_q); (k_dflt (refine' my_item ?z2k1 ?z2k2 ?z2k3 ?z2k4 ?_ ?z2k6; (case z2k1 => exact my_listof N9_q (by kcj_m)); (case z2k2 => decide); (case z2k3 => decide); (case z2k4 => exact rfl); (case z2k6 => with_unfolding_all rfl))); (try dsimp only)))) | ((with_reducible show wpAny _ _ (subscriptTail _ _ _ _) _ _ _); first | (with_reducible (k_here; (with_reducible show wpAny _ _ (subscriptTail _ _ (Value.ref _) (Value.int _ _)) _ _ _); (with_reducible rename News _ _ _ _ => N9_q); (k_dflt (refine' my_item ?z2k1 ?z2k2 ?z2k3 ?z2k4 ?_ ?z2k6; (case z2k1 => exact my_listof N9_q (by kcj_m)); (case z2k2 => decide); (case z2k3 => decide); (case z2k4 => exact rfl); (case z2k6 => with_unfolding_all rfl))); (try dsimp only)))) | ((with_reducible show wpAny _ _ (storeName _ _ _) _ _ _); first | (with_reducible (k_here; (try dsimp only); k_dflt (refine' storeX_L ?z0F ?z0N ?_ ?z0a ?z0b; (case z0F => k_asm); (case z0N => k_asm); (case z0a => rfl); (case z0b => rfl); k_whole; intro h_q' F_q' N_q'; let mk_q := mOf F_q'; have Fk_q : Fr _ _ _ mk_q := F_q'; (try k_sweep))))) | walk1 | (dsimp only; walk1) | (leave1; (try dsimp only)) | fail "no step")))
  exact ret _ _ _ _ (by omega) (by k_asm) (Back.end0 (by assumption) (by assumption) (by assumption) (by kcj_all))
end
end

section -- C4
section

theorem lev_fin {x1 x2 x3 x4 r7 r6 r5 r4 r3 r2 r1 r0 : Int} {c d c' d' : Nat} (f0 : r0 = min (r1 + 2) (r6 + x4)) (e4 : x4 = cost d' d) (f1 : r1 = min r2 r4) (f2 : r2 = min (r3 + 2) ((0 + ((0 + 1 : Nat) : Int)) * 2 + x3)) (e3 : x3 = cost d' c)
    (f3 : r3 = min ((0 + ((0 + 1 : Nat) : Int)) * 2) r6) (f4 : r4 = min (r5 + 2) (2 + x2)) (e2 : x2 = cost c' d) (f5 : r5 = min r6 4) (f6 : r6 = min (r7 + 2) ((0 + ((0 : Nat) : Int)) * 2 + x1)) (e1 : x1 = cost c' c) (f7 : r7 = min ((0 + ((0 : Nat) : Int)) * 2) 2) : r0 = cost c c' + cost d d' := by
  have b1 := cost_b c' c
  have b2 := cost_b c' d
  have b3 := cost_b d' c
  have b4 := cost_b d' d
  rw [cost_comm c c', cost_comm d d', ← e1, ← e4]
  rw [← e1] at b1
  rw [← e2] at b2
  rw [← e3] at b3
  rw [← e4] at b4
  clear e1 e2 e3 e4
  have h7 : r7 = 0 := by omega
  subst h7
  have h6 : r6 = x1 := by omega
  subst h6
  clear f6 f7
  have h4 : 2 ≤ r4 := by omega
  clear f4 f5
  have h2 : 2 ≤ r2 := by omega
  clear f2 f3
  have h1 : 2 ≤ r1 := by omega
  omega
theorem ct_lev00 {c d c' d' : Nat} {t u v : Tok} (B : Below A₀ base outer h₀) (F : Fr h₀ L s.heap m) (X : (Mine.fr.heap_1 w.params).In h₀) (N : News h₀ L s.heap news) (T : Top p loose mean mg mb h₀) (hk : cs.kind = .function) (hp : IsL c) (hq : IsL d) (hp' : IsL c') (hq' : IsL d') (ne : (Str.mk #[c] == Str.mk #[c']) = false) (ne' : (Str.mk #[d] == Str.mk #[d']) = false) (hdf : (Str.mk #[c, d] == Str.mk #[c', d']) = false)
    (hd : dp + 2 < recursionLimit)
    (ret : ∀ x h' tk' t', x = cost c c' + cost d d' → Fr h₀ L h' m → News h₀ L h' news → Q (.int x t') { s with heap := h', toks := tk' }) :
    wpAny (model PySem.Challenge.rw_sh0040_01.row.prog w) (ktrTop dp un gd cn cs L a ccd cl outer) (call (.ref 115) [.str (Str.mk #[c, d]) t, .str (Str.mk #[c', d']) u, .int 99 v]) Q E s := by
  ((revert X; k_fill; intro X; refine wpAny_call ?_; k_dflt first | (refine' enterF ?z1k1 ?z1k2 ?z1k3 ?z1k4 ?z1k5 ?z1ks ?z1kA ?z1kF ?z1kK ?z1k6 ?z1k7 ?z1k8 ?z1k9 ?z1kB ?_ ?z1c2 ?z1c3 ?z1c4 ?z1c5; (case z1kA => exact rfl); (case z1kF => exact rfl); (case z1kK => assumption); (case z1k1 => k_asm); (case z1k2 => k_asm); (case z1k3 => k_asm); (case z1k4 => k_asm); (case z1k5 => k_asm); (case z1ks => first | assumption | exact no_sub); (case z1k6 => k_is); (case z1k7 => k_is); (case z1k8 => ktr_room); (case z1k9 => exact BindsTo.of_eq rfl); (case z1c5 => decide); (case z1kB => exact locs rfl); (case z1c2 => exact rfl); (case z1c3 => exact rfl); (case z1c4 => exact rfl); k_whole; intro g_q' L_q' h_q' tk_q' bk_q' FG_q' F_q' N_q' B_q' X_q' T_q' l1_q; (try k_lt l1_q); (try dsimp only); (try k_lift B_q'); (try k_fold)) | (refine' enterFC ?z1k1 ?z1k2 ?z1k3 ?z1k4 ?z1k5 ?z1ks ?z1kA ?z1kF ?z1kK ?z1k6 ?z1k7 ?z1k8 ?z1k9 ?z1kB ?z1kD ?_ ?z1c2 ?z1c3 ?z1c4; (case z1kA => exact rfl); (case z1kF => exact rfl); (case z1kK => assumption); (case z1k1 => k_asm); (case z1k2 => k_asm); (case z1k3 => k_asm); (case z1k4 => k_asm); (case z1k5 => k_asm); (case z1ks => first | assumption | exact no_sub); (case z1k6 => k_is); (case z1k7 => k_is); (case z1k8 => ktr_room); (case z1k9 => exact BindsTo.of_eq rfl); (case z1kB => exact rfl); (case z1kD => decide +kernel); (case z1c2 => exact rfl); (case z1c3 => exact rfl); (case z1c4 => exact rfl); k_whole; intro g_q' L_q' h_q' tk_q' cells_q' bk_q' FG_q' F_q' N_q' Y_q' B_q' X_q' T_q' l1_q; (try k_lt l1_q); k_cells Y_q'; (try simp only [List.cons_append, List.nil_append] at N_q'); (try dsimp only); (try k_lift B_q'); (try k_fold))); (show wpAny _ ?A9 _ _ _ _); (let ak : Around := ?A9); (change wpAny _ ak _ _ _ _); k_fold)
  (repeat' (first | (k_unfold; (try dsimp only)) | (k_end; kc_close) | ((with_reducible first | show wpAny _ _ (execs _ _) _ _ _ | show wpAny _ _ (exec (.For ..) _) _ _ _ | show wpAny _ _ (exec (.While ..) _) _ _ _); k_fold) | ((with_reducible show ite _ _ _); first | (with_reducible (k_here; (rename Fr _ _ _ _ => F_q'); (rename News _ _ _ _ => N_q'); k_dflt (apply ite_join F_q' N_q'; (case hold => with_unfolding_all rfl))))) | ((with_reducible show wpAny _ _ (exec (Stmt.If ..) _) _ _ _); first | (with_reducible (with_reducible refine wpAny_If ?_))) | ((with_reducible show wpAny _ _ (call _ _) _ _ _); first | (with_reducible (k_here; (with_reducible rename Fr _ _ _ _ => F_q'); (with_reducible rename News _ _ _ _ => N_q'); (k_dflt (refine' min_letter F_q' N_q' ?z20w1 ?_; (case z20w1 => with_unfolding_all rfl))); clear F_q' N_q'; intro r9_q v9_q h_q' tk_q' e9_q F_q' N_q'; (try dsimp only))) | (k_here; (rename IsRange _ _ _ _ _ _ _ _ => rgX_q); (first | ((k_dflt refine' ml_range2 ?z14k0 ?z14k1 ?z14k2 rgX_q ?z14k3 ?_); (case z14k0 => rfl); (case z14k1 => k_asm); (case z14k2 => k_asm); (case z14k3 => decide); intro D_q' t_q' u_q' c_q' h_q' tk_q' F_q' N_q' l1_q) | ((k_dflt refine' ml_range1 ?z14k0 ?z14k1 ?z14k2 rgX_q ?z14k3 ?_); (case z14k0 => rfl); (case z14k1 => k_asm); (case z14k2 => k_asm); (case z14k3 => decide); intro D_q' t_q' c_q' h_q' tk_q' F_q' N_q' l1_q)); (try k_lt l1_q); (try k_sweep); (try dsimp only)) | (with_reducible ((((with_reducible show wpAny _ _ (call (Value.builtin "len") [Value.str _ _]) _ _ _); first | (refine ms_len (n := 2) (by with_unfolding_all rfl) (by decide) ?_; intro _ _) | (refine ms_len (n := 1) (by with_unfolding_all rfl) (by decide) ?_; intro _ _))); (try dsimp only)))) | ((with_reducible show wpAny _ _ (exec (Stmt.While (Expr.BoolOp ..) _ _ _) _) _ _ _); first | (with_reducible (k_here; k_dflt (refine whl_start 100 ?_)))) | ((with_reducible show wpAny _ _ (call (Value.ref _) _) _ _ _); first | (with_reducible (k_here; k_dflt ((refine' ct_subst ?z19k1 ?z19k2 ?z19k3 ?z19k4 ?z19k5 ?z19k6 ?z19p0 ?z19p1 ?z19kd ?_); (case z19k1 => k_asm); (case z19k2 => k_asm); (case z19k3 => k_asm); (case z19k4 => k_asm); (case z19k5 => k_asm); (case z19k6 => first | exact rfl | assumption); (case z19p0 => assumption); (case z19p1 => assumption); (case z19kd => ktr_room); k_whole; intro x9_q h9_q tk9_q t9_q e9_q F9_q N9_q; (try dsimp only)); (try k_sweep); (try k_fold)))) | ((with_reducible show wpAny _ _ (subscriptTail (Expr.Name ..) (Expr.Constant ..) (Value.str _ _) (Value.int _ _)) _ _ _); first | (with_reducible (((first | ((k_dflt refine' ms_it 1 (by with_unfolding_all rfl) ?z16e (by decide) (by decide) (by decide) ?_ (by with_unfolding_all rfl) (by intro _; with_unfolding_all rfl)); (case z16e => k_dflt (first | with_reducible exact ti2_0 (by decide) | with_reducible exact ti2_1 (by decide) | with_reducible exact ti2_m (by decide) | with_reducible exact ti2_n (by decide) | with_reducible exact ti1_0 (by decide) | with_reducible exact ti1_m (by decide)))) | ((k_dflt refine' ms_it 2 (by with_unfolding_all rfl) ?z16e (by decide) (by decide) (by decide) ?_ (by with_unfolding_all rfl) (by intro _; with_unfolding_all rfl)); (case z16e => k_dflt (first | with_reducible exact ti2_0 (by decide) | with_reducible exact ti2_1 (by decide) | with_reducible exact ti2_m (by decide) | with_reducible exact ti2_n (by decide) | with_reducible exact ti1_0 (by decide) | with_reducible exact ti1_m (by decide)))))); (try dsimp only)))) | ((with_reducible show wpAny _ _ (compareOp CmpOp.Eq (Value.str _ _) (Value.str _ _)) _ _ _); first | (with_reducible ((((k_dflt refine' ms_eq ?z17e ?_); (case z17e => k_dflt first | assumption | exact beq_self_eq_true _))); (try dsimp only)))) | ((with_reducible show wpAny _ _ (truthy (Value.str _ _)) _ _ _); first | (with_reducible ((first | ((refine KXt.truthy (b := true) (by with_unfolding_all rfl) (by kxi_size) ?_); intro _) | ((refine KXt.truthy (b := false) (by with_unfolding_all rfl) (by kxi_size) ?_); intro _)); (try dsimp only)))) | ((with_reducible show wpAny _ _ (subscriptTail (Expr.Name ..) (Expr.BinOp ..) (Value.str _ _) (Value.int _ _)) _ _ _); first | (with_reducible (((first | ((k_dflt refine' ms_it 1 (by with_unfolding_all rfl) ?z16e (by decide) (by decide) (by decide) ?_ (by with_unfolding_all rfl) (by intro _; with_unfolding_all rfl)); (case z16e => k_dflt (first | with_reducible exact ti2_0 (by decide) | with_reducible exact ti2_1 (by decide) | with_reducible exact ti2_m (by decide) | with_reducible exact ti2_n (by decide) | with_reducible exact ti1_0 (by decide) | with_reducible exact ti1_m (by decide)))) | ((k_dflt refine' ms_it 2 (by with_unfolding_all rfl) ?z16e (by decide) (by decide) (by decide) ?_ (by with_unfolding_all rfl) (by intro _; with_unfolding_all rfl)); (case z16e => k_dflt (first | with_reducible exact ti2_0 (by decide) | with_reducible exact ti2_1 (by decide) | with_reducible exact ti2_m (by decide) | with_reducible exact ti2_n (by decide) | with_reducible exact ti1_0 (by decide) | with_reducible exact ti1_m (by decide)))))); (try dsimp only)))) | ((with_reducible show wpAny _ _ (subscriptTail (Expr.Name ..) (Expr.Name ..) (Value.str _ _) (Value.int _ _)) _ _ _); first | (with_reducible (((first | ((k_dflt refine' ms_it 1 (by with_unfolding_all rfl) ?z16e (by decide) (by decide) (by decide) ?_ (by with_unfolding_all rfl) (by intro _; with_unfolding_all rfl)); (case z16e => k_dflt (first | with_reducible exact ti2_0 (by decide) | with_reducible exact ti2_1 (by decide) | with_reducible exact ti2_m (by decide) | with_reducible exact ti2_n (by decide) | with_reducible exact ti1_0 (by decide) | with_reducible exact ti1_m (by decide)))) | ((k_dflt refine' ms_it 2 (by with_unfolding_all rfl) ?z16e (by decide) (by decide) (by decide) ?_ (by with_unfolding_all rfl) (by intro _; with_unfolding_all rfl)); (case z16e => k_dflt (first | with_reducible exact ti2_0 (by decide) | with_reducible exact ti2_1 (by decide) | with_reducible exact ti2_m (by decide) | with_reducible exact ti2_n (by decide) | with_reducible exact ti1_0 (by decide) | with_reducible exact ti1_m (by decide)))))); (try dsimp only)))) | ((with_reducible show wpAny _ _ (subscriptTail (Expr.Name ..) (Expr.Slice ..) (Value.str _ _) (Value.ref _)) _ _ _); first | (with_reducible ((with_reducible rename Fr _ _ _ _ => F_q'); (with_reducible rename News _ _ _ _ => N_q'); first | ((with_reducible show wpAny _ _ (subscriptTail _ (Expr.Slice (some _) none none _) _ _) _ _ _); (k_dflt (refine' ms_sn (s := ⟨_, _, _, _, _⟩) ?z15e F_q' N_q' ?_ (by with_unfolding_all rfl) (by intro _; with_unfolding_all rfl) (by kxi_size))); (case z15e => k_dflt (first | with_reducible exact tx2_0 (by decide) | with_reducible exact tx2_1 (by decide) | with_reducible exact tx2_2 (by decide) | with_reducible exact tx1_0 (by decide) | with_reducible exact tx1_1 (by decide) | with_reducible exact ty2_1 (by decide) | with_reducible exact ty1_1 (by decide) | with_reducible exact tn2 | with_reducible exact tn1 | with_reducible exact tn0)); intro _ _ _ _ _; (try dsimp only)) | ((with_reducible show wpAny _ _ (subscriptTail _ (Expr.Slice none (some _) none _) _ _) _ _ _); first | (k_dflt (refine' ms_ns (s := ⟨_, _, _, _, _⟩) ?z15e F_q' N_q' ?_ (by with_unfolding_all rfl) (by intro _; with_unfolding_all rfl) (by kxi_size))); (case z15e => k_dflt (first | with_reducible exact tx2_0 (by decide) | with_reducible exact tx2_1 (by decide) | with_reducible exact tx2_2 (by decide) | with_reducible exact tx1_0 (by decide) | with_reducible exact tx1_1 (by decide) | with_reducible exact ty2_1 (by decide) | with_reducible exact ty1_1 (by decide) | with_reducible exact tn2 | with_reducible exact tn1 | with_reducible exact tn0)); intro _ _ _ _ _; (try dsimp only) | (k_dflt (refine' ms_nn (s := ⟨_, _, _, _, _⟩) ?z15e F_q' N_q' ?_ (by with_unfolding_all rfl) (by intro _; with_unfolding_all rfl) (by kxi_size))); (case z15e => k_dflt (first | with_reducible exact tx2_0 (by decide) | with_reducible exact tx2_1 (by decide) | with_reducible exact tx2_2 (by decide) | with_reducible exact tx1_0 (by decide) | with_reducible exact tx1_1 (by decide) | with_reducible exact ty2_1 (by decide) | with_reducible exact ty1_1 (by decide) | with_reducible exact tn2 | with_reducible exact tn1 | with_reducible exact tn0)); intro _ _ _ _ _; (try dsimp only))))) | ((with_reducible show wpAny _ _ (eval (Expr.Call ..) _) _ _ _); first | (with_reducible k_dflt (refine Call_ ?_))) | ((with_reducible show wpAny _ _ (subscriptTail (Expr.Subscript ..) (Expr.Constant ..) (Value.ref _) (Value.int _ _)) _ _ _); first | (with_reducible (k_here; (with_reducible show wpAny _ _ (subscriptTail _ _ (Value.ref _) (Value.int _ _)) _ _ _); (with_reducible rename News _ _ _ _ => N9_q); (k_dflt (refine' my_item ?z2k1 ?z2k2 ?z2k3 ?z2k4 ?_ ?z2k6; (case z2k1 => exact my_listof N9_q (by kcj_m)); (case z2k2 => decide); (case z2k3 => decide); (case z2k4 => exact rfl); (case z2k6 => with_unfolding_all rfl))); (try dsimp only)))) | ((with_reducible show wpAny _ _ (subscriptTail (Expr.Subscript ..) (Expr.BinOp ..) (Value.ref _) (Value.int _ _)) _ _ _); first | (with_reducible (k_here; (with_reducible show wpAny _ _ (subscriptTail _ _ (Value.ref _) (Value.int _ _)) _ _ _); (with_reducible rename News _ _ _ _ => N9_q); (k_dflt (refine' my_item ?z2k1 ?z2k2 ?z2k3 ?z2k4 ?_ ?z2k6; (case z2k1 => exact my_listof N9_q (by kcj_m)); (case z2k2 => decide); (case z2k3 => decide); (case z2k4 => exact rfl); (case z2k6 => with_unfolding_all rfl))); (try dsimp only)))) | ((with_reducible show wpAny _ _ (subscriptTail (Expr.Subscript ..) (Expr.Name ..) (Value.ref _) (Value.int _ _)) _ _ _); first | (with_reducible (k_here; (with_reducible show wpAny _ _ (subscriptTail _ _ (Value.ref _) (Value.int _ _)) _ _ _); (with_reducible rename News _ _ _ _ => N9_q); (k_dflt (refine' my_item ?z2k1 ?z2k2 ?z2k3 ?z2k4 ?_ ?z2k6; (case z2k1 => exact my_listof N9_q (by kcj_m)); (case z2k2 => decide); (case z2k3 => decide); (case z2k4 => exact rfl); (case z2k6 => with_unfolding_all rfl))); (try dsimp only)))) | ((with_reducible show wpAny _ _ (subscriptTail (Expr.Name ..) (Expr.BinOp ..) (Value.ref _) (Value.int _ _)) _ _ _); first | (with_reducible (k_here; (with_reducible show wpAny _ _ (subscriptTail _ _ (Value.ref _) (Value.int _ _)) _ _ _); (with_reducible rename News _ _ _ _ => N9_q); (k_dflt (refine' my_item ?z2k1 ?z2k2 ?z2k3 ?z2k4 ?_ ?z2k6; (case z2k1 => exact my_listof N9_q (by kcj_m)); (case z2k2 => decide); (case z2k3 => decide); (case z2k4 => exact rfl); (case z2k6 => with_unfolding_all rfl))); (try dsimp only)))) | ((with_reducible show wpAny _ _ (subscriptTail (Expr.Name ..) (Expr.Name ..) (Value.ref _) (Value.int _ _)) _ _ _); first | (with_reducible (k_here; (with_reducible show wpAny _ _ (subscriptTail _ _ (Value.ref _) (Value.int _ _)) _ _ _); (with_reducible rename News _ _ _ _ => N9_q); (k_dflt (refine' my_item ?z2k1 ?z2k2 ?z2k3 ?z2k4 ?_ ?z2k6; (case z2k1 => exact my_listof N9_q (by kcj_m)); (case z2k2 => decide); (case z2k3 => decide); (case z2k4 => exact rfl); (case z2k6 => with_unfolding_all rfl))); (try dsimp only)))) | ((with_reducible show wpAny _ _ (subscriptTail (Expr.Name ..) (Expr.Constant ..) (Value.ref _) (Value.int _ _)) _ _ _); first | (with_reducible (k_here; (with_reducible show wpAny _ _ (subscriptTail _ _ (Value.ref _) (Value.int _ _)) _ _ _); (with_reducible rename News _ _ _ _ => N9_q); (k_dflt (refine' my_item ?z2k1 ?z2k2 ?z2k3 ?z2k4 ?_ ?z2k6; (case z2k1 => exact my_listof N9_q (by kcj_m)); (case z2k2 => decide); (case z2k3 => decide); (case z2k4 => exact rfl); (case z2k6 => with_unfolding_all rfl))); (try dsimp only)))) | ((with_reducible show wpAny _ _ (subscriptTail _ _ _ _) _ _ _); first | (with_reducible (k_here; (with_reducible show wpAny _ _ (subscriptTail _ _ (Value.ref _) (Value.int _ _)) _ _ _); (with_reducible rename News _ _ _ _ => N9_q); (k_dflt (refine' my_item ?z2k1 ?z2k2 ?z2k3 ?z2k4 ?_ ?z2k6; (case z2k1 => exact my_listof N9_q (by kcj_m)); (case z2k2 => decide); (case z2k3 => decide); (case z2k4 => exact rfl); (case z2k6 => with_unfolding_all rfl))); (try dsimp only)))) | ((with_reducible show wpAny _ _ (storeName _ _ _) _ _ _); first | (with_reducible (k_here; (try dsimp only); k_dflt (refine' storeX_L ?z0F ?z0N ?_ ?z0a ?z0b; (case z0F => k_asm); (case z0N => k_asm); (case z0a => rfl); (case z0b => rfl); k_whole; intro h_q' F_q' N_q'; let mk_q := mOf F_q'; have Fk_q : Fr _ _ _ mk_q := F_q'; (try k_sweep))))) | walk1 | (dsimp only; walk1) | (leave1; (try dsimp only)) | fail "no step"))
  refine ret _ _ _ _ ?_ (by k_asm) (Back.end0 (by assumption) (by assumption) (by assumption) (by kcj_all))
  with_reducible exact lev_fin (by assumption) (by assumption) (by assumption) (by assumption) (by assumption) (by assumption) (by assumption) (by assumption) (by assumption) (by assumption) (by assumption) (by assumption)
end
end

section -- C5
section

theorem ct_lev10 {c d c' d' : Nat} {t u v : Tok} (B : Below A₀ base outer h₀) (F : Fr h₀ L s.heap m) (X : (Mine.fr.heap_1 w.params).In h₀) (N : News h₀ L s.heap news) (T : Top p loose mean mg mb h₀) (hk : cs.kind = .function) (hp : IsL c) (hq : IsL d) (hp' : IsL c') (hq' : IsL d') (ne' : (Str.mk #[d] == Str.mk #[d']) = false) (hdf : (Str.mk #[c, d] == Str.mk #[c, d']) = false)
    (hd : dp + 2 < recursionLimit)
    (ret : ∀ x h' tk' t', x = cost c c + cost d d' → Fr h₀ L h' m → News h₀ L h' news → Q (.int x t') { s with heap := h', toks := tk' }) :
    wpAny (model PySem.Challenge.rw_sh0040_01.row.prog w) (ktrTop dp un gd cn cs L a ccd cl outer) (call (.ref 115) [.str (Str.mk #[c, d]) t, .str (Str.mk #[c, d']) u, .int 99 v]) Q E s := by
  ((revert X; k_fill; intro X; refine wpAny_call ?_; k_dflt first | (refine' enterF ?z1k1 ?z1k2 ?z1k3 ?z1k4 ?z1k5 ?z1ks ?z1kA ?z1kF ?z1kK ?z1k6 ?z1k7 ?z1k8 ?z1k9 ?z1kB ?_ ?z1c2 ?z1c3 ?z1c4 ?z1c5; (case z1kA => exact rfl); (case z1kF => exact rfl); (case z1kK => assumption); (case z1k1 => k_asm); (case z1k2 => k_asm); (case z1k3 => k_asm); (case z1k4 => k_asm); (case z1k5 => k_asm); (case z1ks => first | assumption | exact no_sub); (case z1k6 => k_is); (case z1k7 => k_is); (case z1k8 => ktr_room); (case z1k9 => exact BindsTo.of_eq rfl); (case z1c5 => decide); (case z1kB => exact locs rfl); (case z1c2 => exact rfl); (case z1c3 => exact rfl); (case z1c4 => exact rfl); k_whole; intro g_q' L_q' h_q' tk_q' bk_q' FG_q' F_q' N_q' B_q' X_q' T_q' l1_q; (try k_lt l1_q); (try dsimp only); (try k_lift B_q'); (try k_fold)) | (refine' enterFC ?z1k1 ?z1k2 ?z1k3 ?z1k4 ?z1k5 ?z1ks ?z1kA ?z1kF ?z1kK ?z1k6 ?z1k7 ?z1k8 ?z1k9 ?z1kB ?z1kD ?_ ?z1c2 ?z1c3 ?z1c4; (case z1kA => exact rfl); (case z1kF => exact rfl); (case z1kK => assumption); (case z1k1 => k_asm); (case z1k2 => k_asm); (case z1k3 => k_asm); (case z1k4 => k_asm); (case z1k5 => k_asm); (case z1ks => first | assumption | exact no_sub); (case z1k6 => k_is); (case z1k7 => k_is); (case z1k8 => ktr_room); (case z1k9 => exact BindsTo.of_eq rfl); (case z1kB => exact rfl); (case z1kD => decide +kernel); (case z1c2 => exact rfl); (case z1c3 => exact rfl); (case z1c4 => exact rfl); k_whole; intro g_q' L_q' h_q' tk_q' cells_q' bk_q' FG_q' F_q' N_q' Y_q' B_q' X_q' T_q' l1_q; (try k_lt l1_q); k_cells Y_q'; (try simp only [List.cons_append, List.nil_append] at N_q'); (try dsimp only); (try k_lift B_q'); (try k_fold))); (show wpAny _ ?A9 _ _ _ _); (let ak : Around := ?A9); (change wpAny _ ak _ _ _ _); k_fold)
  (repeat' (first | (k_unfold; (try dsimp only)) | (k_end; kc_close) | ((with_reducible first | show wpAny _ _ (execs _ _) _ _ _ | show wpAny _ _ (exec (.For ..) _) _ _ _ | show wpAny _ _ (exec (.While ..) _) _ _ _); k_fold) | ((with_reducible show ite _ _ _); first | (with_reducible (k_here; (rename Fr _ _ _ _ => F_q'); (rename News _ _ _ _ => N_q'); k_dflt (apply ite_join F_q' N_q'; (case hold => with_unfolding_all rfl))))) | ((with_reducible show wpAny _ _ (exec (Stmt.If ..) _) _ _ _); first | (with_reducible (with_reducible refine wpAny_If ?_))) | ((with_reducible show wpAny _ _ (call _ _) _ _ _); first | (with_reducible (k_here; (with_reducible rename Fr _ _ _ _ => F_q'); (with_reducible rename News _ _ _ _ => N_q'); (k_dflt (refine' min_letter F_q' N_q' ?z20w1 ?_; (case z20w1 => with_unfolding_all rfl))); clear F_q' N_q'; intro r9_q v9_q h_q' tk_q' e9_q F_q' N_q'; (try dsimp only))) | (k_here; (rename IsRange _ _ _ _ _ _ _ _ => rgX_q); (first | ((k_dflt refine' ml_range2 ?z14k0 ?z14k1 ?z14k2 rgX_q ?z14k3 ?_); (case z14k0 => rfl); (case z14k1 => k_asm); (case z14k2 => k_asm); (case z14k3 => decide); intro D_q' t_q' u_q' c_q' h_q' tk_q' F_q' N_q' l1_q) | ((k_dflt refine' ml_range1 ?z14k0 ?z14k1 ?z14k2 rgX_q ?z14k3 ?_); (case z14k0 => rfl); (case z14k1 => k_asm); (case z14k2 => k_asm); (case z14k3 => decide); intro D_q' t_q' c_q' h_q' tk_q' F_q' N_q' l1_q)); (try k_lt l1_q); (try k_sweep); (try dsimp only)) | (with_reducible ((((with_reducible show wpAny _ _ (call (Value.builtin "len") [Value.str _ _]) _ _ _); first | (refine ms_len (n := 2) (by with_unfolding_all rfl) (by decide) ?_; intro _ _) | (refine ms_len (n := 1) (by with_unfolding_all rfl) (by decide) ?_; intro _ _))); (try dsimp only)))) | ((with_reducible show wpAny _ _ (exec (Stmt.While (Expr.BoolOp ..) _ _ _) _) _ _ _); first | (with_reducible (k_here; k_dflt (refine whl_start 100 ?_)))) | ((with_reducible show wpAny _ _ (call (Value.ref _) _) _ _ _); first | (with_reducible (k_here; k_dflt ((refine' ct_subst ?z19k1 ?z19k2 ?z19k3 ?z19k4 ?z19k5 ?z19k6 ?z19p0 ?z19p1 ?z19kd ?_); (case z19k1 => k_asm); (case z19k2 => k_asm); (case z19k3 => k_asm); (case z19k4 => k_asm); (case z19k5 => k_asm); (case z19k6 => first | exact rfl | assumption); (case z19p0 => assumption); (case z19p1 => assumption); (case z19kd => ktr_room); k_whole; intro x9_q h9_q tk9_q t9_q e9_q F9_q N9_q; (try dsimp only)); (try k_sweep); (try k_fold)))) | ((with_reducible show wpAny _ _ (subscriptTail (Expr.Name ..) (Expr.Constant ..) (Value.str _ _) (Value.int _ _)) _ _ _); first | (with_reducible (((first | ((k_dflt refine' ms_it 1 (by with_unfolding_all rfl) ?z16e (by decide) (by decide) (by decide) ?_ (by with_unfolding_all rfl) (by intro _; with_unfolding_all rfl)); (case z16e => k_dflt (first | with_reducible exact ti2_0 (by decide) | with_reducible exact ti2_1 (by decide) | with_reducible exact ti2_m (by decide) | with_reducible exact ti2_n (by decide) | with_reducible exact ti1_0 (by decide) | with_reducible exact ti1_m (by decide)))) | ((k_dflt refine' ms_it 2 (by with_unfolding_all rfl) ?z16e (by decide) (by decide) (by decide) ?_ (by with_unfolding_all rfl) (by intro _; with_unfolding_all rfl)); (case z16e => k_dflt (first | with_reducible exact ti2_0 (by decide) | with_reducible exact ti2_1 (by decide) | with_reducible exact ti2_m (by decide) | with_reducible exact ti2_n (by decide) | with_reducible exact ti1_0 (by decide) | with_reducible exact ti1_m (by decide)))))); (try dsimp only)))) | ((with_reducible show wpAny _ _ (compareOp CmpOp.Eq (Value.str _ _) (Value.str _ _)) _ _ _); first | (with_reducible ((((k_dflt refine' ms_eq ?z17e ?_); (case z17e => k_dflt first | assumption | exact beq_self_eq_true _))); (try dsimp only)))) | ((with_reducible show wpAny _ _ (truthy (Value.str _ _)) _ _ _); first | (with_reducible ((first | ((refine KXt.truthy (b := true) (by with_unfolding_all rfl) (by kxi_size) ?_); intro _) | ((refine KXt.truthy (b := false) (by with_unfolding_all rfl) (by kxi_size) ?_); intro _)); (try dsimp only)))) | ((with_reducible show wpAny _ _ (subscriptTail (Expr.Name ..) (Expr.BinOp ..) (Value.str _ _) (Value.int _ _)) _ _ _); first | (with_reducible (((first | ((k_dflt refine' ms_it 1 (by with_unfolding_all rfl) ?z16e (by decide) (by decide) (by decide) ?_ (by with_unfolding_all rfl) (by intro _; with_unfolding_all rfl)); (case z16e => k_dflt (first | with_reducible exact ti2_0 (by decide) | with_reducible exact ti2_1 (by decide) | with_reducible exact ti2_m (by decide) | with_reducible exact ti2_n (by decide) | with_reducible exact ti1_0 (by decide) | with_reducible exact ti1_m (by decide)))) | ((k_dflt refine' ms_it 2 (by with_unfolding_all rfl) ?z16e (by decide) (by decide) (by decide) ?_ (by with_unfolding_all rfl) (by intro _; with_unfolding_all rfl)); (case z16e => k_dflt (first | with_reducible exact ti2_0 (by decide) | with_reducible exact ti2_1 (by decide) | with_reducible exact ti2_m (by decide) | with_reducible exact ti2_n (by decide) | with_reducible exact ti1_0 (by decide) | with_reducible exact ti1_m (by decide)))))); (try dsimp only)))) | ((with_reducible show wpAny _ _ (subscriptTail (Expr.Name ..) (Expr.Name ..) (Value.str _ _) (Value.int _ _)) _ _ _); first | (with_reducible (((first | ((k_dflt refine' ms_it 1 (by with_unfolding_all rfl) ?z16e (by decide) (by decide) (by decide) ?_ (by with_unfolding_all rfl) (by intro _; with_unfolding_all rfl)); (case z16e => k_dflt (first | with_reducible exact ti2_0 (by decide) | with_reducible exact ti2_1 (by decide) | with_reducible exact ti2_m (by decide) | with_reducible exact ti2_n (by decide) | with_reducible exact ti1_0 (by decide) | with_reducible exact ti1_m (by decide)))) | ((k_dflt refine' ms_it 2 (by with_unfolding_all rfl) ?z16e (by decide) (by decide) (by decide) ?_ (by with_unfolding_all rfl) (by intro _; with_unfolding_all rfl)); (case z16e => k_dflt (first | with_reducible exact ti2_0 (by decide) | with_reducible exact ti2_1 (by decide) | with_reducible exact ti2_m (by decide) | with_reducible exact ti2_n (by decide) | with_reducible exact ti1_0 (by decide) | with_reducible exact ti1_m (by decide)))))); (try dsimp only)))) | ((with_reducible show wpAny _ _ (subscriptTail (Expr.Name ..) (Expr.Slice ..) (Value.str _ _) (Value.ref _)) _ _ _); first | (with_reducible ((with_reducible rename Fr _ _ _ _ => F_q'); (with_reducible rename News _ _ _ _ => N_q'); first | ((with_reducible show wpAny _ _ (subscriptTail _ (Expr.Slice (some _) none none _) _ _) _ _ _); (k_dflt (refine' ms_sn (s := ⟨_, _, _, _, _⟩) ?z15e F_q' N_q' ?_ (by with_unfolding_all rfl) (by intro _; with_unfolding_all rfl) (by kxi_size))); (case z15e => k_dflt (first | with_reducible exact tx2_0 (by decide) | with_reducible exact tx2_1 (by decide) | with_reducible exact tx2_2 (by decide) | with_reducible exact tx1_0 (by decide) | with_reducible exact tx1_1 (by decide) | with_reducible exact ty2_1 (by decide) | with_reducible exact ty1_1 (by decide) | with_reducible exact tn2 | with_reducible exact tn1 | with_reducible exact tn0)); intro _ _ _ _ _; (try dsimp only)) | ((with_reducible show wpAny _ _ (subscriptTail _ (Expr.Slice none (some _) none _) _ _) _ _ _); first | (k_dflt (refine' ms_ns (s := ⟨_, _, _, _, _⟩) ?z15e F_q' N_q' ?_ (by with_unfolding_all rfl) (by intro _; with_unfolding_all rfl) (by kxi_size))); (case z15e => k_dflt (first | with_reducible exact tx2_0 (by decide) | with_reducible exact tx2_1 (by decide) | with_reducible exact tx2_2 (by decide) | with_reducible exact tx1_0 (by decide) | with_reducible exact tx1_1 (by decide) | with_reducible exact ty2_1 (by decide) | with_reducible exact ty1_1 (by decide) | with_reducible exact tn2 | with_reducible exact tn1 | with_reducible exact tn0)); intro _ _ _ _ _; (try dsimp only) | (k_dflt (refine' ms_nn (s := ⟨_, _, _, _, _⟩) ?z15e F_q' N_q' ?_ (by with_unfolding_all rfl) (by intro _; with_unfolding_all rfl) (by kxi_size))); (case z15e => k_dflt (first | with_reducible exact tx2_0 (by decide) | with_reducible exact tx2_1 (by decide) | with_reducible exact tx2_2 (by decide) | with_reducible exact tx1_0 (by decide) | with_reducible exact tx1_1 (by decide) | with_reducible exact ty2_1 (by decide) | with_reducible exact ty1_1 (by decide) | with_reducible exact tn2 | with_reducible exact tn1 | with_reducible exact tn0)); intro _ _ _ _ _; (try dsimp only))))) | ((with_reducible show wpAny _ _ (eval (Expr.Call ..) _) _ _ _); first | (with_reducible k_dflt (refine Call_ ?_))) | ((with_reducible show wpAny _ _ (subscriptTail (Expr.Subscript ..) (Expr.Constant ..) (Value.ref _) (Value.int _ _)) _ _ _); first | (with_reducible (k_here; (with_reducible show wpAny _ _ (subscriptTail _ _ (Value.ref _) (Value.int _ _)) _ _ _); (with_reducible rename News _ _ _ _ => N9_q); (k_dflt (refine' my_item ?z2k1 ?z2k2 ?z2k3 ?z2k4 ?_ ?z2k6; (case z2k1 => exact my_listof N9_q (by kcj_m)); (case z2k2 => decide); (case z2k3 => decide); (case z2k4 => exact rfl); (case z2k6 => with_unfolding_all rfl))); (try dsimp only)))) | ((with_reducible show wpAny _ _ (subscriptTail (Expr.Subscript ..) (Expr.BinOp ..) (Value.ref _) (Value.int _ _)) _ _ _); first | (with_reducible (k_here; (with_reducible show wpAny _ _ (subscriptTail _ _ (Value.ref _) (Value.int _ _)) _ _ _); (with_reducible rename News _ _ _ _ => N9_q); (k_dflt (refine' my_item ?z2k1 ?z2k2 ?z2k3 ?z2k4 ?_ ?z2k6; (case z2k1 => exact my_listof N9_q (by kcj_m)); (case z2k2 => decide); (case z2k3 => decide); (case z2k4 => exact rfl); (case z2k6 => with_unfolding_all rfl))); (try dsimp only)))) | ((with_reducible show wpAny _ _ (subscriptTail (Expr.Subscript ..) (Expr.Name ..) (Value.ref _) (Value.int _ _)) _ _ _); first | (with_reducible (k_here; (with_reducible show wpAny _ _ (subscriptTail _ _ (Value.ref _) (Value.int _ _)) _ _ _); (with_reducible rename News _ _ _ _ => N9_q); (k_dflt (refine' my_item ?z2k1 ?z2k2 ?z2k3 ?z2k4 ?_ ?z2k6; (case z2k1 => exact my_listof N9_q (by kcj_m)); (case z2k2 => decide); (case z2k3 => decide); (case z2k4 => exact rfl); (case z2k6 => with_unfolding_all rfl))); (try dsimp only)))) | ((with_reducible show wpAny _ _ (subscriptTail (Expr.Name ..) (Expr.BinOp ..) (Value.ref _) (Value.int _ _)) _ _ _); first | (with_reducible (k_here; (with_reducible show wpAny _ _ (subscriptTail _ _ (Value.ref _) (Value.int _ _)) _ _ _); (with_reducible rename News _ _ _ _ => N9_q); (k_dflt (refine' my_item ?z2k1 ?z2k2 ?z2k3 ?z2k4 ?_ ?z2k6; (case z2k1 => exact my_listof N9_q (by kcj_m)); (case z2k2 => decide); (case z2k3 => decide); (case z2k4 => exact rfl); (case z2k6 => with_unfolding_all rfl))); (try dsimp only)))) | ((with_reducible show wpAny _ _ (subscriptTail (Expr.Name ..) (Expr.Name ..) (Value.ref _) (Value.int _ _)) _ _ _); first | (with_reducible (k_here; (with_reducible show wpAny _ _ (subscriptTail _ _ (Value.ref _) (Value.int _ _)) _ _ _); (with_reducible rename News _ _ _ _ => N9_q); (k_dflt (refine' my_item ?z2k1 ?z2k2 ?z2k3 ?z2k4 ?_ ?z2k6; (case z2k1 => exact my_listof N9_q (by kcj_m)); (case z2k2 => decide); (case z2k3 => decide); (case z2k4 => exact rfl); (case z2k6 => with_unfolding_all rfl))); (try dsimp only)))) | ((with_reducible show wpAny _ _ (subscriptTail (Expr.Name ..) (Expr.Constant ..) (Value.ref _) (Value.int _ _)) _ _ _); first | (with_reducible (k_here; (with_reducible show wpAny _ _ (subscriptTail _ _ (Value.ref _) (Value.int _ _)) _ _ _); (with_reducible rename News _ _ _ _ => N9_q); (k_dflt (refine' my_item ?z2k1 ?z2k2 ?z2k3 ?z2k4 ?_ ?z2k6; (case z2k1 => exact my_listof N9_q (by kcj_m)); (case z2k2 => decide); (case z2k3 => decide); (case z2k4 => exact rfl); (case z2k6 => with_unfolding_all rfl))); (try dsimp only)))) | ((with_reducible show wpAny _ _ (subscriptTail _ _ _ _) _ _ _); first | (with_reducible (k_here; (with_reducible show wpAny _ _ (subscriptTail _ _ (Value.ref _) (Value.int _ _)) _ _ _); (with_reducible rename News _ _ _ _ => N9_q); (k_dflt (refine' my_item ?z2k1 ?z2k2 ?z2k3 ?z2k4 ?_ ?z2k6; (case z2k1 => exact my_listof N9_q (by kcj_m)); (case z2k2 => decide); (case z2k3 => decide); (case z2k4 => exact rfl); (case z2k6 => with_unfolding_all rfl))); (try dsimp only)))) | ((with_reducible show wpAny _ _ (storeName _ _ _) _ _ _); first | (with_reducible (k_here; (try dsimp only); k_dflt (refine' storeX_L ?z0F ?z0N ?_ ?z0a ?z0b; (case z0F => k_asm); (case z0N => k_asm); (case z0a => rfl); (case z0b => rfl); k_whole; intro h_q' F_q' N_q'; let mk_q := mOf F_q'; have Fk_q : Fr _ _ _ mk_q := F_q'; (try k_sweep))))) | walk1 | (dsimp only; walk1) | (leave1; (try dsimp only)) | fail "no step"))
  have b4 := cost_b d' d
  have q2 := cost_comm d' d
  have q3 := cost_self c
  refine ret _ _ _ _ ?_ (by k_asm) (Back.end0 (by assumption) (by assumption) (by assumption) (by kcj_all))
  subst_vars
  simp
  omega
end
end

section -- C6
section

theorem ct_lev01 {c d c' d' : Nat} {t u v : Tok} (B : Below A₀ base outer h₀) (F : Fr h₀ L s.heap m) (X : (Mine.fr.heap_1 w.params).In h₀) (N : News h₀ L s.heap news) (T : Top p loose mean mg mb h₀) (hk : cs.kind = .function) (hp : IsL c) (hq : IsL d) (hp' : IsL c') (hq' : IsL d') (ne : (Str.mk #[c] == Str.mk #[c']) = false) (hdf : (Str.mk #[c, d] == Str.mk #[c', d]) = false)
    (hd : dp + 2 < recursionLimit)
    (ret : ∀ x h' tk' t', x = cost c c' + cost d d → Fr h₀ L h' m → News h₀ L h' news → Q (.int x t') { s with heap := h', toks := tk' }) :
    wpAny (model PySem.Challenge.rw_sh0040_01.row.prog w) (ktrTop dp un gd cn cs L a ccd cl outer) (call (.ref 115) [.str (Str.mk #[c, d]) t, .str (Str.mk #[c', d]) u, .int 99 v]) Q E s := by
  ((revert X; k_fill; intro X; refine wpAny_call ?_; k_dflt first | (refine' enterF ?z1k1 ?z1k2 ?z1k3 ?z1k4 ?z1k5 ?z1ks ?z1kA ?z1kF ?z1kK ?z1k6 ?z1k7 ?z1k8 ?z1k9 ?z1kB ?_ ?z1c2 ?z1c3 ?z1c4 ?z1c5; (case z1kA => exact rfl); (case z1kF => exact rfl); (case z1kK => assumption); (case z1k1 => k_asm); (case z1k2 => k_asm); (case z1k3 => k_asm); (case z1k4 => k_asm); (case z1k5 => k_asm); (case z1ks => first | assumption | exact no_sub); (case z1k6 => k_is); (case z1k7 => k_is); (case z1k8 => ktr_room); (case z1k9 => exact BindsTo.of_eq rfl); (case z1c5 => decide); (case z1kB => exact locs rfl); (case z1c2 => exact rfl); (case z1c3 => exact rfl); (case z1c4 => exact rfl); k_whole; intro g_q' L_q' h_q' tk_q' bk_q' FG_q' F_q' N_q' B_q' X_q' T_q' l1_q; (try k_lt l1_q); (try dsimp only); (try k_lift B_q'); (try k_fold)) | (refine' enterFC ?z1k1 ?z1k2 ?z1k3 ?z1k4 ?z1k5 ?z1ks ?z1kA ?z1kF ?z1kK ?z1k6 ?z1k7 ?z1k8 ?z1k9 ?z1kB ?z1kD ?_ ?z1c2 ?z1c3 ?z1c4; (case z1kA => exact rfl); (case z1kF => exact rfl); (case z1kK => assumption); (case z1k1 => k_asm); (case z1k2 => k_asm); (case z1k3 => k_asm); (case z1k4 => k_asm); (case z1k5 => k_asm); (case z1ks => first | assumption | exact no_sub); (case z1k6 => k_is); (case z1k7 => k_is); (case z1k8 => ktr_room); (case z1k9 => exact BindsTo.of_eq rfl); (case z1kB => exact rfl); (case z1kD => decide +kernel); (case z1c2 => exact rfl); (case z1c3 => exact rfl); (case z1c4 => exact rfl); k_whole; intro g_q' L_q' h_q' tk_q' cells_q' bk_q' FG_q' F_q' N_q' Y_q' B_q' X_q' T_q' l1_q; (try k_lt l1_q); k_cells Y_q'; (try simp only [List.cons_append, List.nil_append] at N_q'); (try dsimp only); (try k_lift B_q'); (try k_fold))); (show wpAny _ ?A9 _ _ _ _); (let ak : Around := ?A9); (change wpAny _ ak _ _ _ _); k_fold)
  (repeat' (first | (k_unfold; (try dsimp only)) | (k_end; kc_close) | ((with_reducible first | show wpAny _ _ (execs _ _) _ _ _ | show wpAny _ _ (exec (.For ..) _) _ _ _ | show wpAny _ _ (exec (.While ..) _) _ _ _); k_fold) | ((with_reducible show ite _ _ _); first | (with_reducible (k_here; (rename Fr _ _ _ _ => F_q'); (rename News _ _ _ _ => N_q'); k_dflt (apply ite_join F_q' N_q'; (case hold => with_unfolding_all rfl))))) | ((with_reducible show wpAny _ _ (exec (Stmt.If ..) _) _ _ _); first | (with_reducible (with_reducible refine wpAny_If ?_))) | ((with_reducible show wpAny _ _ (call _ _) _ _ _); first | (with_reducible (k_here; (with_reducible rename Fr _ _ _ _ => F_q'); (with_reducible rename News _ _ _ _ => N_q'); (k_dflt (refine' min_letter F_q' N_q' ?z20w1 ?_; (case z20w1 => with_unfolding_all rfl))); clear F_q' N_q'; intro r9_q v9_q h_q' tk_q' e9_q F_q' N_q'; (try dsimp only))) | (k_here; (rename IsRange _ _ _ _ _ _ _ _ => rgX_q); (first | ((k_dflt refine' ml_range2 ?z14k0 ?z14k1 ?z14k2 rgX_q ?z14k3 ?_); (case z14k0 => rfl); (case z14k1 => k_asm); (case z14k2 => k_asm); (case z14k3 => decide); intro D_q' t_q' u_q' c_q' h_q' tk_q' F_q' N_q' l1_q) | ((k_dflt refine' ml_range1 ?z14k0 ?z14k1 ?z14k2 rgX_q ?z14k3 ?_); (case z14k0 => rfl); (case z14k1 => k_asm); (case z14k2 => k_asm); (case z14k3 => decide); intro D_q' t_q' c_q' h_q' tk_q' F_q' N_q' l1_q)); (try k_lt l1_q); (try k_sweep); (try dsimp only)) | (with_reducible ((((with_reducible show wpAny _ _ (call (Value.builtin "len") [Value.str _ _]) _ _ _); first | (refine ms_len (n := 2) (by with_unfolding_all rfl) (by decide) ?_; intro _ _) | (refine ms_len (n := 1) (by with_unfolding_all rfl) (by decide) ?_; intro _ _))); (try dsimp only)))) | ((with_reducible show wpAny _ _ (exec (Stmt.While (Expr.BoolOp ..) _ _ _) _) _ _ _); first | (with_reducible (k_here; k_dflt (refine whl_start 100 ?_)))) | ((with_reducible show wpAny _ _ (call (Value.ref _) _) _ _ _); first | (with_reducible (k_here; k_dflt ((refine' ct_subst ?z19k1 ?z19k2 ?z19k3 ?z19k4 ?z19k5 ?z19k6 ?z19p0 ?z19p1 ?z19kd ?_); (case z19k1 => k_asm); (case z19k2 => k_asm); (case z19k3 => k_asm); (case z19k4 => k_asm); (case z19k5 => k_asm); (case z19k6 => first | exact rfl | assumption); (case z19p0 => assumption); (case z19p1 => assumption); (case z19kd => ktr_room); k_whole; intro x9_q h9_q tk9_q t9_q e9_q F9_q N9_q; (try dsimp only)); (try k_sweep); (try k_fold)))) | ((with_reducible show wpAny _ _ (subscriptTail (Expr.Name ..) (Expr.Constant ..) (Value.str _ _) (Value.int _ _)) _ _ _); first | (with_reducible (((first | ((k_dflt refine' ms_it 1 (by with_unfolding_all rfl) ?z16e (by decide) (by decide) (by decide) ?_ (by with_unfolding_all rfl) (by intro _; with_unfolding_all rfl)); (case z16e => k_dflt (first | with_reducible exact ti2_0 (by decide) | with_reducible exact ti2_1 (by decide) | with_reducible exact ti2_m (by decide) | with_reducible exact ti2_n (by decide) | with_reducible exact ti1_0 (by decide) | with_reducible exact ti1_m (by decide)))) | ((k_dflt refine' ms_it 2 (by with_unfolding_all rfl) ?z16e (by decide) (by decide) (by decide) ?_ (by with_unfolding_all rfl) (by intro _; with_unfolding_all rfl)); (case z16e => k_dflt (first | with_reducible exact ti2_0 (by decide) | with_reducible exact ti2_1 (by decide) | with_reducible exact ti2_m (by decide) | with_reducible exact ti2_n (by decide) | with_reducible exact ti1_0 (by decide) | with_reducible exact ti1_m (by decide)))))); (try dsimp only)))) | ((with_reducible show wpAny _ _ (compareOp CmpOp.Eq (Value.str _ _) (Value.str _ _)) _ _ _); first | (with_reducible ((((k_dflt refine' ms_eq ?z17e ?_); (case z17e => k_dflt first | assumption | exact beq_self_eq_true _))); (try dsimp only)))) | ((with_reducible show wpAny _ _ (truthy (Value.str _ _)) _ _ _); first | (with_reducible ((first | ((refine KXt.truthy (b := true) (by with_unfolding_all rfl) (by kxi_size) ?_); intro _) | ((refine KXt.truthy (b := false) (by with_unfolding_all rfl) (by kxi_size) ?_); intro _)); (try dsimp only)))) | ((with_reducible show wpAny _ _ (subscriptTail (Expr.Name ..) (Expr.BinOp ..) (Value.str _ _) (Value.int _ _)) _ _ _); first | (with_reducible (((first | ((k_dflt refine' ms_it 1 (by with_unfolding_all rfl) ?z16e (by decide) (by decide) (by decide) ?_ (by with_unfolding_all rfl) (by intro _; with_unfolding_all rfl)); (case z16e => k_dflt (first | with_reducible exact ti2_0 (by decide) | with_reducible exact ti2_1 (by decide) | with_reducible exact ti2_m (by decide) | with_reducible exact ti2_n (by decide) | with_reducible exact ti1_0 (by decide) | with_reducible exact ti1_m (by decide)))) | ((k_dflt refine' ms_it 2 (by with_unfolding_all rfl) ?z16e (by decide) (by decide) (by decide) ?_ (by with_unfolding_all rfl) (by intro _; with_unfolding_all rfl)); (case z16e => k_dflt (first | with_reducible exact ti2_0 (by decide) | with_reducible exact ti2_1 (by decide) | with_reducible exact ti2_m (by decide) | with_reducible exact ti2_n (by decide) | with_reducible exact ti1_0 (by decide) | with_reducible exact ti1_m (by decide)))))); (try dsimp only)))) | ((with_reducible show wpAny _ _ (subscriptTail (Expr.Name ..) (Expr.Name ..) (Value.str _ _) (Value.int _ _)) _ _ _); first | (with_reducible (((first | ((k_dflt refine' ms_it 1 (by with_unfolding_all rfl) ?z16e (by decide) (by decide) (by decide) ?_ (by with_unfolding_all rfl) (by intro _; with_unfolding_all rfl)); (case z16e => k_dflt (first | with_reducible exact ti2_0 (by decide) | with_reducible exact ti2_1 (by decide) | with_reducible exact ti2_m (by decide) | with_reducible exact ti2_n (by decide) | with_reducible exact ti1_0 (by decide) | with_reducible exact ti1_m (by decide)))) | ((k_dflt refine' ms_it 2 (by with_unfolding_all rfl) ?z16e (by decide) (by decide) (by decide) ?_ (by with_unfolding_all rfl) (by intro _; with_unfolding_all rfl)); (case z16e => k_dflt (first | with_reducible exact ti2_0 (by decide) | with_reducible exact ti2_1 (by decide) | with_reducible exact ti2_m (by decide) | with_reducible exact ti2_n (by decide) | with_reducible exact ti1_0 (by decide) | with_reducible exact ti1_m (by decide)))))); (try dsimp only)))) | ((with_reducible show wpAny _ _ (subscriptTail (Expr.Name ..) (Expr.Slice ..) (Value.str _ _) (Value.ref _)) _ _ _); first | (with_reducible ((with_reducible rename Fr _ _ _ _ => F_q'); (with_reducible rename News _ _ _ _ => N_q'); first | ((with_reducible show wpAny _ _ (subscriptTail _ (Expr.Slice (some _) none none _) _ _) _ _ _); (k_dflt (refine' ms_sn (s := ⟨_, _, _, _, _⟩) ?z15e F_q' N_q' ?_ (by with_unfolding_all rfl) (by intro _; with_unfolding_all rfl) (by kxi_size))); (case z15e => k_dflt (first | with_reducible exact tx2_0 (by decide) | with_reducible exact tx2_1 (by decide) | with_reducible exact tx2_2 (by decide) | with_reducible exact tx1_0 (by decide) | with_reducible exact tx1_1 (by decide) | with_reducible exact ty2_1 (by decide) | with_reducible exact ty1_1 (by decide) | with_reducible exact tn2 | with_reducible exact tn1 | with_reducible exact tn0)); intro _ _ _ _ _; (try dsimp only)) | ((with_reducible show wpAny _ _ (subscriptTail _ (Expr.Slice none (some _) none _) _ _) _ _ _); first | (k_dflt (refine' ms_ns (s := ⟨_, _, _, _, _⟩) ?z15e F_q' N_q' ?_ (by with_unfolding_all rfl) (by intro _; with_unfolding_all rfl) (by kxi_size))); (case z15e => k_dflt (first | with_reducible exact tx2_0 (by decide) | with_reducible exact tx2_1 (by decide) | with_reducible exact tx2_2 (by decide) | with_reducible exact tx1_0 (by decide) | with_reducible exact tx1_1 (by decide) | with_reducible exact ty2_1 (by decide) | with_reducible exact ty1_1 (by decide) | with_reducible exact tn2 | with_reducible exact tn1 | with_reducible exact tn0)); intro _ _ _ _ _; (try dsimp only) | (k_dflt (refine' ms_nn (s := ⟨_, _, _, _, _⟩) ?z15e F_q' N_q' ?_ (by with_unfolding_all rfl) (by intro _; with_unfolding_all rfl) (by kxi_size))); (case z15e => k_dflt (first | with_reducible exact tx2_0 (by decide) | with_reducible exact tx2_1 (by decide) | with_reducible exact tx2_2 (by decide) | with_reducible exact tx1_0 (by decide) | with_reducible exact tx1_1 (by decide) | with_reducible exact ty2_1 (by decide) | with_reducible exact ty1_1 (by decide) | with_reducible exact tn2 | with_reducible exact tn1 | with_reducible exact tn0)); intro _ _ _ _ _; (try dsimp only))))) | ((with_reducible show wpAny _ _ (eval (Expr.Call ..) _) _ _ _); first | (with_reducible k_dflt (refine Call_ ?_))) | ((with_reducible show wpAny _ _ (subscriptTail (Expr.Subscript ..) (Expr.Constant ..) (Value.ref _) (Value.int _ _)) _ _ _); first | (with_reducible (k_here; (with_reducible show wpAny _ _ (subscriptTail _ _ (Value.ref _) (Value.int _ _)) _ _ _); (with_reducible rename News _ _ _ _ => N9_q); (k_dflt (refine' my_item ?z2k1 ?z2k2 ?z2k3 ?z2k4 ?_ ?z2k6; (case z2k1 => exact my_listof N9_q (by kcj_m)); (case z2k2 => decide); (case z2k3 => decide); (case z2k4 => exact rfl); (case z2k6 => with_unfolding_all rfl))); (try dsimp only)))) | ((with_reducible show wpAny _ _ (subscriptTail (Expr.Subscript ..) (Expr.BinOp ..) (Value.ref _) (Value.int _ _)) _ _ _); first | (with_reducible (k_here; (with_reducible show wpAny _ _ (subscriptTail _ _ (Value.ref _) (Value.int _ _)) _ _ _); (with_reducible rename News _ _ _ _ => N9_q); (k_dflt (refine' my_item ?z2k1 ?z2k2 ?z2k3 ?z2k4 ?_ ?z2k6; (case z2k1 => exact my_listof N9_q (by kcj_m)); (case z2k2 => decide); (case z2k3 => decide); (case z2k4 => exact rfl); (case z2k6 => with_unfolding_all rfl))); (try dsimp only)))) | ((with_reducible show wpAny _ _ (subscriptTail (Expr.Subscript ..) (Expr.Name ..) (Value.ref _) (Value.int _ _)) _ _ _); first | (with_reducible (k_here; (with_reducible show wpAny _ _ (subscriptTail _ _ (Value.ref _) (Value.int _ _)) _ _ _); (with_reducible rename News _ _ _ _ => N9_q); (k_dflt (refine' my_item ?z2k1 ?z2k2 ?z2k3 ?z2k4 ?_ ?z2k6; (case z2k1 => exact my_listof N9_q (by kcj_m)); (case z2k2 => decide); (case z2k3 => decide); (case z2k4 => exact rfl); (case z2k6 => with_unfolding_all rfl))); (try dsimp only)))) | ((with_reducible show wpAny _ _ (subscriptTail (Expr.Name ..) (Expr.BinOp ..) (Value.ref _) (Value.int _ _)) _ _ _); first | (with_reducible (k_here; (with_reducible show wpAny _ _ (subscriptTail _ _ (Value.ref _) (Value.int _ _)) _ _ _); (with_reducible rename News _ _ _ _ => N9_q); (k_dflt (refine' my_item ?z2k1 ?z2k2 ?z2k3 ?z2k4 ?_ ?z2k6; (case z2k1 => exact my_listof N9_q (by kcj_m)); (case z2k2 => decide); (case z2k3 => decide); (case z2k4 => exact rfl); (case z2k6 => with_unfolding_all rfl))); (try dsimp only)))) | ((with_reducible show wpAny _ _ (subscriptTail (Expr.Name ..) (Expr.Name ..) (Value.ref _) (Value.int _ _)) _ _ _); first | (with_reducible (k_here; (with_reducible show wpAny _ _ (subscriptTail _ _ (Value.ref _) (Value.int _ _)) _ _ _); (with_reducible rename News _ _ _ _ => N9_q); (k_dflt (refine' my_item ?z2k1 ?z2k2 ?z2k3 ?z2k4 ?_ ?z2k6; (case z2k1 => exact my_listof N9_q (by kcj_m)); (case z2k2 => decide); (case z2k3 => decide); (case z2k4 => exact rfl); (case z2k6 => with_unfolding_all rfl))); (try dsimp only)))) | ((with_reducible show wpAny _ _ (subscriptTail (Expr.Name ..) (Expr.Constant ..) (Value.ref _) (Value.int _ _)) _ _ _); first | (with_reducible (k_here; (with_reducible show wpAny _ _ (subscriptTail _ _ (Value.ref _) (Value.int _ _)) _ _ _); (with_reducible rename News _ _ _ _ => N9_q); (k_dflt (refine' my_item ?z2k1 ?z2k2 ?z2k3 ?z2k4 ?_ ?z2k6; (case z2k1 => exact my_listof N9_q (by kcj_m)); (case z2k2 => decide); (case z2k3 => decide); (case z2k4 => exact rfl); (case z2k6 => with_unfolding_all rfl))); (try dsimp only)))) | ((with_reducible show wpAny _ _ (subscriptTail _ _ _ _) _ _ _); first | (with_reducible (k_here; (with_reducible show wpAny _ _ (subscriptTail _ _ (Value.ref _) (Value.int _ _)) _ _ _); (with_reducible rename News _ _ _ _ => N9_q); (k_dflt (refine' my_item ?z2k1 ?z2k2 ?z2k3 ?z2k4 ?_ ?z2k6; (case z2k1 => exact my_listof N9_q (by kcj_m)); (case z2k2 => decide); (case z2k3 => decide); (case z2k4 => exact rfl); (case z2k6 => with_unfolding_all rfl))); (try dsimp only)))) | ((with_reducible show wpAny _ _ (storeName _ _ _) _ _ _); first | (with_reducible (k_here; (try dsimp only); k_dflt (refine' storeX_L ?z0F ?z0N ?_ ?z0a ?z0b; (case z0F => k_asm); (case z0N => k_asm); (case z0a => rfl); (case z0b => rfl); k_whole; intro h_q' F_q' N_q'; let mk_q := mOf F_q'; have Fk_q : Fr _ _ _ mk_q := F_q'; (try k_sweep))))) | walk1 | (dsimp only; walk1) | (leave1; (try dsimp only)) | fail "no step"))
  have b4 := cost_b c' c
  have q2 := cost_comm c' c
  have q3 := cost_self d
  refine ret _ _ _ _ ?_ (by k_asm) (Back.end0 (by assumption) (by assumption) (by assumption) (by kcj_all))
  subst_vars
  simp
  omega
end
end

section -- C7
theorem str1 {c d : Nat} (h : c ≠ d) : (Str.mk #[c] == Str.mk #[d]) = false := by
  simp [h]
theorem ct_lev {c d c' d' : Nat} {t u v : Tok} (B : Below A₀ base outer h₀) (F : Fr h₀ L s.heap m) (X : (Mine.fr.heap_1 w.params).In h₀) (N : News h₀ L s.heap news) (T : Top p loose mean mg mb h₀) (hk : cs.kind = .function) (hp : IsL c) (hq : IsL d) (hp' : IsL c') (hq' : IsL d')
    (hd : dp + 2 < recursionLimit)
    (ret : ∀ x h' tk' t', x = cost c c' + cost d d' → Fr h₀ L h' m → News h₀ L h' news → Q (.int x t') { s with heap := h', toks := tk' }) :
    wpAny (model PySem.Challenge.rw_sh0040_01.row.prog w) (ktrTop dp un gd cn cs L a ccd cl outer) (call (.ref 115) [.str (Str.mk #[c, d]) t, .str (Str.mk #[c', d']) u, .int 99 v]) Q E s := by
  by_cases h1 : c = c'
  · subst h1
    by_cases h2 : d = d'
    · subst h2
      have e : (Str.mk #[c, d] == Str.mk #[c, d]) = true := beq_self_eq_true _
      (((revert X; k_fill; intro X; refine wpAny_call ?_; k_dflt first | (refine' enterF ?z1k1 ?z1k2 ?z1k3 ?z1k4 ?z1k5 ?z1ks ?z1kA ?z1kF ?z1kK ?z1k6 ?z1k7 ?z1k8 ?z1k9 ?z1kB ?_ ?z1c2 ?z1c3 ?z1c4 ?z1c5; (case z1kA => exact rfl); (case z1kF => exact rfl); (case z1kK => assumption); (case z1k1 => k_asm); (case z1k2 => k_asm); (case z1k3 => k_asm); (case z1k4 => k_asm); (case z1k5 => k_asm); (case z1ks => first | assumption | exact no_sub); (case z1k6 => k_is); (case z1k7 => k_is); (case z1k8 => ktr_room); (case z1k9 => exact BindsTo.of_eq rfl); (case z1c5 => decide); (case z1kB => exact locs rfl); (case z1c2 => exact rfl); (case z1c3 => exact rfl); (case z1c4 => exact rfl); k_whole; intro g_q' L_q' h_q' tk_q' bk_q' FG_q' F_q' N_q' B_q' X_q' T_q' l1_q; (try k_lt l1_q); (try dsimp only); (try k_lift B_q'); (try k_fold)) | (refine' enterFC ?z1k1 ?z1k2 ?z1k3 ?z1k4 ?z1k5 ?z1ks ?z1kA ?z1kF ?z1kK ?z1k6 ?z1k7 ?z1k8 ?z1k9 ?z1kB ?z1kD ?_ ?z1c2 ?z1c3 ?z1c4; (case z1kA => exact rfl); (case z1kF => exact rfl); (case z1kK => assumption); (case z1k1 => k_asm); (case z1k2 => k_asm); (case z1k3 => k_asm); (case z1k4 => k_asm); (case z1k5 => k_asm); (case z1ks => first | assumption | exact no_sub); (case z1k6 => k_is); (case z1k7 => k_is); (case z1k8 => ktr_room); (case z1k9 => exact BindsTo.of_eq rfl); (case z1kB => exact rfl); (case z1kD => decide +kernel); (case z1c2 => exact rfl); (case z1c3 => exact rfl); (case z1c4 => exact rfl); k_whole; intro g_q' L_q' h_q' tk_q' cells_q' bk_q' FG_q' F_q' N_q' Y_q' B_q' X_q' T_q' l1_q; (try k_lt l1_q); k_cells Y_q'; (try simp only [List.cons_append, List.nil_append] at N_q'); (try dsimp only); (try k_lift B_q'); (try k_fold))); (show wpAny _ ?A9 _ _ _ _); (let ak : Around := ?A9); (change wpAny _ ak _ _ _ _); k_fold); (repeat' (first | (k_unfold; (try dsimp only)) | (k_end; kc_close) | ((with_reducible first | show wpAny _ _ (execs _ _) _ _ _ | show wpAny _ _ (exec (.For ..) _) _ _ _ | show wpAny _ _ (exec (.While ..) _) _ _ _); k_fold) | ((with_reducible show wpAny _ _ (eval (Expr.Call ..) _) _ _ _); first | (with_reducible k_dflt (refine Call_ ?_))) | ((with_reducible show wpAny _ _ (subscriptTail (Expr.Subscript ..) (Expr.Constant ..) (Value.ref _) (Value.int _ _)) _ _ _); first | (with_reducible (k_here; (with_reducible show wpAny _ _ (subscriptTail _ _ (Value.ref _) (Value.int _ _)) _ _ _); (with_reducible rename News _ _ _ _ => N9_q); (k_dflt (refine' my_item ?z2k1 ?z2k2 ?z2k3 ?z2k4 ?_ ?z2k6; (case z2k1 => exact my_listof N9_q (by kcj_m)); (case z2k2 => decide); (case z2k3 => decide); (case z2k4 => exact rfl); (case z2k6 => with_unfolding_all rfl))); (try dsimp only)))) | ((with_reducible show wpAny _ _ (subscriptTail (Expr.Subscript ..) (Expr.BinOp ..) (Value.ref _) (Value.int _ _)) _ _ _); first | (with_reducible (k_here; (with_reducible show wpAny _ _ (subscriptTail _ _ (Value.ref _) (Value.int _ _)) _ _ _); (with_reducible rename News _ _ _ _ => N9_q); (k_dflt (refine' my_item ?z2k1 ?z2k2 ?z2k3 ?z2k4 ?_ ?z2k6; (case z2k1 => exact my_listof N9_q (by kcj_m)); (case z2k2 => decide); (case z2k3 => decide); (case z2k4 => exact rfl); (case z2k6 => with_unfolding_all rfl))); (try dsimp only)))) | ((with_reducible show wpAny _ _ (subscriptTail (Expr.Subscript ..) (Expr.Name ..) (Value.ref _) (Value.int _ _)) _ _ _); first | (with_reducible (k_here; (with_reducible show wpAny _ _ (subscriptTail _ _ (Value.ref _) (Value.int _ _)) _ _ _); (with_reducible rename News _ _ _ _ => N9_q); (k_dflt (refine' my_item ?z2k1 ?z2k2 ?z2k3 ?z2k4 ?_ ?z2k6; (case z2k1 => exact my_listof N9_q (by kcj_m)); (case z2k2 => decide); (case z2k3 => decide); (case z2k4 => exact rfl); (case z2k6 => with_unfolding_all rfl))); (try dsimp only)))) | ((with_reducible show wpAny _ _ (subscriptTail (Expr.Name ..) (Expr.BinOp ..) (Value.ref _) (Value.int _ _)) _ _ _); first | (with_reducible (k_here; (with_reducible show wpAny _ _ (subscriptTail _ _ (Value.ref _) (Value.int _ _)) _ _ _); (with_reducible rename News _ _ _ _ => N9_q); (k_dflt (refine' my_item ?z2k1 ?z2k2 ?z2k3 ?z2k4 ?_ ?z2k6; (case z2k1 => exact my_listof N9_q (by kcj_m)); (case z2k2 => decide); (case z2k3 => decide); (case z2k4 => exact rfl); (case z2k6 => with_unfolding_all rfl))); (try dsimp only)))) | ((with_reducible show wpAny _ _ (subscriptTail (Expr.Name ..) (Expr.Name ..) (Value.ref _) (Value.int _ _)) _ _ _); first | (with_reducible (k_here; (with_reducible show wpAny _ _ (subscriptTail _ _ (Value.ref _) (Value.int _ _)) _ _ _); (with_reducible rename News _ _ _ _ => N9_q); (k_dflt (refine' my_item ?z2k1 ?z2k2 ?z2k3 ?z2k4 ?_ ?z2k6; (case z2k1 => exact my_listof N9_q (by kcj_m)); (case z2k2 => decide); (case z2k3 => decide); (case z2k4 => exact rfl); (case z2k6 => with_unfolding_all rfl))); (try dsimp only)))) | ((with_reducible show wpAny _ _ (subscriptTail (Expr.Name ..) (Expr.Constant ..) (Value.ref _) (Value.int _ _)) _ _ _); first | (with_reducible (k_here; (with_reducible show wpAny _ _ (subscriptTail _ _ (Value.ref _) (Value.int _ _)) _ _ _); (with_reducible rename News _ _ _ _ => N9_q); (k_dflt (refine' my_item ?z2k1 ?z2k2 ?z2k3 ?z2k4 ?_ ?z2k6; (case z2k1 => exact my_listof N9_q (by kcj_m)); (case z2k2 => decide); (case z2k3 => decide); (case z2k4 => exact rfl); (case z2k6 => with_unfolding_all rfl))); (try dsimp only)))) | ((with_reducible show wpAny _ _ (subscriptTail _ _ _ _) _ _ _); first | (with_reducible (k_here; (with_reducible show wpAny _ _ (subscriptTail _ _ (Value.ref _) (Value.int _ _)) _ _ _); (with_reducible rename News _ _ _ _ => N9_q); (k_dflt (refine' my_item ?z2k1 ?z2k2 ?z2k3 ?z2k4 ?_ ?z2k6; (case z2k1 => exact my_listof N9_q (by kcj_m)); (case z2k2 => decide); (case z2k3 => decide); (case z2k4 => exact rfl); (case z2k6 => with_unfolding_all rfl))); (try dsimp only)))) | ((with_reducible show wpAny _ _ (storeName _ _ _) _ _ _); first | (with_reducible (k_here; (try dsimp only); k_dflt (refine' storeX_L ?z0F ?z0N ?_ ?z0a ?z0b; (case z0F => k_asm); (case z0N => k_asm); (case z0a => rfl); (case z0b => rfl); k_whole; intro h_q' F_q' N_q'; let mk_q := mOf F_q'; have Fk_q : Fr _ _ _ mk_q := F_q'; (try k_sweep))))) | walk1 | (dsimp only; walk1) | (leave1; (try dsimp only)) | fail "no step")))
      all_goals (try (exact ret _ _ _ _ (by rw [cost_self, cost_self]; rfl) (by k_asm) (Back.end0 (by assumption) (by assumption) (by assumption) (by kcj_all))))
    · exact ct_lev10 B F X N T hk hp hq hp' hq' (str1 h2) (by simp [h2]) hd ret
  · by_cases h2 : d = d'
    · subst h2
      exact ct_lev01 B F X N T hk hp hq hp' hq' (str1 h1) (by simp [h1]) hd ret
    · exact ct_lev00 B F X N T hk hp hq hp' hq' (str1 h1) (str1 h2) (by simp [h1]) hd ret
end

section -- C8
theorem div_lgt {c x y : Int} (h : c = x + y) : Float64.div (fl c) 4611686018427387904 = lgt (x + y) := by subst h; rfl
section
theorem ct_rgb {x y z : Int} {t u v : Tok} (B : Below A₀ base outer h₀) (F : Fr h₀ L s.heap m) (X : (Mine.fr.heap_1 w.params).In h₀) (N : News h₀ L s.heap news) (T : Top p loose mean mg mb h₀) (hk : cs.kind = .function) (hx : 0 ≤ x ∧ x ≤ 18) (hy : 0 ≤ y ∧ y ≤ 18) (hz : 0 ≤ z ∧ z ≤ 18)
    (hd : dp + 1 < recursionLimit)
    (ret : ∀ r hv l sv tl M mn n h' tk', (x ≤ M ∧ y ≤ M ∧ z ≤ M ∧ (M = x ∨ M = y ∨ M = z)) → (mn ≤ x ∧ mn ≤ y ∧ mn ≤ z ∧ (mn = x ∨ mn = y ∨ mn = z)) → l = lgt (M + mn) → Fr h₀ L h' m → News h₀ L h' ((r, ({ cls := .type "tuple", data := .seq [hv, .float l tl, sv].toArray n } : Obj)) :: news) → (∀ q ∈ news, q.1 ≠ r) → Q (.ref r) { s with heap := h', toks := tk' }) :
    wpAny (model PySem.Challenge.rw_sh0040_01.row.prog w) (ktrTop dp un gd cn cs L a ccd cl outer) (call (.ref 28) [.float (fl x) t, .float (fl y) u, .float (fl z) v]) Q E s := by
  (((revert X; k_fill; intro X; refine wpAny_call ?_; k_dflt first | (refine' enterF ?z1k1 ?z1k2 ?z1k3 ?z1k4 ?z1k5 ?z1ks ?z1kA ?z1kF ?z1kK ?z1k6 ?z1k7 ?z1k8 ?z1k9 ?z1kB ?_ ?z1c2 ?z1c3 ?z1c4 ?z1c5; (case z1kA => exact rfl); (case z1kF => exact rfl); (case z1kK => assumption); (case z1k1 => k_asm); (case z1k2 => k_asm); (case z1k3 => k_asm); (case z1k4 => k_asm); (case z1k5 => k_asm); (case z1ks => first | assumption | exact no_sub); (case z1k6 => k_is); (case z1k7 => k_is); (case z1k8 => ktr_room); (case z1k9 => exact BindsTo.of_eq rfl); (case z1c5 => decide); (case z1kB => exact locs rfl); (case z1c2 => exact rfl); (case z1c3 => exact rfl); (case z1c4 => exact rfl); k_whole; intro g_q' L_q' h_q' tk_q' bk_q' FG_q' F_q' N_q' B_q' X_q' T_q' l1_q; (try k_lt l1_q); (try dsimp only); (try k_lift B_q'); (try k_fold)) | (refine' enterFC ?z1k1 ?z1k2 ?z1k3 ?z1k4 ?z1k5 ?z1ks ?z1kA ?z1kF ?z1kK ?z1k6 ?z1k7 ?z1k8 ?z1k9 ?z1kB ?z1kD ?_ ?z1c2 ?z1c3 ?z1c4; (case z1kA => exact rfl); (case z1kF => exact rfl); (case z1kK => assumption); (case z1k1 => k_asm); (case z1k2 => k_asm); (case z1k3 => k_asm); (case z1k4 => k_asm); (case z1k5 => k_asm); (case z1ks => first | assumption | exact no_sub); (case z1k6 => k_is); (case z1k7 => k_is); (case z1k8 => ktr_room); (case z1k9 => exact BindsTo.of_eq rfl); (case z1kB => exact rfl); (case z1kD => decide +kernel); (case z1c2 => exact rfl); (case z1c3 => exact rfl); (case z1c4 => exact rfl); k_whole; intro g_q' L_q' h_q' tk_q' cells_q' bk_q' FG_q' F_q' N_q' Y_q' B_q' X_q' T_q' l1_q; (try k_lt l1_q); k_cells Y_q'; (try simp only [List.cons_append, List.nil_append] at N_q'); (try dsimp only); (try k_lift B_q'); (try k_fold))); (show wpAny _ ?A9 _ _ _ _); (let ak : Around := ?A9); (change wpAny _ ak _ _ _ _); k_fold); (repeat' (first | (k_unfold; (try dsimp only)) | (k_end; kc_close) | ((with_reducible first | show wpAny _ _ (execs _ _) _ _ _ | show wpAny _ _ (exec (.For ..) _) _ _ _ | show wpAny _ _ (exec (.While ..) _) _ _ _); k_fold) | ((with_reducible show wpAny _ _ (binaryOp Operator.Mod (Value.float _ _) (Value.float _ _)) _ _ _); first | (with_reducible (with_reducible (refine mod_nz ?z22z ?_ ?z22hh); (case z22z => decide +kernel); (case z22hh => with_unfolding_all rfl); (try dsimp only)))) | ((with_reducible show wpAny _ _ (binaryOp Operator.Div (Value.float _ _) (Value.float _ _)) _ _ _); first | (with_reducible (with_reducible (refine div_nz ?z21z ?_ ?z21hh); (case z21z => first | with_reducible exact fl_nz (by omega) | (k_dflt exact fl_two (by omega)) | decide +kernel); (case z21hh => with_unfolding_all rfl); (try dsimp only)))) | ((with_reducible show wpAny _ _ (compareOp CmpOp.Eq (Value.float _ _) (Value.float _ _)) _ _ _); first | (with_reducible (with_reducible (refine eq_fl (by omega) (by omega) ?_); (try dsimp only)))) | ((with_reducible show wpAny _ _ (binaryOp Operator.Sub (Value.float _ _) (Value.float _ _)) _ _ _); first | (with_reducible (with_reducible (refine sub_fl (by omega) ?_); intro c9_q e9_q; (try dsimp only)))) | ((with_reducible show wpAny _ _ (binaryOp Operator.Add (Value.float _ _) (Value.float _ _)) _ _ _); first | (with_reducible (with_reducible (refine add_fl (by omega) ?_); intro c9_q e9_q; (try dsimp only)))) | ((with_reducible show wpAny _ _ (call _ _) _ _ _); first | (with_reducible (k_here; (with_reducible rename Fr _ _ _ _ => F_q'); (with_reducible rename News _ _ _ _ => N_q'); k_dflt (refine min3_fl rfl F_q' N_q' (by omega) (by omega) (by omega) ?_); clear F_q' N_q'; intro M9_q v9_q h9_q tk9_q e9_q F_q' N_q'; (try dsimp only))) | (with_reducible (k_here; (with_reducible rename Fr _ _ _ _ => F_q'); (with_reducible rename News _ _ _ _ => N_q'); k_dflt (refine max3_fl rfl F_q' N_q' (by omega) (by omega) (by omega) ?_); clear F_q' N_q'; intro M9_q v9_q h9_q tk9_q e9_q F_q' N_q'; (try dsimp only)))) | ((with_reducible show wpAny _ _ (eval (Expr.Call ..) _) _ _ _); first | (with_reducible k_dflt (refine Call_ ?_))) | ((with_reducible show wpAny _ _ (subscriptTail (Expr.Subscript ..) (Expr.Constant ..) (Value.ref _) (Value.int _ _)) _ _ _); first | (with_reducible (k_here; (with_reducible show wpAny _ _ (subscriptTail _ _ (Value.ref _) (Value.int _ _)) _ _ _); (with_reducible rename News _ _ _ _ => N9_q); (k_dflt (refine' my_item ?z2k1 ?z2k2 ?z2k3 ?z2k4 ?_ ?z2k6; (case z2k1 => exact my_listof N9_q (by kcj_m)); (case z2k2 => decide); (case z2k3 => decide); (case z2k4 => exact rfl); (case z2k6 => with_unfolding_all rfl))); (try dsimp only)))) | ((with_reducible show wpAny _ _ (subscriptTail (Expr.Subscript ..) (Expr.BinOp ..) (Value.ref _) (Value.int _ _)) _ _ _); first | (with_reducible (k_here; (with_reducible show wpAny _ _ (subscriptTail _ _ (Value.ref _) (Value.int _ _)) _ _ _); (with_reducible rename News _ _ _ _ => N9_q); (k_dflt (refine' my_item ?z2k1 ?z2k2 ?z2k3 ?z2k4 ?_ ?z2k6; (case z2k1 => exact my_listof N9_q (by kcj_m)); (case z2k2 => decide); (case z2k3 => decide); (case z2k4 => exact rfl); (case z2k6 => with_unfolding_all rfl))); (try dsimp only)))) | ((with_reducible show wpAny _ _ (subscriptTail (Expr.Subscript ..) (Expr.Name ..) (Value.ref _) (Value.int _ _)) _ _ _); first | (with_reducible (k_here; (with_reducible show wpAny _ _ (subscriptTail _ _ (Value.ref _) (Value.int _ _)) _ _ _); (with_reducible rename News _ _ _ _ => N9_q); (k_dflt (refine' my_item ?z2k1 ?z2k2 ?z2k3 ?z2k4 ?_ ?z2k6; (case z2k1 => exact my_listof N9_q (by kcj_m)); (case z2k2 => decide); (case z2k3 => decide); (case z2k4 => exact rfl); (case z2k6 => with_unfolding_all rfl))); (try dsimp only)))) | ((with_reducible show wpAny _ _ (subscriptTail (Expr.Name ..) (Expr.BinOp ..) (Value.ref _) (Value.int _ _)) _ _ _); first | (with_reducible (k_here; (with_reducible show wpAny _ _ (subscriptTail _ _ (Value.ref _) (Value.int _ _)) _ _ _); (with_reducible rename News _ _ _ _ => N9_q); (k_dflt (refine' my_item ?z2k1 ?z2k2 ?z2k3 ?z2k4 ?_ ?z2k6; (case z2k1 => exact my_listof N9_q (by kcj_m)); (case z2k2 => decide); (case z2k3 => decide); (case z2k4 => exact rfl); (case z2k6 => with_unfolding_all rfl))); (try dsimp only)))) | ((with_reducible show wpAny _ _ (subscriptTail (Expr.Name ..) (Expr.Name ..) (Value.ref _) (Value.int _ _)) _ _ _); first | (with_reducible (k_here; (with_reducible show wpAny _ _ (subscriptTail _ _ (Value.ref _) (Value.int _ _)) _ _ _); (with_reducible rename News _ _ _ _ => N9_q); (k_dflt (refine' my_item ?z2k1 ?z2k2 ?z2k3 ?z2k4 ?_ ?z2k6; (case z2k1 => exact my_listof N9_q (by kcj_m)); (case z2k2 => decide); (case z2k3 => decide); (case z2k4 => exact rfl); (case z2k6 => with_unfolding_all rfl))); (try dsimp only)))) | ((with_reducible show wpAny _ _ (subscriptTail (Expr.Name ..) (Expr.Constant ..) (Value.ref _) (Value.int _ _)) _ _ _); first | (with_reducible (k_here; (with_reducible show wpAny _ _ (subscriptTail _ _ (Value.ref _) (Value.int _ _)) _ _ _); (with_reducible rename News _ _ _ _ => N9_q); (k_dflt (refine' my_item ?z2k1 ?z2k2 ?z2k3 ?z2k4 ?_ ?z2k6; (case z2k1 => exact my_listof N9_q (by kcj_m)); (case z2k2 => decide); (case z2k3 => decide); (case z2k4 => exact rfl); (case z2k6 => with_unfolding_all rfl))); (try dsimp only)))) | ((with_reducible show wpAny _ _ (subscriptTail _ _ _ _) _ _ _); first | (with_reducible (k_here; (with_reducible show wpAny _ _ (subscriptTail _ _ (Value.ref _) (Value.int _ _)) _ _ _); (with_reducible rename News _ _ _ _ => N9_q); (k_dflt (refine' my_item ?z2k1 ?z2k2 ?z2k3 ?z2k4 ?_ ?z2k6; (case z2k1 => exact my_listof N9_q (by kcj_m)); (case z2k2 => decide); (case z2k3 => decide); (case z2k4 => exact rfl); (case z2k6 => with_unfolding_all rfl))); (try dsimp only)))) | ((with_reducible show wpAny _ _ (storeName _ _ _) _ _ _); first | (with_reducible (k_here; (try dsimp only); k_dflt (refine' storeX_L ?z0F ?z0N ?_ ?z0a ?z0b; (case z0F => k_asm); (case z0N => k_asm); (case z0a => rfl); (case z0b => rfl); k_whole; intro h_q' F_q' N_q'; let mk_q := mOf F_q'; have Fk_q : Fr _ _ _ mk_q := F_q'; (try k_sweep))))) | walk1 | (dsimp only; walk1) | (leave1; (try dsimp only)) | fail "no step")))
  all_goals (
    obtain ⟨n9, a9⟩ := Back.end1 (by assumption) (by assumption) (by assumption) (by assumption) (.head _) (by kcj_all) (by k_all)
    refine ret _ _ _ _ _ _ _ _ _ _ (by assumption) (by assumption) ?_ (by k_asm) n9 a9
    exact div_lgt (by assumption))
end
end

section -- C9
theorem ints3 {ys : List Value} {a b c : Int} (h : IntsAre ys [a, b, c]) : ∃ t u v, ys = [.int a t, .int b u, .int c v] := by
  cases h with
  | cons i t h => cases h with
    | cons i u h => cases h with
      | cons i v h => cases h with
        | nil => exact ⟨_, _, _, rfl⟩
theorem sum_is {x0 x1 x2 y0 y1 y2 : Int} : (List.map (fun k' : Int => [x0, x1, x2].getD k'.toNat 0 + [y0, y1, y2].getD k'.toNat 0) (rangeKs 0 (3 - 0 : Int).toNat)).sum = (x0 + y0) + (x1 + y1) + (x2 + y2) := by
  show (x0 + y0) + ((x1 + y1) + ((x2 + y2) + 0)) = _
  omega
theorem led3 {ys : List Value} {x0 x1 x2 y0 y1 y2 : Int} (h : IntsAre ys (List.map (fun k' : Int => [x0, x1, x2].getD k'.toNat 0 + [y0, y1, y2].getD k'.toNat 0) (rangeKs 0 (3 - 0 : Int).toNat))) : IntsAre ys [x0 + y0, x1 + y1, x2 + y2] := h
section
variable {prog : Program} {w : World} {A : Around} {E : Value → Shared → Prop} {s : Shared} {Q : Value → Shared → Prop}
theorem sub_lgt {a S : Int} {y : UInt64} {t u : Tok} (e : a = S) (hS : 0 ≤ S ∧ S ≤ 54) (h : Q (.float (Float64.sub (Float64.ofInt S) y) s.toks) { s with toks := s.toks + 1 }) :
    wpAny (model prog w) A (binaryOp .Sub (.int a t) (.float y u)) Q E s := by
  subst e
  exact sub_if_fits (Nat.lt_of_lt_of_le (m := 64) (by omega) (by decide)) h
theorem min_led {D L : Addr} {h₀ : Heap} {m : Str → Option Value} {news : List (Addr × Obj)} {ys : List Value} {x y z : Int} (F : Fr h₀ L s.heap m) (N : News h₀ L s.heap news) (hm : (D, LCg.lst ys) ∈ news) (hI : IntsAre ys [x, y, z]) (hh : A.handled = none)
    (h : ∀ h' M (t : Tok) tk, Fr h₀ L h' m → News h₀ L h' news → (M ≤ x ∧ M ≤ y ∧ M ≤ z ∧ (M = x ∨ M = y ∨ M = z)) → Q (.int M t) { s with heap := h', toks := tk }) : wpAny (model prog w) A (call (.builtin "min") [.ref D]) Q E s :=
  kso_min F N (kso_isList N hm (by simp)) hI (by simp) hh fun h' M t tk F' N' a b => h h' M t tk F' N' (by
    simp only [List.mem_cons, List.not_mem_nil, or_false, forall_eq_or_imp, forall_eq] at a b
    exact ⟨b.1, b.2.1, b.2.2, a⟩)
end
section
instance (p q r : Int) : Decidable (on3 p q r) := by unfold on3; infer_instance
theorem item3 {A : Around} {prog : Program} {value slice : PySem.Expr} {l : Addr} {x0 x1 x2 k : Int} {t0 t1 t2 u : Tok} {Q E : Value → Shared → Prop}
    (hl : s.heap.IsList l [Value.int x0 t0, .int x1 t1, .int x2 t2].toArray) (h0 : 0 ≤ k) (h1 : k < 0 + (((3 - 0 : Int).toNat : Nat) : Int)) (h : ∀ t, Q (.int ([x0, x1, x2].getD k.toNat 0) t) s)
    (hs : subscripted slice false (.ref l) (.int k u) = operate [.ref l, .int k u] (getItem (.ref l) (.int k u))) :
    wpAny (model prog w) A (subscriptTail value slice (.ref l) (.int k u)) Q E s := by
  have hk : k = 0 ∨ k = 1 ∨ k = 2 := by omega
  rcases hk with rfl | rfl | rfl
  · exact my_item hl (by decide) (by decide) rfl (h t0) hs
  · exact my_item hl (by decide) (by decide) rfl (h t1) hs
  · exact my_item hl (by decide) (by decide) rfl (h t2) hs
theorem on_sum {p q r M k : Int} (hM : p ≤ M ∧ q ≤ M ∧ r ≤ M ∧ (M = p ∨ M = q ∨ M = r)) (hk : k ≤ p ∧ k ≤ q ∧ k ≤ r ∧ (k = p ∨ k = q ∨ k = r)) : on3 p q r ↔ p + q + r - M = 2 * k := by
  obtain ⟨m1, m2, m3, hM⟩ := hM
  obtain ⟨k1, k2, k3, hk⟩ := hk
  refine ⟨fun h => ?_, fun h => ?_⟩
  · rcases h with ⟨h, h'⟩ | ⟨h, h'⟩ | ⟨h, h'⟩ <;> rcases hM with e | e | e <;> omega
  · rcases hM with e | e | e
    · exact .inr (.inr ⟨by omega, by omega⟩)
    · exact .inr (.inl ⟨by omega, by omega⟩)
    · exact .inl ⟨by omega, by omega⟩
theorem on_fin {p q r M mn k : Int} {l : UInt64} (hp : 0 ≤ p ∧ p ≤ 18) (hq : 0 ≤ q ∧ q ≤ 18) (hr : 0 ≤ r ∧ r ≤ 18)
    (hl : l = lgt (M + mn)) (hM : p ≤ M ∧ q ≤ M ∧ r ≤ M ∧ (M = p ∨ M = q ∨ M = r)) (hm : mn ≤ p ∧ mn ≤ q ∧ mn ≤ r ∧ (mn = p ∨ mn = q ∨ mn = r)) (hk : k ≤ p ∧ k ≤ q ∧ k ≤ r ∧ (k = p ∨ k = q ∨ k = r)) :
    (Float64.cmpInt (Float64.sub (Float64.ofInt (p + q + r)) (Float64.mul (Float64.ofInt 64) l)) k == some Ordering.eq) = decide (on3 p q r) := by
  subst hl
  have e : k = mn := by omega
  subst e
  rw [lgt_mul (by omega), ofInt_sub (by omega) (by omega), ofInt_eq (by omega) (by omega)]
  apply decide_eq_decide.mpr
  rw [on_sum hM hk]
  omega
theorem ct_on {px py : Addr} {x0 x1 x2 y0 y1 y2 : Int} {t0 t1 t2 u0 u1 u2 : Tok} {nx ny : Nat} (B : Below A₀ base outer h₀) (F : Fr h₀ L s.heap m) (X : (Mine.fr.heap_1 w.params).In h₀) (N : News h₀ L s.heap news) (T : Top p loose mean mg mb h₀) (hk : cs.kind = .function)
    (hsub : ∀ q ∈ [(px, listOf [Value.int x0 t0, .int x1 t1, .int x2 t2].toArray nx), (py, listOf [Value.int y0 u0, .int y1 u1, .int y2 u2].toArray ny)], q ∈ news)
    (h0 : 0 ≤ x0 + y0 ∧ x0 + y0 ≤ 18) (h1 : 0 ≤ x1 + y1 ∧ x1 + y1 ≤ 18) (h2 : 0 ≤ x2 + y2 ∧ x2 + y2 ≤ 18)
    (hd : dp + 2 < recursionLimit)
    (ret : ∀ h' tk' b, b = decide (on3 (x0 + y0) (x1 + y1) (x2 + y2)) → Fr h₀ L h' m → News h₀ L h' news → Q (.bool b) { s with heap := h', toks := tk' }) :
    wpAny (model PySem.Challenge.rw_sh0040_01.row.prog w) (ktrTop dp un gd cn cs L a ccd cl outer) (call (.ref 146) [.ref px, .ref py]) Q E s := by
  (((revert X; k_fill; intro X; refine wpAny_call ?_; k_dflt first | (refine' enterF ?z1k1 ?z1k2 ?z1k3 ?z1k4 ?z1k5 ?z1ks ?z1kA ?z1kF ?z1kK ?z1k6 ?z1k7 ?z1k8 ?z1k9 ?z1kB ?_ ?z1c2 ?z1c3 ?z1c4 ?z1c5; (case z1kA => exact rfl); (case z1kF => exact rfl); (case z1kK => assumption); (case z1k1 => k_asm); (case z1k2 => k_asm); (case z1k3 => k_asm); (case z1k4 => k_asm); (case z1k5 => k_asm); (case z1ks => first | assumption | exact no_sub); (case z1k6 => k_is); (case z1k7 => k_is); (case z1k8 => ktr_room); (case z1k9 => exact BindsTo.of_eq rfl); (case z1c5 => decide); (case z1kB => exact locs rfl); (case z1c2 => exact rfl); (case z1c3 => exact rfl); (case z1c4 => exact rfl); k_whole; intro g_q' L_q' h_q' tk_q' bk_q' FG_q' F_q' N_q' B_q' X_q' T_q' l1_q; (try k_lt l1_q); (try dsimp only); (try k_lift B_q'); (try k_fold)) | (refine' enterFC ?z1k1 ?z1k2 ?z1k3 ?z1k4 ?z1k5 ?z1ks ?z1kA ?z1kF ?z1kK ?z1k6 ?z1k7 ?z1k8 ?z1k9 ?z1kB ?z1kD ?_ ?z1c2 ?z1c3 ?z1c4; (case z1kA => exact rfl); (case z1kF => exact rfl); (case z1kK => assumption); (case z1k1 => k_asm); (case z1k2 => k_asm); (case z1k3 => k_asm); (case z1k4 => k_asm); (case z1k5 => k_asm); (case z1ks => first | assumption | exact no_sub); (case z1k6 => k_is); (case z1k7 => k_is); (case z1k8 => ktr_room); (case z1k9 => exact BindsTo.of_eq rfl); (case z1kB => exact rfl); (case z1kD => decide +kernel); (case z1c2 => exact rfl); (case z1c3 => exact rfl); (case z1c4 => exact rfl); k_whole; intro g_q' L_q' h_q' tk_q' cells_q' bk_q' FG_q' F_q' N_q' Y_q' B_q' X_q' T_q' l1_q; (try k_lt l1_q); k_cells Y_q'; (try simp only [List.cons_append, List.nil_append] at N_q'); (try dsimp only); (try k_lift B_q'); (try k_fold))); (show wpAny _ ?A9 _ _ _ _); (let ak : Around := ?A9); (change wpAny _ ak _ _ _ _); k_fold); (repeat' (first | (k_unfold; (try dsimp only)) | (k_end; kc_close) | ((with_reducible first | show wpAny _ _ (execs _ _) _ _ _ | show wpAny _ _ (exec (.For ..) _) _ _ _ | show wpAny _ _ (exec (.While ..) _) _ _ _); k_fold) | ((with_reducible show wpAny _ _ (subscriptTail (Expr.Name ..) (Expr.Name ..) (Value.ref _) (Value.int _ _)) _ _ _); first | (with_reducible (k_here; (with_reducible rename News _ _ _ _ => N9_q); k_dflt (refine' item3 ?z27w1 ?z27w2 ?z27w3 ?_ ?z27w4; (case z27w1 => exact my_listof N9_q (by k_mem)); (case z27w2 => with_reducible assumption); (case z27w3 => with_reducible assumption); (case z27w4 => with_unfolding_all rfl)); intro t9_q; (try dsimp only))) | (with_reducible (k_here; (with_reducible show wpAny _ _ (subscriptTail _ _ (Value.ref _) (Value.int _ _)) _ _ _); (with_reducible rename News _ _ _ _ => N9_q); (k_dflt (refine' my_item ?z2k1 ?z2k2 ?z2k3 ?z2k4 ?_ ?z2k6; (case z2k1 => exact my_listof N9_q (by kcj_m)); (case z2k2 => decide); (case z2k3 => decide); (case z2k4 => exact rfl); (case z2k6 => with_unfolding_all rfl))); (try dsimp only)))) | ((with_reducible show wpAny _ _ (call _ _) _ _ _); first | (with_reducible (k_here; (with_reducible rename Fr _ _ _ _ => F_q'); (with_reducible rename News _ _ _ _ => N_q'); (k_dflt (refine' min_led F_q' N_q' ?z26e ?z26z ?z26hh ?_; (case z26e => k_mem); (case z26z => exact led3 (by assumption)); (case z26hh => with_unfolding_all rfl))); clear F_q' N_q'; intro h_q' M_q' t_q' k_q' F_q' N_q' a_q'; (try dsimp only)))) | ((with_reducible show wpAny _ _ (binaryOp Operator.Sub (Value.int _ _) (Value.float _ _)) _ _ _); first | (with_reducible (k_dflt (refine' sub_lgt ?z25e ?z25z ?_; (case z25e => exact sum_is); (case z25z => omega)); (try dsimp only)))) | ((with_reducible show wpAny _ _ (call (Value.ref _) _) _ _ _); first | (with_reducible (k_here; k_dflt ((refine' ct_rgb ?z24k1 ?z24k2 ?z24k3 ?z24k4 ?z24k5 ?z24k6 ?z24p0 ?z24p1 ?z24p2 ?z24kd ?_); (case z24k1 => k_asm); (case z24k2 => k_asm); (case z24k3 => k_asm); (case z24k4 => k_asm); (case z24k5 => k_asm); (case z24k6 => first | exact rfl | assumption); (case z24p0 => omega); (case z24p1 => omega); (case z24p2 => omega); (case z24kd => ktr_room); k_whole; intro r9_q hv9_q l9_q sv9_q tl9_q M9_q mn9_q n9_q h9_q tk9_q e1_q e2_q e3_q F9_q N9_q l9_q; (try dsimp only)); (try k_sweep); (try k_fold)))) | ((with_reducible show wpAny _ _ (binaryOp Operator.Div (Value.int _ _) (Value.int _ _)) _ _ _); first | (with_reducible (k_dflt (refine' div_32 ?z23e ?z23z ?_ ?z23hh; (case z23e => ((simp only [Int.reduceToNat, Int.reduceAdd, Int.reduceSub, List.getD_cons_zero, List.getD_cons_succ]); exact rfl)); (case z23z => omega); (case z23hh => with_unfolding_all rfl)); (try dsimp only)))) | ((with_reducible show wpAny _ _ (eval (Expr.Call ..) _) _ _ _); first | (with_reducible k_dflt (refine Call_ ?_))) | ((with_reducible show wpAny _ _ (subscriptTail (Expr.Subscript ..) (Expr.Constant ..) (Value.ref _) (Value.int _ _)) _ _ _); first | (with_reducible (k_here; (with_reducible show wpAny _ _ (subscriptTail _ _ (Value.ref _) (Value.int _ _)) _ _ _); (with_reducible rename News _ _ _ _ => N9_q); (k_dflt (refine' my_item ?z2k1 ?z2k2 ?z2k3 ?z2k4 ?_ ?z2k6; (case z2k1 => exact my_listof N9_q (by kcj_m)); (case z2k2 => decide); (case z2k3 => decide); (case z2k4 => exact rfl); (case z2k6 => with_unfolding_all rfl))); (try dsimp only)))) | ((with_reducible show wpAny _ _ (subscriptTail (Expr.Subscript ..) (Expr.BinOp ..) (Value.ref _) (Value.int _ _)) _ _ _); first | (with_reducible (k_here; (with_reducible show wpAny _ _ (subscriptTail _ _ (Value.ref _) (Value.int _ _)) _ _ _); (with_reducible rename News _ _ _ _ => N9_q); (k_dflt (refine' my_item ?z2k1 ?z2k2 ?z2k3 ?z2k4 ?_ ?z2k6; (case z2k1 => exact my_listof N9_q (by kcj_m)); (case z2k2 => decide); (case z2k3 => decide); (case z2k4 => exact rfl); (case z2k6 => with_unfolding_all rfl))); (try dsimp only)))) | ((with_reducible show wpAny _ _ (subscriptTail (Expr.Subscript ..) (Expr.Name ..) (Value.ref _) (Value.int _ _)) _ _ _); first | (with_reducible (k_here; (with_reducible show wpAny _ _ (subscriptTail _ _ (Value.ref _) (Value.int _ _)) _ _ _); (with_reducible rename News _ _ _ _ => N9_q); (k_dflt (refine' my_item ?z2k1 ?z2k2 ?z2k3 ?z2k4 ?_ ?z2k6; (case z2k1 => exact my_listof N9_q (by kcj_m)); (case z2k2 => decide); (case z2k3 => decide); (case z2k4 => exact rfl); (case z2k6 => with_unfolding_all rfl))); (try dsimp only)))) | ((with_reducible show wpAny _ _ (subscriptTail (Expr.Name ..) (Expr.BinOp ..) (Value.ref _) (Value.int _ _)) _ _ _); first | (with_reducible (k_here; (with_reducible show wpAny _ _ (subscriptTail _ _ (Value.ref _) (Value.int _ _)) _ _ _); (with_reducible rename News _ _ _ _ => N9_q); (k_dflt (refine' my_item ?z2k1 ?z2k2 ?z2k3 ?z2k4 ?_ ?z2k6; (case z2k1 => exact my_listof N9_q (by kcj_m)); (case z2k2 => decide); (case z2k3 => decide); (case z2k4 => exact rfl); (case z2k6 => with_unfolding_all rfl))); (try dsimp only)))) | ((with_reducible show wpAny _ _ (subscriptTail (Expr.Name ..) (Expr.Constant ..) (Value.ref _) (Value.int _ _)) _ _ _); first | (with_reducible (k_here; (with_reducible show wpAny _ _ (subscriptTail _ _ (Value.ref _) (Value.int _ _)) _ _ _); (with_reducible rename News _ _ _ _ => N9_q); (k_dflt (refine' my_item ?z2k1 ?z2k2 ?z2k3 ?z2k4 ?_ ?z2k6; (case z2k1 => exact my_listof N9_q (by kcj_m)); (case z2k2 => decide); (case z2k3 => decide); (case z2k4 => exact rfl); (case z2k6 => with_unfolding_all rfl))); (try dsimp only)))) | ((with_reducible show wpAny _ _ (subscriptTail _ _ _ _) _ _ _); first | (with_reducible (k_here; (with_reducible show wpAny _ _ (subscriptTail _ _ (Value.ref _) (Value.int _ _)) _ _ _); (with_reducible rename News _ _ _ _ => N9_q); (k_dflt (refine' my_item ?z2k1 ?z2k2 ?z2k3 ?z2k4 ?_ ?z2k6; (case z2k1 => exact my_listof N9_q (by kcj_m)); (case z2k2 => decide); (case z2k3 => decide); (case z2k4 => exact rfl); (case z2k6 => with_unfolding_all rfl))); (try dsimp only)))) | ((with_reducible show wpAny _ _ (storeName _ _ _) _ _ _); first | (with_reducible (k_here; (try dsimp only); k_dflt (refine' storeX_L ?z0F ?z0N ?_ ?z0a ?z0b; (case z0F => k_asm); (case z0N => k_asm); (case z0a => rfl); (case z0b => rfl); k_whole; intro h_q' F_q' N_q'; let mk_q := mOf F_q'; have Fk_q : Fr _ _ _ mk_q := F_q'; (try k_sweep))))) | walk1 | (dsimp only; walk1) | (leave1; (try dsimp only)) | fail "no step")))
  exact ret _ _ _ (on_fin h0 h1 h2 (by assumption) (by assumption) (by assumption) (by assumption)) (by k_asm) (Back.end0 (by assumption) (by assumption) (by assumption) (by kcj_all))
end
end

section -- C10
theorem on3_mins {A B C : Int} : on3 (min A B) (min A C) (min B C) := by
  rcases Int.le_total A B with h1 | h1 <;> rcases Int.le_total A C with h2 | h2 <;> rcases Int.le_total B C with h3 | h3 <;>
    (first | rw [Int.min_eq_left h1] | rw [Int.min_eq_right h1]) <;> (first | rw [Int.min_eq_left h2] | rw [Int.min_eq_right h2]) <;> (first | rw [Int.min_eq_left h3] | rw [Int.min_eq_right h3]) <;>
    first | exact .inl ⟨rfl, by assumption⟩ | exact .inr (.inl ⟨rfl, by assumption⟩) | exact .inr (.inr ⟨rfl, by assumption⟩) | (unfold on3; omega)
theorem on_of {a b c A B C : Int} (ha : a = min A B) (hb : b = min A C) (hc : c = min B C) : on3 a b c := by
  rw [ha, hb, hc]; exact on3_mins
theorem on_left {x0 x1 x2 y0 y1 y2 c0 c1 c2 : Int} (e0 : c0 = min (x1 + y2) (x2 + y1)) (e1 : c1 = min (x0 + y2) (x2 + y0)) (e2 : c2 = min (x0 + y1) (x1 + y0)) : on3 (x0 + c0) (x1 + c1) (x2 + c2) := by
  rw [e0, e1, e2]
  clear e0 e1 e2
  exact on_of (A := x0 + x1 + y2) (B := x0 + x2 + y1) (C := x1 + x2 + y0) (e_min (by omega) (by omega)) (e_min (by omega) (by omega)) (e_min (by omega) (by omega))
theorem on_right {x0 x1 x2 y0 y1 y2 c0 c1 c2 : Int} (e0 : c0 = min (x1 + y2) (x2 + y1)) (e1 : c1 = min (x0 + y2) (x2 + y0)) (e2 : c2 = min (x0 + y1) (x1 + y0)) : on3 (y0 + c0) (y1 + c1) (y2 + c2) := by
  rw [e0, e1, e2]
  clear e0 e1 e2
  exact on_of (A := y0 + y1 + x2) (B := y0 + y2 + x1) (C := y1 + y2 + x0) (e_min' (by omega) (by omega)) (e_min' (by omega) (by omega)) (e_min' (by omega) (by omega))
theorem ct_onT {px py : Addr} {x0 x1 x2 y0 y1 y2 : Int} {t0 t1 t2 u0 u1 u2 : Tok} {nx ny : Nat} (B : Below A₀ base outer h₀) (F : Fr h₀ L s.heap m) (X : (Mine.fr.heap_1 w.params).In h₀) (N : News h₀ L s.heap news) (T : Top p loose mean mg mb h₀) (hk : cs.kind = .function)
    (hsub : ∀ q ∈ [(px, listOf [Value.int x0 t0, .int x1 t1, .int x2 t2].toArray nx), (py, listOf [Value.int y0 u0, .int y1 u1, .int y2 u2].toArray ny)], q ∈ news)
    (hon : on3 (x0 + y0) (x1 + y1) (x2 + y2))
    (hb : (0 ≤ x0 + y0 ∧ x0 + y0 ≤ 18) ∧ (0 ≤ x1 + y1 ∧ x1 + y1 ≤ 18) ∧ (0 ≤ x2 + y2 ∧ x2 + y2 ≤ 18))
    (hd : dp + 2 < recursionLimit)
    (ret : ∀ h' tk', Fr h₀ L h' m → News h₀ L h' news → Q (.bool true) { s with heap := h', toks := tk' }) :
    wpAny (model PySem.Challenge.rw_sh0040_01.row.prog w) (ktrTop dp un gd cn cs L a ccd cl outer) (call (.ref 146) [.ref px, .ref py]) Q E s :=
  ct_on B F X N T hk hsub hb.1 hb.2.1 hb.2.2 hd fun h' tk' b e F' N' => by
    rw [decide_eq_true hon] at e
    subst e
    exact ret h' tk' F' N'
theorem ct_onB {px py : Addr} {x0 x1 x2 y0 y1 y2 : Int} {t0 t1 t2 u0 u1 u2 : Tok} {nx ny : Nat} (B : Below A₀ base outer h₀) (F : Fr h₀ L s.heap m) (X : (Mine.fr.heap_1 w.params).In h₀) (N : News h₀ L s.heap news) (T : Top p loose mean mg mb h₀) (hk : cs.kind = .function)
    (hsub : ∀ q ∈ [(px, listOf [Value.int x0 t0, .int x1 t1, .int x2 t2].toArray nx), (py, listOf [Value.int y0 u0, .int y1 u1, .int y2 u2].toArray ny)], q ∈ news)
    (hb : (0 ≤ x0 + y0 ∧ x0 + y0 ≤ 18) ∧ (0 ≤ x1 + y1 ∧ x1 + y1 ≤ 18) ∧ (0 ≤ x2 + y2 ∧ x2 + y2 ≤ 18))
    (hd : dp + 2 < recursionLimit)
    (ret : ∀ h' tk', Fr h₀ L h' m → News h₀ L h' news → Q (.bool (decide (on3 (x0 + y0) (x1 + y1) (x2 + y2)))) { s with heap := h', toks := tk' }) :
    wpAny (model PySem.Challenge.rw_sh0040_01.row.prog w) (ktrTop dp un gd cn cs L a ccd cl outer) (call (.ref 146) [.ref px, .ref py]) Q E s :=
  ct_on B F X N T hk hsub hb.1 hb.2.1 hb.2.2 hd fun h' tk' b e F' N' => by
    subst e
    exact ret h' tk' F' N'
theorem min_b {a b c d k : Int} (e : k = min (a + b) (c + d)) (ha : 0 ≤ a ∧ a ≤ 4) (hb : 0 ≤ b ∧ b ≤ 4) (hc : 0 ≤ c ∧ c ≤ 4) (hd : 0 ≤ d ∧ d ≤ 4) : 0 ≤ k ∧ k ≤ 8 := by omega
theorem plus_b {a k : Int} (ha : 0 ≤ a ∧ a ≤ 4) (hk : 0 ≤ k ∧ k ≤ 8) : 0 ≤ a + k ∧ a + k ≤ 18 := by omega
theorem line_b {x0 x1 x2 y0 y1 y2 z0 z1 z2 c0 c1 c2 : Int} (e0 : c0 = min (y1 + z2) (y2 + z1)) (e1 : c1 = min (y0 + z2) (y2 + z0)) (e2 : c2 = min (y0 + z1) (y1 + z0)) (hx : ((0 ≤ x0 ∧ x0 ≤ 4) ∧ (0 ≤ x1 ∧ x1 ≤ 4) ∧ (0 ≤ x2 ∧ x2 ≤ 4))) (hy : ((0 ≤ y0 ∧ y0 ≤ 4) ∧ (0 ≤ y1 ∧ y1 ≤ 4) ∧ (0 ≤ y2 ∧ y2 ≤ 4))) (hz : ((0 ≤ z0 ∧ z0 ≤ 4) ∧ (0 ≤ z1 ∧ z1 ≤ 4) ∧ (0 ≤ z2 ∧ z2 ≤ 4))) :
    (0 ≤ x0 + c0 ∧ x0 + c0 ≤ 18) ∧ (0 ≤ x1 + c1 ∧ x1 + c1 ≤ 18) ∧ (0 ≤ x2 + c2 ∧ x2 + c2 ≤ 18) :=
  ⟨plus_b hx.1 (min_b e0 hy.2.1 hz.2.2 hy.2.2 hz.2.1), plus_b hx.2.1 (min_b e1 hy.1 hz.2.2 hy.2.2 hz.1), plus_b hx.2.2 (min_b e2 hy.1 hz.2.1 hy.2.1 hz.1)⟩
def onL (x0 x1 x2 y0 y1 y2 z0 z1 z2 : Int) : Prop := on3 (x0 + min (y1 + z2) (y2 + z1)) (x1 + min (y0 + z2) (y2 + z0)) (x2 + min (y0 + z1) (y1 + z0))
theorem thirds_fin {a0 a1 a2 b0 b1 b2 c0 c1 c2 k0 k1 k2 l0 l1 l2 m0 m1 m2 r1 r2 r3 : Int}
    (h3 : on3 (c0 + m0) (c1 + m1) (c2 + m2) ∧ r3 = r2 + 1 ∨ ¬ on3 (c0 + m0) (c1 + m1) (c2 + m2) ∧ r3 = r2)
    (h2 : on3 (b0 + l0) (b1 + l1) (b2 + l2) ∧ r2 = r1 + 1 ∨ ¬ on3 (b0 + l0) (b1 + l1) (b2 + l2) ∧ r2 = r1)
    (h1 : on3 (a0 + k0) (a1 + k1) (a2 + k2) ∧ r1 = 0 + 1 ∨ ¬ on3 (a0 + k0) (a1 + k1) (a2 + k2) ∧ r1 = 0)
    (p0 : k0 = min (c1 + b2) (c2 + b1)) (p1 : k1 = min (c0 + b2) (c2 + b0)) (p2 : k2 = min (c0 + b1) (c1 + b0))
    (q0 : l0 = min (a1 + c2) (a2 + c1)) (q1 : l1 = min (a0 + c2) (a2 + c0)) (q2 : l2 = min (a0 + c1) (a1 + c0))
    (s0 : m0 = min (b1 + a2) (b2 + a1)) (s1 : m1 = min (b0 + a2) (b2 + a0)) (s2 : m2 = min (b0 + a1) (b1 + a0)) :
    (0 < r3 ↔ onL a0 a1 a2 c0 c1 c2 b0 b1 b2 ∨ onL b0 b1 b2 a0 a1 a2 c0 c1 c2 ∨ onL c0 c1 c2 b0 b1 b2 a0 a1 a2) ∧ 0 ≤ r3 := by
  subst p0 p1 p2 q0 q1 q2 s0 s1 s2
  unfold onL
  rcases h1 with ⟨x1, y1⟩ | ⟨x1, y1⟩ <;> rcases h2 with ⟨x2, y2⟩ | ⟨x2, y2⟩ <;> rcases h3 with ⟨x3, y3⟩ | ⟨x3, y3⟩ <;> simp only [x1, x2, x3, true_or, or_true, or_self, iff_true, iff_false, true_and] <;> omega
section
theorem ct_thirds {pt r0 r1 r2 : Addr} {a0 a1 a2 b0 b1 b2 c0 c1 c2 : Int} {t1 t2 t3 t4 t5 t6 t7 t8 t9 : Tok} {nt n0 n1 n2 : Nat} (B : Below A₀ base outer h₀) (F : Fr h₀ L s.heap m) (X : (Mine.fr.heap_1 w.params).In h₀) (N : News h₀ L s.heap news) (T : Top p loose mean mg mb h₀) (hk : cs.kind = .function)
    (hsub : ∀ q ∈ [(pt, listOf [Value.ref r0, .ref r1, .ref r2].toArray nt), (r0, listOf [Value.int a0 t1, .int a1 t2, .int a2 t3].toArray n0), (r1, listOf [Value.int b0 t4, .int b1 t5, .int b2 t6].toArray n1), (r2, listOf [Value.int c0 t7, .int c1 t8, .int c2 t9].toArray n2)], q ∈ news)
    (ha : (0 ≤ a0 ∧ a0 ≤ 4) ∧ (0 ≤ a1 ∧ a1 ≤ 4) ∧ (0 ≤ a2 ∧ a2 ≤ 4)) (hb : (0 ≤ b0 ∧ b0 ≤ 4) ∧ (0 ≤ b1 ∧ b1 ≤ 4) ∧ (0 ≤ b2 ∧ b2 ≤ 4)) (hc : (0 ≤ c0 ∧ c0 ≤ 4) ∧ (0 ≤ c1 ∧ c1 ≤ 4) ∧ (0 ≤ c2 ∧ c2 ≤ 4))
    (hd : dp + 3 < recursionLimit)
    (ret : ∀ x h' tk' t', (0 < x ↔ onL a0 a1 a2 c0 c1 c2 b0 b1 b2 ∨ onL b0 b1 b2 a0 a1 a2 c0 c1 c2 ∨ onL c0 c1 c2 b0 b1 b2 a0 a1 a2) ∧ 0 ≤ x → Fr h₀ L h' m → News h₀ L h' news → Q (.int x t') { s with heap := h', toks := tk' }) :
    wpAny (model PySem.Challenge.rw_sh0040_01.row.prog w) (ktrTop dp un gd cn cs L a ccd cl outer) (call (.ref 153) [.ref pt]) Q E s := by
  (((revert X; k_fill; intro X; refine wpAny_call ?_; k_dflt first | (refine' enterF ?z1k1 ?z1k2 ?z1k3 ?z1k4 ?z1k5 ?z1ks ?z1kA ?z1kF ?z1kK ?z1k6 ?z1k7 ?z1k8 ?z1k9 ?z1kB ?_ ?z1c2 ?z1c3 ?z1c4 ?z1c5; (case z1kA => exact rfl); (case z1kF => exact rfl); (case z1kK => assumption); (case z1k1 => k_asm); (case z1k2 => k_asm); (case z1k3 => k_asm); (case z1k4 => k_asm); (case z1k5 => k_asm); (case z1ks => first | assumption | exact no_sub); (case z1k6 => k_is); (case z1k7 => k_is); (case z1k8 => ktr_room); (case z1k9 => exact BindsTo.of_eq rfl); (case z1c5 => decide); (case z1kB => exact locs rfl); (case z1c2 => exact rfl); (case z1c3 => exact rfl); (case z1c4 => exact rfl); k_whole; intro g_q' L_q' h_q' tk_q' bk_q' FG_q' F_q' N_q' B_q' X_q' T_q' l1_q; (try k_lt l1_q); (try dsimp only); (try k_lift B_q'); (try k_fold)) | (refine' enterFC ?z1k1 ?z1k2 ?z1k3 ?z1k4 ?z1k5 ?z1ks ?z1kA ?z1kF ?z1kK ?z1k6 ?z1k7 ?z1k8 ?z1k9 ?z1kB ?z1kD ?_ ?z1c2 ?z1c3 ?z1c4; (case z1kA => exact rfl); (case z1kF => exact rfl); (case z1kK => assumption); (case z1k1 => k_asm); (case z1k2 => k_asm); (case z1k3 => k_asm); (case z1k4 => k_asm); (case z1k5 => k_asm); (case z1ks => first | assumption | exact no_sub); (case z1k6 => k_is); (case z1k7 => k_is); (case z1k8 => ktr_room); (case z1k9 => exact BindsTo.of_eq rfl); (case z1kB => exact rfl); (case z1kD => decide +kernel); (case z1c2 => exact rfl); (case z1c3 => exact rfl); (case z1c4 => exact rfl); k_whole; intro g_q' L_q' h_q' tk_q' cells_q' bk_q' FG_q' F_q' N_q' Y_q' B_q' X_q' T_q' l1_q; (try k_lt l1_q); k_cells Y_q'; (try simp only [List.cons_append, List.nil_append] at N_q'); (try dsimp only); (try k_lift B_q'); (try k_fold))); (show wpAny _ ?A9 _ _ _ _); (let ak : Around := ?A9); (change wpAny _ ak _ _ _ _); k_fold); (repeat' (first | (k_unfold; (try dsimp only)) | (k_end; kc_close) | ((with_reducible first | show wpAny _ _ (execs _ _) _ _ _ | show wpAny _ _ (exec (.For ..) _) _ _ _ | show wpAny _ _ (exec (.While ..) _) _ _ _); k_fold) | ((with_reducible show ite _ _ _); first | (with_reducible (k_here; (rename Fr _ _ _ _ => F_q'); (rename News _ _ _ _ => N_q'); k_dflt (apply ite_join F_q' N_q'; (case hold => with_unfolding_all rfl))))) | ((with_reducible show wpAny _ _ (call (Value.ref _) _) _ _ _); first | (with_reducible (k_here; k_dflt ((refine' ct_onT ?z30k1 ?z30k2 ?z30k3 ?z30k4 ?z30k5 ?z30k6 ?z30p0 ?z30p1 ?z30p2 ?z30kd ?_); (case z30k1 => k_asm); (case z30k2 => k_asm); (case z30k3 => k_asm); (case z30k4 => k_asm); (case z30k5 => k_asm); (case z30k6 => first | exact rfl | assumption); (case z30p0 => kcj_all); (case z30p1 => with_reducible first | exact on_left (by assumption) (by assumption) (by assumption) | exact on_right (by assumption) (by assumption) (by assumption)); (case z30p2 => with_reducible exact line_b (by assumption) (by assumption) (by assumption) (by assumption) (by assumption) (by assumption)); (case z30kd => ktr_room); k_whole; intro h9_q tk9_q F9_q N9_q; (try dsimp only)); (try k_sweep); (try k_fold))) | (with_reducible (k_here; k_dflt ((refine' ct_onB ?z29k1 ?z29k2 ?z29k3 ?z29k4 ?z29k5 ?z29k6 ?z29p0 ?z29p1 ?z29kd ?_); (case z29k1 => k_asm); (case z29k2 => k_asm); (case z29k3 => k_asm); (case z29k4 => k_asm); (case z29k5 => k_asm); (case z29k6 => first | exact rfl | assumption); (case z29p0 => kcj_all); (case z29p1 => with_reducible exact line_b (by assumption) (by assumption) (by assumption) (by assumption) (by assumption) (by assumption)); (case z29kd => ktr_room); k_whole; intro h9_q tk9_q F9_q N9_q; (try dsimp only)); (try k_sweep); (try k_fold))) | (with_reducible (k_here; k_dflt ((refine' ct_line ?z28k1 ?z28k2 ?z28k3 ?z28k4 ?z28k5 ?z28k6 ?z28p0 ?z28kd ?_); (case z28k1 => k_asm); (case z28k2 => k_asm); (case z28k3 => k_asm); (case z28k4 => k_asm); (case z28k5 => k_asm); (case z28k6 => first | exact rfl | assumption); (case z28p0 => kcj_all); (case z28kd => ktr_room); k_whole; intro r9_q c0_q c1_q c2_q v0_q v1_q v2_q n9_q h9_q tk9_q e0_q e1_q e2_q F9_q N9_q l9_q; (try dsimp only)); (try k_sweep); (try k_fold)))) | ((with_reducible show wpAny _ _ (eval (Expr.Call ..) _) _ _ _); first | (with_reducible k_dflt (refine Call_ ?_))) | ((with_reducible show wpAny _ _ (subscriptTail (Expr.Subscript ..) (Expr.Constant ..) (Value.ref _) (Value.int _ _)) _ _ _); first | (with_reducible (k_here; (with_reducible show wpAny _ _ (subscriptTail _ _ (Value.ref _) (Value.int _ _)) _ _ _); (with_reducible rename News _ _ _ _ => N9_q); (k_dflt (refine' my_item ?z2k1 ?z2k2 ?z2k3 ?z2k4 ?_ ?z2k6; (case z2k1 => exact my_listof N9_q (by kcj_m)); (case z2k2 => decide); (case z2k3 => decide); (case z2k4 => exact rfl); (case z2k6 => with_unfolding_all rfl))); (try dsimp only)))) | ((with_reducible show wpAny _ _ (subscriptTail (Expr.Subscript ..) (Expr.BinOp ..) (Value.ref _) (Value.int _ _)) _ _ _); first | (with_reducible (k_here; (with_reducible show wpAny _ _ (subscriptTail _ _ (Value.ref _) (Value.int _ _)) _ _ _); (with_reducible rename News _ _ _ _ => N9_q); (k_dflt (refine' my_item ?z2k1 ?z2k2 ?z2k3 ?z2k4 ?_ ?z2k6; (case z2k1 => exact my_listof N9_q (by kcj_m)); (case z2k2 => decide); (case z2k3 => decide); (case z2k4 => exact rfl); (case z2k6 => with_unfolding_all rfl))); (try dsimp only)))) | ((with_reducible show wpAny _ _ (subscriptTail (Expr.Subscript ..) (Expr.Name ..) (Value.ref _) (Value.int _ _)) _ _ _); first | (with_reducible (k_here; (with_reducible show wpAny _ _ (subscriptTail _ _ (Value.ref _) (Value.int _ _)) _ _ _); (with_reducible rename News _ _ _ _ => N9_q); (k_dflt (refine' my_item ?z2k1 ?z2k2 ?z2k3 ?z2k4 ?_ ?z2k6; (case z2k1 => exact my_listof N9_q (by kcj_m)); (case z2k2 => decide); (case z2k3 => decide); (case z2k4 => exact rfl); (case z2k6 => with_unfolding_all rfl))); (try dsimp only)))) | ((with_reducible show wpAny _ _ (subscriptTail (Expr.Name ..) (Expr.BinOp ..) (Value.ref _) (Value.int _ _)) _ _ _); first | (with_reducible (k_here; (with_reducible show wpAny _ _ (subscriptTail _ _ (Value.ref _) (Value.int _ _)) _ _ _); (with_reducible rename News _ _ _ _ => N9_q); (k_dflt (refine' my_item ?z2k1 ?z2k2 ?z2k3 ?z2k4 ?_ ?z2k6; (case z2k1 => exact my_listof N9_q (by kcj_m)); (case z2k2 => decide); (case z2k3 => decide); (case z2k4 => exact rfl); (case z2k6 => with_unfolding_all rfl))); (try dsimp only)))) | ((with_reducible show wpAny _ _ (subscriptTail (Expr.Name ..) (Expr.Name ..) (Value.ref _) (Value.int _ _)) _ _ _); first | (with_reducible (k_here; (with_reducible show wpAny _ _ (subscriptTail _ _ (Value.ref _) (Value.int _ _)) _ _ _); (with_reducible rename News _ _ _ _ => N9_q); (k_dflt (refine' my_item ?z2k1 ?z2k2 ?z2k3 ?z2k4 ?_ ?z2k6; (case z2k1 => exact my_listof N9_q (by kcj_m)); (case z2k2 => decide); (case z2k3 => decide); (case z2k4 => exact rfl); (case z2k6 => with_unfolding_all rfl))); (try dsimp only)))) | ((with_reducible show wpAny _ _ (subscriptTail (Expr.Name ..) (Expr.Constant ..) (Value.ref _) (Value.int _ _)) _ _ _); first | (with_reducible (k_here; (with_reducible show wpAny _ _ (subscriptTail _ _ (Value.ref _) (Value.int _ _)) _ _ _); (with_reducible rename News _ _ _ _ => N9_q); (k_dflt (refine' my_item ?z2k1 ?z2k2 ?z2k3 ?z2k4 ?_ ?z2k6; (case z2k1 => exact my_listof N9_q (by kcj_m)); (case z2k2 => decide); (case z2k3 => decide); (case z2k4 => exact rfl); (case z2k6 => with_unfolding_all rfl))); (try dsimp only)))) | ((with_reducible show wpAny _ _ (subscriptTail _ _ _ _) _ _ _); first | (with_reducible (k_here; (with_reducible show wpAny _ _ (subscriptTail _ _ (Value.ref _) (Value.int _ _)) _ _ _); (with_reducible rename News _ _ _ _ => N9_q); (k_dflt (refine' my_item ?z2k1 ?z2k2 ?z2k3 ?z2k4 ?_ ?z2k6; (case z2k1 => exact my_listof N9_q (by kcj_m)); (case z2k2 => decide); (case z2k3 => decide); (case z2k4 => exact rfl); (case z2k6 => with_unfolding_all rfl))); (try dsimp only)))) | ((with_reducible show wpAny _ _ (storeName _ _ _) _ _ _); first | (with_reducible (k_here; (try dsimp only); k_dflt (refine' storeX_L ?z0F ?z0N ?_ ?z0a ?z0b; (case z0F => k_asm); (case z0N => k_asm); (case z0a => rfl); (case z0b => rfl); k_whole; intro h_q' F_q' N_q'; let mk_q := mOf F_q'; have Fk_q : Fr _ _ _ mk_q := F_q'; (try k_sweep))))) | walk1 | (dsimp only; walk1) | (leave1; (try dsimp only)) | fail "no step")))
  refine ret _ _ _ _ ?_ (by k_asm) (Back.end0 (by assumption) (by assumption) (by assumption) (by kcj_all))
  with_reducible exact thirds_fin (by assumption) (by assumption) (by assumption) (by assumption) (by assumption) (by assumption) (by assumption) (by assumption) (by assumption) (by assumption) (by assumption) (by assumption)
end
end

section -- C14
section
variable {prog : Program} {A : Around} {x : Str} {body : List Stmt} {env : Env} {R : Flow → Shared → Prop}
theorem ints_rep {k : Nat} {a : Int} {t : Tok} : IntsAre (List.replicate k (.int a t)) (List.replicate k a) := by
  induction k with
  | zero => exact .nil
  | succ k ih => exact .cons _ _ ih
theorem ints_set {vs : List Value} {ns : List Int} {a : Int} {t : Tok} (h : IntsAre vs ns) : ∀ k : Nat, IntsAre (vs.set k (.int a t)) (ns.set k a) := by
  induction h with
  | nil => intro k; exact .nil
  | cons i u h ih =>
    intro k
    cases k with
    | zero => exact .cons _ _ h
    | succ k => exact .cons _ _ (ih k)
theorem ints_at {vs : List Value} {ns : List Int} (h : IntsAre vs ns) : ∀ k : Nat, k < ns.length → ∃ t, vs[k]? = some (.int (ns.getD k 0) t) := by
  induction h with
  | nil => intro k hk; exact absurd hk (Nat.not_lt_zero _)
  | cons i u h ih =>
    intro k hk
    cases k with
    | zero => exact ⟨u, rfl⟩
    | succ k => exact ih k (by simpa using hk)
theorem my_itemI {value slice : PySem.Expr} {l : Addr} {vs : List Value} {ns : List Int} {k : Int} {u : Tok} {Q : Value → Shared → Prop}
    (hl : s.heap.IsList l vs.toArray) (hI : IntsAre vs ns) (h0 : 0 ≤ k) (h1 : k < (ns.length : Int)) (h2 : ns.length ≤ 64) (h : ∀ t, Q (.int (ns.getD k.toNat 0) t) s)
    (hs : subscripted slice false (.ref l) (.int k u) = operate [.ref l, .int k u] (getItem (.ref l) (.int k u)) := by with_unfolding_all rfl) :
    wpAny (model prog w) A (subscriptTail value slice (.ref l) (.int k u)) Q E s := by
  obtain ⟨t, e⟩ := ints_at hI k.toNat (by omega)
  exact my_item hl h0 (by omega) e (h t) hs
theorem len_cast {a b : Nat} (h : a = b) : (a : Int) = (b : Int) := by rw [h]
theorem rep_flat2 {v : Value} {k : Nat} : (List.replicate k [v]).flatten = List.replicate k v := by
  induction k with
  | zero => rfl
  | succ k ih => rw [List.replicate_succ, List.flatten_cons, ih]; rfl
end
theorem tabs_ge {vs : List Value} {ns : List Int} {b : Int} {t : Tok} (h : IntsAre vs (ns ++ List.replicate (b - (ns.length : Int) + 1).toNat 0)) (h0 : 0 ≤ b) (h1 : (ns.length : Int) ≤ b) :
    IntsAre (vs.set b.toNat (.int ((ns ++ List.replicate (b - (ns.length : Int) + 1).toNat 0).getD b.toNat 0 + 1) t)) (tabs b.toNat ns) := by
  have e : (b - (ns.length : Int) + 1).toNat = b.toNat + 1 - ns.length := by omega
  rw [e] at h ⊢
  exact ints_set h _
theorem tabs_lt {vs : List Value} {ns : List Int} {b : Int} {t : Tok} (h : IntsAre vs ns) (h0 : 0 ≤ b) (h1 : b < (ns.length : Int)) :
    IntsAre (vs.set b.toNat (.int (ns.getD b.toNat 0 + 1) t)) (tabs b.toNat ns) := by
  have e : b.toNat + 1 - ns.length = 0 := by omega
  unfold tabs
  rw [e, List.replicate_zero, List.append_nil]
  exact ints_set h _
section
theorem ct_ws {r e : Nat} {t : Tok} (B : Below A₀ base outer h₀) (F : Fr h₀ L s.heap m) (X : (Mine.fr.heap_1 w.params).In h₀) (N : News h₀ L s.heap news) (T : Top p loose mean mg mb h₀) (hk : cs.kind = .function) (hr : r ≤ 5) (he : e ≤ 2) (hd : dp + 29 < recursionLimit)
    (ret : ∀ O d Tn Tc vs t1 t2 t3 t4 t5 n nt' tn tb bs h' tk', IntsAre vs (tabs e (tabs r [])) → Fr h₀ L h' m → News h₀ L h' ((O, instObj 97 d) :: (d, dictOf [⟨PyData.keyHash w.params (Str.ofString "raw"), .str (Str.ofString "raw") t1, .str (wsText r e) t⟩, ⟨PyData.keyHash w.params (Str.ofString "n"), .str (Str.ofString "n") t2, .int n tn⟩, ⟨PyData.keyHash w.params (Str.ofString "nt"), .str (Str.ofString "nt") t3, .int 2 nt'⟩, ⟨PyData.keyHash w.params (Str.ofString "norm"), .str (Str.ofString "norm") t4, .ref Tn⟩, ⟨PyData.keyHash w.params (Str.ofString "is_simple"), .str (Str.ofString "is_simple") t5, .bool bs⟩] 5) :: (Tn, tupOf [.ref Tc, .int 0 tb]) :: (Tc, tupOf vs) :: news) →
      (∀ p ∈ news, p.1 < d) → ((@LT.lt Nat _ d O) ∧ (@LT.lt Nat _ O Tc) ∧ (@LT.lt Nat _ Tc Tn)) → Q (.ref O) { s with heap := h', toks := tk' }) : wpAny (model PySem.Challenge.rw_sh0040_01.row.prog w) (ktrTop dp un gd cn cs L a ccd cl outer) (call (.ref 97) [.str (wsText r e) t]) Q E s := by
  revert X; k_fill; intro X
  k_here
  k_dflt (refine' call_cls ?k1 ?k2 ?k3 ?k4 ?k5 ?k6 ?_; (case k1 => k_asm); (case k2 => k_asm); (case k3 => k_asm); (case k4 => k_is); (case k5 => k_is); (case k6 => k_is); k_whole; intro x' d' h' F' N' l1 l2)
  k_lt2 l2
  have hsub : ∀ q ∈ [(x', instObj 97 d'), (d', dictOf [] 0)], q ∈ (x', instObj 97 d') :: (d', dictOf [] 0) :: news := by kcj_all
  k_dflt first | (refine' enterF ?z1k1 ?z1k2 ?z1k3 ?z1k4 ?z1k5 ?z1ks ?z1kA ?z1kF ?z1kK ?z1k6 ?z1k7 ?z1k8 ?z1k9 ?z1kB ?_ ?z1c2 ?z1c3 ?z1c4 ?z1c5; (case z1kA => exact rfl); (case z1kF => exact rfl); (case z1kK => assumption); (case z1k1 => k_asm); (case z1k2 => k_asm); (case z1k3 => k_asm); (case z1k4 => k_asm); (case z1k5 => k_asm); (case z1ks => first | assumption | exact no_sub); (case z1k6 => k_is); (case z1k7 => k_is); (case z1k8 => ktr_room); (case z1k9 => exact BindsTo.of_eq rfl); (case z1c5 => decide); (case z1kB => exact locs rfl); (case z1c2 => exact rfl); (case z1c3 => exact rfl); (case z1c4 => exact rfl); k_whole; intro g_q' L_q' h_q' tk_q' bk_q' FG_q' F_q' N_q' B_q' X_q' T_q' l1_q; (try k_lt l1_q); (try dsimp only); (try k_lift B_q'); (try k_fold)) | (refine' enterFC ?z1k1 ?z1k2 ?z1k3 ?z1k4 ?z1k5 ?z1ks ?z1kA ?z1kF ?z1kK ?z1k6 ?z1k7 ?z1k8 ?z1k9 ?z1kB ?z1kD ?_ ?z1c2 ?z1c3 ?z1c4; (case z1kA => exact rfl); (case z1kF => exact rfl); (case z1kK => assumption); (case z1k1 => k_asm); (case z1k2 => k_asm); (case z1k3 => k_asm); (case z1k4 => k_asm); (case z1k5 => k_asm); (case z1ks => first | assumption | exact no_sub); (case z1k6 => k_is); (case z1k7 => k_is); (case z1k8 => ktr_room); (case z1k9 => exact BindsTo.of_eq rfl); (case z1kB => exact rfl); (case z1kD => decide +kernel); (case z1c2 => exact rfl); (case z1c3 => exact rfl); (case z1c4 => exact rfl); k_whole; intro g_q' L_q' h_q' tk_q' cells_q' bk_q' FG_q' F_q' N_q' Y_q' B_q' X_q' T_q' l1_q; (try k_lt l1_q); k_cells Y_q'; (try simp only [List.cons_append, List.nil_append] at N_q'); (try dsimp only); (try k_lift B_q'); (try k_fold))
  with_reducible rename Back _ _ _ _ _ => bk9
  (repeat' (first | (k_unfold; (try dsimp only)) | (k_end; kc_close) | ((with_reducible first | show wpAny _ _ (execs _ _) _ _ _ | show wpAny _ _ (exec (.For ..) _) _ _ _ | show wpAny _ _ (exec (.While ..) _) _ _ _); k_fold) | ((with_reducible show wpAny _ _ (call _ _) _ _ _); first | (with_reducible (k_here; (k_dflt (refine' kde_tupleOf ?z37k1 ?z37k2 ?z37k3 ?z37k4 ?z37k5 ?_; (case z37k1 => k_asm); (case z37k2 => k_asm); (case z37k3 => exact my_listof (by k_asm) (by k_mem)); (case z37k4 => (simp only [List.size_toArray]; omega)); (case z37k5 => exact rfl))); intro D_q' h_q' F_q' N_q' l1_q; (try k_lt l1_q); (try k_sweep); (try dsimp only))) | (with_reducible (k_here; (with_reducible show wpAny _ _ (call (Value.builtin "len") [Value.ref _]) _ _ _); (with_reducible rename IntsAre _ _ => iX_q'); (k_dflt (refine' my_len ?z33N ?z33m ?z33e ?z33z ?_; (case z33N => k_asm); (case z33m => k_mem); (case z33e => exact len_cast iX_q'.length); (case z33z => (have := iX_q'.length; omega)))); intro t9_q k9_q; (try dsimp only)))) | ((with_reducible show wpAny _ _ (setItem (Value.ref _) (Value.int _ _) _) _ _ _); first | (with_reducible (k_here; (with_reducible rename IntsAre _ _ => iX_q'); (have iL_q' := iX_q'.length); (try simp only [List.length_append, List.length_replicate] at iL_q'); (k_dflt (refine' my_set ?z36F ?z36N ?z36U ?z36z ?z36y ?z36x ?_; (case z36F => k_asm); (case z36N => k_asm); (case z36U => k_upd); (case z36z => omega); (case z36y => omega); (case z36x => omega))); intro h9_q F9_q N9_q; (try dsimp only)))) | ((with_reducible show wpAny _ _ (subscriptTail (Expr.Name ..) (Expr.Name ..) (Value.ref _) (Value.int _ _)) _ _ _); first | (with_reducible (k_here; (with_reducible rename IntsAre _ _ => iX_q'); (k_dflt (refine' my_itemI ?z35a iX_q' ?z35z ?z35y ?z35x ?_; (case z35a => exact my_listof (by k_asm) (by k_mem)); (case z35z => omega); (case z35y => ((try simp only [List.length_append, List.length_replicate]); omega)); (case z35x => ((try simp only [List.length_append, List.length_replicate]); omega)))); intro t9_q; (try dsimp only))) | (with_reducible (k_here; (with_reducible show wpAny _ _ (subscriptTail _ _ (Value.ref _) (Value.int _ _)) _ _ _); (with_reducible rename News _ _ _ _ => N9_q); (k_dflt (refine' my_item ?z2k1 ?z2k2 ?z2k3 ?z2k4 ?_ ?z2k6; (case z2k1 => exact my_listof N9_q (by kcj_m)); (case z2k2 => decide); (case z2k3 => decide); (case z2k4 => exact rfl); (case z2k6 => with_unfolding_all rfl))); (try dsimp only)))) | ((with_reducible show wpAny _ _ (binaryOp Operator.Add (Value.ref _) (Value.ref _)) _ _ _); first | (with_reducible (k_here; (k_dflt (refine' kmk_add_ints ?z34F ?z34N ?z34a ?z34b ?z34i ?z34j ?_ ?z34z; (case z34F => k_asm); (case z34N => k_asm); (case z34a => exact my_listof (by k_asm) (by k_mem)); (case z34b => exact my_listof (by k_asm) (by k_mem)); (case z34i => assumption); (case z34j => exact ints_rep); (case z34z => (simp only [List.length_replicate, sizeLine_eq]; omega)))); intro D_q' ws_q' h_q' F_q' N_q' l1_q hI_q'; (try k_lt l1_q); (try k_sweep); (try dsimp only)))) | ((with_reducible show wpAny _ _ (binaryOp Operator.Mult (Value.ref _) (Value.int _ _)) _ _ _); first | (with_reducible (k_here; (k_dflt (refine' KMa.mul ?z32F ?z32N ?z32l ?z32lo ?z32hi ?z32z ?z32e ?_; (case z32F => k_asm); (case z32N => k_asm); (case z32l => is_list); (case z32e => exact rep_flat2); (case z32lo => omega); (case z32hi => omega); (case z32z => (simp only [List.length_cons, List.length_nil]; omega)))); intro D_q' h_q' F_q' N_q' l1_q; (try k_lt l1_q); (try k_sweep); (try dsimp only)))) | ((with_reducible show wpAny _ _ (exec (Stmt.For (Expr.Name ..) (Expr.Attribute ..) _ _ _) _) _ _ _); first | (with_reducible (k_here; (rename Fr _ _ _ _ => lF_q'); (with_unfolding_all refine' For_invVF lF_q' ?z31k1 ?z31k2 ?_; (case z31k1 => exact rfl); (case z31k2 => exact rfl); k_whole)))) | ((with_reducible show wpAny _ _ (eval (Expr.Call ..) _) _ _ _); first | (with_reducible k_dflt (refine Call_ ?_))) | ((with_reducible show wpAny _ _ (subscriptTail (Expr.Subscript ..) (Expr.Constant ..) (Value.ref _) (Value.int _ _)) _ _ _); first | (with_reducible (k_here; (with_reducible show wpAny _ _ (subscriptTail _ _ (Value.ref _) (Value.int _ _)) _ _ _); (with_reducible rename News _ _ _ _ => N9_q); (k_dflt (refine' my_item ?z2k1 ?z2k2 ?z2k3 ?z2k4 ?_ ?z2k6; (case z2k1 => exact my_listof N9_q (by kcj_m)); (case z2k2 => decide); (case z2k3 => decide); (case z2k4 => exact rfl); (case z2k6 => with_unfolding_all rfl))); (try dsimp only)))) | ((with_reducible show wpAny _ _ (subscriptTail (Expr.Subscript ..) (Expr.BinOp ..) (Value.ref _) (Value.int _ _)) _ _ _); first | (with_reducible (k_here; (with_reducible show wpAny _ _ (subscriptTail _ _ (Value.ref _) (Value.int _ _)) _ _ _); (with_reducible rename News _ _ _ _ => N9_q); (k_dflt (refine' my_item ?z2k1 ?z2k2 ?z2k3 ?z2k4 ?_ ?z2k6; (case z2k1 => exact my_listof N9_q (by kcj_m)); (case z2k2 => decide); (case z2k3 => decide); (case z2k4 => exact rfl); (case z2k6 => with_unfolding_all rfl))); (try dsimp only)))) | ((with_reducible show wpAny _ _ (subscriptTail (Expr.Subscript ..) (Expr.Name ..) (Value.ref _) (Value.int _ _)) _ _ _); first | (with_reducible (k_here; (with_reducible show wpAny _ _ (subscriptTail _ _ (Value.ref _) (Value.int _ _)) _ _ _); (with_reducible rename News _ _ _ _ => N9_q); (k_dflt (refine' my_item ?z2k1 ?z2k2 ?z2k3 ?z2k4 ?_ ?z2k6; (case z2k1 => exact my_listof N9_q (by kcj_m)); (case z2k2 => decide); (case z2k3 => decide); (case z2k4 => exact rfl); (case z2k6 => with_unfolding_all rfl))); (try dsimp only)))) | ((with_reducible show wpAny _ _ (subscriptTail (Expr.Name ..) (Expr.BinOp ..) (Value.ref _) (Value.int _ _)) _ _ _); first | (with_reducible (k_here; (with_reducible show wpAny _ _ (subscriptTail _ _ (Value.ref _) (Value.int _ _)) _ _ _); (with_reducible rename News _ _ _ _ => N9_q); (k_dflt (refine' my_item ?z2k1 ?z2k2 ?z2k3 ?z2k4 ?_ ?z2k6; (case z2k1 => exact my_listof N9_q (by kcj_m)); (case z2k2 => decide); (case z2k3 => decide); (case z2k4 => exact rfl); (case z2k6 => with_unfolding_all rfl))); (try dsimp only)))) | ((with_reducible show wpAny _ _ (subscriptTail (Expr.Name ..) (Expr.Constant ..) (Value.ref _) (Value.int _ _)) _ _ _); first | (with_reducible (k_here; (with_reducible show wpAny _ _ (subscriptTail _ _ (Value.ref _) (Value.int _ _)) _ _ _); (with_reducible rename News _ _ _ _ => N9_q); (k_dflt (refine' my_item ?z2k1 ?z2k2 ?z2k3 ?z2k4 ?_ ?z2k6; (case z2k1 => exact my_listof N9_q (by kcj_m)); (case z2k2 => decide); (case z2k3 => decide); (case z2k4 => exact rfl); (case z2k6 => with_unfolding_all rfl))); (try dsimp only)))) | ((with_reducible show wpAny _ _ (subscriptTail _ _ _ _) _ _ _); first | (with_reducible (k_here; (with_reducible show wpAny _ _ (subscriptTail _ _ (Value.ref _) (Value.int _ _)) _ _ _); (with_reducible rename News _ _ _ _ => N9_q); (k_dflt (refine' my_item ?z2k1 ?z2k2 ?z2k3 ?z2k4 ?_ ?z2k6; (case z2k1 => exact my_listof N9_q (by kcj_m)); (case z2k2 => decide); (case z2k3 => decide); (case z2k4 => exact rfl); (case z2k6 => with_unfolding_all rfl))); (try dsimp only)))) | ((with_reducible show wpAny _ _ (storeName _ _ _) _ _ _); first | (with_reducible (k_here; (try dsimp only); k_dflt (refine' storeX_L ?z0F ?z0N ?_ ?z0a ?z0b; (case z0F => k_asm); (case z0N => k_asm); (case z0a => rfl); (case z0b => rfl); k_whole; intro h_q' F_q' N_q'; let mk_q := mOf F_q'; have Fk_q : Fr _ _ _ mk_q := F_q'; (try k_sweep))))) | walk1 | (dsimp only; walk1) | (leave1; (try dsimp only)) | fail "no step"))
  with_reducible rename Fr _ _ _ _ => F1
  with_reducible rename News _ _ _ _ => N1
  refine str_js (Led := wled (_ :: _ :: _ :: [])) (ps := wps x') (P := WP r e) ⟨0, 0, 0, _, _, _, _, [], _⟩ rfl F1 N1 (fun _ h => h) (List.forall_mem_cons.mpr ⟨rfl, List.forall_mem_cons.mpr ⟨rfl, List.forall_mem_cons.mpr ⟨rfl, List.forall_mem_cons.mpr ⟨rfl, List.forall_mem_cons.mpr ⟨rfl, List.forall_mem_cons.mpr ⟨rfl, List.forall_mem_cons.mpr ⟨rfl, List.forall_mem_nil _⟩⟩⟩⟩⟩⟩⟩) ⟨[], .nil, .inl ⟨Nat.zero_le _, rfl, rfl, rfl, rfl⟩⟩ ?_ ?_
  · clear F1 N1
    intro i c k u m₁ I it h tk hk' hP hne F' N'
    have ha := ws_at hr he hk' hP
    clear hk' hP
    obtain ⟨cb, cn', ct, tb, tn, tt, D, vs, cc⟩ := c
    dsimp only [wled, wps, kstB] at *
    have hne0 := (List.forall_mem_cons.mp hne).1
    have hnt := (List.forall_mem_cons.mp hne).2
    have hap := ws_apart N' hne
    rcases ha with ⟨rfl, b1, b2, b3, b4, hW⟩ | ⟨rfl, b1, b2, b3, b4, b5, b6, ns, hI, hl, hW⟩ | ⟨rfl, rfl, rfl, b3, b4, hI⟩
    · (repeat' (first | (k_unfold; (try dsimp only)) | (k_end; kc_close) | ((with_reducible first | show wpAny _ _ (execs _ _) _ _ _ | show wpAny _ _ (exec (.For ..) _) _ _ _ | show wpAny _ _ (exec (.While ..) _) _ _ _); k_fold) | ((with_reducible show wpAny _ _ (call _ _) _ _ _); first | (with_reducible (k_here; (k_dflt (refine' kde_tupleOf ?z37k1 ?z37k2 ?z37k3 ?z37k4 ?z37k5 ?_; (case z37k1 => k_asm); (case z37k2 => k_asm); (case z37k3 => exact my_listof (by k_asm) (by k_mem)); (case z37k4 => (simp only [List.size_toArray]; omega)); (case z37k5 => exact rfl))); intro D_q' h_q' F_q' N_q' l1_q; (try k_lt l1_q); (try k_sweep); (try dsimp only))) | (with_reducible (k_here; (with_reducible show wpAny _ _ (call (Value.builtin "len") [Value.ref _]) _ _ _); (with_reducible rename IntsAre _ _ => iX_q'); (k_dflt (refine' my_len ?z33N ?z33m ?z33e ?z33z ?_; (case z33N => k_asm); (case z33m => k_mem); (case z33e => exact len_cast iX_q'.length); (case z33z => (have := iX_q'.length; omega)))); intro t9_q k9_q; (try dsimp only)))) | ((with_reducible show wpAny _ _ (setItem (Value.ref _) (Value.int _ _) _) _ _ _); first | (with_reducible (k_here; (with_reducible rename IntsAre _ _ => iX_q'); (have iL_q' := iX_q'.length); (try simp only [List.length_append, List.length_replicate] at iL_q'); (k_dflt (refine' my_set ?z36F ?z36N ?z36U ?z36z ?z36y ?z36x ?_; (case z36F => k_asm); (case z36N => k_asm); (case z36U => k_upd); (case z36z => omega); (case z36y => omega); (case z36x => omega))); intro h9_q F9_q N9_q; (try dsimp only)))) | ((with_reducible show wpAny _ _ (subscriptTail (Expr.Name ..) (Expr.Name ..) (Value.ref _) (Value.int _ _)) _ _ _); first | (with_reducible (k_here; (with_reducible rename IntsAre _ _ => iX_q'); (k_dflt (refine' my_itemI ?z35a iX_q' ?z35z ?z35y ?z35x ?_; (case z35a => exact my_listof (by k_asm) (by k_mem)); (case z35z => omega); (case z35y => ((try simp only [List.length_append, List.length_replicate]); omega)); (case z35x => ((try simp only [List.length_append, List.length_replicate]); omega)))); intro t9_q; (try dsimp only))) | (with_reducible (k_here; (with_reducible show wpAny _ _ (subscriptTail _ _ (Value.ref _) (Value.int _ _)) _ _ _); (with_reducible rename News _ _ _ _ => N9_q); (k_dflt (refine' my_item ?z2k1 ?z2k2 ?z2k3 ?z2k4 ?_ ?z2k6; (case z2k1 => exact my_listof N9_q (by kcj_m)); (case z2k2 => decide); (case z2k3 => decide); (case z2k4 => exact rfl); (case z2k6 => with_unfolding_all rfl))); (try dsimp only)))) | ((with_reducible show wpAny _ _ (binaryOp Operator.Add (Value.ref _) (Value.ref _)) _ _ _); first | (with_reducible (k_here; (k_dflt (refine' kmk_add_ints ?z34F ?z34N ?z34a ?z34b ?z34i ?z34j ?_ ?z34z; (case z34F => k_asm); (case z34N => k_asm); (case z34a => exact my_listof (by k_asm) (by k_mem)); (case z34b => exact my_listof (by k_asm) (by k_mem)); (case z34i => assumption); (case z34j => exact ints_rep); (case z34z => (simp only [List.length_replicate, sizeLine_eq]; omega)))); intro D_q' ws_q' h_q' F_q' N_q' l1_q hI_q'; (try k_lt l1_q); (try k_sweep); (try dsimp only)))) | ((with_reducible show wpAny _ _ (binaryOp Operator.Mult (Value.ref _) (Value.int _ _)) _ _ _); first | (with_reducible (k_here; (k_dflt (refine' KMa.mul ?z32F ?z32N ?z32l ?z32lo ?z32hi ?z32z ?z32e ?_; (case z32F => k_asm); (case z32N => k_asm); (case z32l => is_list); (case z32e => exact rep_flat2); (case z32lo => omega); (case z32hi => omega); (case z32z => (simp only [List.length_cons, List.length_nil]; omega)))); intro D_q' h_q' F_q' N_q' l1_q; (try k_lt l1_q); (try k_sweep); (try dsimp only)))) | ((with_reducible show wpAny _ _ (exec (Stmt.For (Expr.Name ..) (Expr.Attribute ..) _ _ _) _) _ _ _); first | (with_reducible (k_here; (rename Fr _ _ _ _ => lF_q'); (with_unfolding_all refine' For_invVF lF_q' ?z31k1 ?z31k2 ?_; (case z31k1 => exact rfl); (case z31k2 => exact rfl); k_whole)))) | ((with_reducible show wpAny _ _ (eval (Expr.Call ..) _) _ _ _); first | (with_reducible k_dflt (refine Call_ ?_))) | ((with_reducible show wpAny _ _ (subscriptTail (Expr.Subscript ..) (Expr.Constant ..) (Value.ref _) (Value.int _ _)) _ _ _); first | (with_reducible (k_here; (with_reducible show wpAny _ _ (subscriptTail _ _ (Value.ref _) (Value.int _ _)) _ _ _); (with_reducible rename News _ _ _ _ => N9_q); (k_dflt (refine' my_item ?z2k1 ?z2k2 ?z2k3 ?z2k4 ?_ ?z2k6; (case z2k1 => exact my_listof N9_q (by kcj_m)); (case z2k2 => decide); (case z2k3 => decide); (case z2k4 => exact rfl); (case z2k6 => with_unfolding_all rfl))); (try dsimp only)))) | ((with_reducible show wpAny _ _ (subscriptTail (Expr.Subscript ..) (Expr.BinOp ..) (Value.ref _) (Value.int _ _)) _ _ _); first | (with_reducible (k_here; (with_reducible show wpAny _ _ (subscriptTail _ _ (Value.ref _) (Value.int _ _)) _ _ _); (with_reducible rename News _ _ _ _ => N9_q); (k_dflt (refine' my_item ?z2k1 ?z2k2 ?z2k3 ?z2k4 ?_ ?z2k6; (case z2k1 => exact my_listof N9_q (by kcj_m)); (case z2k2 => decide); (case z2k3 => decide); (case z2k4 => exact rfl); (case z2k6 => with_unfolding_all rfl))); (try dsimp only)))) | ((with_reducible show wpAny _ _ (subscriptTail (Expr.Subscript ..) (Expr.Name ..) (Value.ref _) (Value.int _ _)) _ _ _); first | (with_reducible (k_here; (with_reducible show wpAny _ _ (subscriptTail _ _ (Value.ref _) (Value.int _ _)) _ _ _); (with_reducible rename News _ _ _ _ => N9_q); (k_dflt (refine' my_item ?z2k1 ?z2k2 ?z2k3 ?z2k4 ?_ ?z2k6; (case z2k1 => exact my_listof N9_q (by kcj_m)); (case z2k2 => decide); (case z2k3 => decide); (case z2k4 => exact rfl); (case z2k6 => with_unfolding_all rfl))); (try dsimp only)))) | ((with_reducible show wpAny _ _ (subscriptTail (Expr.Name ..) (Expr.BinOp ..) (Value.ref _) (Value.int _ _)) _ _ _); first | (with_reducible (k_here; (with_reducible show wpAny _ _ (subscriptTail _ _ (Value.ref _) (Value.int _ _)) _ _ _); (with_reducible rename News _ _ _ _ => N9_q); (k_dflt (refine' my_item ?z2k1 ?z2k2 ?z2k3 ?z2k4 ?_ ?z2k6; (case z2k1 => exact my_listof N9_q (by kcj_m)); (case z2k2 => decide); (case z2k3 => decide); (case z2k4 => exact rfl); (case z2k6 => with_unfolding_all rfl))); (try dsimp only)))) | ((with_reducible show wpAny _ _ (subscriptTail (Expr.Name ..) (Expr.Constant ..) (Value.ref _) (Value.int _ _)) _ _ _); first | (with_reducible (k_here; (with_reducible show wpAny _ _ (subscriptTail _ _ (Value.ref _) (Value.int _ _)) _ _ _); (with_reducible rename News _ _ _ _ => N9_q); (k_dflt (refine' my_item ?z2k1 ?z2k2 ?z2k3 ?z2k4 ?_ ?z2k6; (case z2k1 => exact my_listof N9_q (by kcj_m)); (case z2k2 => decide); (case z2k3 => decide); (case z2k4 => exact rfl); (case z2k6 => with_unfolding_all rfl))); (try dsimp only)))) | ((with_reducible show wpAny _ _ (subscriptTail _ _ _ _) _ _ _); first | (with_reducible (k_here; (with_reducible show wpAny _ _ (subscriptTail _ _ (Value.ref _) (Value.int _ _)) _ _ _); (with_reducible rename News _ _ _ _ => N9_q); (k_dflt (refine' my_item ?z2k1 ?z2k2 ?z2k3 ?z2k4 ?_ ?z2k6; (case z2k1 => exact my_listof N9_q (by kcj_m)); (case z2k2 => decide); (case z2k3 => decide); (case z2k4 => exact rfl); (case z2k6 => with_unfolding_all rfl))); (try dsimp only)))) | ((with_reducible show wpAny _ _ (storeName _ _ _) _ _ _); first | (with_reducible (k_here; (try dsimp only); k_dflt (refine' storeX_L ?z0F ?z0N ?_ ?z0a ?z0b; (case z0F => k_asm); (case z0N => k_asm); (case z0a => rfl); (case z0b => rfl); k_whole; intro h_q' F_q' N_q'; let mk_q := mOf F_q'; have Fk_q : Fr _ _ _ mk_q := F_q'; (try k_sweep))))) | walk1 | (dsimp only; walk1) | (leave1; (try dsimp only)) | fail "no step"))
      exact ws_turn (by assumption) (by assumption) (.head _) (by k_mem) (by kcj_all) hne0 hnt rfl rfl rfl rfl rfl rfl rfl (hW _ rfl rfl rfl rfl)
    · have hI0 := hI
      have hIl := hI.length
      (repeat' (first | (k_unfold; (try dsimp only)) | (k_end; kc_close) | ((with_reducible first | show wpAny _ _ (execs _ _) _ _ _ | show wpAny _ _ (exec (.For ..) _) _ _ _ | show wpAny _ _ (exec (.While ..) _) _ _ _); k_fold) | ((with_reducible show wpAny _ _ (call _ _) _ _ _); first | (with_reducible (k_here; (k_dflt (refine' kde_tupleOf ?z37k1 ?z37k2 ?z37k3 ?z37k4 ?z37k5 ?_; (case z37k1 => k_asm); (case z37k2 => k_asm); (case z37k3 => exact my_listof (by k_asm) (by k_mem)); (case z37k4 => (simp only [List.size_toArray]; omega)); (case z37k5 => exact rfl))); intro D_q' h_q' F_q' N_q' l1_q; (try k_lt l1_q); (try k_sweep); (try dsimp only))) | (with_reducible (k_here; (with_reducible show wpAny _ _ (call (Value.builtin "len") [Value.ref _]) _ _ _); (with_reducible rename IntsAre _ _ => iX_q'); (k_dflt (refine' my_len ?z33N ?z33m ?z33e ?z33z ?_; (case z33N => k_asm); (case z33m => k_mem); (case z33e => exact len_cast iX_q'.length); (case z33z => (have := iX_q'.length; omega)))); intro t9_q k9_q; (try dsimp only)))) | ((with_reducible show wpAny _ _ (setItem (Value.ref _) (Value.int _ _) _) _ _ _); first | (with_reducible (k_here; (with_reducible rename IntsAre _ _ => iX_q'); (have iL_q' := iX_q'.length); (try simp only [List.length_append, List.length_replicate] at iL_q'); (k_dflt (refine' my_set ?z36F ?z36N ?z36U ?z36z ?z36y ?z36x ?_; (case z36F => k_asm); (case z36N => k_asm); (case z36U => k_upd); (case z36z => omega); (case z36y => omega); (case z36x => omega))); intro h9_q F9_q N9_q; (try dsimp only)))) | ((with_reducible show wpAny _ _ (subscriptTail (Expr.Name ..) (Expr.Name ..) (Value.ref _) (Value.int _ _)) _ _ _); first | (with_reducible (k_here; (with_reducible rename IntsAre _ _ => iX_q'); (k_dflt (refine' my_itemI ?z35a iX_q' ?z35z ?z35y ?z35x ?_; (case z35a => exact my_listof (by k_asm) (by k_mem)); (case z35z => omega); (case z35y => ((try simp only [List.length_append, List.length_replicate]); omega)); (case z35x => ((try simp only [List.length_append, List.length_replicate]); omega)))); intro t9_q; (try dsimp only))) | (with_reducible (k_here; (with_reducible show wpAny _ _ (subscriptTail _ _ (Value.ref _) (Value.int _ _)) _ _ _); (with_reducible rename News _ _ _ _ => N9_q); (k_dflt (refine' my_item ?z2k1 ?z2k2 ?z2k3 ?z2k4 ?_ ?z2k6; (case z2k1 => exact my_listof N9_q (by kcj_m)); (case z2k2 => decide); (case z2k3 => decide); (case z2k4 => exact rfl); (case z2k6 => with_unfolding_all rfl))); (try dsimp only)))) | ((with_reducible show wpAny _ _ (binaryOp Operator.Add (Value.ref _) (Value.ref _)) _ _ _); first | (with_reducible (k_here; (k_dflt (refine' kmk_add_ints ?z34F ?z34N ?z34a ?z34b ?z34i ?z34j ?_ ?z34z; (case z34F => k_asm); (case z34N => k_asm); (case z34a => exact my_listof (by k_asm) (by k_mem)); (case z34b => exact my_listof (by k_asm) (by k_mem)); (case z34i => assumption); (case z34j => exact ints_rep); (case z34z => (simp only [List.length_replicate, sizeLine_eq]; omega)))); intro D_q' ws_q' h_q' F_q' N_q' l1_q hI_q'; (try k_lt l1_q); (try k_sweep); (try dsimp only)))) | ((with_reducible show wpAny _ _ (binaryOp Operator.Mult (Value.ref _) (Value.int _ _)) _ _ _); first | (with_reducible (k_here; (k_dflt (refine' KMa.mul ?z32F ?z32N ?z32l ?z32lo ?z32hi ?z32z ?z32e ?_; (case z32F => k_asm); (case z32N => k_asm); (case z32l => is_list); (case z32e => exact rep_flat2); (case z32lo => omega); (case z32hi => omega); (case z32z => (simp only [List.length_cons, List.length_nil]; omega)))); intro D_q' h_q' F_q' N_q' l1_q; (try k_lt l1_q); (try k_sweep); (try dsimp only)))) | ((with_reducible show wpAny _ _ (exec (Stmt.For (Expr.Name ..) (Expr.Attribute ..) _ _ _) _) _ _ _); first | (with_reducible (k_here; (rename Fr _ _ _ _ => lF_q'); (with_unfolding_all refine' For_invVF lF_q' ?z31k1 ?z31k2 ?_; (case z31k1 => exact rfl); (case z31k2 => exact rfl); k_whole)))) | ((with_reducible show wpAny _ _ (eval (Expr.Call ..) _) _ _ _); first | (with_reducible k_dflt (refine Call_ ?_))) | ((with_reducible show wpAny _ _ (subscriptTail (Expr.Subscript ..) (Expr.Constant ..) (Value.ref _) (Value.int _ _)) _ _ _); first | (with_reducible (k_here; (with_reducible show wpAny _ _ (subscriptTail _ _ (Value.ref _) (Value.int _ _)) _ _ _); (with_reducible rename News _ _ _ _ => N9_q); (k_dflt (refine' my_item ?z2k1 ?z2k2 ?z2k3 ?z2k4 ?_ ?z2k6; (case z2k1 => exact my_listof N9_q (by kcj_m)); (case z2k2 => decide); (case z2k3 => decide); (case z2k4 => exact rfl); (case z2k6 => with_unfolding_all rfl))); (try dsimp only)))) | ((with_reducible show wpAny _ _ (subscriptTail (Expr.Subscript ..) (Expr.BinOp ..) (Value.ref _) (Value.int _ _)) _ _ _); first | (with_reducible (k_here; (with_reducible show wpAny _ _ (subscriptTail _ _ (Value.ref _) (Value.int _ _)) _ _ _); (with_reducible rename News _ _ _ _ => N9_q); (k_dflt (refine' my_item ?z2k1 ?z2k2 ?z2k3 ?z2k4 ?_ ?z2k6; (case z2k1 => exact my_listof N9_q (by kcj_m)); (case z2k2 => decide); (case z2k3 => decide); (case z2k4 => exact rfl); (case z2k6 => with_unfolding_all rfl))); (try dsimp only)))) | ((with_reducible show wpAny _ _ (subscriptTail (Expr.Subscript ..) (Expr.Name ..) (Value.ref _) (Value.int _ _)) _ _ _); first | (with_reducible (k_here; (with_reducible show wpAny _ _ (subscriptTail _ _ (Value.ref _) (Value.int _ _)) _ _ _); (with_reducible rename News _ _ _ _ => N9_q); (k_dflt (refine' my_item ?z2k1 ?z2k2 ?z2k3 ?z2k4 ?_ ?z2k6; (case z2k1 => exact my_listof N9_q (by kcj_m)); (case z2k2 => decide); (case z2k3 => decide); (case z2k4 => exact rfl); (case z2k6 => with_unfolding_all rfl))); (try dsimp only)))) | ((with_reducible show wpAny _ _ (subscriptTail (Expr.Name ..) (Expr.BinOp ..) (Value.ref _) (Value.int _ _)) _ _ _); first | (with_reducible (k_here; (with_reducible show wpAny _ _ (subscriptTail _ _ (Value.ref _) (Value.int _ _)) _ _ _); (with_reducible rename News _ _ _ _ => N9_q); (k_dflt (refine' my_item ?z2k1 ?z2k2 ?z2k3 ?z2k4 ?_ ?z2k6; (case z2k1 => exact my_listof N9_q (by kcj_m)); (case z2k2 => decide); (case z2k3 => decide); (case z2k4 => exact rfl); (case z2k6 => with_unfolding_all rfl))); (try dsimp only)))) | ((with_reducible show wpAny _ _ (subscriptTail (Expr.Name ..) (Expr.Constant ..) (Value.ref _) (Value.int _ _)) _ _ _); first | (with_reducible (k_here; (with_reducible show wpAny _ _ (subscriptTail _ _ (Value.ref _) (Value.int _ _)) _ _ _); (with_reducible rename News _ _ _ _ => N9_q); (k_dflt (refine' my_item ?z2k1 ?z2k2 ?z2k3 ?z2k4 ?_ ?z2k6; (case z2k1 => exact my_listof N9_q (by kcj_m)); (case z2k2 => decide); (case z2k3 => decide); (case z2k4 => exact rfl); (case z2k6 => with_unfolding_all rfl))); (try dsimp only)))) | ((with_reducible show wpAny _ _ (subscriptTail _ _ _ _) _ _ _); first | (with_reducible (k_here; (with_reducible show wpAny _ _ (subscriptTail _ _ (Value.ref _) (Value.int _ _)) _ _ _); (with_reducible rename News _ _ _ _ => N9_q); (k_dflt (refine' my_item ?z2k1 ?z2k2 ?z2k3 ?z2k4 ?_ ?z2k6; (case z2k1 => exact my_listof N9_q (by kcj_m)); (case z2k2 => decide); (case z2k3 => decide); (case z2k4 => exact rfl); (case z2k6 => with_unfolding_all rfl))); (try dsimp only)))) | ((with_reducible show wpAny _ _ (storeName _ _ _) _ _ _); first | (with_reducible (k_here; (try dsimp only); k_dflt (refine' storeX_L ?z0F ?z0N ?_ ?z0a ?z0b; (case z0F => k_asm); (case z0N => k_asm); (case z0a => rfl); (case z0b => rfl); k_whole; intro h_q' F_q' N_q'; let mk_q := mOf F_q'; have Fk_q : Fr _ _ _ mk_q := F_q'; (try k_sweep))))) | walk1 | (dsimp only; walk1) | (leave1; (try dsimp only)) | fail "no step"))
      · rename (IntsAre _ (ns ++ _)) => hJ
        refine' ws_turn (by assumption) (by assumption) (by k_mem) (by k_mem) (by kcj_all) (by k_ne) hnt rfl rfl rfl rfl rfl rfl rfl (hW _ rfl rfl rfl (tabs_ge hJ (by omega) (by omega)))
      · refine' ws_turn (by assumption) (by assumption) (by k_mem) (by k_mem) (by kcj_all) hne0 hnt rfl rfl rfl rfl rfl rfl rfl (hW _ rfl rfl rfl (tabs_lt (by assumption) (by omega) (by omega)))
    · have hI2 := hI.length
      rw [tabs_len, tabs_len] at hI2
      have hI3 := hI.length
      have hI4 : vs.length ≤ 6 := by rw [hI2]; simp only [List.length_nil]; omega
      clear hI2
      (repeat' (first | (k_unfold; (try dsimp only)) | (k_end; kc_close) | ((with_reducible first | show wpAny _ _ (execs _ _) _ _ _ | show wpAny _ _ (exec (.For ..) _) _ _ _ | show wpAny _ _ (exec (.While ..) _) _ _ _); k_fold) | ((with_reducible show wpAny _ _ (call _ _) _ _ _); first | (with_reducible (k_here; (k_dflt (refine' kde_tupleOf ?z37k1 ?z37k2 ?z37k3 ?z37k4 ?z37k5 ?_; (case z37k1 => k_asm); (case z37k2 => k_asm); (case z37k3 => exact my_listof (by k_asm) (by k_mem)); (case z37k4 => (simp only [List.size_toArray]; omega)); (case z37k5 => exact rfl))); intro D_q' h_q' F_q' N_q' l1_q; (try k_lt l1_q); (try k_sweep); (try dsimp only))) | (with_reducible (k_here; (with_reducible show wpAny _ _ (call (Value.builtin "len") [Value.ref _]) _ _ _); (with_reducible rename IntsAre _ _ => iX_q'); (k_dflt (refine' my_len ?z33N ?z33m ?z33e ?z33z ?_; (case z33N => k_asm); (case z33m => k_mem); (case z33e => exact len_cast iX_q'.length); (case z33z => (have := iX_q'.length; omega)))); intro t9_q k9_q; (try dsimp only)))) | ((with_reducible show wpAny _ _ (setItem (Value.ref _) (Value.int _ _) _) _ _ _); first | (with_reducible (k_here; (with_reducible rename IntsAre _ _ => iX_q'); (have iL_q' := iX_q'.length); (try simp only [List.length_append, List.length_replicate] at iL_q'); (k_dflt (refine' my_set ?z36F ?z36N ?z36U ?z36z ?z36y ?z36x ?_; (case z36F => k_asm); (case z36N => k_asm); (case z36U => k_upd); (case z36z => omega); (case z36y => omega); (case z36x => omega))); intro h9_q F9_q N9_q; (try dsimp only)))) | ((with_reducible show wpAny _ _ (subscriptTail (Expr.Name ..) (Expr.Name ..) (Value.ref _) (Value.int _ _)) _ _ _); first | (with_reducible (k_here; (with_reducible rename IntsAre _ _ => iX_q'); (k_dflt (refine' my_itemI ?z35a iX_q' ?z35z ?z35y ?z35x ?_; (case z35a => exact my_listof (by k_asm) (by k_mem)); (case z35z => omega); (case z35y => ((try simp only [List.length_append, List.length_replicate]); omega)); (case z35x => ((try simp only [List.length_append, List.length_replicate]); omega)))); intro t9_q; (try dsimp only))) | (with_reducible (k_here; (with_reducible show wpAny _ _ (subscriptTail _ _ (Value.ref _) (Value.int _ _)) _ _ _); (with_reducible rename News _ _ _ _ => N9_q); (k_dflt (refine' my_item ?z2k1 ?z2k2 ?z2k3 ?z2k4 ?_ ?z2k6; (case z2k1 => exact my_listof N9_q (by kcj_m)); (case z2k2 => decide); (case z2k3 => decide); (case z2k4 => exact rfl); (case z2k6 => with_unfolding_all rfl))); (try dsimp only)))) | ((with_reducible show wpAny _ _ (binaryOp Operator.Add (Value.ref _) (Value.ref _)) _ _ _); first | (with_reducible (k_here; (k_dflt (refine' kmk_add_ints ?z34F ?z34N ?z34a ?z34b ?z34i ?z34j ?_ ?z34z; (case z34F => k_asm); (case z34N => k_asm); (case z34a => exact my_listof (by k_asm) (by k_mem)); (case z34b => exact my_listof (by k_asm) (by k_mem)); (case z34i => assumption); (case z34j => exact ints_rep); (case z34z => (simp only [List.length_replicate, sizeLine_eq]; omega)))); intro D_q' ws_q' h_q' F_q' N_q' l1_q hI_q'; (try k_lt l1_q); (try k_sweep); (try dsimp only)))) | ((with_reducible show wpAny _ _ (binaryOp Operator.Mult (Value.ref _) (Value.int _ _)) _ _ _); first | (with_reducible (k_here; (k_dflt (refine' KMa.mul ?z32F ?z32N ?z32l ?z32lo ?z32hi ?z32z ?z32e ?_; (case z32F => k_asm); (case z32N => k_asm); (case z32l => is_list); (case z32e => exact rep_flat2); (case z32lo => omega); (case z32hi => omega); (case z32z => (simp only [List.length_cons, List.length_nil]; omega)))); intro D_q' h_q' F_q' N_q' l1_q; (try k_lt l1_q); (try k_sweep); (try dsimp only)))) | ((with_reducible show wpAny _ _ (exec (Stmt.For (Expr.Name ..) (Expr.Attribute ..) _ _ _) _) _ _ _); first | (with_reducible (k_here; (rename Fr _ _ _ _ => lF_q'); (with_unfolding_all refine' For_invVF lF_q' ?z31k1 ?z31k2 ?_; (case z31k1 => exact rfl); (case z31k2 => exact rfl); k_whole)))) | ((with_reducible show wpAny _ _ (eval (Expr.Call ..) _) _ _ _); first | (with_reducible k_dflt (refine Call_ ?_))) | ((with_reducible show wpAny _ _ (subscriptTail (Expr.Subscript ..) (Expr.Constant ..) (Value.ref _) (Value.int _ _)) _ _ _); first | (with_reducible (k_here; (with_reducible show wpAny _ _ (subscriptTail _ _ (Value.ref _) (Value.int _ _)) _ _ _); (with_reducible rename News _ _ _ _ => N9_q); (k_dflt (refine' my_item ?z2k1 ?z2k2 ?z2k3 ?z2k4 ?_ ?z2k6; (case z2k1 => exact my_listof N9_q (by kcj_m)); (case z2k2 => decide); (case z2k3 => decide); (case z2k4 => exact rfl); (case z2k6 => with_unfolding_all rfl))); (try dsimp only)))) | ((with_reducible show wpAny _ _ (subscriptTail (Expr.Subscript ..) (Expr.BinOp ..) (Value.ref _) (Value.int _ _)) _ _ _); first | (with_reducible (k_here; (with_reducible show wpAny _ _ (subscriptTail _ _ (Value.ref _) (Value.int _ _)) _ _ _); (with_reducible rename News _ _ _ _ => N9_q); (k_dflt (refine' my_item ?z2k1 ?z2k2 ?z2k3 ?z2k4 ?_ ?z2k6; (case z2k1 => exact my_listof N9_q (by kcj_m)); (case z2k2 => decide); (case z2k3 => decide); (case z2k4 => exact rfl); (case z2k6 => with_unfolding_all rfl))); (try dsimp only)))) | ((with_reducible show wpAny _ _ (subscriptTail (Expr.Subscript ..) (Expr.Name ..) (Value.ref _) (Value.int _ _)) _ _ _); first | (with_reducible (k_here; (with_reducible show wpAny _ _ (subscriptTail _ _ (Value.ref _) (Value.int _ _)) _ _ _); (with_reducible rename News _ _ _ _ => N9_q); (k_dflt (refine' my_item ?z2k1 ?z2k2 ?z2k3 ?z2k4 ?_ ?z2k6; (case z2k1 => exact my_listof N9_q (by kcj_m)); (case z2k2 => decide); (case z2k3 => decide); (case z2k4 => exact rfl); (case z2k6 => with_unfolding_all rfl))); (try dsimp only)))) | ((with_reducible show wpAny _ _ (subscriptTail (Expr.Name ..) (Expr.BinOp ..) (Value.ref _) (Value.int _ _)) _ _ _); first | (with_reducible (k_here; (with_reducible show wpAny _ _ (subscriptTail _ _ (Value.ref _) (Value.int _ _)) _ _ _); (with_reducible rename News _ _ _ _ => N9_q); (k_dflt (refine' my_item ?z2k1 ?z2k2 ?z2k3 ?z2k4 ?_ ?z2k6; (case z2k1 => exact my_listof N9_q (by kcj_m)); (case z2k2 => decide); (case z2k3 => decide); (case z2k4 => exact rfl); (case z2k6 => with_unfolding_all rfl))); (try dsimp only)))) | ((with_reducible show wpAny _ _ (subscriptTail (Expr.Name ..) (Expr.Constant ..) (Value.ref _) (Value.int _ _)) _ _ _); first | (with_reducible (k_here; (with_reducible show wpAny _ _ (subscriptTail _ _ (Value.ref _) (Value.int _ _)) _ _ _); (with_reducible rename News _ _ _ _ => N9_q); (k_dflt (refine' my_item ?z2k1 ?z2k2 ?z2k3 ?z2k4 ?_ ?z2k6; (case z2k1 => exact my_listof N9_q (by kcj_m)); (case z2k2 => decide); (case z2k3 => decide); (case z2k4 => exact rfl); (case z2k6 => with_unfolding_all rfl))); (try dsimp only)))) | ((with_reducible show wpAny _ _ (subscriptTail _ _ _ _) _ _ _); first | (with_reducible (k_here; (with_reducible show wpAny _ _ (subscriptTail _ _ (Value.ref _) (Value.int _ _)) _ _ _); (with_reducible rename News _ _ _ _ => N9_q); (k_dflt (refine' my_item ?z2k1 ?z2k2 ?z2k3 ?z2k4 ?_ ?z2k6; (case z2k1 => exact my_listof N9_q (by kcj_m)); (case z2k2 => decide); (case z2k3 => decide); (case z2k4 => exact rfl); (case z2k6 => with_unfolding_all rfl))); (try dsimp only)))) | ((with_reducible show wpAny _ _ (storeName _ _ _) _ _ _); first | (with_reducible (k_here; (try dsimp only); k_dflt (refine' storeX_L ?z0F ?z0N ?_ ?z0a ?z0b; (case z0F => k_asm); (case z0N => k_asm); (case z0a => rfl); (case z0b => rfl); k_whole; intro h_q' F_q' N_q'; let mk_q := mOf F_q'; have Fk_q : Fr _ _ _ mk_q := F_q'; (try k_sweep))))) | walk1 | (dsimp only; walk1) | (leave1; (try dsimp only)) | fail "no step"))
      exact ret _ _ _ _ _ _ _ _ _ _ _ _ _ _ _ _ _ (by assumption) (by k_asm) (ws_back bk9 (by assumption) (by assumption) l1 l2) l1 ⟨l2, by omega, by omega⟩
  · intro c m₁ h tk hP
    exact (ws_end hP).elim
end
end

section -- C15
theorem range_ok {a b : Int} (ha : 1 ≤ a ∧ a ≤ 3) (hb : 1 ≤ b ∧ b ≤ 6) : Builtin.Range.small a b 1 = true ∧ Builtin.Range.rangeSize a b 1 = (((b - a).toNat : Nat) : Int) := by
  have h1 : a = 1 ∨ a = 2 ∨ a = 3 := by omega
  have h2 : b = 1 ∨ b = 2 ∨ b = 3 ∨ b = 4 ∨ b = 5 ∨ b = 6 := by omega
  rcases h1 with rfl | rfl | rfl <;> rcases h2 with rfl | rfl | rfl | rfl | rfl | rfl <;> exact ⟨by decide, by decide⟩
structure IC where
  il : Int
  t : Tok
def IP (size : Int) (ns : List Int) (i : Nat) (c : IC) : Prop := c.il = ilf size ns i ∧ 0 ≤ c.il ∧ c.il ≤ 20 * (i : Int)
abbrev ips (O Tc : Addr) (size : Int) (u tb : Tok) (c : IC) : List (Str × Value) := [(Str.ofString "self", .ref O), (Str.ofString "tabsize", .int size u), (Str.ofString "count", .ref Tc), (Str.ofString "trailing", .int 0 tb), (Str.ofString "il", .int c.il c.t)]
theorem my_lenT {A : Around} {prog : Program} {Tc : Addr} {vs : List Value} {ns : List Int} {Q E : Value → Shared → Prop} (N : News h₀ L s.heap news) (hm : (Tc, tupOf vs) ∈ news) (hI : IntsAre vs ns) (hn : ns.length ≤ 16) (h : ∀ t tk, Q (.int (ns.length : Int) t) { s with toks := tk }) :
    wpAny (model prog w) A (call (.builtin "len") [.ref Tc]) Q E s := by
  have e : vs.toArray.size = ns.length := by rw [List.size_toArray, hI.length]
  exact PyProof.Rows.len_tuple (News.isTup N hm) (by rw [e]; omega) (by rw [e]; exact h _ _)
theorem my_itemT {A : Around} {prog : Program} {value slice : PySem.Expr} {Tc : Addr} {vs : List Value} {ns : List Int} {k : Int} {u : Tok} {Q E : Value → Shared → Prop} (N : News h₀ L s.heap news) (hm : (Tc, tupOf vs) ∈ news)
    (hI : IntsAre vs ns) (h0 : 0 ≤ k) (h1 : k < (ns.length : Int)) (h2 : ns.length ≤ 64) (h : ∀ t, Q (.int (ns.getD k.toNat 0) t) s)
    (hs : subscripted slice false (.ref Tc) (.int k u) = operate [.ref Tc, .int k u] (getItem (.ref Tc) (.int k u)) := by with_unfolding_all rfl) :
    wpAny (model prog w) A (subscriptTail value slice (.ref Tc) (.int k u)) Q E s := by
  obtain ⟨t, e⟩ := ints_at hI k.toNat (by omega)
  exact item_tupleT (News.isTup N hm) (by omega) (by omega) (seqIndex_at h0 (by have := hI.length; omega)) e (h t) hs
theorem bits_small {x : Int} (h : 0 ≤ x ∧ x ≤ 200) : Builtin.Int.intBits x ≤ 64 := by
  by_cases h0 : x = 0
  · subst h0; decide
  · rw [bits_is (by omega)]
    have : x.toNat.log2 < 8 := (Nat.log2_lt (by omega)).mpr (by omega)
    omega
theorem my_fdiv {A : Around} {prog : Program} {a b : Int} {t u : Tok} {Q E : Value → Shared → Prop} (hb : 0 < b ∧ b ≤ 64) (ha : 0 ≤ a) (h : ∀ c, c = a / b → 0 ≤ c ∧ c ≤ a → Q (.int c s.toks) { s with toks := s.toks + 1 }) :
    wpAny (model prog w) A (binaryOp .FloorDiv (.int a t) (.int b u)) Q E s :=
  floordiv_int (by omega) (by
    rw [Int.fdiv_eq_ediv_of_nonneg _ (by omega)]
    exact h _ rfl ⟨Int.ediv_nonneg ha (by omega), Int.ediv_le_self _ ha⟩) (Or.inl (PyProof.noPylong_small (by omega)))
theorem my_mul {A : Around} {prog : Program} {a b : Int} {t u : Tok} {Q E : Value → Shared → Prop} (hb : 0 ≤ b ∧ b ≤ 200) (h : Q (.int (a * b) s.toks) { s with toks := s.toks + 1 }) :
    wpAny (model prog w) A (binaryOp .Mult (.int a t) (.int b u)) Q E s := PyProof.Rows.mul_int h (IntMulOk.of_right (bits_small hb))
theorem prod_b {q z : Int} (h : 0 ≤ q ∧ q ≤ 8) (k : 0 ≤ z ∧ z ≤ 2) : 0 ≤ q * z ∧ q * z ≤ 20 := by
  have : z = 0 ∨ z = 1 ∨ z = 2 := by omega
  rcases this with rfl | rfl | rfl <;> omega
section
theorem ct_ind {size : Int} {O d Tn Tc : Addr} {vs : List Value} {ns : List Int} {u t t1 t2 t3 t4 t5 nt' tn tb : Tok} {tx : Str} {n : Int} {bs : Bool} (B : Below A₀ base outer h₀) (F : Fr h₀ L s.heap m) (X : (Mine.fr.heap_1 w.params).In h₀) (N : News h₀ L s.heap news) (T : Top p loose mean mg mb h₀) (hk : cs.kind = .function)
    (hsub : ∀ q ∈ [(O, instObj 97 d), (d, dictOf [⟨PyData.keyHash w.params (Str.ofString "raw"), .str (Str.ofString "raw") t1, .str tx t⟩, ⟨PyData.keyHash w.params (Str.ofString "n"), .str (Str.ofString "n") t2, .int n tn⟩, ⟨PyData.keyHash w.params (Str.ofString "nt"), .str (Str.ofString "nt") t3, .int 2 nt'⟩, ⟨PyData.keyHash w.params (Str.ofString "norm"), .str (Str.ofString "norm") t4, .ref Tn⟩, ⟨PyData.keyHash w.params (Str.ofString "is_simple"), .str (Str.ofString "is_simple") t5, .bool bs⟩] 5), (Tn, tupOf [.ref Tc, .int 0 tb]), (Tc, tupOf vs)], q ∈ news)
    (hs : 1 ≤ size ∧ size ≤ 3) (hI : IntsAre vs ns) (hl : 1 ≤ ns.length ∧ ns.length ≤ 6) (hb : ∀ k, 0 ≤ ns.getD k 0 ∧ ns.getD k 0 ≤ 2)
    (hd : dp + 10 < recursionLimit)
    (ret : ∀ h' tk' t', Fr h₀ L h' m → News h₀ L h' news → Q (.int (0 + size * (ilf size ns ((ns.length : Int) - size).toNat + 2)) t') { s with heap := h', toks := tk' }) :
    wpAny (model PySem.Challenge.rw_sh0040_01.row.prog w) (ktrTop dp un gd cn cs L a ccd cl outer) (call (.ref 66) [.ref O, .int size u]) Q E s := by
  (((revert X; k_fill; intro X; refine wpAny_call ?_; k_dflt first | (refine' enterF ?z1k1 ?z1k2 ?z1k3 ?z1k4 ?z1k5 ?z1ks ?z1kA ?z1kF ?z1kK ?z1k6 ?z1k7 ?z1k8 ?z1k9 ?z1kB ?_ ?z1c2 ?z1c3 ?z1c4 ?z1c5; (case z1kA => exact rfl); (case z1kF => exact rfl); (case z1kK => assumption); (case z1k1 => k_asm); (case z1k2 => k_asm); (case z1k3 => k_asm); (case z1k4 => k_asm); (case z1k5 => k_asm); (case z1ks => first | assumption | exact no_sub); (case z1k6 => k_is); (case z1k7 => k_is); (case z1k8 => ktr_room); (case z1k9 => exact BindsTo.of_eq rfl); (case z1c5 => decide); (case z1kB => exact locs rfl); (case z1c2 => exact rfl); (case z1c3 => exact rfl); (case z1c4 => exact rfl); k_whole; intro g_q' L_q' h_q' tk_q' bk_q' FG_q' F_q' N_q' B_q' X_q' T_q' l1_q; (try k_lt l1_q); (try dsimp only); (try k_lift B_q'); (try k_fold)) | (refine' enterFC ?z1k1 ?z1k2 ?z1k3 ?z1k4 ?z1k5 ?z1ks ?z1kA ?z1kF ?z1kK ?z1k6 ?z1k7 ?z1k8 ?z1k9 ?z1kB ?z1kD ?_ ?z1c2 ?z1c3 ?z1c4; (case z1kA => exact rfl); (case z1kF => exact rfl); (case z1kK => assumption); (case z1k1 => k_asm); (case z1k2 => k_asm); (case z1k3 => k_asm); (case z1k4 => k_asm); (case z1k5 => k_asm); (case z1ks => first | assumption | exact no_sub); (case z1k6 => k_is); (case z1k7 => k_is); (case z1k8 => ktr_room); (case z1k9 => exact BindsTo.of_eq rfl); (case z1kB => exact rfl); (case z1kD => decide +kernel); (case z1c2 => exact rfl); (case z1c3 => exact rfl); (case z1c4 => exact rfl); k_whole; intro g_q' L_q' h_q' tk_q' cells_q' bk_q' FG_q' F_q' N_q' Y_q' B_q' X_q' T_q' l1_q; (try k_lt l1_q); k_cells Y_q'; (try simp only [List.cons_append, List.nil_append] at N_q'); (try dsimp only); (try k_lift B_q'); (try k_fold))); (show wpAny _ ?A9 _ _ _ _); (let ak : Around := ?A9); (change wpAny _ ak _ _ _ _); k_fold); (repeat' (first | (k_unfold; (try dsimp only)) | (k_end; kc_close) | ((with_reducible first | show wpAny _ _ (execs _ _) _ _ _ | show wpAny _ _ (exec (.For ..) _) _ _ _ | show wpAny _ _ (exec (.While ..) _) _ _ _); k_fold) | ((with_reducible show wpAny _ _ (binaryOp Operator.Mult (Value.int _ _) (Value.int _ _)) _ _ _); first | (with_reducible (k_here; (with_reducible (refine my_mul ?z41z ?_)); (case z41z => omega); (try dsimp only)))) | ((with_reducible show wpAny _ _ (binaryOp Operator.FloorDiv (Value.int _ _) (Value.int _ _)) _ _ _); first | (with_reducible (k_here; (with_reducible (refine my_fdiv ?z40z ?z40y ?_)); (case z40z => omega); (case z40y => omega); intro c9_q e9_q f9_q; (try dsimp only)))) | ((with_reducible show wpAny _ _ (pyIter (Value.ref _)) _ _ _); first | (with_reducible (k_here; (with_reducible show wpAny _ _ (pyIter (Value.ref _)) (fun it s₂ => LoopAtV _ _ _ _ _ _ _ _ _ it s₂) _ _); k_dflt (refine Stop.out ?_)))) | ((with_reducible show wpAny _ _ (exec (Stmt.For (Expr.Name ..) (Expr.Call ..) _ _ _) _) _ _ _); first | (with_reducible (k_here; (rename Fr _ _ _ _ => lF_q'); (with_unfolding_all refine' For_invVF lF_q' ?z31k1 ?z31k2 ?_; (case z31k1 => exact rfl); (case z31k2 => exact rfl); k_whole)))) | ((with_reducible show wpAny _ _ (subscriptTail (Expr.Name ..) (Expr.Name ..) (Value.ref _) (Value.int _ _)) _ _ _); first | (with_reducible (k_here; (with_reducible rename IntsAre _ _ => iX_q'); (k_dflt (refine' my_itemT ?z39a ?z39b iX_q' ?z39z ?z39y ?z39x ?_; (case z39a => k_asm); (case z39b => k_mem); (case z39z => omega); (case z39y => omega); (case z39x => omega))); intro t9_q; (try dsimp only))) | (with_reducible (k_here; (with_reducible show wpAny _ _ (subscriptTail _ _ (Value.ref _) (Value.int _ _)) _ _ _); (with_reducible rename News _ _ _ _ => N9_q); (k_dflt (refine' my_item ?z2k1 ?z2k2 ?z2k3 ?z2k4 ?_ ?z2k6; (case z2k1 => exact my_listof N9_q (by kcj_m)); (case z2k2 => decide); (case z2k3 => decide); (case z2k4 => exact rfl); (case z2k6 => with_unfolding_all rfl))); (try dsimp only)))) | ((with_reducible show wpAny _ _ (call _ _) _ _ _); first | (with_reducible (k_here; (with_reducible rename IntsAre _ _ => iX_q'); (k_dflt (refine' my_lenT ?z38N ?z38m iX_q' ?z38z ?_; (case z38N => k_asm); (case z38m => k_mem); (case z38z => omega))); intro t9_q k9_q; (try dsimp only)))) | ((with_reducible show wpAny _ _ (eval (Expr.Call ..) _) _ _ _); first | (with_reducible k_dflt (refine Call_ ?_))) | ((with_reducible show wpAny _ _ (subscriptTail (Expr.Subscript ..) (Expr.Constant ..) (Value.ref _) (Value.int _ _)) _ _ _); first | (with_reducible (k_here; (with_reducible show wpAny _ _ (subscriptTail _ _ (Value.ref _) (Value.int _ _)) _ _ _); (with_reducible rename News _ _ _ _ => N9_q); (k_dflt (refine' my_item ?z2k1 ?z2k2 ?z2k3 ?z2k4 ?_ ?z2k6; (case z2k1 => exact my_listof N9_q (by kcj_m)); (case z2k2 => decide); (case z2k3 => decide); (case z2k4 => exact rfl); (case z2k6 => with_unfolding_all rfl))); (try dsimp only)))) | ((with_reducible show wpAny _ _ (subscriptTail (Expr.Subscript ..) (Expr.BinOp ..) (Value.ref _) (Value.int _ _)) _ _ _); first | (with_reducible (k_here; (with_reducible show wpAny _ _ (subscriptTail _ _ (Value.ref _) (Value.int _ _)) _ _ _); (with_reducible rename News _ _ _ _ => N9_q); (k_dflt (refine' my_item ?z2k1 ?z2k2 ?z2k3 ?z2k4 ?_ ?z2k6; (case z2k1 => exact my_listof N9_q (by kcj_m)); (case z2k2 => decide); (case z2k3 => decide); (case z2k4 => exact rfl); (case z2k6 => with_unfolding_all rfl))); (try dsimp only)))) | ((with_reducible show wpAny _ _ (subscriptTail (Expr.Subscript ..) (Expr.Name ..) (Value.ref _) (Value.int _ _)) _ _ _); first | (with_reducible (k_here; (with_reducible show wpAny _ _ (subscriptTail _ _ (Value.ref _) (Value.int _ _)) _ _ _); (with_reducible rename News _ _ _ _ => N9_q); (k_dflt (refine' my_item ?z2k1 ?z2k2 ?z2k3 ?z2k4 ?_ ?z2k6; (case z2k1 => exact my_listof N9_q (by kcj_m)); (case z2k2 => decide); (case z2k3 => decide); (case z2k4 => exact rfl); (case z2k6 => with_unfolding_all rfl))); (try dsimp only)))) | ((with_reducible show wpAny _ _ (subscriptTail (Expr.Name ..) (Expr.BinOp ..) (Value.ref _) (Value.int _ _)) _ _ _); first | (with_reducible (k_here; (with_reducible show wpAny _ _ (subscriptTail _ _ (Value.ref _) (Value.int _ _)) _ _ _); (with_reducible rename News _ _ _ _ => N9_q); (k_dflt (refine' my_item ?z2k1 ?z2k2 ?z2k3 ?z2k4 ?_ ?z2k6; (case z2k1 => exact my_listof N9_q (by kcj_m)); (case z2k2 => decide); (case z2k3 => decide); (case z2k4 => exact rfl); (case z2k6 => with_unfolding_all rfl))); (try dsimp only)))) | ((with_reducible show wpAny _ _ (subscriptTail (Expr.Name ..) (Expr.Constant ..) (Value.ref _) (Value.int _ _)) _ _ _); first | (with_reducible (k_here; (with_reducible show wpAny _ _ (subscriptTail _ _ (Value.ref _) (Value.int _ _)) _ _ _); (with_reducible rename News _ _ _ _ => N9_q); (k_dflt (refine' my_item ?z2k1 ?z2k2 ?z2k3 ?z2k4 ?_ ?z2k6; (case z2k1 => exact my_listof N9_q (by kcj_m)); (case z2k2 => decide); (case z2k3 => decide); (case z2k4 => exact rfl); (case z2k6 => with_unfolding_all rfl))); (try dsimp only)))) | ((with_reducible show wpAny _ _ (subscriptTail _ _ _ _) _ _ _); first | (with_reducible (k_here; (with_reducible show wpAny _ _ (subscriptTail _ _ (Value.ref _) (Value.int _ _)) _ _ _); (with_reducible rename News _ _ _ _ => N9_q); (k_dflt (refine' my_item ?z2k1 ?z2k2 ?z2k3 ?z2k4 ?_ ?z2k6; (case z2k1 => exact my_listof N9_q (by kcj_m)); (case z2k2 => decide); (case z2k3 => decide); (case z2k4 => exact rfl); (case z2k6 => with_unfolding_all rfl))); (try dsimp only)))) | ((with_reducible show wpAny _ _ (storeName _ _ _) _ _ _); first | (with_reducible (k_here; (try dsimp only); k_dflt (refine' storeX_L ?z0F ?z0N ?_ ?z0a ?z0b; (case z0F => k_asm); (case z0N => k_asm); (case z0a => rfl); (case z0b => rfl); k_whole; intro h_q' F_q' N_q'; let mk_q := mOf F_q'; have Fk_q : Fr _ _ _ mk_q := F_q'; (try k_sweep))))) | walk1 | (dsimp only; walk1) | (leave1; (try dsimp only)) | fail "no step")))
  unfold Stop
  with_reducible rename Fr _ _ _ _ => F1
  with_reducible rename News _ _ _ _ => N1
  rename IsRange _ _ _ _ _ _ _ _ => rg
  have rok := range_ok hs (b := (ns.length : Int)) (by omega)
  refine range_js (Led := fun _ : IC => _ :: _ :: _ :: _ :: []) (ps := ips O Tc size u tb) (P := IP size ns) ⟨0, _⟩ rfl rg rok.1 rok.2 F1 N1 (fun _ h => h) (List.forall_mem_cons.mpr ⟨rfl, List.forall_mem_cons.mpr ⟨rfl, List.forall_mem_cons.mpr ⟨rfl, List.forall_mem_cons.mpr ⟨rfl, List.forall_mem_cons.mpr ⟨rfl, List.forall_mem_nil _⟩⟩⟩⟩⟩) ⟨rfl, Int.le_refl 0, Int.le_refl 0⟩ ?_ ?_
  · clear F1 N1
    intro i c u' m₁ I it h tk hi hP hne F' N'
    obtain ⟨il, ti⟩ := c
    obtain ⟨p1, p2, p3⟩ := hP
    dsimp only [ips, kstB] at *
    have hz := hb (size + (i : Int)).toNat
    (repeat' (first | (k_unfold; (try dsimp only)) | (k_end; kc_close) | ((with_reducible first | show wpAny _ _ (execs _ _) _ _ _ | show wpAny _ _ (exec (.For ..) _) _ _ _ | show wpAny _ _ (exec (.While ..) _) _ _ _); k_fold) | ((with_reducible show wpAny _ _ (binaryOp Operator.Mult (Value.int _ _) (Value.int _ _)) _ _ _); first | (with_reducible (k_here; (with_reducible (refine my_mul ?z41z ?_)); (case z41z => omega); (try dsimp only)))) | ((with_reducible show wpAny _ _ (binaryOp Operator.FloorDiv (Value.int _ _) (Value.int _ _)) _ _ _); first | (with_reducible (k_here; (with_reducible (refine my_fdiv ?z40z ?z40y ?_)); (case z40z => omega); (case z40y => omega); intro c9_q e9_q f9_q; (try dsimp only)))) | ((with_reducible show wpAny _ _ (pyIter (Value.ref _)) _ _ _); first | (with_reducible (k_here; (with_reducible show wpAny _ _ (pyIter (Value.ref _)) (fun it s₂ => LoopAtV _ _ _ _ _ _ _ _ _ it s₂) _ _); k_dflt (refine Stop.out ?_)))) | ((with_reducible show wpAny _ _ (exec (Stmt.For (Expr.Name ..) (Expr.Call ..) _ _ _) _) _ _ _); first | (with_reducible (k_here; (rename Fr _ _ _ _ => lF_q'); (with_unfolding_all refine' For_invVF lF_q' ?z31k1 ?z31k2 ?_; (case z31k1 => exact rfl); (case z31k2 => exact rfl); k_whole)))) | ((with_reducible show wpAny _ _ (subscriptTail (Expr.Name ..) (Expr.Name ..) (Value.ref _) (Value.int _ _)) _ _ _); first | (with_reducible (k_here; (with_reducible rename IntsAre _ _ => iX_q'); (k_dflt (refine' my_itemT ?z39a ?z39b iX_q' ?z39z ?z39y ?z39x ?_; (case z39a => k_asm); (case z39b => k_mem); (case z39z => omega); (case z39y => omega); (case z39x => omega))); intro t9_q; (try dsimp only))) | (with_reducible (k_here; (with_reducible show wpAny _ _ (subscriptTail _ _ (Value.ref _) (Value.int _ _)) _ _ _); (with_reducible rename News _ _ _ _ => N9_q); (k_dflt (refine' my_item ?z2k1 ?z2k2 ?z2k3 ?z2k4 ?_ ?z2k6; (case z2k1 => exact my_listof N9_q (by kcj_m)); (case z2k2 => decide); (case z2k3 => decide); (case z2k4 => exact rfl); (case z2k6 => with_unfolding_all rfl))); (try dsimp only)))) | ((with_reducible show wpAny _ _ (call _ _) _ _ _); first | (with_reducible (k_here; (with_reducible rename IntsAre _ _ => iX_q'); (k_dflt (refine' my_lenT ?z38N ?z38m iX_q' ?z38z ?_; (case z38N => k_asm); (case z38m => k_mem); (case z38z => omega))); intro t9_q k9_q; (try dsimp only)))) | ((with_reducible show wpAny _ _ (eval (Expr.Call ..) _) _ _ _); first | (with_reducible k_dflt (refine Call_ ?_))) | ((with_reducible show wpAny _ _ (subscriptTail (Expr.Subscript ..) (Expr.Constant ..) (Value.ref _) (Value.int _ _)) _ _ _); first | (with_reducible (k_here; (with_reducible show wpAny _ _ (subscriptTail _ _ (Value.ref _) (Value.int _ _)) _ _ _); (with_reducible rename News _ _ _ _ => N9_q); (k_dflt (refine' my_item ?z2k1 ?z2k2 ?z2k3 ?z2k4 ?_ ?z2k6; (case z2k1 => exact my_listof N9_q (by kcj_m)); (case z2k2 => decide); (case z2k3 => decide); (case z2k4 => exact rfl); (case z2k6 => with_unfolding_all rfl))); (try dsimp only)))) | ((with_reducible show wpAny _ _ (subscriptTail (Expr.Subscript ..) (Expr.BinOp ..) (Value.ref _) (Value.int _ _)) _ _ _); first | (with_reducible (k_here; (with_reducible show wpAny _ _ (subscriptTail _ _ (Value.ref _) (Value.int _ _)) _ _ _); (with_reducible rename News _ _ _ _ => N9_q); (k_dflt (refine' my_item ?z2k1 ?z2k2 ?z2k3 ?z2k4 ?_ ?z2k6; (case z2k1 => exact my_listof N9_q (by kcj_m)); (case z2k2 => decide); (case z2k3 => decide); (case z2k4 => exact rfl); (case z2k6 => with_unfolding_all rfl))); (try dsimp only)))) | ((with_reducible show wpAny _ _ (subscriptTail (Expr.Subscript ..) (Expr.Name ..) (Value.ref _) (Value.int _ _)) _ _ _); first | (with_reducible (k_here; (with_reducible show wpAny _ _ (subscriptTail _ _ (Value.ref _) (Value.int _ _)) _ _ _); (with_reducible rename News _ _ _ _ => N9_q); (k_dflt (refine' my_item ?z2k1 ?z2k2 ?z2k3 ?z2k4 ?_ ?z2k6; (case z2k1 => exact my_listof N9_q (by kcj_m)); (case z2k2 => decide); (case z2k3 => decide); (case z2k4 => exact rfl); (case z2k6 => with_unfolding_all rfl))); (try dsimp only)))) | ((with_reducible show wpAny _ _ (subscriptTail (Expr.Name ..) (Expr.BinOp ..) (Value.ref _) (Value.int _ _)) _ _ _); first | (with_reducible (k_here; (with_reducible show wpAny _ _ (subscriptTail _ _ (Value.ref _) (Value.int _ _)) _ _ _); (with_reducible rename News _ _ _ _ => N9_q); (k_dflt (refine' my_item ?z2k1 ?z2k2 ?z2k3 ?z2k4 ?_ ?z2k6; (case z2k1 => exact my_listof N9_q (by kcj_m)); (case z2k2 => decide); (case z2k3 => decide); (case z2k4 => exact rfl); (case z2k6 => with_unfolding_all rfl))); (try dsimp only)))) | ((with_reducible show wpAny _ _ (subscriptTail (Expr.Name ..) (Expr.Constant ..) (Value.ref _) (Value.int _ _)) _ _ _); first | (with_reducible (k_here; (with_reducible show wpAny _ _ (subscriptTail _ _ (Value.ref _) (Value.int _ _)) _ _ _); (with_reducible rename News _ _ _ _ => N9_q); (k_dflt (refine' my_item ?z2k1 ?z2k2 ?z2k3 ?z2k4 ?_ ?z2k6; (case z2k1 => exact my_listof N9_q (by kcj_m)); (case z2k2 => decide); (case z2k3 => decide); (case z2k4 => exact rfl); (case z2k6 => with_unfolding_all rfl))); (try dsimp only)))) | ((with_reducible show wpAny _ _ (subscriptTail _ _ _ _) _ _ _); first | (with_reducible (k_here; (with_reducible show wpAny _ _ (subscriptTail _ _ (Value.ref _) (Value.int _ _)) _ _ _); (with_reducible rename News _ _ _ _ => N9_q); (k_dflt (refine' my_item ?z2k1 ?z2k2 ?z2k3 ?z2k4 ?_ ?z2k6; (case z2k1 => exact my_listof N9_q (by kcj_m)); (case z2k2 => decide); (case z2k3 => decide); (case z2k4 => exact rfl); (case z2k6 => with_unfolding_all rfl))); (try dsimp only)))) | ((with_reducible show wpAny _ _ (storeName _ _ _) _ _ _); first | (with_reducible (k_here; (try dsimp only); k_dflt (refine' storeX_L ?z0F ?z0N ?_ ?z0a ?z0b; (case z0F => k_asm); (case z0N => k_asm); (case z0a => rfl); (case z0b => rfl); k_whole; intro h_q' F_q' N_q'; let mk_q := mOf F_q'; have Fk_q : Fr _ _ _ mk_q := F_q'; (try k_sweep))))) | walk1 | (dsimp only; walk1) | (leave1; (try dsimp only)) | fail "no step"))
    rename (_ = _ / _) => e9
    rename (_ ∧ _ ≤ size + (i : Int)) => f9
    have pb := prod_b (q := (size + (i : Int)) / size) (z := ns.getD (size + (i : Int)).toNat 0) (by rw [← e9]; omega) hz
    refine UnrEnd.js (by assumption) (by assumption) ⟨_, _⟩ (by k_mem) (by kcj_all) (by assumption) (List.forall_mem_cons.mpr ⟨rfl, List.forall_mem_cons.mpr ⟨rfl, List.forall_mem_cons.mpr ⟨rfl, List.forall_mem_cons.mpr ⟨rfl, List.forall_mem_cons.mpr ⟨rfl, List.forall_mem_nil _⟩⟩⟩⟩⟩) ⟨?_, ?_, ?_⟩
    · rw [e9, p1]; rfl
    · dsimp only; rw [e9]; omega
    · dsimp only; rw [e9]; push_cast; omega
  · clear F1 N1
    intro c m₁ h tk hP F' N'
    obtain ⟨il, ti⟩ := c
    obtain ⟨p1, p2, p3⟩ := hP
    dsimp only [ips, kstB] at *
    have p4 : il + 2 ≤ 200 := by omega
    (repeat' (first | (k_unfold; (try dsimp only)) | (k_end; kc_close) | ((with_reducible first | show wpAny _ _ (execs _ _) _ _ _ | show wpAny _ _ (exec (.For ..) _) _ _ _ | show wpAny _ _ (exec (.While ..) _) _ _ _); k_fold) | ((with_reducible show wpAny _ _ (binaryOp Operator.Mult (Value.int _ _) (Value.int _ _)) _ _ _); first | (with_reducible (k_here; (with_reducible (refine my_mul ?z41z ?_)); (case z41z => omega); (try dsimp only)))) | ((with_reducible show wpAny _ _ (binaryOp Operator.FloorDiv (Value.int _ _) (Value.int _ _)) _ _ _); first | (with_reducible (k_here; (with_reducible (refine my_fdiv ?z40z ?z40y ?_)); (case z40z => omega); (case z40y => omega); intro c9_q e9_q f9_q; (try dsimp only)))) | ((with_reducible show wpAny _ _ (pyIter (Value.ref _)) _ _ _); first | (with_reducible (k_here; (with_reducible show wpAny _ _ (pyIter (Value.ref _)) (fun it s₂ => LoopAtV _ _ _ _ _ _ _ _ _ it s₂) _ _); k_dflt (refine Stop.out ?_)))) | ((with_reducible show wpAny _ _ (exec (Stmt.For (Expr.Name ..) (Expr.Call ..) _ _ _) _) _ _ _); first | (with_reducible (k_here; (rename Fr _ _ _ _ => lF_q'); (with_unfolding_all refine' For_invVF lF_q' ?z31k1 ?z31k2 ?_; (case z31k1 => exact rfl); (case z31k2 => exact rfl); k_whole)))) | ((with_reducible show wpAny _ _ (subscriptTail (Expr.Name ..) (Expr.Name ..) (Value.ref _) (Value.int _ _)) _ _ _); first | (with_reducible (k_here; (with_reducible rename IntsAre _ _ => iX_q'); (k_dflt (refine' my_itemT ?z39a ?z39b iX_q' ?z39z ?z39y ?z39x ?_; (case z39a => k_asm); (case z39b => k_mem); (case z39z => omega); (case z39y => omega); (case z39x => omega))); intro t9_q; (try dsimp only))) | (with_reducible (k_here; (with_reducible show wpAny _ _ (subscriptTail _ _ (Value.ref _) (Value.int _ _)) _ _ _); (with_reducible rename News _ _ _ _ => N9_q); (k_dflt (refine' my_item ?z2k1 ?z2k2 ?z2k3 ?z2k4 ?_ ?z2k6; (case z2k1 => exact my_listof N9_q (by kcj_m)); (case z2k2 => decide); (case z2k3 => decide); (case z2k4 => exact rfl); (case z2k6 => with_unfolding_all rfl))); (try dsimp only)))) | ((with_reducible show wpAny _ _ (call _ _) _ _ _); first | (with_reducible (k_here; (with_reducible rename IntsAre _ _ => iX_q'); (k_dflt (refine' my_lenT ?z38N ?z38m iX_q' ?z38z ?_; (case z38N => k_asm); (case z38m => k_mem); (case z38z => omega))); intro t9_q k9_q; (try dsimp only)))) | ((with_reducible show wpAny _ _ (eval (Expr.Call ..) _) _ _ _); first | (with_reducible k_dflt (refine Call_ ?_))) | ((with_reducible show wpAny _ _ (subscriptTail (Expr.Subscript ..) (Expr.Constant ..) (Value.ref _) (Value.int _ _)) _ _ _); first | (with_reducible (k_here; (with_reducible show wpAny _ _ (subscriptTail _ _ (Value.ref _) (Value.int _ _)) _ _ _); (with_reducible rename News _ _ _ _ => N9_q); (k_dflt (refine' my_item ?z2k1 ?z2k2 ?z2k3 ?z2k4 ?_ ?z2k6; (case z2k1 => exact my_listof N9_q (by kcj_m)); (case z2k2 => decide); (case z2k3 => decide); (case z2k4 => exact rfl); (case z2k6 => with_unfolding_all rfl))); (try dsimp only)))) | ((with_reducible show wpAny _ _ (subscriptTail (Expr.Subscript ..) (Expr.BinOp ..) (Value.ref _) (Value.int _ _)) _ _ _); first | (with_reducible (k_here; (with_reducible show wpAny _ _ (subscriptTail _ _ (Value.ref _) (Value.int _ _)) _ _ _); (with_reducible rename News _ _ _ _ => N9_q); (k_dflt (refine' my_item ?z2k1 ?z2k2 ?z2k3 ?z2k4 ?_ ?z2k6; (case z2k1 => exact my_listof N9_q (by kcj_m)); (case z2k2 => decide); (case z2k3 => decide); (case z2k4 => exact rfl); (case z2k6 => with_unfolding_all rfl))); (try dsimp only)))) | ((with_reducible show wpAny _ _ (subscriptTail (Expr.Subscript ..) (Expr.Name ..) (Value.ref _) (Value.int _ _)) _ _ _); first | (with_reducible (k_here; (with_reducible show wpAny _ _ (subscriptTail _ _ (Value.ref _) (Value.int _ _)) _ _ _); (with_reducible rename News _ _ _ _ => N9_q); (k_dflt (refine' my_item ?z2k1 ?z2k2 ?z2k3 ?z2k4 ?_ ?z2k6; (case z2k1 => exact my_listof N9_q (by kcj_m)); (case z2k2 => decide); (case z2k3 => decide); (case z2k4 => exact rfl); (case z2k6 => with_unfolding_all rfl))); (try dsimp only)))) | ((with_reducible show wpAny _ _ (subscriptTail (Expr.Name ..) (Expr.BinOp ..) (Value.ref _) (Value.int _ _)) _ _ _); first | (with_reducible (k_here; (with_reducible show wpAny _ _ (subscriptTail _ _ (Value.ref _) (Value.int _ _)) _ _ _); (with_reducible rename News _ _ _ _ => N9_q); (k_dflt (refine' my_item ?z2k1 ?z2k2 ?z2k3 ?z2k4 ?_ ?z2k6; (case z2k1 => exact my_listof N9_q (by kcj_m)); (case z2k2 => decide); (case z2k3 => decide); (case z2k4 => exact rfl); (case z2k6 => with_unfolding_all rfl))); (try dsimp only)))) | ((with_reducible show wpAny _ _ (subscriptTail (Expr.Name ..) (Expr.Constant ..) (Value.ref _) (Value.int _ _)) _ _ _); first | (with_reducible (k_here; (with_reducible show wpAny _ _ (subscriptTail _ _ (Value.ref _) (Value.int _ _)) _ _ _); (with_reducible rename News _ _ _ _ => N9_q); (k_dflt (refine' my_item ?z2k1 ?z2k2 ?z2k3 ?z2k4 ?_ ?z2k6; (case z2k1 => exact my_listof N9_q (by kcj_m)); (case z2k2 => decide); (case z2k3 => decide); (case z2k4 => exact rfl); (case z2k6 => with_unfolding_all rfl))); (try dsimp only)))) | ((with_reducible show wpAny _ _ (subscriptTail _ _ _ _) _ _ _); first | (with_reducible (k_here; (with_reducible show wpAny _ _ (subscriptTail _ _ (Value.ref _) (Value.int _ _)) _ _ _); (with_reducible rename News _ _ _ _ => N9_q); (k_dflt (refine' my_item ?z2k1 ?z2k2 ?z2k3 ?z2k4 ?_ ?z2k6; (case z2k1 => exact my_listof N9_q (by kcj_m)); (case z2k2 => decide); (case z2k3 => decide); (case z2k4 => exact rfl); (case z2k6 => with_unfolding_all rfl))); (try dsimp only)))) | ((with_reducible show wpAny _ _ (storeName _ _ _) _ _ _); first | (with_reducible (k_here; (try dsimp only); k_dflt (refine' storeX_L ?z0F ?z0N ?_ ?z0a ?z0b; (case z0F => k_asm); (case z0N => k_asm); (case z0a => rfl); (case z0b => rfl); k_whole; intro h_q' F_q' N_q'; let mk_q := mOf F_q'; have Fk_q : Fr _ _ _ mk_q := F_q'; (try k_sweep))))) | walk1 | (dsimp only; walk1) | (leave1; (try dsimp only)) | fail "no step"))
    rw [p1]
    exact ret _ _ _ (by k_asm) (Back.end0 (by assumption) (by assumption) (by assumption) (by kcj_all))
theorem ct_col {size run ex : Int} {O d Tn Tc : Addr} {vs : List Value} {u t t1 t2 t3 t4 t5 nt' tn tb : Tok} {tx : Str} {n : Int} {bs : Bool} (B : Below A₀ base outer h₀) (F : Fr h₀ L s.heap m) (X : (Mine.fr.heap_1 w.params).In h₀) (N : News h₀ L s.heap news) (T : Top p loose mean mg mb h₀) (hk : cs.kind = .function)
    (hsub : ∀ q ∈ [(O, instObj 97 d), (d, dictOf [⟨PyData.keyHash w.params (Str.ofString "raw"), .str (Str.ofString "raw") t1, .str tx t⟩, ⟨PyData.keyHash w.params (Str.ofString "n"), .str (Str.ofString "n") t2, .int n tn⟩, ⟨PyData.keyHash w.params (Str.ofString "nt"), .str (Str.ofString "nt") t3, .int 2 nt'⟩, ⟨PyData.keyHash w.params (Str.ofString "norm"), .str (Str.ofString "norm") t4, .ref Tn⟩, ⟨PyData.keyHash w.params (Str.ofString "is_simple"), .str (Str.ofString "is_simple") t5, .bool bs⟩] 5), (Tn, tupOf [.ref Tc, .int 0 tb]), (Tc, tupOf vs)], q ∈ news)
    (hs : 1 ≤ size ∧ size ≤ 3) (hr : 0 ≤ run ∧ run ≤ 5) (he : 0 ≤ ex ∧ ex ≤ 2) (hI : IntsAre vs (tabs ex.toNat (tabs run.toNat [])))
    (hd : dp + 10 < recursionLimit)
    (ret : ∀ h' tk' t', Fr h₀ L h' m → News h₀ L h' news → Q (.int ((run / size + ex / size + 2) * size) t') { s with heap := h', toks := tk' }) :
    wpAny (model PySem.Challenge.rw_sh0040_01.row.prog w) (ktrTop dp un gd cn cs L a ccd cl outer) (call (.ref 66) [.ref O, .int size u]) Q E s :=
  ct_ind B F X N T hk hsub hs hI (tabs2_len (by omega) (by omega)) (tabs2_bound _ _) hd fun h' tk' t' F' N' => by
    rw [col_is hr he hs]
    exact ret h' tk' t' F' N'
end
end

section -- C13
theorem size_ok {k : Int} (h1 : 1 ≤ k) (h2 : k < 1 + (((4 - 1 : Int).toNat : Nat) : Int)) : 1 ≤ k ∧ k ≤ 3 := by omega
theorem my_fdiv3 {A : Around} {prog : Program} {a b c : Int} {t u : Tok} {Q E : Value → Shared → Prop} (h1 : 1 ≤ b) (h2 : b < 1 + (((4 - 1 : Int).toNat : Nat) : Int)) (ha : 0 ≤ a ∧ a ≤ c) (h : Q (.int (a / b) s.toks) { s with toks := s.toks + 1 }) :
    wpAny (model prog w) A (binaryOp .FloorDiv (.int a t) (.int b u)) Q E s :=
  my_fdiv (by omega) ha.1 fun c e _ => by rw [e]; exact h
theorem my_mul3 {A : Around} {prog : Program} {a b : Int} {t u : Tok} {Q E : Value → Shared → Prop} (h1 : 1 ≤ b) (h2 : b < 1 + (((4 - 1 : Int).toNat : Nat) : Int)) (h : Q (.int (a * b) s.toks) { s with toks := s.toks + 1 }) :
    wpAny (model prog w) A (binaryOp .Mult (.int a t) (.int b u)) Q E s := my_mul (by omega) h
theorem ne_same {A : Around} {prog : Program} {a b : Addr} {vs us : List Value} {ns : List Int} {Q E : Value → Shared → Prop} (hl : s.heap.IsList a vs.toArray) (hi : IntsAre vs ns) (hl' : s.heap.IsList b us.toArray) (hi' : IntsAre us ns) (hu : A.units + 64 < cLine)
    (h : Q (.bool false) s) : wpAny (model prog w) A (compareOp .NotEq (.ref a) (.ref b)) Q E s := ne_intsK hl hi hl' hi' hu (by rw [decide_eq_true rfl]; exact h)
theorem units_one {env : Env} (h : un + 200 < cLine) : ((ktrTop dp un gd cn cs L a ccd cl outer).deeper env).units + 64 < cLine := by
  show un + 3 + 64 < cLine
  omega
def NextAs (h₀ : Heap) (L : Addr) (m : Str → Option Value) (news : List (Addr × Obj)) (s : Shared) (f : Flow) (s' : Shared) : Prop :=
  f = .next ∧ ∃ h' tk, s' = { s with heap := h', toks := tk } ∧ Fr h₀ L h' m ∧ News h₀ L h' news
theorem cut_if {M : Model} {A : Around} {E : Value → Shared → Prop} {env : Env} {st : Stmt} {Q : Flow → Shared → Prop} (F : Fr h₀ L s.heap m) (N : News h₀ L s.heap news) (h1 : wpAny M A (exec st env) (NextAs h₀ L m news s) E s)
    (h2 : ∀ h' tk, Fr h₀ L h' m → News h₀ L h' news → Q .next { s with heap := h', toks := tk }) : wpAny M A (exec st env) Q E s :=
  wpAny_mono h1 (fun f s' hf => by
    obtain ⟨rfl, h', tk, rfl, F', N'⟩ := hf
    exact h2 h' tk F' N') fun _ _ h => h
theorem next_as {h' : Heap} {tk : Nat} {all : List (Addr × Obj)} (F : Fr h₀ L h' m) (N : News h₀ L h' all) (hs : ∀ q ∈ news, q ∈ all) : NextAs h₀ L m news s .next { s with heap := h', toks := tk } := ⟨rfl, h', tk, rfl, F, cb_drop N hs⟩
theorem cols_are {run ex : Int} (hr : 0 ≤ run ∧ run ≤ 5) (he : 0 ≤ ex ∧ ex ≤ 2) : ∃ q1 q2 q3 : Int, List.map (fun k' : Int => (run / k' + ex / k' + 2) * k') (rangeKs 1 (4 - 1 : Int).toNat) = [q1, q2, q3] ∧ (2 ≤ q1 ∧ q1 ≤ 14) ∧ (2 ≤ q2 ∧ q2 ≤ 14) ∧ (2 ≤ q3 ∧ q3 ≤ 14) :=
  ⟨(run / 1 + ex / 1 + 2) * 1, (run / 2 + ex / 2 + 2) * 2, (run / 3 + ex / 3 + 2) * 3, rfl, by omega, by omega, by omega⟩
structure LC where
  o1 : Obj
  o2 : Obj
def LP (_ : Nat) (c : LC) : Prop := (∃ v, c.o1.data = .cell v) ∧ (∃ v, c.o2.data = .cell v)
abbrev lled (a1 a2 : Addr) (tl : List (Addr × Obj)) (c : LC) : List (Addr × Obj) := (a1, c.o1) :: (a2, c.o2) :: tl
abbrev lps (pt : Addr) (dbl : Bool) (_ : LC) : List (Str × Value) := [(Str.ofString "table", .ref pt), (Str.ofString "double", .bool dbl)]
theorem lead3 {dbl : Bool} {a0 a1 a2 b0 b1 b2 c0 c1 c2 l0 l1 l2 : Int} (hu : dbl = false → Uniq (a0 + b1 + c2) (a0 + b2 + c1) (a1 + b0 + c2) (a1 + b2 + c0) (a2 + b0 + c1) (a2 + b1 + c0)) (hd : dbl = false)
    (h0 : on3 (a0 + l0) (a1 + l1) (a2 + l2)) (h1 : on3 (b0 + l0) (b1 + l1) (b2 + l2)) (h2 : on3 (c0 + l0) (c1 + l1) (c2 + l2)) : False := lead_law (l0 := l0) (l1 := l1) (l2 := l2) h0 h1 h2 (hu hd)
theorem lead_turn {h' : Heap} {I x1 x2 pt : Addr} {it o1 o2 oa ob : Obj} {v1 v2 : Option Value} {dbl : Bool} {s₁ : Shared} {tk j : Nat} {m' : Str → Option Value} {all tl : List (Addr × Obj)} (F : Fr h₀ L h' m') (N : News h₀ L h' all)
    (hI : (I, it) ∈ all) (h1 : (x1, o1) ∈ all) (h2 : (x2, o2) ∈ all) (htl : ∀ p ∈ tl, p ∈ all) (hne : ∀ p ∈ (x1, oa) :: (x2, ob) :: tl, p.1 ≠ I)
    (k1 : m' (Str.ofString "table") = some (.ref pt)) (k2 : m' (Str.ofString "double") = some (.bool dbl)) (d1 : o1.data = .cell v1) (d2 : o2.data = .cell v2) :
    UnrEnd h₀ L s₁ I it (JS (lled x1 x2 tl) (lps pt dbl) LP j) { s₁ with heap := h', toks := tk } :=
  UnrEnd.js F N ⟨o1, o2⟩ hI (List.forall_mem_cons.mpr ⟨h1, List.forall_mem_cons.mpr ⟨h2, htl⟩⟩)
    (List.forall_mem_cons.mpr ⟨(hne (x1, oa) (.head _) : x1 ≠ I), List.forall_mem_cons.mpr ⟨(hne (x2, ob) (.tail _ (.head _)) : x2 ≠ I), fun p hp => hne p (.tail _ (.tail _ hp))⟩⟩)
    (List.forall_mem_cons.mpr ⟨k1, List.forall_mem_cons.mpr ⟨k2, List.forall_mem_nil _⟩⟩) ⟨⟨_, d1⟩, _, d2⟩
theorem ne7 {I q1 q2 q3 q4 q5 q6 q7 : Addr} {o1 o2 o3 o4 o5 o6 o7 : Obj} (h : ∀ p ∈ [(q1, o1), (q2, o2), (q3, o3), (q4, o4), (q5, o5), (q6, o6), (q7, o7)], p.1 ≠ I) :
    @Ne Nat q1 I ∧ @Ne Nat q2 I ∧ @Ne Nat q3 I ∧ @Ne Nat q4 I ∧ @Ne Nat q5 I ∧ @Ne Nat q6 I ∧ @Ne Nat q7 I :=
  ⟨h _ (.head _), h _ (.tail _ (.head _)), h _ (.tail _ (.tail _ (.head _))), h _ (.tail _ (.tail _ (.tail _ (.head _)))), h _ (.tail _ (.tail _ (.tail _ (.tail _ (.head _))))), h _ (.tail _ (.tail _ (.tail _ (.tail _ (.tail _ (.head _)))))), h _ (.tail _ (.tail _ (.tail _ (.tail _ (.tail _ (.tail _ (.head _))))))) ⟩
section
theorem ct_leads {pt r0 r1 r2 : Addr} {dbl : Bool} {ex a0 a1 a2 b0 b1 b2 c0 c1 c2 : Int} {t1 t2 t3 t4 t5 t6 t7 t8 t9 t0 : Tok} {nt n0 n1 n2 : Nat} (B : Below A₀ base outer h₀) (F : Fr h₀ L s.heap m) (X : (Mine.fr.heap_1 w.params).In h₀) (N : News h₀ L s.heap news) (T : Top p loose mean mg mb h₀) (hk : cs.kind = .function)
    (hsub : ∀ q ∈ [(pt, listOf [Value.ref r0, .ref r1, .ref r2].toArray nt), (r0, listOf [Value.int a0 t1, .int a1 t2, .int a2 t3].toArray n0), (r1, listOf [Value.int b0 t4, .int b1 t5, .int b2 t6].toArray n1), (r2, listOf [Value.int c0 t7, .int c1 t8, .int c2 t9].toArray n2)], q ∈ news)
    (ha : (0 ≤ a0 ∧ a0 ≤ 4) ∧ (0 ≤ a1 ∧ a1 ≤ 4) ∧ (0 ≤ a2 ∧ a2 ≤ 4)) (hb : (0 ≤ b0 ∧ b0 ≤ 4) ∧ (0 ≤ b1 ∧ b1 ≤ 4) ∧ (0 ≤ b2 ∧ b2 ≤ 4)) (hc : (0 ≤ c0 ∧ c0 ≤ 4) ∧ (0 ≤ c1 ∧ c1 ≤ 4) ∧ (0 ≤ c2 ∧ c2 ≤ 4))
    (hex : 0 ≤ ex ∧ ex ≤ 2) 
    (hd : dp + 60 < recursionLimit) (hun : un + 200 < cLine)
    (hu : dbl = false → Uniq (a0 + b1 + c2) (a0 + b2 + c1) (a1 + b0 + c2) (a1 + b2 + c0) (a2 + b0 + c1) (a2 + b1 + c0))
    (ret : ∀ h' tk', Fr h₀ L h' m → News h₀ L h' news → Q (.bool true) { s with heap := h', toks := tk' }) :
    wpAny (model PySem.Challenge.rw_sh0040_01.row.prog w) (ktrTop dp un gd cn cs L a ccd cl outer) (call (.ref 158) [.ref pt, .bool dbl, .int ex t0]) Q E s := by
  (((revert X; k_fill; intro X; refine wpAny_call ?_; k_dflt first | (refine' enterF ?z1k1 ?z1k2 ?z1k3 ?z1k4 ?z1k5 ?z1ks ?z1kA ?z1kF ?z1kK ?z1k6 ?z1k7 ?z1k8 ?z1k9 ?z1kB ?_ ?z1c2 ?z1c3 ?z1c4 ?z1c5; (case z1kA => exact rfl); (case z1kF => exact rfl); (case z1kK => assumption); (case z1k1 => k_asm); (case z1k2 => k_asm); (case z1k3 => k_asm); (case z1k4 => k_asm); (case z1k5 => k_asm); (case z1ks => first | assumption | exact no_sub); (case z1k6 => k_is); (case z1k7 => k_is); (case z1k8 => ktr_room); (case z1k9 => exact BindsTo.of_eq rfl); (case z1c5 => decide); (case z1kB => exact locs rfl); (case z1c2 => exact rfl); (case z1c3 => exact rfl); (case z1c4 => exact rfl); k_whole; intro g_q' L_q' h_q' tk_q' bk_q' FG_q' F_q' N_q' B_q' X_q' T_q' l1_q; (try k_lt l1_q); (try dsimp only); (try k_lift B_q'); (try k_fold)) | (refine' enterFC ?z1k1 ?z1k2 ?z1k3 ?z1k4 ?z1k5 ?z1ks ?z1kA ?z1kF ?z1kK ?z1k6 ?z1k7 ?z1k8 ?z1k9 ?z1kB ?z1kD ?_ ?z1c2 ?z1c3 ?z1c4; (case z1kA => exact rfl); (case z1kF => exact rfl); (case z1kK => assumption); (case z1k1 => k_asm); (case z1k2 => k_asm); (case z1k3 => k_asm); (case z1k4 => k_asm); (case z1k5 => k_asm); (case z1ks => first | assumption | exact no_sub); (case z1k6 => k_is); (case z1k7 => k_is); (case z1k8 => ktr_room); (case z1k9 => exact BindsTo.of_eq rfl); (case z1kB => exact rfl); (case z1kD => decide +kernel); (case z1c2 => exact rfl); (case z1c3 => exact rfl); (case z1c4 => exact rfl); k_whole; intro g_q' L_q' h_q' tk_q' cells_q' bk_q' FG_q' F_q' N_q' Y_q' B_q' X_q' T_q' l1_q; (try k_lt l1_q); k_cells Y_q'; (try simp only [List.cons_append, List.nil_append] at N_q'); (try dsimp only); (try k_lift B_q'); (try k_fold))); (show wpAny _ ?A9 _ _ _ _); (let ak : Around := ?A9); (change wpAny _ ak _ _ _ _); k_fold); (repeat' (first | (k_unfold; (try dsimp only)) | (k_end; kc_close) | ((with_reducible first | show wpAny _ _ (execs _ _) _ _ _ | show wpAny _ _ (exec (.For ..) _) _ _ _ | show wpAny _ _ (exec (.While ..) _) _ _ _); k_fold) | ((with_reducible show wpAny _ _ (pyIter (Value.ref _)) _ _ _); first | (with_reducible (k_here; (with_reducible show wpAny _ _ (pyIter (Value.ref _)) (fun it s₂ => TurnsAt _ _ _ _ _ _ _ _ _ it s₂) _ _); k_dflt (refine Stop.out ?_))) | (with_reducible (k_here; (with_reducible show wpAny _ _ (pyIter (Value.ref _)) (fun it s₂ => LoopAtV _ _ _ _ _ _ _ _ _ it s₂) _ _); k_dflt (refine Stop.out ?_)))) | ((with_reducible show wpAny _ _ (exec (Stmt.For (Expr.Name ..) (Expr.Call ..) _ _ _) _) _ _ _); first | (with_reducible (k_here; (rename Fr _ _ _ _ => lF_q'); (with_unfolding_all refine' For_turns lF_q' ?_; k_whole)))) | ((with_reducible show UnrEnd ..); first | (with_reducible ((with_reducible show UnrEnd _ _ _ _ _ (JS _ _ _ _) _); k_dflt (refine Stop.out ?_)))) | ((with_reducible show wpAny _ _ (exec (Stmt.If ..) _) _ _ _); first | (with_reducible (k_here; (fail_if_success (with_reducible show wpAny _ _ _ (NextAs _ _ _ _ _) _ _)); (with_reducible rename Fr _ _ _ _ => F8_q); (with_reducible rename News _ _ _ _ => N8_q); (k_dflt refine' cut_if F8_q N8_q ?_ ?_); rotate_left; (clear F8_q N8_q; intro h8_q tk8_q F8_q N8_q; (try dsimp only)); rotate_right))) | ((with_reducible show wpAny _ _ (compareOp CmpOp.NotEq (Value.ref _) (Value.ref _)) _ _ _); first | (with_reducible (k_here; (k_dflt (refine' ne_same ?z49k1 ?z49k2 ?z49k3 ?z49k4 ?z49k5 ?_; (case z49k1 => exact my_listof (by k_asm) (by k_mem)); (case z49k3 => exact my_listof (by k_asm) (by k_mem)); (case z49k2 => with_reducible assumption); (case z49k4 => with_reducible assumption); (case z49k5 => exact units_one (by with_reducible assumption)))); (try dsimp only)))) | ((with_reducible show wpAny _ _ (binaryOp Operator.Mult (Value.int _ _) (Value.int _ _)) _ _ _); first | (with_reducible (k_here; (with_reducible (refine my_mul3 ?z48z ?z48y ?_)); (case z48z => with_reducible assumption); (case z48y => with_reducible assumption); (try dsimp only)))) | ((with_reducible show wpAny _ _ (binaryOp Operator.FloorDiv (Value.int _ _) (Value.int _ _)) _ _ _); first | (with_reducible (k_here; (with_reducible (refine' my_fdiv3 ?z47z ?z47y ?z47x ?_)); (case z47z => with_reducible assumption); (case z47y => with_reducible assumption); (case z47x => with_reducible assumption); (try dsimp only)))) | ((with_reducible show wpAny _ _ (binaryOp Operator.Add (Value.str _ _) (Value.str _ _)) _ _ _); first | (with_reducible (k_here; (with_reducible first | (refine lead_1 ?z46z ?_; (case z46z => omega)) | (refine lead_2 ?z46z ?z46y ?_; (case z46z => omega); (case z46y => omega)) | (refine lead_3 ?z46z ?z46y ?_; (case z46z => omega); (case z46y => omega))); intro t9_q k9_q; (try dsimp only)))) | ((with_reducible show wpAny _ _ (binaryOp Operator.Mult (Value.str _ _) (Value.int _ _)) _ _ _); first | (with_reducible (k_here; k_dflt (refine lead_0 ?z45z ?_; (case z45z => omega)); intro t9_q k9_q; (try dsimp only)))) | ((with_reducible show wpAny _ _ (call (Value.ref _) _) _ _ _); first | (with_reducible (k_here; k_dflt ((refine' ct_col ?z44k1 ?z44k2 ?z44k3 ?z44k4 ?z44k5 ?z44k6 ?z44p0 ?z44p1 ?z44p2 ?z44p3 ?z44p4 ?z44kd ?_); (case z44k1 => k_asm); (case z44k2 => k_asm); (case z44k3 => k_asm); (case z44k4 => k_asm); (case z44k5 => k_asm); (case z44k6 => first | exact rfl | assumption); (case z44p0 => kcj_all); (case z44p1 => exact size_ok (by with_reducible assumption) (by with_reducible assumption)); (case z44p2 => assumption); (case z44p3 => assumption); (case z44p4 => with_reducible assumption); (case z44kd => ktr_room); k_whole; intro h9_q tk9_q t9_q F9_q N9_q; (try dsimp only)); (try k_sweep); skip)) | (with_reducible (k_here; k_dflt ((refine' ct_ws ?z43k1 ?z43k2 ?z43k3 ?z43k4 ?z43k5 ?z43k6 ?z43p0 ?z43p1 ?z43kd ?_); (case z43k1 => k_asm); (case z43k2 => k_asm); (case z43k3 => k_asm); (case z43k4 => k_asm); (case z43k5 => k_asm); (case z43k6 => first | exact rfl | assumption); (case z43p0 => omega); (case z43p1 => omega); (case z43kd => ktr_room); k_whole; intro O9_q d9_q Tn9_q Tc9_q vs9_q t1_q t2_q t3_q t4_q t5_q n9_q nt9_q tn9_q tb9_q bs9_q h9_q tk9_q hI9_q F9_q N9_q l9_q l8_q; (try dsimp only)); (k_lt l9_q); (try k_sweep))) | (with_reducible (k_here; k_dflt ((refine' ct_onB ?z42k1 ?z42k2 ?z42k3 ?z42k4 ?z42k5 ?z42k6 ?z42p0 ?z42p1 ?z42kd ?_); (case z42k1 => k_asm); (case z42k2 => k_asm); (case z42k3 => k_asm); (case z42k4 => k_asm); (case z42k5 => k_asm); (case z42k6 => first | exact rfl | assumption); (case z42p0 => kcj_all); (case z42p1 => omega); (case z42kd => ktr_room); k_whole; intro h9_q tk9_q F9_q N9_q; (try dsimp only)); (try k_sweep); (try k_fold)))) | ((with_reducible show wpAny _ _ (eval (Expr.Call ..) _) _ _ _); first | (with_reducible k_dflt (refine Call_ ?_))) | ((with_reducible show wpAny _ _ (subscriptTail (Expr.Subscript ..) (Expr.Constant ..) (Value.ref _) (Value.int _ _)) _ _ _); first | (with_reducible (k_here; (with_reducible show wpAny _ _ (subscriptTail _ _ (Value.ref _) (Value.int _ _)) _ _ _); (with_reducible rename News _ _ _ _ => N9_q); (k_dflt (refine' my_item ?z2k1 ?z2k2 ?z2k3 ?z2k4 ?_ ?z2k6; (case z2k1 => exact my_listof N9_q (by kcj_m)); (case z2k2 => decide); (case z2k3 => decide); (case z2k4 => exact rfl); (case z2k6 => with_unfolding_all rfl))); (try dsimp only)))) | ((with_reducible show wpAny _ _ (subscriptTail (Expr.Subscript ..) (Expr.BinOp ..) (Value.ref _) (Value.int _ _)) _ _ _); first | (with_reducible (k_here; (with_reducible show wpAny _ _ (subscriptTail _ _ (Value.ref _) (Value.int _ _)) _ _ _); (with_reducible rename News _ _ _ _ => N9_q); (k_dflt (refine' my_item ?z2k1 ?z2k2 ?z2k3 ?z2k4 ?_ ?z2k6; (case z2k1 => exact my_listof N9_q (by kcj_m)); (case z2k2 => decide); (case z2k3 => decide); (case z2k4 => exact rfl); (case z2k6 => with_unfolding_all rfl))); (try dsimp only)))) | ((with_reducible show wpAny _ _ (subscriptTail (Expr.Subscript ..) (Expr.Name ..) (Value.ref _) (Value.int _ _)) _ _ _); first | (with_reducible (k_here; (with_reducible show wpAny _ _ (subscriptTail _ _ (Value.ref _) (Value.int _ _)) _ _ _); (with_reducible rename News _ _ _ _ => N9_q); (k_dflt (refine' my_item ?z2k1 ?z2k2 ?z2k3 ?z2k4 ?_ ?z2k6; (case z2k1 => exact my_listof N9_q (by kcj_m)); (case z2k2 => decide); (case z2k3 => decide); (case z2k4 => exact rfl); (case z2k6 => with_unfolding_all rfl))); (try dsimp only)))) | ((with_reducible show wpAny _ _ (subscriptTail (Expr.Name ..) (Expr.BinOp ..) (Value.ref _) (Value.int _ _)) _ _ _); first | (with_reducible (k_here; (with_reducible show wpAny _ _ (subscriptTail _ _ (Value.ref _) (Value.int _ _)) _ _ _); (with_reducible rename News _ _ _ _ => N9_q); (k_dflt (refine' my_item ?z2k1 ?z2k2 ?z2k3 ?z2k4 ?_ ?z2k6; (case z2k1 => exact my_listof N9_q (by kcj_m)); (case z2k2 => decide); (case z2k3 => decide); (case z2k4 => exact rfl); (case z2k6 => with_unfolding_all rfl))); (try dsimp only)))) | ((with_reducible show wpAny _ _ (subscriptTail (Expr.Name ..) (Expr.Name ..) (Value.ref _) (Value.int _ _)) _ _ _); first | (with_reducible (k_here; (with_reducible show wpAny _ _ (subscriptTail _ _ (Value.ref _) (Value.int _ _)) _ _ _); (with_reducible rename News _ _ _ _ => N9_q); (k_dflt (refine' my_item ?z2k1 ?z2k2 ?z2k3 ?z2k4 ?_ ?z2k6; (case z2k1 => exact my_listof N9_q (by kcj_m)); (case z2k2 => decide); (case z2k3 => decide); (case z2k4 => exact rfl); (case z2k6 => with_unfolding_all rfl))); (try dsimp only)))) | ((with_reducible show wpAny _ _ (subscriptTail (Expr.Name ..) (Expr.Constant ..) (Value.ref _) (Value.int _ _)) _ _ _); first | (with_reducible (k_here; (with_reducible show wpAny _ _ (subscriptTail _ _ (Value.ref _) (Value.int _ _)) _ _ _); (with_reducible rename News _ _ _ _ => N9_q); (k_dflt (refine' my_item ?z2k1 ?z2k2 ?z2k3 ?z2k4 ?_ ?z2k6; (case z2k1 => exact my_listof N9_q (by kcj_m)); (case z2k2 => decide); (case z2k3 => decide); (case z2k4 => exact rfl); (case z2k6 => with_unfolding_all rfl))); (try dsimp only)))) | ((with_reducible show wpAny _ _ (subscriptTail _ _ _ _) _ _ _); first | (with_reducible (k_here; (with_reducible show wpAny _ _ (subscriptTail _ _ (Value.ref _) (Value.int _ _)) _ _ _); (with_reducible rename News _ _ _ _ => N9_q); (k_dflt (refine' my_item ?z2k1 ?z2k2 ?z2k3 ?z2k4 ?_ ?z2k6; (case z2k1 => exact my_listof N9_q (by kcj_m)); (case z2k2 => decide); (case z2k3 => decide); (case z2k4 => exact rfl); (case z2k6 => with_unfolding_all rfl))); (try dsimp only)))) | ((with_reducible show wpAny _ _ (storeName _ _ _) _ _ _); first | (with_reducible (k_here; (try dsimp only); k_dflt (refine' storeX_L ?z0F ?z0N ?_ ?z0a ?z0b; (case z0F => k_asm); (case z0N => k_asm); (case z0a => rfl); (case z0b => rfl); k_whole; intro h_q' F_q' N_q'; let mk_q := mOf F_q'; have Fk_q : Fr _ _ _ mk_q := F_q'; (try k_sweep))))) | walk1 | (dsimp only; walk1) | (leave1; (try dsimp only)) | fail "no step")))
  unfold Stop
  with_reducible rename Fr _ _ _ _ => F1
  with_reducible rename News _ _ _ _ => N1
  rename IsRange _ _ _ _ _ _ _ _ => rg
  refine turns_js (Led := lled _ _ (_ :: _ :: _ :: _ :: _ :: [])) (ps := lps pt dbl) (P := LP) (n := 6) ⟨_, _⟩ rfl rg (by decide) (by decide) F1 N1 (fun _ h => h) (List.forall_mem_cons.mpr ⟨rfl, List.forall_mem_cons.mpr ⟨rfl, List.forall_mem_nil _⟩⟩) ⟨⟨_, by assumption⟩, ⟨_, by assumption⟩⟩ ?_ ?_
  · clear F1 N1
    intro i c u' m₁ I it h tk hi hP hne F' N'
    obtain ⟨oa, ob⟩ := c
    obtain ⟨⟨va, hva⟩, vb, hvb⟩ := hP
    dsimp only [lled, lps, kstB] at *
    have hi' : 0 ≤ (0 : Int) + (i : Int) ∧ (0 : Int) + (i : Int) ≤ 5 := by omega
    have hap := ne7 hne
    generalize hrun : (0 : Int) + (i : Int) = run at *
    (repeat' (first | (k_unfold; (try dsimp only)) | (k_end; kc_close) | ((with_reducible first | show wpAny _ _ (execs _ _) _ _ _ | show wpAny _ _ (exec (.For ..) _) _ _ _ | show wpAny _ _ (exec (.While ..) _) _ _ _); k_fold) | ((with_reducible show wpAny _ _ (pyIter (Value.ref _)) _ _ _); first | (with_reducible (k_here; (with_reducible show wpAny _ _ (pyIter (Value.ref _)) (fun it s₂ => TurnsAt _ _ _ _ _ _ _ _ _ it s₂) _ _); k_dflt (refine Stop.out ?_))) | (with_reducible (k_here; (with_reducible show wpAny _ _ (pyIter (Value.ref _)) (fun it s₂ => LoopAtV _ _ _ _ _ _ _ _ _ it s₂) _ _); k_dflt (refine Stop.out ?_)))) | ((with_reducible show wpAny _ _ (exec (Stmt.For (Expr.Name ..) (Expr.Call ..) _ _ _) _) _ _ _); first | (with_reducible (k_here; (rename Fr _ _ _ _ => lF_q'); (with_unfolding_all refine' For_turns lF_q' ?_; k_whole)))) | ((with_reducible show UnrEnd ..); first | (with_reducible ((with_reducible show UnrEnd _ _ _ _ _ (JS _ _ _ _) _); k_dflt (refine Stop.out ?_)))) | ((with_reducible show wpAny _ _ (exec (Stmt.If ..) _) _ _ _); first | (with_reducible (k_here; (fail_if_success (with_reducible show wpAny _ _ _ (NextAs _ _ _ _ _) _ _)); (with_reducible rename Fr _ _ _ _ => F8_q); (with_reducible rename News _ _ _ _ => N8_q); (k_dflt refine' cut_if F8_q N8_q ?_ ?_); rotate_left; (clear F8_q N8_q; intro h8_q tk8_q F8_q N8_q; (try dsimp only)); rotate_right))) | ((with_reducible show wpAny _ _ (compareOp CmpOp.NotEq (Value.ref _) (Value.ref _)) _ _ _); first | (with_reducible (k_here; (k_dflt (refine' ne_same ?z49k1 ?z49k2 ?z49k3 ?z49k4 ?z49k5 ?_; (case z49k1 => exact my_listof (by k_asm) (by k_mem)); (case z49k3 => exact my_listof (by k_asm) (by k_mem)); (case z49k2 => with_reducible assumption); (case z49k4 => with_reducible assumption); (case z49k5 => exact units_one (by with_reducible assumption)))); (try dsimp only)))) | ((with_reducible show wpAny _ _ (binaryOp Operator.Mult (Value.int _ _) (Value.int _ _)) _ _ _); first | (with_reducible (k_here; (with_reducible (refine my_mul3 ?z48z ?z48y ?_)); (case z48z => with_reducible assumption); (case z48y => with_reducible assumption); (try dsimp only)))) | ((with_reducible show wpAny _ _ (binaryOp Operator.FloorDiv (Value.int _ _) (Value.int _ _)) _ _ _); first | (with_reducible (k_here; (with_reducible (refine' my_fdiv3 ?z47z ?z47y ?z47x ?_)); (case z47z => with_reducible assumption); (case z47y => with_reducible assumption); (case z47x => with_reducible assumption); (try dsimp only)))) | ((with_reducible show wpAny _ _ (binaryOp Operator.Add (Value.str _ _) (Value.str _ _)) _ _ _); first | (with_reducible (k_here; (with_reducible first | (refine lead_1 ?z46z ?_; (case z46z => omega)) | (refine lead_2 ?z46z ?z46y ?_; (case z46z => omega); (case z46y => omega)) | (refine lead_3 ?z46z ?z46y ?_; (case z46z => omega); (case z46y => omega))); intro t9_q k9_q; (try dsimp only)))) | ((with_reducible show wpAny _ _ (binaryOp Operator.Mult (Value.str _ _) (Value.int _ _)) _ _ _); first | (with_reducible (k_here; k_dflt (refine lead_0 ?z45z ?_; (case z45z => omega)); intro t9_q k9_q; (try dsimp only)))) | ((with_reducible show wpAny _ _ (call (Value.ref _) _) _ _ _); first | (with_reducible (k_here; k_dflt ((refine' ct_col ?z44k1 ?z44k2 ?z44k3 ?z44k4 ?z44k5 ?z44k6 ?z44p0 ?z44p1 ?z44p2 ?z44p3 ?z44p4 ?z44kd ?_); (case z44k1 => k_asm); (case z44k2 => k_asm); (case z44k3 => k_asm); (case z44k4 => k_asm); (case z44k5 => k_asm); (case z44k6 => first | exact rfl | assumption); (case z44p0 => kcj_all); (case z44p1 => exact size_ok (by with_reducible assumption) (by with_reducible assumption)); (case z44p2 => assumption); (case z44p3 => assumption); (case z44p4 => with_reducible assumption); (case z44kd => ktr_room); k_whole; intro h9_q tk9_q t9_q F9_q N9_q; (try dsimp only)); (try k_sweep); skip)) | (with_reducible (k_here; k_dflt ((refine' ct_ws ?z43k1 ?z43k2 ?z43k3 ?z43k4 ?z43k5 ?z43k6 ?z43p0 ?z43p1 ?z43kd ?_); (case z43k1 => k_asm); (case z43k2 => k_asm); (case z43k3 => k_asm); (case z43k4 => k_asm); (case z43k5 => k_asm); (case z43k6 => first | exact rfl | assumption); (case z43p0 => omega); (case z43p1 => omega); (case z43kd => ktr_room); k_whole; intro O9_q d9_q Tn9_q Tc9_q vs9_q t1_q t2_q t3_q t4_q t5_q n9_q nt9_q tn9_q tb9_q bs9_q h9_q tk9_q hI9_q F9_q N9_q l9_q l8_q; (try dsimp only)); (k_lt l9_q); (try k_sweep))) | (with_reducible (k_here; k_dflt ((refine' ct_onB ?z42k1 ?z42k2 ?z42k3 ?z42k4 ?z42k5 ?z42k6 ?z42p0 ?z42p1 ?z42kd ?_); (case z42k1 => k_asm); (case z42k2 => k_asm); (case z42k3 => k_asm); (case z42k4 => k_asm); (case z42k5 => k_asm); (case z42k6 => first | exact rfl | assumption); (case z42p0 => kcj_all); (case z42p1 => omega); (case z42kd => ktr_room); k_whole; intro h9_q tk9_q F9_q N9_q; (try dsimp only)); (try k_sweep); (try k_fold)))) | ((with_reducible show wpAny _ _ (eval (Expr.Call ..) _) _ _ _); first | (with_reducible k_dflt (refine Call_ ?_))) | ((with_reducible show wpAny _ _ (subscriptTail (Expr.Subscript ..) (Expr.Constant ..) (Value.ref _) (Value.int _ _)) _ _ _); first | (with_reducible (k_here; (with_reducible show wpAny _ _ (subscriptTail _ _ (Value.ref _) (Value.int _ _)) _ _ _); (with_reducible rename News _ _ _ _ => N9_q); (k_dflt (refine' my_item ?z2k1 ?z2k2 ?z2k3 ?z2k4 ?_ ?z2k6; (case z2k1 => exact my_listof N9_q (by kcj_m)); (case z2k2 => decide); (case z2k3 => decide); (case z2k4 => exact rfl); (case z2k6 => with_unfolding_all rfl))); (try dsimp only)))) | ((with_reducible show wpAny _ _ (subscriptTail (Expr.Subscript ..) (Expr.BinOp ..) (Value.ref _) (Value.int _ _)) _ _ _); first | (with_reducible (k_here; (with_reducible show wpAny _ _ (subscriptTail _ _ (Value.ref _) (Value.int _ _)) _ _ _); (with_reducible rename News _ _ _ _ => N9_q); (k_dflt (refine' my_item ?z2k1 ?z2k2 ?z2k3 ?z2k4 ?_ ?z2k6; (case z2k1 => exact my_listof N9_q (by kcj_m)); (case z2k2 => decide); (case z2k3 => decide); (case z2k4 => exact rfl); (case z2k6 => with_unfolding_all rfl))); (try dsimp only)))) | ((with_reducible show wpAny _ _ (subscriptTail (Expr.Subscript ..) (Expr.Name ..) (Value.ref _) (Value.int _ _)) _ _ _); first | (with_reducible (k_here; (with_reducible show wpAny _ _ (subscriptTail _ _ (Value.ref _) (Value.int _ _)) _ _ _); (with_reducible rename News _ _ _ _ => N9_q); (k_dflt (refine' my_item ?z2k1 ?z2k2 ?z2k3 ?z2k4 ?_ ?z2k6; (case z2k1 => exact my_listof N9_q (by kcj_m)); (case z2k2 => decide); (case z2k3 => decide); (case z2k4 => exact rfl); (case z2k6 => with_unfolding_all rfl))); (try dsimp only)))) | ((with_reducible show wpAny _ _ (subscriptTail (Expr.Name ..) (Expr.BinOp ..) (Value.ref _) (Value.int _ _)) _ _ _); first | (with_reducible (k_here; (with_reducible show wpAny _ _ (subscriptTail _ _ (Value.ref _) (Value.int _ _)) _ _ _); (with_reducible rename News _ _ _ _ => N9_q); (k_dflt (refine' my_item ?z2k1 ?z2k2 ?z2k3 ?z2k4 ?_ ?z2k6; (case z2k1 => exact my_listof N9_q (by kcj_m)); (case z2k2 => decide); (case z2k3 => decide); (case z2k4 => exact rfl); (case z2k6 => with_unfolding_all rfl))); (try dsimp only)))) | ((with_reducible show wpAny _ _ (subscriptTail (Expr.Name ..) (Expr.Name ..) (Value.ref _) (Value.int _ _)) _ _ _); first | (with_reducible (k_here; (with_reducible show wpAny _ _ (subscriptTail _ _ (Value.ref _) (Value.int _ _)) _ _ _); (with_reducible rename News _ _ _ _ => N9_q); (k_dflt (refine' my_item ?z2k1 ?z2k2 ?z2k3 ?z2k4 ?_ ?z2k6; (case z2k1 => exact my_listof N9_q (by kcj_m)); (case z2k2 => decide); (case z2k3 => decide); (case z2k4 => exact rfl); (case z2k6 => with_unfolding_all rfl))); (try dsimp only)))) | ((with_reducible show wpAny _ _ (subscriptTail (Expr.Name ..) (Expr.Constant ..) (Value.ref _) (Value.int _ _)) _ _ _); first | (with_reducible (k_here; (with_reducible show wpAny _ _ (subscriptTail _ _ (Value.ref _) (Value.int _ _)) _ _ _); (with_reducible rename News _ _ _ _ => N9_q); (k_dflt (refine' my_item ?z2k1 ?z2k2 ?z2k3 ?z2k4 ?_ ?z2k6; (case z2k1 => exact my_listof N9_q (by kcj_m)); (case z2k2 => decide); (case z2k3 => decide); (case z2k4 => exact rfl); (case z2k6 => with_unfolding_all rfl))); (try dsimp only)))) | ((with_reducible show wpAny _ _ (subscriptTail _ _ _ _) _ _ _); first | (with_reducible (k_here; (with_reducible show wpAny _ _ (subscriptTail _ _ (Value.ref _) (Value.int _ _)) _ _ _); (with_reducible rename News _ _ _ _ => N9_q); (k_dflt (refine' my_item ?z2k1 ?z2k2 ?z2k3 ?z2k4 ?_ ?z2k6; (case z2k1 => exact my_listof N9_q (by kcj_m)); (case z2k2 => decide); (case z2k3 => decide); (case z2k4 => exact rfl); (case z2k6 => with_unfolding_all rfl))); (try dsimp only)))) | ((with_reducible show wpAny _ _ (storeName _ _ _) _ _ _); first | (with_reducible (k_here; (try dsimp only); k_dflt (refine' storeX_L ?z0F ?z0N ?_ ?z0a ?z0b; (case z0F => k_asm); (case z0N => k_asm); (case z0a => rfl); (case z0b => rfl); k_whole; intro h_q' F_q' N_q'; let mk_q := mOf F_q'; have Fk_q : Fr _ _ _ mk_q := F_q'; (try k_sweep))))) | walk1 | (dsimp only; walk1) | (leave1; (try dsimp only)) | fail "no step"))
    · exact next_as (by assumption) (by assumption) (by kcj_all)
    · unfold Stop
      obtain ⟨q1, q2, q3, hq, y1, y2, y3⟩ := cols_are hi' hex
      rename (IntsAre _ (List.map _ (rangeKs _ _))) => hA
      rename (IntsAre _ (List.map _ (List.map _ _))) => hB
      rw [hq] at hA hB
      obtain ⟨ta, tb, tc, e1⟩ := ints3 hA
      obtain ⟨td, te, tf, e2⟩ := ints3 (show IntsAre _ [16 - q1, 16 - q2, 16 - q3] from hB)
      subst e1 e2
      clear hA hB hq
      k_listUnr
      (repeat' (first | (k_unfold; (try dsimp only)) | (k_end; kc_close) | ((with_reducible first | show wpAny _ _ (execs _ _) _ _ _ | show wpAny _ _ (exec (.For ..) _) _ _ _ | show wpAny _ _ (exec (.While ..) _) _ _ _); k_fold) | ((with_reducible show wpAny _ _ (pyIter (Value.ref _)) _ _ _); first | (with_reducible (k_here; (with_reducible show wpAny _ _ (pyIter (Value.ref _)) (fun it s₂ => TurnsAt _ _ _ _ _ _ _ _ _ it s₂) _ _); k_dflt (refine Stop.out ?_))) | (with_reducible (k_here; (with_reducible show wpAny _ _ (pyIter (Value.ref _)) (fun it s₂ => LoopAtV _ _ _ _ _ _ _ _ _ it s₂) _ _); k_dflt (refine Stop.out ?_)))) | ((with_reducible show wpAny _ _ (exec (Stmt.For (Expr.Name ..) (Expr.Call ..) _ _ _) _) _ _ _); first | (with_reducible (k_here; (rename Fr _ _ _ _ => lF_q'); (with_unfolding_all refine' For_turns lF_q' ?_; k_whole)))) | ((with_reducible show UnrEnd ..); first | (with_reducible ((with_reducible show UnrEnd _ _ _ _ _ (JS _ _ _ _) _); k_dflt (refine Stop.out ?_)))) | ((with_reducible show wpAny _ _ (exec (Stmt.If ..) _) _ _ _); first | (with_reducible (k_here; (fail_if_success (with_reducible show wpAny _ _ _ (NextAs _ _ _ _ _) _ _)); (with_reducible rename Fr _ _ _ _ => F8_q); (with_reducible rename News _ _ _ _ => N8_q); (k_dflt refine' cut_if F8_q N8_q ?_ ?_); rotate_left; (clear F8_q N8_q; intro h8_q tk8_q F8_q N8_q; (try dsimp only)); rotate_right))) | ((with_reducible show wpAny _ _ (compareOp CmpOp.NotEq (Value.ref _) (Value.ref _)) _ _ _); first | (with_reducible (k_here; (k_dflt (refine' ne_same ?z49k1 ?z49k2 ?z49k3 ?z49k4 ?z49k5 ?_; (case z49k1 => exact my_listof (by k_asm) (by k_mem)); (case z49k3 => exact my_listof (by k_asm) (by k_mem)); (case z49k2 => with_reducible assumption); (case z49k4 => with_reducible assumption); (case z49k5 => exact units_one (by with_reducible assumption)))); (try dsimp only)))) | ((with_reducible show wpAny _ _ (binaryOp Operator.Mult (Value.int _ _) (Value.int _ _)) _ _ _); first | (with_reducible (k_here; (with_reducible (refine my_mul3 ?z48z ?z48y ?_)); (case z48z => with_reducible assumption); (case z48y => with_reducible assumption); (try dsimp only)))) | ((with_reducible show wpAny _ _ (binaryOp Operator.FloorDiv (Value.int _ _) (Value.int _ _)) _ _ _); first | (with_reducible (k_here; (with_reducible (refine' my_fdiv3 ?z47z ?z47y ?z47x ?_)); (case z47z => with_reducible assumption); (case z47y => with_reducible assumption); (case z47x => with_reducible assumption); (try dsimp only)))) | ((with_reducible show wpAny _ _ (binaryOp Operator.Add (Value.str _ _) (Value.str _ _)) _ _ _); first | (with_reducible (k_here; (with_reducible first | (refine lead_1 ?z46z ?_; (case z46z => omega)) | (refine lead_2 ?z46z ?z46y ?_; (case z46z => omega); (case z46y => omega)) | (refine lead_3 ?z46z ?z46y ?_; (case z46z => omega); (case z46y => omega))); intro t9_q k9_q; (try dsimp only)))) | ((with_reducible show wpAny _ _ (binaryOp Operator.Mult (Value.str _ _) (Value.int _ _)) _ _ _); first | (with_reducible (k_here; k_dflt (refine lead_0 ?z45z ?_; (case z45z => omega)); intro t9_q k9_q; (try dsimp only)))) | ((with_reducible show wpAny _ _ (call (Value.ref _) _) _ _ _); first | (with_reducible (k_here; k_dflt ((refine' ct_col ?z44k1 ?z44k2 ?z44k3 ?z44k4 ?z44k5 ?z44k6 ?z44p0 ?z44p1 ?z44p2 ?z44p3 ?z44p4 ?z44kd ?_); (case z44k1 => k_asm); (case z44k2 => k_asm); (case z44k3 => k_asm); (case z44k4 => k_asm); (case z44k5 => k_asm); (case z44k6 => first | exact rfl | assumption); (case z44p0 => kcj_all); (case z44p1 => exact size_ok (by with_reducible assumption) (by with_reducible assumption)); (case z44p2 => assumption); (case z44p3 => assumption); (case z44p4 => with_reducible assumption); (case z44kd => ktr_room); k_whole; intro h9_q tk9_q t9_q F9_q N9_q; (try dsimp only)); (try k_sweep); skip)) | (with_reducible (k_here; k_dflt ((refine' ct_ws ?z43k1 ?z43k2 ?z43k3 ?z43k4 ?z43k5 ?z43k6 ?z43p0 ?z43p1 ?z43kd ?_); (case z43k1 => k_asm); (case z43k2 => k_asm); (case z43k3 => k_asm); (case z43k4 => k_asm); (case z43k5 => k_asm); (case z43k6 => first | exact rfl | assumption); (case z43p0 => omega); (case z43p1 => omega); (case z43kd => ktr_room); k_whole; intro O9_q d9_q Tn9_q Tc9_q vs9_q t1_q t2_q t3_q t4_q t5_q n9_q nt9_q tn9_q tb9_q bs9_q h9_q tk9_q hI9_q F9_q N9_q l9_q l8_q; (try dsimp only)); (k_lt l9_q); (try k_sweep))) | (with_reducible (k_here; k_dflt ((refine' ct_onB ?z42k1 ?z42k2 ?z42k3 ?z42k4 ?z42k5 ?z42k6 ?z42p0 ?z42p1 ?z42kd ?_); (case z42k1 => k_asm); (case z42k2 => k_asm); (case z42k3 => k_asm); (case z42k4 => k_asm); (case z42k5 => k_asm); (case z42k6 => first | exact rfl | assumption); (case z42p0 => kcj_all); (case z42p1 => omega); (case z42kd => ktr_room); k_whole; intro h9_q tk9_q F9_q N9_q; (try dsimp only)); (try k_sweep); (try k_fold)))) | ((with_reducible show wpAny _ _ (eval (Expr.Call ..) _) _ _ _); first | (with_reducible k_dflt (refine Call_ ?_))) | ((with_reducible show wpAny _ _ (subscriptTail (Expr.Subscript ..) (Expr.Constant ..) (Value.ref _) (Value.int _ _)) _ _ _); first | (with_reducible (k_here; (with_reducible show wpAny _ _ (subscriptTail _ _ (Value.ref _) (Value.int _ _)) _ _ _); (with_reducible rename News _ _ _ _ => N9_q); (k_dflt (refine' my_item ?z2k1 ?z2k2 ?z2k3 ?z2k4 ?_ ?z2k6; (case z2k1 => exact my_listof N9_q (by kcj_m)); (case z2k2 => decide); (case z2k3 => decide); (case z2k4 => exact rfl); (case z2k6 => with_unfolding_all rfl))); (try dsimp only)))) | ((with_reducible show wpAny _ _ (subscriptTail (Expr.Subscript ..) (Expr.BinOp ..) (Value.ref _) (Value.int _ _)) _ _ _); first | (with_reducible (k_here; (with_reducible show wpAny _ _ (subscriptTail _ _ (Value.ref _) (Value.int _ _)) _ _ _); (with_reducible rename News _ _ _ _ => N9_q); (k_dflt (refine' my_item ?z2k1 ?z2k2 ?z2k3 ?z2k4 ?_ ?z2k6; (case z2k1 => exact my_listof N9_q (by kcj_m)); (case z2k2 => decide); (case z2k3 => decide); (case z2k4 => exact rfl); (case z2k6 => with_unfolding_all rfl))); (try dsimp only)))) | ((with_reducible show wpAny _ _ (subscriptTail (Expr.Subscript ..) (Expr.Name ..) (Value.ref _) (Value.int _ _)) _ _ _); first | (with_reducible (k_here; (with_reducible show wpAny _ _ (subscriptTail _ _ (Value.ref _) (Value.int _ _)) _ _ _); (with_reducible rename News _ _ _ _ => N9_q); (k_dflt (refine' my_item ?z2k1 ?z2k2 ?z2k3 ?z2k4 ?_ ?z2k6; (case z2k1 => exact my_listof N9_q (by kcj_m)); (case z2k2 => decide); (case z2k3 => decide); (case z2k4 => exact rfl); (case z2k6 => with_unfolding_all rfl))); (try dsimp only)))) | ((with_reducible show wpAny _ _ (subscriptTail (Expr.Name ..) (Expr.BinOp ..) (Value.ref _) (Value.int _ _)) _ _ _); first | (with_reducible (k_here; (with_reducible show wpAny _ _ (subscriptTail _ _ (Value.ref _) (Value.int _ _)) _ _ _); (with_reducible rename News _ _ _ _ => N9_q); (k_dflt (refine' my_item ?z2k1 ?z2k2 ?z2k3 ?z2k4 ?_ ?z2k6; (case z2k1 => exact my_listof N9_q (by kcj_m)); (case z2k2 => decide); (case z2k3 => decide); (case z2k4 => exact rfl); (case z2k6 => with_unfolding_all rfl))); (try dsimp only)))) | ((with_reducible show wpAny _ _ (subscriptTail (Expr.Name ..) (Expr.Name ..) (Value.ref _) (Value.int _ _)) _ _ _); first | (with_reducible (k_here; (with_reducible show wpAny _ _ (subscriptTail _ _ (Value.ref _) (Value.int _ _)) _ _ _); (with_reducible rename News _ _ _ _ => N9_q); (k_dflt (refine' my_item ?z2k1 ?z2k2 ?z2k3 ?z2k4 ?_ ?z2k6; (case z2k1 => exact my_listof N9_q (by kcj_m)); (case z2k2 => decide); (case z2k3 => decide); (case z2k4 => exact rfl); (case z2k6 => with_unfolding_all rfl))); (try dsimp only)))) | ((with_reducible show wpAny _ _ (subscriptTail (Expr.Name ..) (Expr.Constant ..) (Value.ref _) (Value.int _ _)) _ _ _); first | (with_reducible (k_here; (with_reducible show wpAny _ _ (subscriptTail _ _ (Value.ref _) (Value.int _ _)) _ _ _); (with_reducible rename News _ _ _ _ => N9_q); (k_dflt (refine' my_item ?z2k1 ?z2k2 ?z2k3 ?z2k4 ?_ ?z2k6; (case z2k1 => exact my_listof N9_q (by kcj_m)); (case z2k2 => decide); (case z2k3 => decide); (case z2k4 => exact rfl); (case z2k6 => with_unfolding_all rfl))); (try dsimp only)))) | ((with_reducible show wpAny _ _ (subscriptTail _ _ _ _) _ _ _); first | (with_reducible (k_here; (with_reducible show wpAny _ _ (subscriptTail _ _ (Value.ref _) (Value.int _ _)) _ _ _); (with_reducible rename News _ _ _ _ => N9_q); (k_dflt (refine' my_item ?z2k1 ?z2k2 ?z2k3 ?z2k4 ?_ ?z2k6; (case z2k1 => exact my_listof N9_q (by kcj_m)); (case z2k2 => decide); (case z2k3 => decide); (case z2k4 => exact rfl); (case z2k6 => with_unfolding_all rfl))); (try dsimp only)))) | ((with_reducible show wpAny _ _ (storeName _ _ _) _ _ _); first | (with_reducible (k_here; (try dsimp only); k_dflt (refine' storeX_L ?z0F ?z0N ?_ ?z0a ?z0b; (case z0F => k_asm); (case z0N => k_asm); (case z0a => rfl); (case z0b => rfl); k_whole; intro h_q' F_q' N_q'; let mk_q := mOf F_q'; have Fk_q : Fr _ _ _ mk_q := F_q'; (try k_sweep))))) | walk1 | (dsimp only; walk1) | (leave1; (try dsimp only)) | fail "no step"))
      all_goals first
        | exact (lead3 hu (by with_reducible assumption) (by with_reducible assumption) (by with_reducible assumption) (by with_reducible assumption)).elim
        | exact next_as (by assumption) (by assumption) (by kcj_all)
        | (refine' (show Stop _ from (lead_turn (by assumption) (by assumption) (by k_mem) (by k_mem) (by k_mem) (by kcj_all) hne rfl rfl (by assumption) (by assumption))))
  · intro c m₁ h tk hP F' N'
    dsimp only [lled, lps, kstB] at *
    (repeat' (first | (k_unfold; (try dsimp only)) | (k_end; kc_close) | ((with_reducible first | show wpAny _ _ (execs _ _) _ _ _ | show wpAny _ _ (exec (.For ..) _) _ _ _ | show wpAny _ _ (exec (.While ..) _) _ _ _); k_fold) | ((with_reducible show wpAny _ _ (pyIter (Value.ref _)) _ _ _); first | (with_reducible (k_here; (with_reducible show wpAny _ _ (pyIter (Value.ref _)) (fun it s₂ => TurnsAt _ _ _ _ _ _ _ _ _ it s₂) _ _); k_dflt (refine Stop.out ?_))) | (with_reducible (k_here; (with_reducible show wpAny _ _ (pyIter (Value.ref _)) (fun it s₂ => LoopAtV _ _ _ _ _ _ _ _ _ it s₂) _ _); k_dflt (refine Stop.out ?_)))) | ((with_reducible show wpAny _ _ (exec (Stmt.For (Expr.Name ..) (Expr.Call ..) _ _ _) _) _ _ _); first | (with_reducible (k_here; (rename Fr _ _ _ _ => lF_q'); (with_unfolding_all refine' For_turns lF_q' ?_; k_whole)))) | ((with_reducible show UnrEnd ..); first | (with_reducible ((with_reducible show UnrEnd _ _ _ _ _ (JS _ _ _ _) _); k_dflt (refine Stop.out ?_)))) | ((with_reducible show wpAny _ _ (exec (Stmt.If ..) _) _ _ _); first | (with_reducible (k_here; (fail_if_success (with_reducible show wpAny _ _ _ (NextAs _ _ _ _ _) _ _)); (with_reducible rename Fr _ _ _ _ => F8_q); (with_reducible rename News _ _ _ _ => N8_q); (k_dflt refine' cut_if F8_q N8_q ?_ ?_); rotate_left; (clear F8_q N8_q; intro h8_q tk8_q F8_q N8_q; (try dsimp only)); rotate_right))) | ((with_reducible show wpAny _ _ (compareOp CmpOp.NotEq (Value.ref _) (Value.ref _)) _ _ _); first | (with_reducible (k_here; (k_dflt (refine' ne_same ?z49k1 ?z49k2 ?z49k3 ?z49k4 ?z49k5 ?_; (case z49k1 => exact my_listof (by k_asm) (by k_mem)); (case z49k3 => exact my_listof (by k_asm) (by k_mem)); (case z49k2 => with_reducible assumption); (case z49k4 => with_reducible assumption); (case z49k5 => exact units_one (by with_reducible assumption)))); (try dsimp only)))) | ((with_reducible show wpAny _ _ (binaryOp Operator.Mult (Value.int _ _) (Value.int _ _)) _ _ _); first | (with_reducible (k_here; (with_reducible (refine my_mul3 ?z48z ?z48y ?_)); (case z48z => with_reducible assumption); (case z48y => with_reducible assumption); (try dsimp only)))) | ((with_reducible show wpAny _ _ (binaryOp Operator.FloorDiv (Value.int _ _) (Value.int _ _)) _ _ _); first | (with_reducible (k_here; (with_reducible (refine' my_fdiv3 ?z47z ?z47y ?z47x ?_)); (case z47z => with_reducible assumption); (case z47y => with_reducible assumption); (case z47x => with_reducible assumption); (try dsimp only)))) | ((with_reducible show wpAny _ _ (binaryOp Operator.Add (Value.str _ _) (Value.str _ _)) _ _ _); first | (with_reducible (k_here; (with_reducible first | (refine lead_1 ?z46z ?_; (case z46z => omega)) | (refine lead_2 ?z46z ?z46y ?_; (case z46z => omega); (case z46y => omega)) | (refine lead_3 ?z46z ?z46y ?_; (case z46z => omega); (case z46y => omega))); intro t9_q k9_q; (try dsimp only)))) | ((with_reducible show wpAny _ _ (binaryOp Operator.Mult (Value.str _ _) (Value.int _ _)) _ _ _); first | (with_reducible (k_here; k_dflt (refine lead_0 ?z45z ?_; (case z45z => omega)); intro t9_q k9_q; (try dsimp only)))) | ((with_reducible show wpAny _ _ (call (Value.ref _) _) _ _ _); first | (with_reducible (k_here; k_dflt ((refine' ct_col ?z44k1 ?z44k2 ?z44k3 ?z44k4 ?z44k5 ?z44k6 ?z44p0 ?z44p1 ?z44p2 ?z44p3 ?z44p4 ?z44kd ?_); (case z44k1 => k_asm); (case z44k2 => k_asm); (case z44k3 => k_asm); (case z44k4 => k_asm); (case z44k5 => k_asm); (case z44k6 => first | exact rfl | assumption); (case z44p0 => kcj_all); (case z44p1 => exact size_ok (by with_reducible assumption) (by with_reducible assumption)); (case z44p2 => assumption); (case z44p3 => assumption); (case z44p4 => with_reducible assumption); (case z44kd => ktr_room); k_whole; intro h9_q tk9_q t9_q F9_q N9_q; (try dsimp only)); (try k_sweep); skip)) | (with_reducible (k_here; k_dflt ((refine' ct_ws ?z43k1 ?z43k2 ?z43k3 ?z43k4 ?z43k5 ?z43k6 ?z43p0 ?z43p1 ?z43kd ?_); (case z43k1 => k_asm); (case z43k2 => k_asm); (case z43k3 => k_asm); (case z43k4 => k_asm); (case z43k5 => k_asm); (case z43k6 => first | exact rfl | assumption); (case z43p0 => omega); (case z43p1 => omega); (case z43kd => ktr_room); k_whole; intro O9_q d9_q Tn9_q Tc9_q vs9_q t1_q t2_q t3_q t4_q t5_q n9_q nt9_q tn9_q tb9_q bs9_q h9_q tk9_q hI9_q F9_q N9_q l9_q l8_q; (try dsimp only)); (k_lt l9_q); (try k_sweep))) | (with_reducible (k_here; k_dflt ((refine' ct_onB ?z42k1 ?z42k2 ?z42k3 ?z42k4 ?z42k5 ?z42k6 ?z42p0 ?z42p1 ?z42kd ?_); (case z42k1 => k_asm); (case z42k2 => k_asm); (case z42k3 => k_asm); (case z42k4 => k_asm); (case z42k5 => k_asm); (case z42k6 => first | exact rfl | assumption); (case z42p0 => kcj_all); (case z42p1 => omega); (case z42kd => ktr_room); k_whole; intro h9_q tk9_q F9_q N9_q; (try dsimp only)); (try k_sweep); (try k_fold)))) | ((with_reducible show wpAny _ _ (eval (Expr.Call ..) _) _ _ _); first | (with_reducible k_dflt (refine Call_ ?_))) | ((with_reducible show wpAny _ _ (subscriptTail (Expr.Subscript ..) (Expr.Constant ..) (Value.ref _) (Value.int _ _)) _ _ _); first | (with_reducible (k_here; (with_reducible show wpAny _ _ (subscriptTail _ _ (Value.ref _) (Value.int _ _)) _ _ _); (with_reducible rename News _ _ _ _ => N9_q); (k_dflt (refine' my_item ?z2k1 ?z2k2 ?z2k3 ?z2k4 ?_ ?z2k6; (case z2k1 => exact my_listof N9_q (by kcj_m)); (case z2k2 => decide); (case z2k3 => decide); (case z2k4 => exact rfl); (case z2k6 => with_unfolding_all rfl))); (try dsimp only)))) | ((with_reducible show wpAny _ _ (subscriptTail (Expr.Subscript ..) (Expr.BinOp ..) (Value.ref _) (Value.int _ _)) _ _ _); first | (with_reducible (k_here; (with_reducible show wpAny _ _ (subscriptTail _ _ (Value.ref _) (Value.int _ _)) _ _ _); (with_reducible rename News _ _ _ _ => N9_q); (k_dflt (refine' my_item ?z2k1 ?z2k2 ?z2k3 ?z2k4 ?_ ?z2k6; (case z2k1 => exact my_listof N9_q (by kcj_m)); (case z2k2 => decide); (case z2k3 => decide); (case z2k4 => exact rfl); (case z2k6 => with_unfolding_all rfl))); (try dsimp only)))) | ((with_reducible show wpAny _ _ (subscriptTail (Expr.Subscript ..) (Expr.Name ..) (Value.ref _) (Value.int _ _)) _ _ _); first | (with_reducible (k_here; (with_reducible show wpAny _ _ (subscriptTail _ _ (Value.ref _) (Value.int _ _)) _ _ _); (with_reducible rename News _ _ _ _ => N9_q); (k_dflt (refine' my_item ?z2k1 ?z2k2 ?z2k3 ?z2k4 ?_ ?z2k6; (case z2k1 => exact my_listof N9_q (by kcj_m)); (case z2k2 => decide); (case z2k3 => decide); (case z2k4 => exact rfl); (case z2k6 => with_unfolding_all rfl))); (try dsimp only)))) | ((with_reducible show wpAny _ _ (subscriptTail (Expr.Name ..) (Expr.BinOp ..) (Value.ref _) (Value.int _ _)) _ _ _); first | (with_reducible (k_here; (with_reducible show wpAny _ _ (subscriptTail _ _ (Value.ref _) (Value.int _ _)) _ _ _); (with_reducible rename News _ _ _ _ => N9_q); (k_dflt (refine' my_item ?z2k1 ?z2k2 ?z2k3 ?z2k4 ?_ ?z2k6; (case z2k1 => exact my_listof N9_q (by kcj_m)); (case z2k2 => decide); (case z2k3 => decide); (case z2k4 => exact rfl); (case z2k6 => with_unfolding_all rfl))); (try dsimp only)))) | ((with_reducible show wpAny _ _ (subscriptTail (Expr.Name ..) (Expr.Name ..) (Value.ref _) (Value.int _ _)) _ _ _); first | (with_reducible (k_here; (with_reducible show wpAny _ _ (subscriptTail _ _ (Value.ref _) (Value.int _ _)) _ _ _); (with_reducible rename News _ _ _ _ => N9_q); (k_dflt (refine' my_item ?z2k1 ?z2k2 ?z2k3 ?z2k4 ?_ ?z2k6; (case z2k1 => exact my_listof N9_q (by kcj_m)); (case z2k2 => decide); (case z2k3 => decide); (case z2k4 => exact rfl); (case z2k6 => with_unfolding_all rfl))); (try dsimp only)))) | ((with_reducible show wpAny _ _ (subscriptTail (Expr.Name ..) (Expr.Constant ..) (Value.ref _) (Value.int _ _)) _ _ _); first | (with_reducible (k_here; (with_reducible show wpAny _ _ (subscriptTail _ _ (Value.ref _) (Value.int _ _)) _ _ _); (with_reducible rename News _ _ _ _ => N9_q); (k_dflt (refine' my_item ?z2k1 ?z2k2 ?z2k3 ?z2k4 ?_ ?z2k6; (case z2k1 => exact my_listof N9_q (by kcj_m)); (case z2k2 => decide); (case z2k3 => decide); (case z2k4 => exact rfl); (case z2k6 => with_unfolding_all rfl))); (try dsimp only)))) | ((with_reducible show wpAny _ _ (subscriptTail _ _ _ _) _ _ _); first | (with_reducible (k_here; (with_reducible show wpAny _ _ (subscriptTail _ _ (Value.ref _) (Value.int _ _)) _ _ _); (with_reducible rename News _ _ _ _ => N9_q); (k_dflt (refine' my_item ?z2k1 ?z2k2 ?z2k3 ?z2k4 ?_ ?z2k6; (case z2k1 => exact my_listof N9_q (by kcj_m)); (case z2k2 => decide); (case z2k3 => decide); (case z2k4 => exact rfl); (case z2k6 => with_unfolding_all rfl))); (try dsimp only)))) | ((with_reducible show wpAny _ _ (storeName _ _ _) _ _ _); first | (with_reducible (k_here; (try dsimp only); k_dflt (refine' storeX_L ?z0F ?z0N ?_ ?z0a ?z0b; (case z0F => k_asm); (case z0N => k_asm); (case z0a => rfl); (case z0b => rfl); k_whole; intro h_q' F_q' N_q'; let mk_q := mOf F_q'; have Fk_q : Fr _ _ _ mk_q := F_q'; (try k_sweep))))) | walk1 | (dsimp only; walk1) | (leave1; (try dsimp only)) | fail "no step"))
    exact ret _ _ (by k_asm) (Back.end0 (by assumption) (by assumption) (by assumption) (by kcj_all))
end
end

section -- Wm40
theorem words_law {a0 a1 a2 b0 b1 b2 c0 c1 c2 : Int} : (onL a0 a1 a2 c0 c1 c2 b0 b1 b2 ∨ onL b0 b1 b2 a0 a1 a2 c0 c1 c2 ∨ onL c0 c1 c2 b0 b1 b2 a0 a1 a2) ↔
    ¬ Uniq (a0 + b1 + c2) (a0 + b2 + c1) (a1 + b0 + c2) (a1 + b2 + c0) (a2 + b0 + c1) (a2 + b1 + c0) := by
  rw [← six_law]
  unfold Six onL
  have e1 : a0 + min (c1 + b2) (c2 + b1) = min (a0 + b1 + c2) (a0 + b2 + c1) := e_min' (by omega) (by omega)
  have e2 : a1 + min (c0 + b2) (c2 + b0) = min (a1 + b0 + c2) (a1 + b2 + c0) := e_min' (by omega) (by omega)
  have e3 : a2 + min (c0 + b1) (c1 + b0) = min (a2 + b0 + c1) (a2 + b1 + c0) := e_min' (by omega) (by omega)
  have f1 : b0 + min (a1 + c2) (a2 + c1) = min (a1 + b0 + c2) (a2 + b0 + c1) := e_min (by omega) (by omega)
  have f2 : b1 + min (a0 + c2) (a2 + c0) = min (a0 + b1 + c2) (a2 + b1 + c0) := e_min (by omega) (by omega)
  have f3 : b2 + min (a0 + c1) (a1 + c0) = min (a0 + b2 + c1) (a1 + b2 + c0) := e_min (by omega) (by omega)
  have g1 : c0 + min (b1 + a2) (b2 + a1) = min (a1 + b2 + c0) (a2 + b1 + c0) := e_min' (by omega) (by omega)
  have g2 : c1 + min (b0 + a2) (b2 + a0) = min (a0 + b2 + c1) (a2 + b0 + c1) := e_min' (by omega) (by omega)
  have g3 : c2 + min (b0 + a1) (b1 + a0) = min (a0 + b1 + c2) (a1 + b0 + c2) := e_min' (by omega) (by omega)
  rw [e1, e2, e3, f1, f2, f3, g1, g2, g3]
  have h2 : on3 (min (a1 + b0 + c2) (a2 + b0 + c1)) (min (a0 + b1 + c2) (a2 + b1 + c0)) (min (a0 + b2 + c1) (a1 + b2 + c0)) ↔ on3 (min (a0 + b1 + c2) (a2 + b1 + c0)) (min (a1 + b0 + c2) (a2 + b0 + c1)) (min (a0 + b2 + c1) (a1 + b2 + c0)) := on3_12
  have h3 : on3 (min (a1 + b2 + c0) (a2 + b1 + c0)) (min (a0 + b2 + c1) (a2 + b0 + c1)) (min (a0 + b1 + c2) (a1 + b0 + c2)) ↔ on3 (min (a0 + b1 + c2) (a1 + b0 + c2)) (min (a1 + b2 + c0) (a2 + b1 + c0)) (min (a0 + b2 + c1) (a2 + b0 + c1)) := on3_312
  exact or_congr Iff.rfl (or_congr h2 h3)
theorem uniq_st {p q r s t u : Int} (h : Uniq p q r s t u) : Uniq p q r t s u := by
  rcases h with ⟨h1, h2, h3, h4, h5⟩ | ⟨h1, h2, h3, h4, h5⟩ | ⟨h1, h2, h3, h4, h5⟩ | ⟨h1, h2, h3, h4, h5⟩ | ⟨h1, h2, h3, h4, h5⟩ | ⟨h1, h2, h3, h4, h5⟩
  · exact .inl ⟨h1, h2, h4, h3, h5⟩
  · exact .inr (.inl ⟨h1, h2, h4, h3, h5⟩)
  · exact .inr (.inr (.inl ⟨h1, h2, h4, h3, h5⟩))
  · exact .inr (.inr (.inr (.inr (.inl ⟨h1, h2, h3, h4, h5⟩))))
  · exact .inr (.inr (.inr (.inl ⟨h1, h2, h3, h4, h5⟩)))
  · exact .inr (.inr (.inr (.inr (.inr ⟨h1, h2, h3, h5, h4⟩))))
theorem marks_law {a0 a1 a2 b0 b1 b2 c0 c1 c2 : Int} : (onL a0 b0 c0 a2 b2 c2 a1 b1 c1 ∨ onL a1 b1 c1 a0 b0 c0 a2 b2 c2 ∨ onL a2 b2 c2 a1 b1 c1 a0 b0 c0) ↔
    ¬ Uniq (a0 + b1 + c2) (a0 + b2 + c1) (a1 + b0 + c2) (a1 + b2 + c0) (a2 + b0 + c1) (a2 + b1 + c0) := by
  rw [words_law]
  have e2 : a0 + c1 + b2 = a0 + b2 + c1 := by omega
  have e3 : b0 + a1 + c2 = a1 + b0 + c2 := by omega
  have e4 : b0 + c1 + a2 = a2 + b0 + c1 := by omega
  have e5 : c0 + a1 + b2 = a1 + b2 + c0 := by omega
  have e6 : c0 + b1 + a2 = a2 + b1 + c0 := by omega
  rw [e2, e3, e4, e5, e6]
  exact not_congr ⟨uniq_st, uniq_st⟩
section
variable {prog : Program} {w : World} {A : Around} {E : Value → Shared → Prop} {s : Shared} {h₀ : Heap} {L : Addr} {m : Str → Option Value} {news : List (Addr × Obj)}
theorem my_head {value slice : PySem.Expr} {l : Addr} {vs : List Value} {c : Int} {rest : List Int} {u : Tok} {Q : Value → Shared → Prop}
    (hl : s.heap.IsList l vs.toArray) (hI : IntsAre vs (c :: rest)) (h : ∀ t, Q (.int c t) s)
    (hs : subscripted slice false (.ref l) (.int 0 u) = operate [.ref l, .int 0 u] (getItem (.ref l) (.int 0 u))) :
    wpAny (model prog w) A (subscriptTail value slice (.ref l) (.int 0 u)) Q E s := by
  obtain ⟨t, e⟩ := ints_at hI 0 (by simp)
  exact my_item hl (by decide) (by decide) e (h t) hs
theorem my_six {value slice : PySem.Expr} {l : Addr} {vs : List Value} {d0 d1 d2 d3 d4 d5 d6 : Int} {rest : List Int} {u : Tok} {Q : Value → Shared → Prop}
    (hl : s.heap.IsList l vs.toArray) (hI : IntsAre vs (d0 :: d1 :: d2 :: d3 :: d4 :: d5 :: d6 :: rest)) (h : ∀ t, Q (.int d6 t) s)
    (hs : subscripted slice false (.ref l) (.int 6 u) = operate [.ref l, .int 6 u] (getItem (.ref l) (.int 6 u))) :
    wpAny (model prog w) A (subscriptTail value slice (.ref l) (.int 6 u)) Q E s := by
  obtain ⟨t, e⟩ := ints_at hI 6 (by simp only [List.length_cons]; omega)
  exact my_item hl (by decide) (by decide) e (h t) hs
theorem ne_six {a : Int} {t u : Tok} {Q : Value → Shared → Prop} (e : a = 6) (h : Q (.bool false) s) : wpAny (model prog w) A (compareOp .NotEq (.int a t) (.int 6 u)) Q E s := by
  subst e; exact PyProof.Rows.ne_int h
theorem lt_zero {a : Int} {t u : Tok} {Q : Value → Shared → Prop} {P : Prop} (e : P ∧ 0 ≤ a) (h : Q (.bool false) s) : wpAny (model prog w) A (compareOp .Lt (.int a t) (.int 0 u)) Q E s :=
  PyProof.Rows.lt_int (by rw [decide_eq_false (by omega)]; exact h)
theorem ne_bools {a b : Bool} {Q : Value → Shared → Prop} (e : a = b) (h : Q (.bool false) s) : wpAny (model prog w) A (compareOp .NotEq (.bool a) (.bool b)) Q E s := by
  subst e; exact ne_bool (by cases a <;> exact h)
theorem dec_same {x c : Int} {P o U : Prop} (h : (0 < x ↔ o) ∧ P) (ho : o ↔ ¬ U) (hc : 1 < c ↔ ¬ U) : decide (0 < x) = decide (1 < c) := by
  rw [decide_eq_decide]; exact h.1.trans (ho.trans hc.symm)
end
end

section -- C16
theorem ne_cell {h : Heap} {D c : Addr} {o1 o : Obj} {v : Option Value} (N : News h₀ L h news) (hm : (D, o1) ∈ news) (hc : (c, o) ∈ news) (hd : o.data = .cell v) (hs : ∀ v, o1.data ≠ .cell v) : @Ne Nat D c := fun e => by
  have e' : D = c := e
  subst e'
  have h1 := (N _ hm).1
  have h2 := (N _ hc).1
  rw [h1] at h2
  have h3 : o1 = o := Option.some.inj h2
  exact hs v (h3 ▸ hd)
inductive UpdC (d : Addr) (o : Obj) : List (Addr × Obj) → (Obj → List (Addr × Obj)) → Prop
  | head {r} : (∀ p ∈ r, p.1 ≠ d ∨ ∀ v, p.2.data ≠ .cell v) → UpdC d o ((d, o) :: r) (fun o' => (d, o') :: r)
  | tail {p r g} : (p.1 ≠ d ∨ ∀ v, p.2.data ≠ .cell v) → UpdC d o r g → UpdC d o (p :: r) (fun o' => p :: g o')
theorem UpdC.updF {h : Heap} {all : List (Addr × Obj)} {d : Addr} {o : Obj} {v : Option Value} (N : News h₀ L h all) (hm : (d, o) ∈ all) (hd : o.data = .cell v) : ∀ {l : List (Addr × Obj)} {g : Obj → List (Addr × Obj)}, (∀ p ∈ l, p ∈ all) → UpdC d o l g → UpdF d o l g := by
  have key : ∀ p ∈ all, (p.1 ≠ d ∨ ∀ v, p.2.data ≠ .cell v) → p.1 ≠ d := fun p hp h => by
    rcases h with h | h
    · exact h
    · exact ne_cell N hp hm hd h
  intro l g hl U
  induction U with
  | head h => exact .head fun p hp => key p (hl p (.tail _ hp)) (h p hp)
  | tail h _ ih => exact .tail (key _ (hl _ (.head _)) h) (ih fun p hp => hl p (.tail _ hp))
theorem UpdC.mem {d : Addr} {o : Obj} {l : List (Addr × Obj)} {g : Obj → List (Addr × Obj)} (U : UpdC d o l g) : (d, o) ∈ l := by
  induction U with
  | head _ => exact .head _
  | tail _ _ ih => exact .tail _ ih
theorem store_C {M : Model} {A : Around} {E : Value → Shared → Prop} {c : Addr} {o : Obj} {v₀ : Option Value} {v : Value} {x : Str} {g : Obj → List (Addr × Obj)} {Q : Unit → Shared → Prop} (F : Fr h₀ L s.heap m) (N : News h₀ L s.heap news) (hc : cl.lookup x = some c) (U : UpdC c o news g) (hd : o.data = .cell v₀)
    (h : ∀ h' o', Fr h₀ L h' m → News h₀ L h' (g o') → o'.data = .cell (some v) → Q () { s with heap := h' })
    (hk : cs.kind = .function) (hx : (envX cn cs L a ccd cl).kindOf x = some .cell) : wpAny M A (storeName (envX cn cs L a ccd cl) x v) Q E s :=
  storeX_C F N hc (U.updF N U.mem hd fun _ h => h) hd h hk hx
theorem ne_obj {h : Heap} {D c : Addr} {o1 o : Obj} (N : News h₀ L h news) (hm : (D, o1) ∈ news) (hc : (c, o) ∈ news) (hs : o1 ≠ o) : @Ne Nat D c := fun e => by
  have e' : D = c := e
  subst e'
  have h1 := (N _ hm).1
  have h2 := (N _ hc).1
  rw [h1] at h2
  exact hs (Option.some.inj h2)
theorem ne_tab30 {h : Heap} {D c : Addr} {its : Array Value} {n : Nat} {ps : Array Value} (N : News h₀ L h news) (hc : (c, tabObj ps) ∈ news) (hm : (D, listOf its n) ∈ news) : @Ne Nat D c := ne_obj N hm hc (by intro e; cases e)
theorem cell_ne_tab {o : Obj} {v : Option Value} {ps : Array Value} (hd : o.data = .cell v) : o ≠ tabObj ps := fun e => by rw [e] at hd; cases hd
inductive UpdN (d : Addr) (o : Obj) : List (Addr × Obj) → (Obj → List (Addr × Obj)) → Prop
  | head {r} : (∀ p ∈ r, p.1 ≠ d ∨ p.2 ≠ o) → UpdN d o ((d, o) :: r) (fun o' => (d, o') :: r)
  | tail {p r g} : (p.1 ≠ d ∨ p.2 ≠ o) → UpdN d o r g → UpdN d o (p :: r) (fun o' => p :: g o')
theorem UpdN.mem {d : Addr} {o : Obj} {l : List (Addr × Obj)} {g : Obj → List (Addr × Obj)} (U : UpdN d o l g) : (d, o) ∈ l := by
  induction U with
  | head _ => exact .head _
  | tail _ _ ih => exact .tail _ ih
theorem UpdN.updF_ {h : Heap} {all : List (Addr × Obj)} {d : Addr} {o : Obj} (N : News h₀ L h all) (hm : (d, o) ∈ all) : ∀ {l : List (Addr × Obj)} {g : Obj → List (Addr × Obj)}, (∀ p ∈ l, p ∈ all) → UpdN d o l g → UpdF d o l g := by
  have key : ∀ p ∈ all, (p.1 ≠ d ∨ p.2 ≠ o) → p.1 ≠ d := fun p hp h => by
    rcases h with h | h
    · exact h
    · exact ne_obj N hp hm h
  intro l g hl U
  induction U with
  | head h => exact .head fun p hp => key p (hl p (.tail _ hp)) (h p hp)
  | tail h _ ih => exact .tail (key _ (hl _ (.head _)) h) (ih fun p hp => hl p (.tail _ hp))
theorem UpdN.updF {h : Heap} {all : List (Addr × Obj)} {d : Addr} {o : Obj} {g : Obj → List (Addr × Obj)} (N : News h₀ L h all) (U : UpdN d o all g) : UpdF d o all g := U.updF_ N U.mem fun _ h => h
theorem lst_nc {its : Array Value} {n : Nat} : ∀ v, (listOf its n).data ≠ .cell v := fun _ => nofun
theorem tab_nc {ps : Array Value} : ∀ v, (tabObj ps).data ≠ .cell v := fun _ => nofun
theorem UpdC.lst {d D : Addr} {o : Obj} {its : Array Value} {n : Nat} {r : List (Addr × Obj)} {g : Obj → List (Addr × Obj)} (U : UpdC d o r g) : UpdC d o ((D, listOf its n) :: r) (fun o' => (D, listOf its n) :: g o') := .tail (.inr lst_nc) U
theorem UpdC.tab {d D : Addr} {o : Obj} {its : Array Value} {r : List (Addr × Obj)} {g : Obj → List (Addr × Obj)} (U : UpdC d o r g) : UpdC d o ((D, tabObj its) :: r) (fun o' => (D, tabObj its) :: g o') := .tail (.inr tab_nc) U
theorem UpdC.next {d : Nat} {o oc : Obj} {r : List (Addr × Obj)} {g : Obj → List (Addr × Obj)} (U : UpdC (d + 1) o r g) : UpdC (d + 1) o ((d, oc) :: r) (fun o' => (d, oc) :: g o') := .tail (.inl (Nat.ne_of_lt (Nat.lt_succ_self d))) U
theorem UpdC.last {d : Nat} {o oc : Obj} {ps : Array Value} : UpdC (d + 1) o [(d + 1, o), (d, oc), (30, tabObj ps)] (fun o' => [(d + 1, o'), (d, oc), (30, tabObj ps)]) :=
  .head (List.forall_mem_cons.mpr ⟨.inl (Nat.ne_of_lt (Nat.lt_succ_self d)), List.forall_mem_cons.mpr ⟨.inr tab_nc, List.forall_mem_nil _⟩⟩)
theorem UpdC.last' {d : Nat} {o oc : Obj} {ps : Array Value} : UpdC (d + 1) o [(d, oc), (d + 1, o), (30, tabObj ps)] (fun o' => [(d, oc), (d + 1, o'), (30, tabObj ps)]) :=
  .tail (.inl (Nat.ne_of_lt (Nat.lt_succ_self d))) (.head (List.forall_mem_cons.mpr ⟨.inr tab_nc, List.forall_mem_nil _⟩))
theorem UpdT.lst {d D : Addr} {ps its : Array Value} {n : Nat} {r : List (Addr × Obj)} {g : Obj → List (Addr × Obj)} (U : UpdN d (tabObj ps) r g) : UpdN d (tabObj ps) ((D, listOf its n) :: r) (fun o' => (D, listOf its n) :: g o') := .tail (.inr (by intro e; cases e)) U
theorem UpdT.cell {d D : Addr} {ps : Array Value} {oc : Obj} {v : Option Value} {r : List (Addr × Obj)} {g : Obj → List (Addr × Obj)} (hd : oc.data = .cell v) (U : UpdN d (tabObj ps) r g) : UpdN d (tabObj ps) ((D, oc) :: r) (fun o' => (D, oc) :: g o') := .tail (.inr (cell_ne_tab hd)) U
theorem UpdT.last {d : Addr} {ps : Array Value} : UpdN d (tabObj ps) [(d, tabObj ps)] (fun o' => [(d, o')]) := .head (List.forall_mem_nil _)
theorem UpdC.first {d : Nat} {o oc : Obj} {ps : Array Value} : UpdC d o [(d + 1, oc), (d, o), (30, tabObj ps)] (fun o' => [(d + 1, oc), (d, o'), (30, tabObj ps)]) :=
  .tail (.inl (Nat.ne_of_gt (Nat.lt_succ_self d))) (.head (List.forall_mem_cons.mpr ⟨.inr tab_nc, List.forall_mem_nil _⟩))
theorem cost2 {a b c d : Nat} : 0 ≤ cost a b + cost c d ∧ cost a b + cost c d ≤ 4 := by
  have h1 := cost_b a b
  have h2 := cost_b c d
  omega
theorem ex3 {d : Int} : 0 ≤ Int.fmod d 3 ∧ Int.fmod d 3 ≤ 2 := ⟨fmod_lo d (by decide), Int.le_of_lt_add_one (fmod_hi d (by decide))⟩
theorem uniq_of {c : Int} {U : Prop} (hc : 1 < c ↔ ¬ U) (e : decide (1 < c) = false) : U := Classical.byContradiction fun h => absurd (hc.mpr h) (of_decide_eq_false e)
theorem sl_to {v0 v1 v2 v3 v4 v5 : Value} : (slicePick [v0, v1, v2, v3, v4, v5].toArray none (some 3) none).toList = [v0, v1, v2] := by with_unfolding_all rfl
theorem sl_from {v0 v1 v2 v3 v4 v5 : Value} : (slicePick [v0, v1, v2, v3, v4, v5].toArray (some 3) none none).toList = [v3, v4, v5] := by with_unfolding_all rfl
theorem sum_b {x : Int} {a b c d : Nat} (h : x = cost a b + cost c d) : 0 ≤ x ∧ x ≤ 4 := h ▸ cost2
theorem keep_texts {h : Heap} {a b c d e f g i : Addr × Obj} (N : News h₀ L h [a, b, c, d, e, f, g, i]) : News h₀ L h [a, c, f, g, i] := cb_drop N (by
  intro p hp
  simp only [List.mem_cons, List.not_mem_nil, or_false] at hp ⊢
  rcases hp with e | e | e | e | e <;> simp [e])
theorem keep_table {h : Heap} {a b c d e : Addr × Obj} {r : List (Addr × Obj)} (N : News h₀ L h (a :: b :: c :: d :: e :: r)) : News h₀ L h (a :: b :: c :: d :: r) := fun p hp => N p (by
  simp only [List.mem_cons] at hp ⊢
  rcases hp with e | e | e | e | e
  · exact .inl e
  · exact .inr (.inl e)
  · exact .inr (.inr (.inl e))
  · exact .inr (.inr (.inr (.inl e)))
  · exact .inr (.inr (.inr (.inr (.inr e)))))
theorem keep_rest {h : Heap} {a b c d e : Addr × Obj} {r : List (Addr × Obj)} (N : News h₀ L h (a :: b :: c :: d :: e :: r)) : News h₀ L h r := fun p hp => N p (.tail _ (.tail _ (.tail _ (.tail _ (.tail _ hp)))))
theorem letter_fm {prog : Program} {A : Around} {value slice : PySem.Expr} {y : Int} {t u : Tok} {Q E : Value → Shared → Prop} (h : ∀ c, IsL c → Q (.str (Str.mk #[c]) s.toks) { s with toks := s.toks + 1 })
    (h3 : ∀ i, subscripted slice false (.str (Str.ofString "aAbB") t) (.int i u) = operate [.str (Str.ofString "aAbB") t, .int i u] (getItem (.str (Str.ofString "aAbB") t) (.int i u)))
    (h4 : ∀ r, letTemporaryGo value (.str (Str.ofString "aAbB") t) r = pure ()) : wpAny (model prog w) A (subscriptTail value slice (.str (Str.ofString "aAbB") t) (.int (y.fmod 4) u)) Q E s := by
  have e : y.fmod 4 = 0 ∨ y.fmod 4 = 1 ∨ y.fmod 4 = 2 ∨ y.fmod 4 = 3 := by
    rw [Int.fmod_eq_emod_of_nonneg _ (by decide)]
    omega
  rcases e with e | e | e | e
  · rw [e]; exact ms_it 4 (by with_unfolding_all rfl) (y := Str.mk #[97]) (by decide +kernel) (by decide) (by decide) (by decide) (h 97 (by unfold IsL; omega)) (h3 _) h4
  · rw [e]; exact ms_it 4 (by with_unfolding_all rfl) (y := Str.mk #[65]) (by decide +kernel) (by decide) (by decide) (by decide) (h 65 (by unfold IsL; omega)) (h3 _) h4
  · rw [e]; exact ms_it 4 (by with_unfolding_all rfl) (y := Str.mk #[98]) (by decide +kernel) (by decide) (by decide) (by decide) (h 98 (by unfold IsL; omega)) (h3 _) h4
  · rw [e]; exact ms_it 4 (by with_unfolding_all rfl) (y := Str.mk #[66]) (by decide +kernel) (by decide) (by decide) (by decide) (h 66 (by unfold IsL; omega)) (h3 _) h4
theorem add_two {prog : Program} {A : Around} {c d : Nat} {t u : Tok} {Q E : Value → Shared → Prop} (h : ∀ t' tk, Q (.str (Str.mk #[c, d]) t') { s with toks := tk }) : wpAny (model prog w) A (binaryOp .Add (.str (Str.mk #[c]) t) (.str (Str.mk #[d]) u)) Q E s :=
  PyProof.Rows.add_str h (by rw [sizeLine_eq]; show 1 + 1 ≤ _; omega)
theorem ct_apartX {c d c' d' : Nat} {t u : Tok} {x : Int} (B : Below A₀ base outer h₀) (F : Fr h₀ L s.heap m) (X : (Mine.fr.heap_1 w.params).In h₀) (N : News h₀ L s.heap news) (T : Top p loose mean mg mb h₀) (hk : cs.kind = .function) (hp : IsL c) (hq : IsL d) (hp' : IsL c') (hq' : IsL d') (hx : x = cost c c' + cost d d')
    (hd : dp + 2 < recursionLimit)
    (ret : ∀ h' tk' t', Fr h₀ L h' m → News h₀ L h' news → Q (.int x t') { s with heap := h', toks := tk' }) :
    wpAny (model PySem.Challenge.rw_sh0040_01.row.prog w) (ktrTop dp un gd cn cs L a ccd cl outer) (call (.ref 129) [.str (Str.mk #[c, d]) t, .str (Str.mk #[c', d']) u]) Q E s :=
  ct_apart B F X N T hk hp hq hp' hq' hd fun y h' tk' t' e F' N' => by subst e; subst hx; exact ret h' tk' t' F' N'
section
theorem tt : PySem.Challenge.rw_sh0040_01.Holds := by
  w_on
  refine holds_law hd_said (fun said => ?_)
  refine holds_open (q := vw) (loose := [Str.ofString "Whitespace"]) (Xt := xt) (XP := XL vw []) (Yf := Hook.obs (kmHook fr.heap_1 as0 as0_eq [30])) (Ya := Hook.val (kmHook fr.heap_1 as0 as0_eq [30])) (YP := Hook.says (kmHook fr.heap_1 as0 as0_eq [30])) (N := 2054) (hd_left "special-get-raises" hd_open hd_f hd_t) (Hook.of _) (Hook.keeps _) (fun s e => xl_of s (Bool.and_eq_true_iff.mp e).1) XL.keeps (by rfl) (by rfl) (by rfl) (fun s e => recFacts_of (Bool.and_eq_true_iff.mp e).2) (by rfl) (by first | assumption | decide +kernel) (by decide +kernel) ⟨rfl, rfl, rfl, rfl, rfl, by decide +kernel⟩ ?hw ?hc
  case hw => w_witness2
  clear said
  k_go0
  (all_goals try k_fold)
  (repeat' (first | (k_unfold; (try dsimp only)) | (k_end; kc_close) | ((with_reducible first | show wpAny _ _ (execs _ _) _ _ _ | show wpAny _ _ (exec (.For ..) _) _ _ _ | show wpAny _ _ (exec (.While ..) _) _ _ _ | show wpAny _ _ (eval _ _) (LCg.CompEnd ..) _ _ | show wpAny _ _ (eval _ _) (NestEnd ..) _ _); k_fold) | ((with_reducible show wpAny _ _ (subscriptTail (Expr.Name ..) (Expr.Constant ..) (Value.ref _) (Value.int _ _)) _ _ _); first | (with_reducible (k_here; (with_reducible rename News _ _ _ _ => N9_q); (first | ((with_reducible show wpAny _ _ (subscriptTail _ _ _ (Value.int 0 _)) _ _ _); k_dflt (refine' my_head ?z63w1 ?z63w2 ?_ ?z63w3; (case z63w1 => exact my_listof N9_q (by k_mem)); (case z63w2 => with_reducible assumption); (case z63w3 => with_unfolding_all rfl))) | ((with_reducible show wpAny _ _ (subscriptTail _ _ _ (Value.int 6 _)) _ _ _); k_dflt (refine' my_six ?z63w1 ?z63w2 ?_ ?z63w3; (case z63w1 => exact my_listof N9_q (by k_mem)); (case z63w2 => with_reducible assumption); (case z63w3 => with_unfolding_all rfl)))); intro t9_q; (try dsimp only))) | (with_reducible (k_here; (with_reducible show wpAny _ _ (subscriptTail _ _ (Value.ref _) (Value.int _ _)) _ _ _); (with_reducible rename News _ _ _ _ => N9_q); (k_dflt (refine' my_item ?z2k1 ?z2k2 ?z2k3 ?z2k4 ?_ ?z2k6; (case z2k1 => exact my_listof N9_q (by kcj_m)); (case z2k2 => decide); (case z2k3 => decide); (case z2k4 => exact rfl); (case z2k6 => with_unfolding_all rfl))); (try dsimp only)))) | ((with_reducible show wpAny _ _ (compareOp CmpOp.NotEq (Value.bool _) (Value.bool _)) _ _ _); first | (with_reducible (k_here; (with_reducible refine ne_bools ?z62e ?_); (case z62e => with_reducible first | exact dec_same (by with_reducible assumption) words_law (by with_reducible assumption) | exact dec_same (by with_reducible assumption) marks_law (by with_reducible assumption)); (try dsimp only)))) | ((with_reducible show wpAny _ _ (compareOp CmpOp.Lt (Value.int _ _) (Value.int _ _)) _ _ _); first | (with_reducible (k_here; (with_reducible refine' lt_zero ?z61e ?_); (case z61e => with_reducible assumption); (try dsimp only)))) | ((with_reducible show wpAny _ _ (compareOp CmpOp.NotEq (Value.int _ _) (Value.int _ _)) _ _ _); first | (with_reducible (k_here; (with_reducible refine ne_six (by with_reducible assumption) ?_); (try dsimp only)))) | ((with_reducible show wpAny _ _ (call (Value.ref _) _) _ _ _); first | (with_reducible (k_here; k_dflt ((refine' ct_thirds ?z60k1 ?z60k2 ?z60k3 ?z60k4 ?z60k5 ?z60k6 ?z60p0 ?z60p1 ?z60p2 ?z60p3 ?z60kd ?_); (case z60k1 => k_asm); (case z60k2 => k_asm); (case z60k3 => k_asm); (case z60k4 => k_asm); (case z60k5 => k_asm); (case z60k6 => first | exact rfl | assumption); (case z60p0 => kcj_all); (case z60p1 => exact ⟨sum_b (by with_reducible assumption), sum_b (by with_reducible assumption), sum_b (by with_reducible assumption)⟩); (case z60p2 => exact ⟨sum_b (by with_reducible assumption), sum_b (by with_reducible assumption), sum_b (by with_reducible assumption)⟩); (case z60p3 => exact ⟨sum_b (by with_reducible assumption), sum_b (by with_reducible assumption), sum_b (by with_reducible assumption)⟩); (case z60kd => ktr_room); k_whole; intro x9_q h9_q tk9_q t9_q hx9_q F9_q N9_q; (try dsimp only)); (try k_sweep); skip)) | (with_reducible (k_here; k_dflt ((refine' ct_leads ?z59k1 ?z59k2 ?z59k3 ?z59k4 ?z59k5 ?z59k6 ?z59p0 ?z59p1 ?z59p2 ?z59p3 ?z59p4 ?z59kd ?z59p5 ?z59p6 ?_); (case z59k1 => k_asm); (case z59k2 => k_asm); (case z59k3 => k_asm); (case z59k4 => k_asm); (case z59k5 => k_asm); (case z59k6 => first | exact rfl | assumption); (case z59p0 => kcj_all); (case z59p1 => exact ⟨sum_b (by with_reducible assumption), sum_b (by with_reducible assumption), sum_b (by with_reducible assumption)⟩); (case z59p2 => exact ⟨sum_b (by with_reducible assumption), sum_b (by with_reducible assumption), sum_b (by with_reducible assumption)⟩); (case z59p3 => exact ⟨sum_b (by with_reducible assumption), sum_b (by with_reducible assumption), sum_b (by with_reducible assumption)⟩); (case z59p4 => exact ex3); (case z59kd => ktr_room); (case z59p5 => exact Nat.le_of_ble_eq_true rfl); (case z59p6 => exact uniq_of (by with_reducible assumption)); k_whole; intro h9_q tk9_q F9_q N9_q; (try dsimp only)); (try k_sweep))) | (with_reducible (k_here; k_dflt ((refine' ct_ways ?z58k1 ?z58k2 ?z58k3 ?z58k4 ?z58k5 ?z58k6 ?z58p0 ?z58p1 ?z58p2 ?z58p3 ?z58p4 ?z58p5 ?z58p6 ?z58kd ?_); (case z58k1 => k_asm); (case z58k2 => k_asm); (case z58k3 => k_asm); (case z58k4 => k_asm); (case z58k5 => k_asm); (case z58k6 => first | exact rfl | assumption); (case z58p0 => kcj_all); (case z58p1 => exact ⟨sum_b (by with_reducible assumption), sum_b (by with_reducible assumption), sum_b (by with_reducible assumption)⟩); (case z58p2 => exact ⟨sum_b (by with_reducible assumption), sum_b (by with_reducible assumption), sum_b (by with_reducible assumption)⟩); (case z58p3 => exact ⟨sum_b (by with_reducible assumption), sum_b (by with_reducible assumption), sum_b (by with_reducible assumption)⟩); (case z58p4 => assumption); (case z58p5 => (refine' UpdN.updF ?z64N9 ?z64U9; (case z64N9 => k_asm); (case z64U9 => ((repeat (first | (with_reducible apply UpdT.lst) | (with_reducible apply UpdT.cell; (with_reducible assumption)))); (with_reducible exact UpdT.last))))); (case z58p6 => exact ⟨ne_tab30 (by k_asm) (by k_mem) (by k_mem), ne_tab30 (by k_asm) (by k_mem) (by k_mem), ne_tab30 (by k_asm) (by k_mem) (by k_mem), ne_tab30 (by k_asm) (by k_mem) (by k_mem)⟩); (case z58kd => ktr_room); k_whole; intro r9_q us9_q ws9_q n9_q ps9_q h9_q tk9_q i9_q W9_q F9_q N9_q l9_q; clear l9_q; (obtain ⟨c9_q, rest9_q, e9_q, s9_q, u9_q⟩ := W9_q); subst e9_q; (rw [List.sum_cons] at s9_q); (try dsimp only)); (try k_sweep))) | (with_reducible (k_here; k_dflt ((refine' ct_apartX ?z51k1 ?z51k2 ?z51k3 ?z51k4 ?z51k5 ?z51k6 ?z51p0 ?z51p1 ?z51p2 ?z51p3 ?z51p4 ?z51kd ?_); (case z51k1 => k_asm); (case z51k2 => k_asm); (case z51k3 => k_asm); (case z51k4 => k_asm); (case z51k5 => k_asm); (case z51k6 => first | exact rfl | assumption); (case z51p0 => with_reducible assumption); (case z51p1 => with_reducible assumption); (case z51p2 => with_reducible assumption); (case z51p3 => with_reducible assumption); (case z51p4 => with_reducible assumption); (case z51kd => ktr_room); k_whole; intro h9_q tk9_q t9_q F9_q N9_q; (try dsimp only)); (try k_sweep); skip)) | (with_reducible (k_here; k_dflt ((refine' ct_lev ?z50k1 ?z50k2 ?z50k3 ?z50k4 ?z50k5 ?z50k6 ?z50p0 ?z50p1 ?z50p2 ?z50p3 ?z50kd ?_); (case z50k1 => k_asm); (case z50k2 => k_asm); (case z50k3 => k_asm); (case z50k4 => k_asm); (case z50k5 => k_asm); (case z50k6 => first | exact rfl | assumption); (case z50p0 => with_reducible assumption); (case z50p1 => with_reducible assumption); (case z50p2 => with_reducible assumption); (case z50p3 => with_reducible assumption); (case z50kd => ktr_room); k_whole; intro x9_q h9_q tk9_q t9_q e9_q F9_q N9_q; (try dsimp only)); (try k_sweep); skip))) | ((with_reducible show wpAny _ _ (compareOp CmpOp.NotEq (Value.ref _) (Value.ref _)) _ _ _); first | (with_reducible (k_here; (with_reducible rename News _ _ _ _ => N9_q); k_dflt (refine' ne_tabs N9_q ?z57a0 ?z57a1 ?z57a2 ?z57a3 ?z57b0 ?z57b1 ?z57b2 ?z57b3 ?z57hu ?_; (case z57a0 => k_mem); (case z57a1 => k_mem); (case z57a2 => k_mem); (case z57a3 => k_mem); (case z57b0 => k_mem); (case z57b1 => k_mem); (case z57b2 => k_mem); (case z57b3 => k_mem); (case z57hu => exact Nat.le_of_ble_eq_true rfl)); (have N8_q := keep_rest N9_q); clear N9_q; (try dsimp only)))) | ((with_reducible show wpAny _ _ (subscriptTail (Expr.Name ..) (Expr.Slice ..) (Value.ref _) (Value.ref _)) _ _ _); first | (with_reducible (k_here; k_dflt (refine' kmk_slice_lit (s := ⟨_, _, _, _, _⟩) ?z56F ?z56N ?z56l ?z56p ?z56q ?z56e ?_ ?z56s ?z56t ?z56z; (case z56F => k_asm); (case z56N => k_asm); (case z56l => exact my_listof (by k_asm) (by k_mem)); (case z56p => first | exact IsPart.none | exact IsPart.int _ _); (case z56q => first | exact IsPart.none | exact IsPart.int _ _); (case z56e => first | exact sl_to | exact sl_from); (case z56s => with_unfolding_all rfl); (case z56t => (intro _; with_unfolding_all rfl)); (case z56z => exact Nat.le_of_ble_eq_true rfl)); intro D_q' h_q' F_q' N_q' l1_q; clear l1_q; (try k_sweep); (try dsimp only))) | (with_reducible (k_here; (with_reducible rename IntsAre _ (List.cons _ (List.cons _ (List.cons _ (List.cons _ (List.cons _ (List.cons _ (List.cons _ _))))))) => iD_q'); k_dflt (refine' kmk_slice_ints (s := ⟨_, _, _, _, _⟩) ?z55F ?z55N ?z55l ?z55p ?z55q ?z55i ?z55m ?z55c ?_ ?z55s ?z55t ?z55z; (case z55F => k_asm); (case z55N => k_asm); (case z55l => exact my_listof (by k_asm) (by k_mem)); (case z55p => exact IsPart.none); (case z55q => exact IsPart.int _ _); (case z55i => exact iD_q'); (case z55m => exact kmk_upto iD_q' (by decide)); (case z55c => exact rfl); (case z55s => with_unfolding_all rfl); (case z55t => (intro _; with_unfolding_all rfl)); (case z55z => (rw [List.size_toArray, sizeLine_eq]; omega))); intro D_q' ws_q' h_q' F_q' N_q' l1_q hI_q' hC_q' hL_q'; clear hC_q' hL_q'; (obtain ⟨t1_q, t2_q, t3_q, t4_q, t5_q, t6_q, e9_q⟩ := ints6 hI_q'); subst e9_q; clear hI_q'; (try k_lt l1_q); (try k_sweep); (try dsimp only)))) | ((with_reducible show wpAny _ _ (binaryOp Operator.Add (Value.ref _) (Value.ref _)) _ _ _); first | (with_reducible (k_here; (with_reducible rename IntsAre _ (List.drop _ _) => iD_q'); k_dflt (refine' kmk_add_ints ?z54F ?z54N ?z54a ?z54b ?z54i iD_q' ?_ ?z54z; (case z54F => k_asm); (case z54N => k_asm); (case z54a => kmk_list); (case z54b => exact my_listof (by k_asm) (by k_mem)); (case z54i => assumption); (case z54z => (simp only [List.length_drop, List.length_cons, List.length_nil, sizeLine_eq]; omega))); clear iD_q'; intro D_q' ws_q' h_q' F_q' N_q' l1_q hI_q'; (obtain ⟨d0_q, d1_q, d2_q, d3_q, d4_q, d5_q, d6_q, rest_q, hI_q', lD_q'⟩ := ints_drawn hI_q'); (try k_lt l1_q); (try k_sweep); (try dsimp only)))) | ((with_reducible show wpAny _ _ (subscriptTail (Expr.List ..) _ _ _) _ _ _); first | (with_reducible (k_here; k_dflt (refine kba_turn (value' := PySem.Expr.Name (PySem.Str.ofString "_") ⟨0, 0, 0, 0⟩) (fun _ => rfl) ?_); k_dflt (refine' kmk_slice_ints (s := ⟨_, _, _, _, _⟩) ?z53F ?z53N ?z53l ?z53p ?z53q ?z53i ?z53m ?z53c ?_ ?z53s ?z53t ?z53z; (case z53F => k_asm); (case z53N => k_asm); (case z53l => exact my_listof (by k_asm) (by k_mem)); (case z53p => exact IsPart.int _ _); (case z53q => exact IsPart.none); (case z53i => exact ints7); (case z53m => exact kmk_from ints7 (Int.natCast_nonneg _)); (case z53c => exact rfl); (case z53s => with_unfolding_all rfl); (case z53t => (intro _; with_unfolding_all rfl)); (case z53z => exact Nat.le_of_ble_eq_true rfl)); intro D_q' ws_q' h_q' F_q' N_q' l1_q hI_q' hC_q' hL_q'; clear hC_q' hL_q'; (try k_lt l1_q); (try k_sweep); (try dsimp only)))) | ((with_reducible show wpAny _ _ (binaryOp Operator.Add (Value.str _ _) (Value.str _ _)) _ _ _); first | (with_reducible (k_here; (with_reducible (refine add_two ?_)); intro t9_q k9_q; (try dsimp only)))) | ((with_reducible show wpAny _ _ (subscriptTail (Expr.Constant ..) _ _ _) _ _ _); first | (with_reducible (k_here; (k_dflt (refine letter_fm ?_ ?z52k1 ?z52k2; (case z52k1 => (intro _; with_unfolding_all rfl)); (case z52k2 => (intro _; with_unfolding_all rfl)))); intro c9_q hc9_q; (try dsimp only)))) | ((with_reducible show LCg.CompSrc ..); first | (with_reducible (k_here; k_dflt (refine LCg.CompSrc.ledger (by rfl) (by k_asm) (by k_asm) (by k_mem) (by first | size_fits | exact Nat.le_of_ble_eq_true rfl) ?_; intro g_q'; lcg_lit)))) | ((with_reducible show Mine.NestEnd ..); first | (with_reducible ((rename (_ ≠ _ ∧ _) => o9_q); k_dflt (first | (refine NestEnd.two (by k_asm) (by k_asm) ⟨Ne.symm o9_q.2.1, Ne.symm o9_q.2.2.1, Ne.symm o9_q.2.2.2.1, Ne.symm o9_q.2.2.2.2.1⟩ (by assumption) (by first | exact trivial | exact .inr ⟨_, by k_mem, rfl, _, rfl⟩) ?_) | (refine NestEnd.one (by k_asm) (by k_asm) ⟨Ne.symm o9_q.1, Ne.symm o9_q.2.1, Ne.symm o9_q.2.2.1, Ne.symm o9_q.2.2.2.1⟩ (by assumption) (by first | exact trivial | exact .inr ⟨_, by k_mem, rfl, _, rfl⟩) ?_)); clear o9_q; (try dsimp only)))) | ((with_reducible show LCg.CompEnd ..); first | (with_reducible (k_dflt (refine LCg.CompEnd.intro (by k_asm) (by k_asm) _ (fun _ h => h) (by with_reducible assumption) (by first | exact True.intro | exact Or.inr ⟨_, by k_mem, rfl, _, rfl⟩) ?_); (try dsimp only)))) | ((with_reducible show LCg.CompRest ..); first | (with_reducible (with_unfolding_all first | (refine LCg.CompRest.succ ?_; intro v_q' I_q' oI_q' C_q' oC_q' D_q' m_q' h_q' tk_q' E_q' hv_q' hC_q' hx_q' F_q' N_q' off_q' ne_q'; (first | lcg_open hv_q' | (obtain ⟨t9_q', hv9_q'⟩ := hv_q'; subst hv9_q'))) | refine LCg.CompRest.zero ?_))) | ((with_reducible show Mine.NestRest ..); first | (with_reducible ((repeat (rename ((_ ≠ _ ∧ _) ∧ _) => o9; clear o9)); (repeat (rename (_ ≠ _ ∧ _) => o9; clear o9)); first | (with_unfolding_all (refine NestRest.succ ?_; intro v_q' I_q' oI_q' C_q' oC_q' X_q' oX_q' D_q' h_q' tk_q' E_q' hv_q' hX_q' F_q' N_q' off_q' ne_q'; (first | lcg_open hv_q' | (obtain ⟨t9_q', hv9_q'⟩ := hv_q'; subst hv9_q')); (try dsimp only))) | ((k_dflt (refine NestRest.zero ?_)); (try unfold LCg.FinE); intro D_q' h_q' tk_q' F_q' N_q' o1_q'; (try simp only [LCg.Off1, and_true] at o1_q'); (try simp only [List.nil_append, List.cons_append] at N_q'); (try dsimp only))))) | ((with_reducible show Mine.NestSrc ..); first | (with_reducible (k_dflt (first | (refine NestSrc.ledger (by rfl) (by k_asm) (by k_asm) (by k_mem) (by exact Nat.le_of_ble_eq_true rfl) ?_; intro g_q'; change NestRest _ _ _ _ _ _ _ _ _ _ _ _ _ _ _ 3 0 [] _) | (refine NestSrc.range (n := 3) (by rfl) (by k_asm) (by k_asm) (by assumption) (by decide) (by rfl) (by exact Nat.le_of_ble_eq_true rfl) ?_; intro g_q'))))) | ((with_reducible show wpAny _ _ (eval (Expr.ListComp ..) _) _ _ _); first | (with_reducible (k_here; k_dflt (refine nest_comp (F₀ := by k_asm) (by rfl) (by intro _; rfl) (by intro _; rfl) (by rfl) (by decide) (by intro _ _; rfl) ?_))) | (with_reducible (k_here; lcg_look; lcg_calm; k_dflt (refine LCg.ListComp_U (F₀ := by k_asm) (by rfl) (by decide) (by rfl) (by decide) (by rfl) ?_)))) | ((with_reducible show wpAny _ _ (exec (Stmt.Assign ..) _) _ _ _); first | (with_reducible (k_here; lcg_look; lcg_calm; k_dflt (refine LCg.Assign_ListComp_U (F₀ := by k_asm) (by rfl) (by with_unfolding_all rfl) (by rfl) (by decide) (by rfl) (by decide) (by rfl) (by rfl) (by rfl) ?_)))) | ((with_reducible show wpAny _ _ (storeName _ _ _) _ _ _); first | (with_reducible (k_here; (with_reducible first | show wpAny _ _ (storeName _ (Str.ofString "table") _) _ _ _ | show wpAny _ _ (storeName _ (Str.ofString "texts") _) _ _ _); k_dflt (refine Stop.out ?_))) | (with_reducible (k_here; (try dsimp only); k_dflt (refine' storeX_L ?z0F ?z0N ?_ ?z0a ?z0b; (case z0F => k_asm); (case z0N => k_asm); (case z0a => rfl); (case z0b => rfl); k_whole; intro h_q' F_q' N_q'; let mk_q := mOf F_q'; have Fk_q : Fr _ _ _ mk_q := F_q'; (try k_sweep))))) | ((with_reducible show wpAny _ _ (eval (Expr.Call ..) _) _ _ _); first | (with_reducible k_dflt (refine Call_ ?_))) | ((with_reducible show wpAny _ _ (subscriptTail (Expr.Subscript ..) (Expr.Constant ..) (Value.ref _) (Value.int _ _)) _ _ _); first | (with_reducible (k_here; (with_reducible show wpAny _ _ (subscriptTail _ _ (Value.ref _) (Value.int _ _)) _ _ _); (with_reducible rename News _ _ _ _ => N9_q); (k_dflt (refine' my_item ?z2k1 ?z2k2 ?z2k3 ?z2k4 ?_ ?z2k6; (case z2k1 => exact my_listof N9_q (by kcj_m)); (case z2k2 => decide); (case z2k3 => decide); (case z2k4 => exact rfl); (case z2k6 => with_unfolding_all rfl))); (try dsimp only)))) | ((with_reducible show wpAny _ _ (subscriptTail (Expr.Subscript ..) (Expr.BinOp ..) (Value.ref _) (Value.int _ _)) _ _ _); first | (with_reducible (k_here; (with_reducible show wpAny _ _ (subscriptTail _ _ (Value.ref _) (Value.int _ _)) _ _ _); (with_reducible rename News _ _ _ _ => N9_q); (k_dflt (refine' my_item ?z2k1 ?z2k2 ?z2k3 ?z2k4 ?_ ?z2k6; (case z2k1 => exact my_listof N9_q (by kcj_m)); (case z2k2 => decide); (case z2k3 => decide); (case z2k4 => exact rfl); (case z2k6 => with_unfolding_all rfl))); (try dsimp only)))) | ((with_reducible show wpAny _ _ (subscriptTail (Expr.Subscript ..) (Expr.Name ..) (Value.ref _) (Value.int _ _)) _ _ _); first | (with_reducible (k_here; (with_reducible show wpAny _ _ (subscriptTail _ _ (Value.ref _) (Value.int _ _)) _ _ _); (with_reducible rename News _ _ _ _ => N9_q); (k_dflt (refine' my_item ?z2k1 ?z2k2 ?z2k3 ?z2k4 ?_ ?z2k6; (case z2k1 => exact my_listof N9_q (by kcj_m)); (case z2k2 => decide); (case z2k3 => decide); (case z2k4 => exact rfl); (case z2k6 => with_unfolding_all rfl))); (try dsimp only)))) | ((with_reducible show wpAny _ _ (subscriptTail (Expr.Name ..) (Expr.BinOp ..) (Value.ref _) (Value.int _ _)) _ _ _); first | (with_reducible (k_here; (with_reducible show wpAny _ _ (subscriptTail _ _ (Value.ref _) (Value.int _ _)) _ _ _); (with_reducible rename News _ _ _ _ => N9_q); (k_dflt (refine' my_item ?z2k1 ?z2k2 ?z2k3 ?z2k4 ?_ ?z2k6; (case z2k1 => exact my_listof N9_q (by kcj_m)); (case z2k2 => decide); (case z2k3 => decide); (case z2k4 => exact rfl); (case z2k6 => with_unfolding_all rfl))); (try dsimp only)))) | ((with_reducible show wpAny _ _ (subscriptTail (Expr.Name ..) (Expr.Name ..) (Value.ref _) (Value.int _ _)) _ _ _); first | (with_reducible (k_here; (with_reducible show wpAny _ _ (subscriptTail _ _ (Value.ref _) (Value.int _ _)) _ _ _); (with_reducible rename News _ _ _ _ => N9_q); (k_dflt (refine' my_item ?z2k1 ?z2k2 ?z2k3 ?z2k4 ?_ ?z2k6; (case z2k1 => exact my_listof N9_q (by kcj_m)); (case z2k2 => decide); (case z2k3 => decide); (case z2k4 => exact rfl); (case z2k6 => with_unfolding_all rfl))); (try dsimp only)))) | ((with_reducible show wpAny _ _ (subscriptTail _ _ _ _) _ _ _); first | (with_reducible (k_here; (with_reducible show wpAny _ _ (subscriptTail _ _ (Value.ref _) (Value.int _ _)) _ _ _); (with_reducible rename News _ _ _ _ => N9_q); (k_dflt (refine' my_item ?z2k1 ?z2k2 ?z2k3 ?z2k4 ?_ ?z2k6; (case z2k1 => exact my_listof N9_q (by kcj_m)); (case z2k2 => decide); (case z2k3 => decide); (case z2k4 => exact rfl); (case z2k6 => with_unfolding_all rfl))); (try dsimp only)))) | walk1 | (dsimp only; walk1) | (leave1; (try dsimp only)) | fail "no step"))
  unfold Stop
  (repeat (rename (_ ≠ _ ∧ _) => o9; clear o9))
  with_reducible rename Fr _ _ _ _ => F8
  with_reducible rename News _ _ _ _ => N8
  refine' store_C F8 N8 rfl ?U1 ?d1 ?_ rfl rfl
  case U1 => with_reducible exact UpdC.lst (UpdC.lst (UpdC.lst (UpdC.lst (UpdC.lst (UpdC.first)))))
  case d1 => with_reducible assumption
  intro h' o' F' N' d'
  have N7 := keep_texts N'
  clear N' F8 N8
  (try dsimp only)
  (repeat' (first | (k_unfold; (try dsimp only)) | (k_end; kc_close) | ((with_reducible first | show wpAny _ _ (execs _ _) _ _ _ | show wpAny _ _ (exec (.For ..) _) _ _ _ | show wpAny _ _ (exec (.While ..) _) _ _ _ | show wpAny _ _ (eval _ _) (LCg.CompEnd ..) _ _ | show wpAny _ _ (eval _ _) (NestEnd ..) _ _); k_fold) | ((with_reducible show wpAny _ _ (subscriptTail (Expr.Name ..) (Expr.Constant ..) (Value.ref _) (Value.int _ _)) _ _ _); first | (with_reducible (k_here; (with_reducible rename News _ _ _ _ => N9_q); (first | ((with_reducible show wpAny _ _ (subscriptTail _ _ _ (Value.int 0 _)) _ _ _); k_dflt (refine' my_head ?z63w1 ?z63w2 ?_ ?z63w3; (case z63w1 => exact my_listof N9_q (by k_mem)); (case z63w2 => with_reducible assumption); (case z63w3 => with_unfolding_all rfl))) | ((with_reducible show wpAny _ _ (subscriptTail _ _ _ (Value.int 6 _)) _ _ _); k_dflt (refine' my_six ?z63w1 ?z63w2 ?_ ?z63w3; (case z63w1 => exact my_listof N9_q (by k_mem)); (case z63w2 => with_reducible assumption); (case z63w3 => with_unfolding_all rfl)))); intro t9_q; (try dsimp only))) | (with_reducible (k_here; (with_reducible show wpAny _ _ (subscriptTail _ _ (Value.ref _) (Value.int _ _)) _ _ _); (with_reducible rename News _ _ _ _ => N9_q); (k_dflt (refine' my_item ?z2k1 ?z2k2 ?z2k3 ?z2k4 ?_ ?z2k6; (case z2k1 => exact my_listof N9_q (by kcj_m)); (case z2k2 => decide); (case z2k3 => decide); (case z2k4 => exact rfl); (case z2k6 => with_unfolding_all rfl))); (try dsimp only)))) | ((with_reducible show wpAny _ _ (compareOp CmpOp.NotEq (Value.bool _) (Value.bool _)) _ _ _); first | (with_reducible (k_here; (with_reducible refine ne_bools ?z62e ?_); (case z62e => with_reducible first | exact dec_same (by with_reducible assumption) words_law (by with_reducible assumption) | exact dec_same (by with_reducible assumption) marks_law (by with_reducible assumption)); (try dsimp only)))) | ((with_reducible show wpAny _ _ (compareOp CmpOp.Lt (Value.int _ _) (Value.int _ _)) _ _ _); first | (with_reducible (k_here; (with_reducible refine' lt_zero ?z61e ?_); (case z61e => with_reducible assumption); (try dsimp only)))) | ((with_reducible show wpAny _ _ (compareOp CmpOp.NotEq (Value.int _ _) (Value.int _ _)) _ _ _); first | (with_reducible (k_here; (with_reducible refine ne_six (by with_reducible assumption) ?_); (try dsimp only)))) | ((with_reducible show wpAny _ _ (call (Value.ref _) _) _ _ _); first | (with_reducible (k_here; k_dflt ((refine' ct_thirds ?z60k1 ?z60k2 ?z60k3 ?z60k4 ?z60k5 ?z60k6 ?z60p0 ?z60p1 ?z60p2 ?z60p3 ?z60kd ?_); (case z60k1 => k_asm); (case z60k2 => k_asm); (case z60k3 => k_asm); (case z60k4 => k_asm); (case z60k5 => k_asm); (case z60k6 => first | exact rfl | assumption); (case z60p0 => kcj_all); (case z60p1 => exact ⟨sum_b (by with_reducible assumption), sum_b (by with_reducible assumption), sum_b (by with_reducible assumption)⟩); (case z60p2 => exact ⟨sum_b (by with_reducible assumption), sum_b (by with_reducible assumption), sum_b (by with_reducible assumption)⟩); (case z60p3 => exact ⟨sum_b (by with_reducible assumption), sum_b (by with_reducible assumption), sum_b (by with_reducible assumption)⟩); (case z60kd => ktr_room); k_whole; intro x9_q h9_q tk9_q t9_q hx9_q F9_q N9_q; (try dsimp only)); (try k_sweep); skip)) | (with_reducible (k_here; k_dflt ((refine' ct_leads ?z59k1 ?z59k2 ?z59k3 ?z59k4 ?z59k5 ?z59k6 ?z59p0 ?z59p1 ?z59p2 ?z59p3 ?z59p4 ?z59kd ?z59p5 ?z59p6 ?_); (case z59k1 => k_asm); (case z59k2 => k_asm); (case z59k3 => k_asm); (case z59k4 => k_asm); (case z59k5 => k_asm); (case z59k6 => first | exact rfl | assumption); (case z59p0 => kcj_all); (case z59p1 => exact ⟨sum_b (by with_reducible assumption), sum_b (by with_reducible assumption), sum_b (by with_reducible assumption)⟩); (case z59p2 => exact ⟨sum_b (by with_reducible assumption), sum_b (by with_reducible assumption), sum_b (by with_reducible assumption)⟩); (case z59p3 => exact ⟨sum_b (by with_reducible assumption), sum_b (by with_reducible assumption), sum_b (by with_reducible assumption)⟩); (case z59p4 => exact ex3); (case z59kd => ktr_room); (case z59p5 => exact Nat.le_of_ble_eq_true rfl); (case z59p6 => exact uniq_of (by with_reducible assumption)); k_whole; intro h9_q tk9_q F9_q N9_q; (try dsimp only)); (try k_sweep))) | (with_reducible (k_here; k_dflt ((refine' ct_ways ?z58k1 ?z58k2 ?z58k3 ?z58k4 ?z58k5 ?z58k6 ?z58p0 ?z58p1 ?z58p2 ?z58p3 ?z58p4 ?z58p5 ?z58p6 ?z58kd ?_); (case z58k1 => k_asm); (case z58k2 => k_asm); (case z58k3 => k_asm); (case z58k4 => k_asm); (case z58k5 => k_asm); (case z58k6 => first | exact rfl | assumption); (case z58p0 => kcj_all); (case z58p1 => exact ⟨sum_b (by with_reducible assumption), sum_b (by with_reducible assumption), sum_b (by with_reducible assumption)⟩); (case z58p2 => exact ⟨sum_b (by with_reducible assumption), sum_b (by with_reducible assumption), sum_b (by with_reducible assumption)⟩); (case z58p3 => exact ⟨sum_b (by with_reducible assumption), sum_b (by with_reducible assumption), sum_b (by with_reducible assumption)⟩); (case z58p4 => assumption); (case z58p5 => (refine' UpdN.updF ?z64N9 ?z64U9; (case z64N9 => k_asm); (case z64U9 => ((repeat (first | (with_reducible apply UpdT.lst) | (with_reducible apply UpdT.cell; (with_reducible assumption)))); (with_reducible exact UpdT.last))))); (case z58p6 => exact ⟨ne_tab30 (by k_asm) (by k_mem) (by k_mem), ne_tab30 (by k_asm) (by k_mem) (by k_mem), ne_tab30 (by k_asm) (by k_mem) (by k_mem), ne_tab30 (by k_asm) (by k_mem) (by k_mem)⟩); (case z58kd => ktr_room); k_whole; intro r9_q us9_q ws9_q n9_q ps9_q h9_q tk9_q i9_q W9_q F9_q N9_q l9_q; clear l9_q; (obtain ⟨c9_q, rest9_q, e9_q, s9_q, u9_q⟩ := W9_q); subst e9_q; (rw [List.sum_cons] at s9_q); (try dsimp only)); (try k_sweep))) | (with_reducible (k_here; k_dflt ((refine' ct_apartX ?z51k1 ?z51k2 ?z51k3 ?z51k4 ?z51k5 ?z51k6 ?z51p0 ?z51p1 ?z51p2 ?z51p3 ?z51p4 ?z51kd ?_); (case z51k1 => k_asm); (case z51k2 => k_asm); (case z51k3 => k_asm); (case z51k4 => k_asm); (case z51k5 => k_asm); (case z51k6 => first | exact rfl | assumption); (case z51p0 => with_reducible assumption); (case z51p1 => with_reducible assumption); (case z51p2 => with_reducible assumption); (case z51p3 => with_reducible assumption); (case z51p4 => with_reducible assumption); (case z51kd => ktr_room); k_whole; intro h9_q tk9_q t9_q F9_q N9_q; (try dsimp only)); (try k_sweep); skip)) | (with_reducible (k_here; k_dflt ((refine' ct_lev ?z50k1 ?z50k2 ?z50k3 ?z50k4 ?z50k5 ?z50k6 ?z50p0 ?z50p1 ?z50p2 ?z50p3 ?z50kd ?_); (case z50k1 => k_asm); (case z50k2 => k_asm); (case z50k3 => k_asm); (case z50k4 => k_asm); (case z50k5 => k_asm); (case z50k6 => first | exact rfl | assumption); (case z50p0 => with_reducible assumption); (case z50p1 => with_reducible assumption); (case z50p2 => with_reducible assumption); (case z50p3 => with_reducible assumption); (case z50kd => ktr_room); k_whole; intro x9_q h9_q tk9_q t9_q e9_q F9_q N9_q; (try dsimp only)); (try k_sweep); skip))) | ((with_reducible show wpAny _ _ (compareOp CmpOp.NotEq (Value.ref _) (Value.ref _)) _ _ _); first | (with_reducible (k_here; (with_reducible rename News _ _ _ _ => N9_q); k_dflt (refine' ne_tabs N9_q ?z57a0 ?z57a1 ?z57a2 ?z57a3 ?z57b0 ?z57b1 ?z57b2 ?z57b3 ?z57hu ?_; (case z57a0 => k_mem); (case z57a1 => k_mem); (case z57a2 => k_mem); (case z57a3 => k_mem); (case z57b0 => k_mem); (case z57b1 => k_mem); (case z57b2 => k_mem); (case z57b3 => k_mem); (case z57hu => exact Nat.le_of_ble_eq_true rfl)); (have N8_q := keep_rest N9_q); clear N9_q; (try dsimp only)))) | ((with_reducible show wpAny _ _ (subscriptTail (Expr.Name ..) (Expr.Slice ..) (Value.ref _) (Value.ref _)) _ _ _); first | (with_reducible (k_here; k_dflt (refine' kmk_slice_lit (s := ⟨_, _, _, _, _⟩) ?z56F ?z56N ?z56l ?z56p ?z56q ?z56e ?_ ?z56s ?z56t ?z56z; (case z56F => k_asm); (case z56N => k_asm); (case z56l => exact my_listof (by k_asm) (by k_mem)); (case z56p => first | exact IsPart.none | exact IsPart.int _ _); (case z56q => first | exact IsPart.none | exact IsPart.int _ _); (case z56e => first | exact sl_to | exact sl_from); (case z56s => with_unfolding_all rfl); (case z56t => (intro _; with_unfolding_all rfl)); (case z56z => exact Nat.le_of_ble_eq_true rfl)); intro D_q' h_q' F_q' N_q' l1_q; clear l1_q; (try k_sweep); (try dsimp only))) | (with_reducible (k_here; (with_reducible rename IntsAre _ (List.cons _ (List.cons _ (List.cons _ (List.cons _ (List.cons _ (List.cons _ (List.cons _ _))))))) => iD_q'); k_dflt (refine' kmk_slice_ints (s := ⟨_, _, _, _, _⟩) ?z55F ?z55N ?z55l ?z55p ?z55q ?z55i ?z55m ?z55c ?_ ?z55s ?z55t ?z55z; (case z55F => k_asm); (case z55N => k_asm); (case z55l => exact my_listof (by k_asm) (by k_mem)); (case z55p => exact IsPart.none); (case z55q => exact IsPart.int _ _); (case z55i => exact iD_q'); (case z55m => exact kmk_upto iD_q' (by decide)); (case z55c => exact rfl); (case z55s => with_unfolding_all rfl); (case z55t => (intro _; with_unfolding_all rfl)); (case z55z => (rw [List.size_toArray, sizeLine_eq]; omega))); intro D_q' ws_q' h_q' F_q' N_q' l1_q hI_q' hC_q' hL_q'; clear hC_q' hL_q'; (obtain ⟨t1_q, t2_q, t3_q, t4_q, t5_q, t6_q, e9_q⟩ := ints6 hI_q'); subst e9_q; clear hI_q'; (try k_lt l1_q); (try k_sweep); (try dsimp only)))) | ((with_reducible show wpAny _ _ (binaryOp Operator.Add (Value.ref _) (Value.ref _)) _ _ _); first | (with_reducible (k_here; (with_reducible rename IntsAre _ (List.drop _ _) => iD_q'); k_dflt (refine' kmk_add_ints ?z54F ?z54N ?z54a ?z54b ?z54i iD_q' ?_ ?z54z; (case z54F => k_asm); (case z54N => k_asm); (case z54a => kmk_list); (case z54b => exact my_listof (by k_asm) (by k_mem)); (case z54i => assumption); (case z54z => (simp only [List.length_drop, List.length_cons, List.length_nil, sizeLine_eq]; omega))); clear iD_q'; intro D_q' ws_q' h_q' F_q' N_q' l1_q hI_q'; (obtain ⟨d0_q, d1_q, d2_q, d3_q, d4_q, d5_q, d6_q, rest_q, hI_q', lD_q'⟩ := ints_drawn hI_q'); (try k_lt l1_q); (try k_sweep); (try dsimp only)))) | ((with_reducible show wpAny _ _ (subscriptTail (Expr.List ..) _ _ _) _ _ _); first | (with_reducible (k_here; k_dflt (refine kba_turn (value' := PySem.Expr.Name (PySem.Str.ofString "_") ⟨0, 0, 0, 0⟩) (fun _ => rfl) ?_); k_dflt (refine' kmk_slice_ints (s := ⟨_, _, _, _, _⟩) ?z53F ?z53N ?z53l ?z53p ?z53q ?z53i ?z53m ?z53c ?_ ?z53s ?z53t ?z53z; (case z53F => k_asm); (case z53N => k_asm); (case z53l => exact my_listof (by k_asm) (by k_mem)); (case z53p => exact IsPart.int _ _); (case z53q => exact IsPart.none); (case z53i => exact ints7); (case z53m => exact kmk_from ints7 (Int.natCast_nonneg _)); (case z53c => exact rfl); (case z53s => with_unfolding_all rfl); (case z53t => (intro _; with_unfolding_all rfl)); (case z53z => exact Nat.le_of_ble_eq_true rfl)); intro D_q' ws_q' h_q' F_q' N_q' l1_q hI_q' hC_q' hL_q'; clear hC_q' hL_q'; (try k_lt l1_q); (try k_sweep); (try dsimp only)))) | ((with_reducible show wpAny _ _ (binaryOp Operator.Add (Value.str _ _) (Value.str _ _)) _ _ _); first | (with_reducible (k_here; (with_reducible (refine add_two ?_)); intro t9_q k9_q; (try dsimp only)))) | ((with_reducible show wpAny _ _ (subscriptTail (Expr.Constant ..) _ _ _) _ _ _); first | (with_reducible (k_here; (k_dflt (refine letter_fm ?_ ?z52k1 ?z52k2; (case z52k1 => (intro _; with_unfolding_all rfl)); (case z52k2 => (intro _; with_unfolding_all rfl)))); intro c9_q hc9_q; (try dsimp only)))) | ((with_reducible show LCg.CompSrc ..); first | (with_reducible (k_here; k_dflt (refine LCg.CompSrc.ledger (by rfl) (by k_asm) (by k_asm) (by k_mem) (by first | size_fits | exact Nat.le_of_ble_eq_true rfl) ?_; intro g_q'; lcg_lit)))) | ((with_reducible show Mine.NestEnd ..); first | (with_reducible ((rename (_ ≠ _ ∧ _) => o9_q); k_dflt (first | (refine NestEnd.two (by k_asm) (by k_asm) ⟨Ne.symm o9_q.2.1, Ne.symm o9_q.2.2.1, Ne.symm o9_q.2.2.2.1, Ne.symm o9_q.2.2.2.2.1⟩ (by assumption) (by first | exact trivial | exact .inr ⟨_, by k_mem, rfl, _, rfl⟩) ?_) | (refine NestEnd.one (by k_asm) (by k_asm) ⟨Ne.symm o9_q.1, Ne.symm o9_q.2.1, Ne.symm o9_q.2.2.1, Ne.symm o9_q.2.2.2.1⟩ (by assumption) (by first | exact trivial | exact .inr ⟨_, by k_mem, rfl, _, rfl⟩) ?_)); clear o9_q; (try dsimp only)))) | ((with_reducible show LCg.CompEnd ..); first | (with_reducible (k_dflt (refine LCg.CompEnd.intro (by k_asm) (by k_asm) _ (fun _ h => h) (by with_reducible assumption) (by first | exact True.intro | exact Or.inr ⟨_, by k_mem, rfl, _, rfl⟩) ?_); (try dsimp only)))) | ((with_reducible show LCg.CompRest ..); first | (with_reducible (with_unfolding_all first | (refine LCg.CompRest.succ ?_; intro v_q' I_q' oI_q' C_q' oC_q' D_q' m_q' h_q' tk_q' E_q' hv_q' hC_q' hx_q' F_q' N_q' off_q' ne_q'; (first | lcg_open hv_q' | (obtain ⟨t9_q', hv9_q'⟩ := hv_q'; subst hv9_q'))) | refine LCg.CompRest.zero ?_))) | ((with_reducible show Mine.NestRest ..); first | (with_reducible ((repeat (rename ((_ ≠ _ ∧ _) ∧ _) => o9; clear o9)); (repeat (rename (_ ≠ _ ∧ _) => o9; clear o9)); first | (with_unfolding_all (refine NestRest.succ ?_; intro v_q' I_q' oI_q' C_q' oC_q' X_q' oX_q' D_q' h_q' tk_q' E_q' hv_q' hX_q' F_q' N_q' off_q' ne_q'; (first | lcg_open hv_q' | (obtain ⟨t9_q', hv9_q'⟩ := hv_q'; subst hv9_q')); (try dsimp only))) | ((k_dflt (refine NestRest.zero ?_)); (try unfold LCg.FinE); intro D_q' h_q' tk_q' F_q' N_q' o1_q'; (try simp only [LCg.Off1, and_true] at o1_q'); (try simp only [List.nil_append, List.cons_append] at N_q'); (try dsimp only))))) | ((with_reducible show Mine.NestSrc ..); first | (with_reducible (k_dflt (first | (refine NestSrc.ledger (by rfl) (by k_asm) (by k_asm) (by k_mem) (by exact Nat.le_of_ble_eq_true rfl) ?_; intro g_q'; change NestRest _ _ _ _ _ _ _ _ _ _ _ _ _ _ _ 3 0 [] _) | (refine NestSrc.range (n := 3) (by rfl) (by k_asm) (by k_asm) (by assumption) (by decide) (by rfl) (by exact Nat.le_of_ble_eq_true rfl) ?_; intro g_q'))))) | ((with_reducible show wpAny _ _ (eval (Expr.ListComp ..) _) _ _ _); first | (with_reducible (k_here; k_dflt (refine nest_comp (F₀ := by k_asm) (by rfl) (by intro _; rfl) (by intro _; rfl) (by rfl) (by decide) (by intro _ _; rfl) ?_))) | (with_reducible (k_here; lcg_look; lcg_calm; k_dflt (refine LCg.ListComp_U (F₀ := by k_asm) (by rfl) (by decide) (by rfl) (by decide) (by rfl) ?_)))) | ((with_reducible show wpAny _ _ (exec (Stmt.Assign ..) _) _ _ _); first | (with_reducible (k_here; lcg_look; lcg_calm; k_dflt (refine LCg.Assign_ListComp_U (F₀ := by k_asm) (by rfl) (by with_unfolding_all rfl) (by rfl) (by decide) (by rfl) (by decide) (by rfl) (by rfl) (by rfl) ?_)))) | ((with_reducible show wpAny _ _ (storeName _ _ _) _ _ _); first | (with_reducible (k_here; (with_reducible first | show wpAny _ _ (storeName _ (Str.ofString "table") _) _ _ _ | show wpAny _ _ (storeName _ (Str.ofString "texts") _) _ _ _); k_dflt (refine Stop.out ?_))) | (with_reducible (k_here; (try dsimp only); k_dflt (refine' storeX_L ?z0F ?z0N ?_ ?z0a ?z0b; (case z0F => k_asm); (case z0N => k_asm); (case z0a => rfl); (case z0b => rfl); k_whole; intro h_q' F_q' N_q'; let mk_q := mOf F_q'; have Fk_q : Fr _ _ _ mk_q := F_q'; (try k_sweep))))) | ((with_reducible show wpAny _ _ (eval (Expr.Call ..) _) _ _ _); first | (with_reducible k_dflt (refine Call_ ?_))) | ((with_reducible show wpAny _ _ (subscriptTail (Expr.Subscript ..) (Expr.Constant ..) (Value.ref _) (Value.int _ _)) _ _ _); first | (with_reducible (k_here; (with_reducible show wpAny _ _ (subscriptTail _ _ (Value.ref _) (Value.int _ _)) _ _ _); (with_reducible rename News _ _ _ _ => N9_q); (k_dflt (refine' my_item ?z2k1 ?z2k2 ?z2k3 ?z2k4 ?_ ?z2k6; (case z2k1 => exact my_listof N9_q (by kcj_m)); (case z2k2 => decide); (case z2k3 => decide); (case z2k4 => exact rfl); (case z2k6 => with_unfolding_all rfl))); (try dsimp only)))) | ((with_reducible show wpAny _ _ (subscriptTail (Expr.Subscript ..) (Expr.BinOp ..) (Value.ref _) (Value.int _ _)) _ _ _); first | (with_reducible (k_here; (with_reducible show wpAny _ _ (subscriptTail _ _ (Value.ref _) (Value.int _ _)) _ _ _); (with_reducible rename News _ _ _ _ => N9_q); (k_dflt (refine' my_item ?z2k1 ?z2k2 ?z2k3 ?z2k4 ?_ ?z2k6; (case z2k1 => exact my_listof N9_q (by kcj_m)); (case z2k2 => decide); (case z2k3 => decide); (case z2k4 => exact rfl); (case z2k6 => with_unfolding_all rfl))); (try dsimp only)))) | ((with_reducible show wpAny _ _ (subscriptTail (Expr.Subscript ..) (Expr.Name ..) (Value.ref _) (Value.int _ _)) _ _ _); first | (with_reducible (k_here; (with_reducible show wpAny _ _ (subscriptTail _ _ (Value.ref _) (Value.int _ _)) _ _ _); (with_reducible rename News _ _ _ _ => N9_q); (k_dflt (refine' my_item ?z2k1 ?z2k2 ?z2k3 ?z2k4 ?_ ?z2k6; (case z2k1 => exact my_listof N9_q (by kcj_m)); (case z2k2 => decide); (case z2k3 => decide); (case z2k4 => exact rfl); (case z2k6 => with_unfolding_all rfl))); (try dsimp only)))) | ((with_reducible show wpAny _ _ (subscriptTail (Expr.Name ..) (Expr.BinOp ..) (Value.ref _) (Value.int _ _)) _ _ _); first | (with_reducible (k_here; (with_reducible show wpAny _ _ (subscriptTail _ _ (Value.ref _) (Value.int _ _)) _ _ _); (with_reducible rename News _ _ _ _ => N9_q); (k_dflt (refine' my_item ?z2k1 ?z2k2 ?z2k3 ?z2k4 ?_ ?z2k6; (case z2k1 => exact my_listof N9_q (by kcj_m)); (case z2k2 => decide); (case z2k3 => decide); (case z2k4 => exact rfl); (case z2k6 => with_unfolding_all rfl))); (try dsimp only)))) | ((with_reducible show wpAny _ _ (subscriptTail (Expr.Name ..) (Expr.Name ..) (Value.ref _) (Value.int _ _)) _ _ _); first | (with_reducible (k_here; (with_reducible show wpAny _ _ (subscriptTail _ _ (Value.ref _) (Value.int _ _)) _ _ _); (with_reducible rename News _ _ _ _ => N9_q); (k_dflt (refine' my_item ?z2k1 ?z2k2 ?z2k3 ?z2k4 ?_ ?z2k6; (case z2k1 => exact my_listof N9_q (by kcj_m)); (case z2k2 => decide); (case z2k3 => decide); (case z2k4 => exact rfl); (case z2k6 => with_unfolding_all rfl))); (try dsimp only)))) | ((with_reducible show wpAny _ _ (subscriptTail _ _ _ _) _ _ _); first | (with_reducible (k_here; (with_reducible show wpAny _ _ (subscriptTail _ _ (Value.ref _) (Value.int _ _)) _ _ _); (with_reducible rename News _ _ _ _ => N9_q); (k_dflt (refine' my_item ?z2k1 ?z2k2 ?z2k3 ?z2k4 ?_ ?z2k6; (case z2k1 => exact my_listof N9_q (by kcj_m)); (case z2k2 => decide); (case z2k3 => decide); (case z2k4 => exact rfl); (case z2k6 => with_unfolding_all rfl))); (try dsimp only)))) | walk1 | (dsimp only; walk1) | (leave1; (try dsimp only)) | fail "no step"))
  unfold Stop
  (repeat (rename (_ ≠ _ ∧ _) => o9; clear o9))
  with_reducible rename Fr _ _ _ _ => F8
  with_reducible rename News _ _ _ _ => N8
  refine' store_C F8 N8 rfl ?U2 ?d2 ?_ rfl rfl
  case U2 => with_reducible exact UpdC.lst (UpdC.lst (UpdC.lst (UpdC.lst (UpdC.lst (UpdC.lst (UpdC.lst (UpdC.last)))))))
  case d2 => with_reducible assumption
  intro h' o' F' N' d'
  have N7 := keep_table N'
  clear N' F8 N8
  (try dsimp only)
  (repeat' (first | (k_unfold; (try dsimp only)) | (k_end; kc_close) | ((with_reducible first | show wpAny _ _ (execs _ _) _ _ _ | show wpAny _ _ (exec (.For ..) _) _ _ _ | show wpAny _ _ (exec (.While ..) _) _ _ _ | show wpAny _ _ (eval _ _) (LCg.CompEnd ..) _ _ | show wpAny _ _ (eval _ _) (NestEnd ..) _ _); k_fold) | ((with_reducible show wpAny _ _ (subscriptTail (Expr.Name ..) (Expr.Constant ..) (Value.ref _) (Value.int _ _)) _ _ _); first | (with_reducible (k_here; (with_reducible rename News _ _ _ _ => N9_q); (first | ((with_reducible show wpAny _ _ (subscriptTail _ _ _ (Value.int 0 _)) _ _ _); k_dflt (refine' my_head ?z63w1 ?z63w2 ?_ ?z63w3; (case z63w1 => exact my_listof N9_q (by k_mem)); (case z63w2 => with_reducible assumption); (case z63w3 => with_unfolding_all rfl))) | ((with_reducible show wpAny _ _ (subscriptTail _ _ _ (Value.int 6 _)) _ _ _); k_dflt (refine' my_six ?z63w1 ?z63w2 ?_ ?z63w3; (case z63w1 => exact my_listof N9_q (by k_mem)); (case z63w2 => with_reducible assumption); (case z63w3 => with_unfolding_all rfl)))); intro t9_q; (try dsimp only))) | (with_reducible (k_here; (with_reducible show wpAny _ _ (subscriptTail _ _ (Value.ref _) (Value.int _ _)) _ _ _); (with_reducible rename News _ _ _ _ => N9_q); (k_dflt (refine' my_item ?z2k1 ?z2k2 ?z2k3 ?z2k4 ?_ ?z2k6; (case z2k1 => exact my_listof N9_q (by kcj_m)); (case z2k2 => decide); (case z2k3 => decide); (case z2k4 => exact rfl); (case z2k6 => with_unfolding_all rfl))); (try dsimp only)))) | ((with_reducible show wpAny _ _ (compareOp CmpOp.NotEq (Value.bool _) (Value.bool _)) _ _ _); first | (with_reducible (k_here; (with_reducible refine ne_bools ?z62e ?_); (case z62e => with_reducible first | exact dec_same (by with_reducible assumption) words_law (by with_reducible assumption) | exact dec_same (by with_reducible assumption) marks_law (by with_reducible assumption)); (try dsimp only)))) | ((with_reducible show wpAny _ _ (compareOp CmpOp.Lt (Value.int _ _) (Value.int _ _)) _ _ _); first | (with_reducible (k_here; (with_reducible refine' lt_zero ?z61e ?_); (case z61e => with_reducible assumption); (try dsimp only)))) | ((with_reducible show wpAny _ _ (compareOp CmpOp.NotEq (Value.int _ _) (Value.int _ _)) _ _ _); first | (with_reducible (k_here; (with_reducible refine ne_six (by with_reducible assumption) ?_); (try dsimp only)))) | ((with_reducible show wpAny _ _ (call (Value.ref _) _) _ _ _); first | (with_reducible (k_here; k_dflt ((refine' ct_thirds ?z60k1 ?z60k2 ?z60k3 ?z60k4 ?z60k5 ?z60k6 ?z60p0 ?z60p1 ?z60p2 ?z60p3 ?z60kd ?_); (case z60k1 => k_asm); (case z60k2 => k_asm); (case z60k3 => k_asm); (case z60k4 => k_asm); (case z60k5 => k_asm); (case z60k6 => first | exact rfl | assumption); (case z60p0 => kcj_all); (case z60p1 => exact ⟨sum_b (by with_reducible assumption), sum_b (by with_reducible assumption), sum_b (by with_reducible assumption)⟩); (case z60p2 => exact ⟨sum_b (by with_reducible assumption), sum_b (by with_reducible assumption), sum_b (by with_reducible assumption)⟩); (case z60p3 => exact ⟨sum_b (by with_reducible assumption), sum_b (by with_reducible assumption), sum_b (by with_reducible assumption)⟩); (case z60kd => ktr_room); k_whole; intro x9_q h9_q tk9_q t9_q hx9_q F9_q N9_q; (try dsimp only)); (try k_sweep); skip)) | (with_reducible (k_here; k_dflt ((refine' ct_leads ?z59k1 ?z59k2 ?z59k3 ?z59k4 ?z59k5 ?z59k6 ?z59p0 ?z59p1 ?z59p2 ?z59p3 ?z59p4 ?z59kd ?z59p5 ?z59p6 ?_); (case z59k1 => k_asm); (case z59k2 => k_asm); (case z59k3 => k_asm); (case z59k4 => k_asm); (case z59k5 => k_asm); (case z59k6 => first | exact rfl | assumption); (case z59p0 => kcj_all); (case z59p1 => exact ⟨sum_b (by with_reducible assumption), sum_b (by with_reducible assumption), sum_b (by with_reducible assumption)⟩); (case z59p2 => exact ⟨sum_b (by with_reducible assumption), sum_b (by with_reducible assumption), sum_b (by with_reducible assumption)⟩); (case z59p3 => exact ⟨sum_b (by with_reducible assumption), sum_b (by with_reducible assumption), sum_b (by with_reducible assumption)⟩); (case z59p4 => exact ex3); (case z59kd => ktr_room); (case z59p5 => exact Nat.le_of_ble_eq_true rfl); (case z59p6 => exact uniq_of (by with_reducible assumption)); k_whole; intro h9_q tk9_q F9_q N9_q; (try dsimp only)); (try k_sweep))) | (with_reducible (k_here; k_dflt ((refine' ct_ways ?z58k1 ?z58k2 ?z58k3 ?z58k4 ?z58k5 ?z58k6 ?z58p0 ?z58p1 ?z58p2 ?z58p3 ?z58p4 ?z58p5 ?z58p6 ?z58kd ?_); (case z58k1 => k_asm); (case z58k2 => k_asm); (case z58k3 => k_asm); (case z58k4 => k_asm); (case z58k5 => k_asm); (case z58k6 => first | exact rfl | assumption); (case z58p0 => kcj_all); (case z58p1 => exact ⟨sum_b (by with_reducible assumption), sum_b (by with_reducible assumption), sum_b (by with_reducible assumption)⟩); (case z58p2 => exact ⟨sum_b (by with_reducible assumption), sum_b (by with_reducible assumption), sum_b (by with_reducible assumption)⟩); (case z58p3 => exact ⟨sum_b (by with_reducible assumption), sum_b (by with_reducible assumption), sum_b (by with_reducible assumption)⟩); (case z58p4 => assumption); (case z58p5 => (refine' UpdN.updF ?z64N9 ?z64U9; (case z64N9 => k_asm); (case z64U9 => ((repeat (first | (with_reducible apply UpdT.lst) | (with_reducible apply UpdT.cell; (with_reducible assumption)))); (with_reducible exact UpdT.last))))); (case z58p6 => exact ⟨ne_tab30 (by k_asm) (by k_mem) (by k_mem), ne_tab30 (by k_asm) (by k_mem) (by k_mem), ne_tab30 (by k_asm) (by k_mem) (by k_mem), ne_tab30 (by k_asm) (by k_mem) (by k_mem)⟩); (case z58kd => ktr_room); k_whole; intro r9_q us9_q ws9_q n9_q ps9_q h9_q tk9_q i9_q W9_q F9_q N9_q l9_q; clear l9_q; (obtain ⟨c9_q, rest9_q, e9_q, s9_q, u9_q⟩ := W9_q); subst e9_q; (rw [List.sum_cons] at s9_q); (try dsimp only)); (try k_sweep))) | (with_reducible (k_here; k_dflt ((refine' ct_apartX ?z51k1 ?z51k2 ?z51k3 ?z51k4 ?z51k5 ?z51k6 ?z51p0 ?z51p1 ?z51p2 ?z51p3 ?z51p4 ?z51kd ?_); (case z51k1 => k_asm); (case z51k2 => k_asm); (case z51k3 => k_asm); (case z51k4 => k_asm); (case z51k5 => k_asm); (case z51k6 => first | exact rfl | assumption); (case z51p0 => with_reducible assumption); (case z51p1 => with_reducible assumption); (case z51p2 => with_reducible assumption); (case z51p3 => with_reducible assumption); (case z51p4 => with_reducible assumption); (case z51kd => ktr_room); k_whole; intro h9_q tk9_q t9_q F9_q N9_q; (try dsimp only)); (try k_sweep); skip)) | (with_reducible (k_here; k_dflt ((refine' ct_lev ?z50k1 ?z50k2 ?z50k3 ?z50k4 ?z50k5 ?z50k6 ?z50p0 ?z50p1 ?z50p2 ?z50p3 ?z50kd ?_); (case z50k1 => k_asm); (case z50k2 => k_asm); (case z50k3 => k_asm); (case z50k4 => k_asm); (case z50k5 => k_asm); (case z50k6 => first | exact rfl | assumption); (case z50p0 => with_reducible assumption); (case z50p1 => with_reducible assumption); (case z50p2 => with_reducible assumption); (case z50p3 => with_reducible assumption); (case z50kd => ktr_room); k_whole; intro x9_q h9_q tk9_q t9_q e9_q F9_q N9_q; (try dsimp only)); (try k_sweep); skip))) | ((with_reducible show wpAny _ _ (compareOp CmpOp.NotEq (Value.ref _) (Value.ref _)) _ _ _); first | (with_reducible (k_here; (with_reducible rename News _ _ _ _ => N9_q); k_dflt (refine' ne_tabs N9_q ?z57a0 ?z57a1 ?z57a2 ?z57a3 ?z57b0 ?z57b1 ?z57b2 ?z57b3 ?z57hu ?_; (case z57a0 => k_mem); (case z57a1 => k_mem); (case z57a2 => k_mem); (case z57a3 => k_mem); (case z57b0 => k_mem); (case z57b1 => k_mem); (case z57b2 => k_mem); (case z57b3 => k_mem); (case z57hu => exact Nat.le_of_ble_eq_true rfl)); (have N8_q := keep_rest N9_q); clear N9_q; (try dsimp only)))) | ((with_reducible show wpAny _ _ (subscriptTail (Expr.Name ..) (Expr.Slice ..) (Value.ref _) (Value.ref _)) _ _ _); first | (with_reducible (k_here; k_dflt (refine' kmk_slice_lit (s := ⟨_, _, _, _, _⟩) ?z56F ?z56N ?z56l ?z56p ?z56q ?z56e ?_ ?z56s ?z56t ?z56z; (case z56F => k_asm); (case z56N => k_asm); (case z56l => exact my_listof (by k_asm) (by k_mem)); (case z56p => first | exact IsPart.none | exact IsPart.int _ _); (case z56q => first | exact IsPart.none | exact IsPart.int _ _); (case z56e => first | exact sl_to | exact sl_from); (case z56s => with_unfolding_all rfl); (case z56t => (intro _; with_unfolding_all rfl)); (case z56z => exact Nat.le_of_ble_eq_true rfl)); intro D_q' h_q' F_q' N_q' l1_q; clear l1_q; (try k_sweep); (try dsimp only))) | (with_reducible (k_here; (with_reducible rename IntsAre _ (List.cons _ (List.cons _ (List.cons _ (List.cons _ (List.cons _ (List.cons _ (List.cons _ _))))))) => iD_q'); k_dflt (refine' kmk_slice_ints (s := ⟨_, _, _, _, _⟩) ?z55F ?z55N ?z55l ?z55p ?z55q ?z55i ?z55m ?z55c ?_ ?z55s ?z55t ?z55z; (case z55F => k_asm); (case z55N => k_asm); (case z55l => exact my_listof (by k_asm) (by k_mem)); (case z55p => exact IsPart.none); (case z55q => exact IsPart.int _ _); (case z55i => exact iD_q'); (case z55m => exact kmk_upto iD_q' (by decide)); (case z55c => exact rfl); (case z55s => with_unfolding_all rfl); (case z55t => (intro _; with_unfolding_all rfl)); (case z55z => (rw [List.size_toArray, sizeLine_eq]; omega))); intro D_q' ws_q' h_q' F_q' N_q' l1_q hI_q' hC_q' hL_q'; clear hC_q' hL_q'; (obtain ⟨t1_q, t2_q, t3_q, t4_q, t5_q, t6_q, e9_q⟩ := ints6 hI_q'); subst e9_q; clear hI_q'; (try k_lt l1_q); (try k_sweep); (try dsimp only)))) | ((with_reducible show wpAny _ _ (binaryOp Operator.Add (Value.ref _) (Value.ref _)) _ _ _); first | (with_reducible (k_here; (with_reducible rename IntsAre _ (List.drop _ _) => iD_q'); k_dflt (refine' kmk_add_ints ?z54F ?z54N ?z54a ?z54b ?z54i iD_q' ?_ ?z54z; (case z54F => k_asm); (case z54N => k_asm); (case z54a => kmk_list); (case z54b => exact my_listof (by k_asm) (by k_mem)); (case z54i => assumption); (case z54z => (simp only [List.length_drop, List.length_cons, List.length_nil, sizeLine_eq]; omega))); clear iD_q'; intro D_q' ws_q' h_q' F_q' N_q' l1_q hI_q'; (obtain ⟨d0_q, d1_q, d2_q, d3_q, d4_q, d5_q, d6_q, rest_q, hI_q', lD_q'⟩ := ints_drawn hI_q'); (try k_lt l1_q); (try k_sweep); (try dsimp only)))) | ((with_reducible show wpAny _ _ (subscriptTail (Expr.List ..) _ _ _) _ _ _); first | (with_reducible (k_here; k_dflt (refine kba_turn (value' := PySem.Expr.Name (PySem.Str.ofString "_") ⟨0, 0, 0, 0⟩) (fun _ => rfl) ?_); k_dflt (refine' kmk_slice_ints (s := ⟨_, _, _, _, _⟩) ?z53F ?z53N ?z53l ?z53p ?z53q ?z53i ?z53m ?z53c ?_ ?z53s ?z53t ?z53z; (case z53F => k_asm); (case z53N => k_asm); (case z53l => exact my_listof (by k_asm) (by k_mem)); (case z53p => exact IsPart.int _ _); (case z53q => exact IsPart.none); (case z53i => exact ints7); (case z53m => exact kmk_from ints7 (Int.natCast_nonneg _)); (case z53c => exact rfl); (case z53s => with_unfolding_all rfl); (case z53t => (intro _; with_unfolding_all rfl)); (case z53z => exact Nat.le_of_ble_eq_true rfl)); intro D_q' ws_q' h_q' F_q' N_q' l1_q hI_q' hC_q' hL_q'; clear hC_q' hL_q'; (try k_lt l1_q); (try k_sweep); (try dsimp only)))) | ((with_reducible show wpAny _ _ (binaryOp Operator.Add (Value.str _ _) (Value.str _ _)) _ _ _); first | (with_reducible (k_here; (with_reducible (refine add_two ?_)); intro t9_q k9_q; (try dsimp only)))) | ((with_reducible show wpAny _ _ (subscriptTail (Expr.Constant ..) _ _ _) _ _ _); first | (with_reducible (k_here; (k_dflt (refine letter_fm ?_ ?z52k1 ?z52k2; (case z52k1 => (intro _; with_unfolding_all rfl)); (case z52k2 => (intro _; with_unfolding_all rfl)))); intro c9_q hc9_q; (try dsimp only)))) | ((with_reducible show LCg.CompSrc ..); first | (with_reducible (k_here; k_dflt (refine LCg.CompSrc.ledger (by rfl) (by k_asm) (by k_asm) (by k_mem) (by first | size_fits | exact Nat.le_of_ble_eq_true rfl) ?_; intro g_q'; lcg_lit)))) | ((with_reducible show Mine.NestEnd ..); first | (with_reducible ((rename (_ ≠ _ ∧ _) => o9_q); k_dflt (first | (refine NestEnd.two (by k_asm) (by k_asm) ⟨Ne.symm o9_q.2.1, Ne.symm o9_q.2.2.1, Ne.symm o9_q.2.2.2.1, Ne.symm o9_q.2.2.2.2.1⟩ (by assumption) (by first | exact trivial | exact .inr ⟨_, by k_mem, rfl, _, rfl⟩) ?_) | (refine NestEnd.one (by k_asm) (by k_asm) ⟨Ne.symm o9_q.1, Ne.symm o9_q.2.1, Ne.symm o9_q.2.2.1, Ne.symm o9_q.2.2.2.1⟩ (by assumption) (by first | exact trivial | exact .inr ⟨_, by k_mem, rfl, _, rfl⟩) ?_)); clear o9_q; (try dsimp only)))) | ((with_reducible show LCg.CompEnd ..); first | (with_reducible (k_dflt (refine LCg.CompEnd.intro (by k_asm) (by k_asm) _ (fun _ h => h) (by with_reducible assumption) (by first | exact True.intro | exact Or.inr ⟨_, by k_mem, rfl, _, rfl⟩) ?_); (try dsimp only)))) | ((with_reducible show LCg.CompRest ..); first | (with_reducible (with_unfolding_all first | (refine LCg.CompRest.succ ?_; intro v_q' I_q' oI_q' C_q' oC_q' D_q' m_q' h_q' tk_q' E_q' hv_q' hC_q' hx_q' F_q' N_q' off_q' ne_q'; (first | lcg_open hv_q' | (obtain ⟨t9_q', hv9_q'⟩ := hv_q'; subst hv9_q'))) | refine LCg.CompRest.zero ?_))) | ((with_reducible show Mine.NestRest ..); first | (with_reducible ((repeat (rename ((_ ≠ _ ∧ _) ∧ _) => o9; clear o9)); (repeat (rename (_ ≠ _ ∧ _) => o9; clear o9)); first | (with_unfolding_all (refine NestRest.succ ?_; intro v_q' I_q' oI_q' C_q' oC_q' X_q' oX_q' D_q' h_q' tk_q' E_q' hv_q' hX_q' F_q' N_q' off_q' ne_q'; (first | lcg_open hv_q' | (obtain ⟨t9_q', hv9_q'⟩ := hv_q'; subst hv9_q')); (try dsimp only))) | ((k_dflt (refine NestRest.zero ?_)); (try unfold LCg.FinE); intro D_q' h_q' tk_q' F_q' N_q' o1_q'; (try simp only [LCg.Off1, and_true] at o1_q'); (try simp only [List.nil_append, List.cons_append] at N_q'); (try dsimp only))))) | ((with_reducible show Mine.NestSrc ..); first | (with_reducible (k_dflt (first | (refine NestSrc.ledger (by rfl) (by k_asm) (by k_asm) (by k_mem) (by exact Nat.le_of_ble_eq_true rfl) ?_; intro g_q'; change NestRest _ _ _ _ _ _ _ _ _ _ _ _ _ _ _ 3 0 [] _) | (refine NestSrc.range (n := 3) (by rfl) (by k_asm) (by k_asm) (by assumption) (by decide) (by rfl) (by exact Nat.le_of_ble_eq_true rfl) ?_; intro g_q'))))) | ((with_reducible show wpAny _ _ (eval (Expr.ListComp ..) _) _ _ _); first | (with_reducible (k_here; k_dflt (refine nest_comp (F₀ := by k_asm) (by rfl) (by intro _; rfl) (by intro _; rfl) (by rfl) (by decide) (by intro _ _; rfl) ?_))) | (with_reducible (k_here; lcg_look; lcg_calm; k_dflt (refine LCg.ListComp_U (F₀ := by k_asm) (by rfl) (by decide) (by rfl) (by decide) (by rfl) ?_)))) | ((with_reducible show wpAny _ _ (exec (Stmt.Assign ..) _) _ _ _); first | (with_reducible (k_here; lcg_look; lcg_calm; k_dflt (refine LCg.Assign_ListComp_U (F₀ := by k_asm) (by rfl) (by with_unfolding_all rfl) (by rfl) (by decide) (by rfl) (by decide) (by rfl) (by rfl) (by rfl) ?_)))) | ((with_reducible show wpAny _ _ (storeName _ _ _) _ _ _); first | (with_reducible (k_here; (with_reducible first | show wpAny _ _ (storeName _ (Str.ofString "table") _) _ _ _ | show wpAny _ _ (storeName _ (Str.ofString "texts") _) _ _ _); k_dflt (refine Stop.out ?_))) | (with_reducible (k_here; (try dsimp only); k_dflt (refine' storeX_L ?z0F ?z0N ?_ ?z0a ?z0b; (case z0F => k_asm); (case z0N => k_asm); (case z0a => rfl); (case z0b => rfl); k_whole; intro h_q' F_q' N_q'; let mk_q := mOf F_q'; have Fk_q : Fr _ _ _ mk_q := F_q'; (try k_sweep))))) | ((with_reducible show wpAny _ _ (eval (Expr.Call ..) _) _ _ _); first | (with_reducible k_dflt (refine Call_ ?_))) | ((with_reducible show wpAny _ _ (subscriptTail (Expr.Subscript ..) (Expr.Constant ..) (Value.ref _) (Value.int _ _)) _ _ _); first | (with_reducible (k_here; (with_reducible show wpAny _ _ (subscriptTail _ _ (Value.ref _) (Value.int _ _)) _ _ _); (with_reducible rename News _ _ _ _ => N9_q); (k_dflt (refine' my_item ?z2k1 ?z2k2 ?z2k3 ?z2k4 ?_ ?z2k6; (case z2k1 => exact my_listof N9_q (by kcj_m)); (case z2k2 => decide); (case z2k3 => decide); (case z2k4 => exact rfl); (case z2k6 => with_unfolding_all rfl))); (try dsimp only)))) | ((with_reducible show wpAny _ _ (subscriptTail (Expr.Subscript ..) (Expr.BinOp ..) (Value.ref _) (Value.int _ _)) _ _ _); first | (with_reducible (k_here; (with_reducible show wpAny _ _ (subscriptTail _ _ (Value.ref _) (Value.int _ _)) _ _ _); (with_reducible rename News _ _ _ _ => N9_q); (k_dflt (refine' my_item ?z2k1 ?z2k2 ?z2k3 ?z2k4 ?_ ?z2k6; (case z2k1 => exact my_listof N9_q (by kcj_m)); (case z2k2 => decide); (case z2k3 => decide); (case z2k4 => exact rfl); (case z2k6 => with_unfolding_all rfl))); (try dsimp only)))) | ((with_reducible show wpAny _ _ (subscriptTail (Expr.Subscript ..) (Expr.Name ..) (Value.ref _) (Value.int _ _)) _ _ _); first | (with_reducible (k_here; (with_reducible show wpAny _ _ (subscriptTail _ _ (Value.ref _) (Value.int _ _)) _ _ _); (with_reducible rename News _ _ _ _ => N9_q); (k_dflt (refine' my_item ?z2k1 ?z2k2 ?z2k3 ?z2k4 ?_ ?z2k6; (case z2k1 => exact my_listof N9_q (by kcj_m)); (case z2k2 => decide); (case z2k3 => decide); (case z2k4 => exact rfl); (case z2k6 => with_unfolding_all rfl))); (try dsimp only)))) | ((with_reducible show wpAny _ _ (subscriptTail (Expr.Name ..) (Expr.BinOp ..) (Value.ref _) (Value.int _ _)) _ _ _); first | (with_reducible (k_here; (with_reducible show wpAny _ _ (subscriptTail _ _ (Value.ref _) (Value.int _ _)) _ _ _); (with_reducible rename News _ _ _ _ => N9_q); (k_dflt (refine' my_item ?z2k1 ?z2k2 ?z2k3 ?z2k4 ?_ ?z2k6; (case z2k1 => exact my_listof N9_q (by kcj_m)); (case z2k2 => decide); (case z2k3 => decide); (case z2k4 => exact rfl); (case z2k6 => with_unfolding_all rfl))); (try dsimp only)))) | ((with_reducible show wpAny _ _ (subscriptTail (Expr.Name ..) (Expr.Name ..) (Value.ref _) (Value.int _ _)) _ _ _); first | (with_reducible (k_here; (with_reducible show wpAny _ _ (subscriptTail _ _ (Value.ref _) (Value.int _ _)) _ _ _); (with_reducible rename News _ _ _ _ => N9_q); (k_dflt (refine' my_item ?z2k1 ?z2k2 ?z2k3 ?z2k4 ?_ ?z2k6; (case z2k1 => exact my_listof N9_q (by kcj_m)); (case z2k2 => decide); (case z2k3 => decide); (case z2k4 => exact rfl); (case z2k6 => with_unfolding_all rfl))); (try dsimp only)))) | ((with_reducible show wpAny _ _ (subscriptTail _ _ _ _) _ _ _); first | (with_reducible (k_here; (with_reducible show wpAny _ _ (subscriptTail _ _ (Value.ref _) (Value.int _ _)) _ _ _); (with_reducible rename News _ _ _ _ => N9_q); (k_dflt (refine' my_item ?z2k1 ?z2k2 ?z2k3 ?z2k4 ?_ ?z2k6; (case z2k1 => exact my_listof N9_q (by kcj_m)); (case z2k2 => decide); (case z2k3 => decide); (case z2k4 => exact rfl); (case z2k6 => with_unfolding_all rfl))); (try dsimp only)))) | walk1 | (dsimp only; walk1) | (leave1; (try dsimp only)) | fail "no step"))
end
end


end
end Mine

theorem PySem.Challenge.cw_sh0040_01_holds : PySem.Challenge.rw_sh0040_01.Holds := by
  exact Mine.tt
