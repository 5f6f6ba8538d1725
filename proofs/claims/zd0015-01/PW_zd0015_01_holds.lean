import PyProof.Rows.All
import Wide.All
import OpenK.AllK
import Wide.FinOn
import PySem.Challenge.RW_zd0015_01
set_option Elab.async false
set_option maxRecDepth 100000
set_option linter.unusedVariables false
namespace Zd
open PySem PySem.Spec PySem.Calls PyProof.Rows PySem.W PySem.W.X
noncomputable abbrev denZ : Code → Sem Fin := PySem.W.ZFast.zw11892475500146522536 PySem.W.ZFast.tableZ
theorem denZ_eq : denote table = denZ := by
  rw [PySem.W.ZFast.ze11892475500146522536, PySem.W.ZFast.tableZ_eq]
/-- what is known of one object or one generator -/
inductive Cell where
  | o (a : Addr) (x : Obj)
  | g (n : Nat) (x : GenState)
noncomputable def Cell.holds (s : Shared) : Cell → Prop
  | .o a x => s.heap.get? a = some x
  | .g n x => s.gens[n]? = some x
noncomputable def Cell.apart : Cell → Cell → Prop
  | .o a _, .o b _ => a ≠ b
  | .g a _, .g b _ => a ≠ b
  | _, _ => True
noncomputable def Cell.key : Cell → Bool × Nat
  | .o a _ => (true, a)
  | .g n _ => (false, n)
theorem Cell.apart_iff (x y : Cell) : x.apart y ↔ x.key ≠ y.key := by
  cases x <;> cases y <;> simp [Cell.apart, Cell.key]
/-- the number of static objects -/
noncomputable abbrev N0 : Nat := 277
noncomputable abbrev Led := List Cell
inductive Tm where
  | a (n : Nat) | c (c : Code) | o (o : Obj) | g (g : GenState) | s (s : Str) | v (v : Value) | t (s : String) | i (i : Int)
/-- what a contract leaves open: numbers (0: the heap's new size, 1: the tokens), values, a position -/
structure Fv where
  n : Nat → Nat
  v : Nat → Value
  p : Pos
  q : Pos
  l : Nat → List Value
noncomputable def Fv.z : Fv := ⟨fun _ => 0, fun _ => .none, ⟨0, 0, 0, 0⟩, ⟨0, 0, 0, 0⟩, fun _ => []⟩
structure Inst where
  lv : Nat
  cs : List (Tm × Tm)
  pre : Led
  upd : Nat → Nat → Fv → Led
  res : Nat → Nat → Fv → Result
  new : Nat → Nat → Fv → Led
  nsz : Nat → Fv → Nat := fun _ f => f.n 0
  ntk : Nat → Fv → Nat := fun _ f => f.n 1
/-- the world with its two rows told -/
noncomputable def fq (b1 b2 : Bool) (g : String → Bool) (r : String) : Bool :=
  match Nat.beq (S.codeS r) (S.codeS "comprehension-iter-twice") with
  | true => b1
  | false => match Nat.beq (S.codeS r) (S.codeS "special-get-raises") with
    | true => b2
    | false => g r
noncomputable def wq (w : World) (b1 b2 : Bool) : World := { w with params := { w.params with followText := fq b1 b2 w.params.followText } }
theorem wq_self (w : World) : wq w (w.params.followText "comprehension-iter-twice") (w.params.followText "special-get-raises") = w := by
  obtain ⟨d, p⟩ := w
  have h : fq (p.followText "comprehension-iter-twice") (p.followText "special-get-raises") p.followText = p.followText := by
    funext r
    unfold fq
    split
    · rename_i e
      have := PySem.code_inj r _ ((S.code_S _).trans ((Nat.eq_of_beq_eq_true e).trans (S.code_S _).symm))
      rw [this]
    · split
      · rename_i e
        have := PySem.code_inj r _ ((S.code_S _).trans ((Nat.eq_of_beq_eq_true e).trans (S.code_S _).symm))
        rw [this]
      · rfl
  unfold wq
  show (⟨d, { p with followText := _ }⟩ : World) = _
  rw [h]
noncomputable def Room (n : Nat) (A : Around) : Prop := A.handled = none ∧ A.depth + 50 * n ≤ 900 ∧ A.units + 150 * n ≤ 9000
structure Kept (W : List (Bool × Nat)) (s s' : Shared) : Prop where
  mono : s.heap.objs.size ≤ s'.heap.objs.size
  keep : ∀ b o, (true, b) ∉ W → s.heap.get? b = some o → s'.heap.get? b = some o
  gmono : s.gens.size ≤ s'.gens.size
  gkeep : ∀ g x, (false, g) ∉ W → s.gens[g]? = some x → s'.gens[g]? = some x
  drawn : s'.drawn = s.drawn
  os : s'.os = s.os
  bare : AllBare s.gens → AllBare s'.gens
theorem Kept.refl (W : List (Bool × Nat)) (s : Shared) : Kept W s s := ⟨Nat.le_refl _, fun _ _ _ h => h, Nat.le_refl _, fun _ _ _ h => h, rfl, rfl, id⟩
/-- a cell of s' that was not there at s -/
noncomputable def Cell.fresh (s : Shared) : Cell → Prop
  | .o a _ => s.heap.objs.size ≤ a
  | .g n _ => s.gens.size ≤ n
theorem Cell.inKept {W : List (Bool × Nat)} {s s' : Shared} (K : Kept W s s') : ∀ {x : Cell}, x.holds s → x.key ∉ W → x.holds s'
  | .o _ _, h, n => K.keep _ _ n h
  | .g _ _, h, n => K.gkeep _ _ n h
noncomputable def Cell.low : Cell → Prop
  | .o a _ => N0 ≤ a
  | .g _ _ => True
noncomputable def Tm.ok (p : Tm × Tm) : Prop := p.1 = p.2
noncomputable def Stat (stat : Nat → Option Obj) (s : Shared) : Prop := ∀ a o, stat a = some o → a < N0 ∧ s.heap.get? a = some o
structure Rep (stat : Nat → Option Obj) (W : List (Bool × Nat)) (s₀ : Shared) (led : Led) (sz tk : Nat) (s : Shared) : Prop where
  size : s.heap.objs.size = sz
  toks : s.toks = tk
  stat : Stat stat s
  cells : ∀ x ∈ led, x.holds s
  nd : (led.map Cell.key).Nodup
  low : ∀ x ∈ led, x.low
  base : N0 ≤ sz
  org : ∀ x ∈ led, x.key ∈ W ∨ x.fresh s₀
  kept : Kept W s₀ s
/-- what a run of a code does, told by an Inst -/
noncomputable def After (i : Inst) (sz tk : Nat) (s : Shared) (r : Result) (s' : Shared) : Prop := ∃ f : Fv,
  r = i.res sz tk f ∧ s'.heap.objs.size = i.nsz sz f ∧ s'.toks = i.ntk tk f ∧ (∀ x ∈ i.upd sz tk f, x.holds s') ∧
  (∀ x ∈ i.new sz tk f, x.holds s' ∧ x.fresh s) ∧ ((i.new sz tk f).map Cell.key).Nodup ∧ Kept (i.pre.map Cell.key) s s'
noncomputable def Triple (stat : Nat → Option Obj) (S : Setting) (c : Code) (i : Inst) : Prop := ∀ (w : World), w.params = S.params → ∀ (A : Around) (s : Shared) (sz tk : Nat) (g : Bool) (l : List Value),
  Room i.lv A → Stat stat s → (∀ x ∈ i.pre, x.holds s) → (i.pre.map Cell.key).Nodup → (∀ x ∈ i.pre, x.low) → N0 ≤ sz → s.heap.objs.size = sz → s.toks = tk →
  wpAny (model S.program w) A (.call c none g l .pure) (After i sz tk s) (fun _ _ => False) s
structure Ctr (stat : Nat → Option Obj) (S : Setting) where
  f : Code → Option Inst
  sound : ∀ c i, f c = some i → (∀ p ∈ i.cs, Tm.ok p) → (∀ sz tk f, i.pre.map Cell.key = (i.upd sz tk f).map Cell.key) ∧ Triple stat S c i
inductive H (stat : Nat → Option Obj) (S : Setting) where
  | s (a : Nat) | d (j : Nat) | n | o (c : Ctr stat S) (js : List Nat)
structure Fr where
  c : Code
  k : Result → Sem Fin
  g : Bool
  l : List Value
  p : Pos
inductive Out where
  | ret (r : Result) (led : Led) (sz tk : Nat) (cs : List (Tm × Tm))
  | again (c : Code) (led : Led) (sz tk : Nat) (cs : List (Tm × Tm))
  | at (c : Code) (κ : List Fr) (t : Sem Fin) (led : Led) (sz tk : Nat) (cs : List (Tm × Tm))
  | stop (n : Nat)
/-- the cells at these places -/
noncomputable def pick (led : Led) : List Nat → Option Led
  | [] => some []
  | j :: js => match led[j]?, pick led js with
    | some x, some l => some (x :: l)
    | _, _ => none
noncomputable def put (led : Led) : List Nat → Led → Led
  | j :: js, x :: l => put (led.set j x) js l
  | _, _ => led
noncomputable def tmOf : Cell → Cell → List (Tm × Tm)
  | .o a x, .o b y => [(.a a, .a b), (.o x, .o y)]
  | .g a x, .g b y => [(.a a, .a b), (.g x, .g y)]
  | _, _ => [(.a 0, .a 1)]
noncomputable def tmsOf : Led → Led → List (Tm × Tm)
  | [], [] => []
  | x :: l, y :: m => tmOf x y ++ tmsOf l m
  | _, _ => [(.a 0, .a 1)]
noncomputable def above (j : Nat) : List Nat → Bool
  | [] => true
  | i :: l => Nat.blt j i && above j l
noncomputable def incr : List Nat → Bool
  | [] => true
  | j :: l => above j l && incr l
/-- how deep the codes of the frames stand -/
noncomputable def wsum (c : Code) : List Fr → Nat × Nat
  | [] => (c.weight, c.cUnits)
  | x :: κ => match wsum x.c κ with
    | (d, u) => (d + c.weight, u + c.cUnits)
noncomputable abbrev RunTy (stat : Nat → Option Obj) (S : Setting) := List (H stat S) → (Nat → Fv) → Code → List Fr → Sem Fin → Led → Nat → Nat → List (Tm × Tm) → Out
noncomputable def stepR (stat : Nat → Option Obj) (S : Setting) (lv : Nat) (ih : RunTy stat S) : RunTy stat S := fun hs fr c κ t led sz tk cs =>
  match t with
  | .pure fin => match fin with
    | .done f => match κ with
      | [] => .ret (.ok f) led sz tk cs
      | x :: κ => ih hs fr x.c κ (x.k (.ok f)) led sz tk cs
    | .again c' => match c'.quiet with
      | true => match κ with
        | [] => .again c' led sz tk cs
        | _ :: _ => ih hs fr c' κ (denZ c') led sz tk cs
      | false => .stop 5
  | .raise e => match κ with
    | [] => .ret (.error e) led sz tk cs
    | x :: κ => ih hs fr x.c κ (x.k (.error e)) led sz tk cs
  | .rule _ k => ih hs fr c κ (k ()) led sz tk cs
  | .at _ k => ih hs fr c κ (k ()) led sz tk cs
  | .point _ k => ih hs fr c κ (k ()) led sz tk cs
  | .ask k => ih hs fr c κ (k S) led sz tk cs
  | .load a _ k => match hs with
    | .s a' :: hs => match stat a' with
      | some o => ih hs fr c κ (k o) led sz tk ((.a a, .a a') :: cs)
      | none => .stop 1
    | .d j :: hs => match led[j]? with
      | some (.o b x) => ih hs fr c κ (k x) led sz tk ((.a a, .a b) :: cs)
      | _ => .stop 2
    | _ => .at c κ t led sz tk cs
  | .loadIfAlive a k => match hs with
    | .s a' :: hs => match stat a' with
      | some o => ih hs fr c κ (k (some o)) led sz tk ((.a a, .a a') :: cs)
      | none => .stop 1
    | .d j :: hs => match led[j]? with
      | some (.o b x) => ih hs fr c κ (k (some x)) led sz tk ((.a a, .a b) :: cs)
      | _ => .stop 2
    | _ => .at c κ t led sz tk cs
  | .alloc o k => match o.isFreed with
    | true => .stop 6
    | false => ih hs fr c κ (k sz) (led ++ [.o sz o]) (sz + 1) tk cs
  | .update a _ f k => match hs with
    | .d j :: hs => match led[j]? with
      | some (.o b x) => match (f x).isFreed with
        | true => .stop 7
        | false => ih hs fr c κ (k ()) (led.set j (.o b (f x))) sz tk ((.a a, .a b) :: cs)
      | _ => .stop 2
    | _ => .at c κ t led sz tk cs
  | .fresh k => ih hs fr c κ (k tk) led sz (tk + 1) cs
  | .handled own k => match own with
    | false => ih hs fr c κ (k none) led sz tk cs
    | true => .stop 8
  | .newGen c' k => ih hs (fun n => fr (n + 1)) c κ (k ((fr 0).n 0)) (led ++ [.g ((fr 0).n 0) (.fresh c')]) sz tk cs
  | .call c' hd g l k => match hd with
    | some _ => .stop 9
    | none => match hs with
      | .n :: hs => ih hs (fun n => fr (n + 1)) c' (⟨c, k, g, l, (fr 0).p⟩ :: κ) (denZ c') led sz tk cs
      | .o C js :: hs => match C.f c' with
        | none => .stop 10
        | some i => match pick led js with
          | none => .stop 12
          | some l => match wsum c κ with
            | (d, u) => match Nat.ble d 50 && (Nat.ble u 150 && (Nat.blt i.lv lv && incr js)) with
              | true => ih hs (fun n => fr (n + 1)) c κ (k (i.res sz tk (fr 0))) (put led js (i.upd sz tk (fr 0)) ++ i.new sz tk (fr 0)) (i.nsz sz (fr 0)) (i.ntk tk (fr 0)) (i.cs ++ (tmsOf l i.pre ++ cs))
              | false => .stop 13
      | _ => .at c κ t led sz tk cs
  | t => .at c κ t led sz tk cs
noncomputable def run0 (stat : Nat → Option Obj) (S : Setting) (lv : Nat) : Nat → RunTy stat S
  | 0 => fun _ _ c κ t led sz tk cs => .at c κ t led sz tk cs
  | n + 1 => stepR stat S lv (run0 stat S lv n)
@[irreducible] noncomputable def run (stat : Nat → Option Obj) (S : Setting) (lv n : Nat) : RunTy stat S := run0 stat S lv n
theorem run_eq (stat : Nat → Option Obj) (S : Setting) (lv n : Nat) : run stat S lv n = run0 stat S lv n := by unfold run; rfl
end Zd
namespace Zd
open PySem PySem.Spec PySem.Calls PyProof.Rows PySem.W PySem.W.X
theorem above_mem {j : Nat} : ∀ {l : List Nat}, above j l = true → ∀ i ∈ l, j < i
  | [], _, _, h => by cases h
  | a :: l, h, i, hi => by
    rw [above, Bool.and_eq_true] at h
    rcases List.mem_cons.mp hi with rfl | hi
    · exact Nat.le_of_ble_eq_true h.1
    · exact above_mem h.2 i hi
theorem incr_nodup : ∀ {l : List Nat}, incr l = true → l.Nodup
  | [], _ => List.nodup_nil
  | a :: l, h => by
    rw [incr, Bool.and_eq_true] at h
    exact List.nodup_cons.mpr ⟨fun hm => Nat.lt_irrefl _ (above_mem h.1 a hm), incr_nodup h.2⟩
theorem pick_len {led : Led} : ∀ {js : List Nat} {l : Led}, pick led js = some l → js.length = l.length
  | [], l, h => by cases h; rfl
  | j :: js, l, h => by
    unfold pick at h
    split at h
    · rename_i x l' _ e2
      cases h
      rw [List.length_cons, List.length_cons, pick_len e2]
    · cases h
theorem pick_mem {led : Led} : ∀ {js : List Nat} {l : Led}, pick led js = some l → ∀ x ∈ l, ∃ j ∈ js, led[j]? = some x
  | [], l, h, x, hx => by cases h; cases hx
  | j :: js, l, h, x, hx => by
    unfold pick at h
    split at h
    · rename_i y l' e1 e2
      cases h
      rcases List.mem_cons.mp hx with rfl | hx
      · exact ⟨j, .head _, e1⟩
      · obtain ⟨i, hi, e⟩ := pick_mem e2 x hx
        exact ⟨i, .tail _ hi, e⟩
    · cases h
theorem key_inj {led : Led} (nd : (led.map Cell.key).Nodup) {i j : Nat} {x y : Cell} (hi : led[i]? = some x) (hj : led[j]? = some y) (e : x.key = y.key) : i = j := by
  have h1 : (led.map Cell.key)[i]? = some x.key := by rw [List.getElem?_map, hi]; rfl
  have h2 : (led.map Cell.key)[j]? = some x.key := by rw [List.getElem?_map, hj, e]; rfl
  have hl : i < (led.map Cell.key).length := (List.getElem?_eq_some_iff.mp h1).1
  exact (List.getElem?_inj hl nd).mp (h1.trans h2.symm)
theorem pick_nodup {led : Led} (nd : (led.map Cell.key).Nodup) : ∀ {js : List Nat} {l : Led}, js.Nodup → pick led js = some l → (l.map Cell.key).Nodup
  | [], l, _, h => by cases h; exact List.nodup_nil
  | j :: js, l, hj, h => by
    have h0 := h
    unfold pick at h
    split at h
    · rename_i y l' e1 e2
      cases h
      rw [List.map_cons]
      refine List.nodup_cons.mpr ⟨fun hm => ?_, pick_nodup nd (List.nodup_cons.mp hj).2 e2⟩
      obtain ⟨x, hx, e⟩ := List.mem_map.mp hm
      obtain ⟨i, hi, e3⟩ := pick_mem e2 x hx
      have := key_inj nd e3 e1 e
      subst this
      exact (List.nodup_cons.mp hj).1 hi
    · cases h
theorem put_mem : ∀ {js : List Nat} {upd led : Led} {x : Cell}, js.length = upd.length → x ∈ put led js upd → x ∈ upd ∨ ∃ i, i ∉ js ∧ led[i]? = some x
  | [], [], led, x, _, h => by
    obtain ⟨i, e⟩ := List.mem_iff_getElem?.mp h
    exact .inr ⟨i, by simp, e⟩
  | [], _ :: _, _, _, e, _ => by cases e
  | _ :: _, [], _, _, e, _ => by cases e
  | j :: js, u :: upd, led, x, e, h => by
    rcases put_mem (Nat.succ.inj e) h with h | ⟨i, hi, e'⟩
    · exact .inl (.tail _ h)
    · rw [List.getElem?_set] at e'
      split at e'
      · split at e'
        · cases e'; exact .inl (.head _)
        · cases e'
      · rename_i hne
        refine .inr ⟨i, fun hm => ?_, e'⟩
        rcases List.mem_cons.mp hm with h | h
        · exact hne h.symm
        · exact hi h
theorem set_keys {led : Led} {j : Nat} {x u : Cell} (hx : led[j]? = some x) (e : x.key = u.key) : (led.set j u).map Cell.key = led.map Cell.key := by
  rw [List.map_set]
  apply List.ext_getElem?
  intro i
  rw [List.getElem?_set]
  split
  · rename_i hj
    subst hj
    rw [List.getElem?_map, hx, List.length_map, if_pos (List.getElem?_eq_some_iff.mp hx).1, ← e]; rfl
  · rfl
theorem pick_set {led : Led} {j : Nat} {u : Cell} : ∀ {js : List Nat}, j ∉ js → pick (led.set j u) js = pick led js
  | [], _ => rfl
  | i :: js, h => by
    have h1 : j ≠ i := fun e => h (e ▸ .head _)
    have h2 : j ∉ js := fun e => h (.tail _ e)
    unfold pick
    rw [List.getElem?_set_ne h1, pick_set h2]
theorem put_keys : ∀ {js : List Nat} {upd led l : Led}, js.Nodup → pick led js = some l → l.map Cell.key = upd.map Cell.key → (put led js upd).map Cell.key = led.map Cell.key
  | [], upd, led, l, _, h, e => by
    cases h
    cases upd with
    | nil => rfl
    | cons => cases e
  | j :: js, upd, led, l, hj, h, e => by
    unfold pick at h
    split at h
    · rename_i y l' e1 e2
      cases h
      cases upd with
      | nil => cases e
      | cons u upd =>
        rw [List.map_cons, List.map_cons] at e
        injection e with ey el
        show (put (led.set j u) js upd).map Cell.key = _
        rw [put_keys (List.nodup_cons.mp hj).2 ((pick_set (List.nodup_cons.mp hj).1).trans e2) el, set_keys e1 ey]
    · cases h
theorem tmOf_ok {x y : Cell} (h : ∀ p ∈ tmOf x y, Tm.ok p) : x = y := by
  cases x <;> cases y
  · have h1 := h _ (.head _)
    have h2 := h _ (.tail _ (.head _))
    simp only [Tm.ok, Tm.a.injEq, Tm.o.injEq] at h1 h2
    rw [h1, h2]
  · have h1 := h _ (.head _)
    simp [Tm.ok] at h1
  · have h1 := h _ (.head _)
    simp [Tm.ok] at h1
  · have h1 := h _ (.head _)
    have h2 := h _ (.tail _ (.head _))
    simp only [Tm.ok, Tm.a.injEq, Tm.g.injEq] at h1 h2
    rw [h1, h2]
theorem tmsOf_ok : ∀ {l m : Led}, (∀ p ∈ tmsOf l m, Tm.ok p) → l = m
  | [], [], _ => rfl
  | [], _ :: _, h => by have h1 := h _ (.head _); simp [Tm.ok] at h1
  | _ :: _, [], h => by have h1 := h _ (.head _); simp [Tm.ok] at h1
  | x :: l, y :: m, h => by
    rw [tmOf_ok fun p hp => h p (List.mem_append_left _ hp), tmsOf_ok fun p hp => h p (List.mem_append_right _ hp)]
theorem low_key {x y : Cell} (e : x.key = y.key) (h : x.low) : y.low := by
  cases x <;> cases y <;> simp_all [Cell.key, Cell.low]
theorem fresh_key {s : Shared} {x y : Cell} (e : x.key = y.key) (h : x.fresh s) : y.fresh s := by
  cases x <;> cases y <;> simp_all [Cell.key, Cell.fresh]
theorem holds_old {s : Shared} {x : Cell} (h : x.holds s) : ¬ x.fresh s := by
  cases x with
  | o a x => exact Nat.not_le_of_lt (Heap.lt_size h)
  | g n x => exact Nat.not_le_of_lt (Array.getElem?_eq_some_iff.mp h).1
section
variable {stat : Nat → Option Obj} {W : List (Bool × Nat)} {s₀ s : Shared} {led : Led} {sz tk : Nat}
theorem Rep.alloc (D : Rep stat W s₀ led sz tk s) {o : Obj} (hf : o.isFreed = false) : Rep stat W s₀ (led ++ [.o sz o]) (sz + 1) tk { s with heap := s.heap.push o } := by
  have hold : ∀ b x, s.heap.get? b = some x → (s.heap.push o).get? b = some x := fun b x e => Heap.get?_push_of_some _ e
  have hnew : (s.heap.push o).get? sz = some o := by rw [← D.size]; exact Heap.get?_push_size _ hf
  refine ⟨by rw [Heap.size_push, D.size], D.toks, fun a x e => ⟨(D.stat a x e).1, hold _ _ (D.stat a x e).2⟩, ?_, ?_, ?_, Nat.le_succ_of_le D.base, ?_, ?_⟩
  · intro x hx
    rcases List.mem_append.mp hx with hx | hx
    · have := D.cells x hx
      cases x with
      | o a y => exact hold _ _ this
      | g n y => exact this
    · rw [List.mem_singleton.mp hx]; exact hnew
  · rw [List.map_append, List.nodup_append]
    refine ⟨D.nd, List.nodup_cons.mpr ⟨by simp, List.nodup_nil⟩, ?_⟩
    intro k hk k' hk' e
    rw [List.mem_singleton.mp hk'] at e
    obtain ⟨x, hx, ex⟩ := List.mem_map.mp hk
    have hh := D.cells x hx
    cases x with
    | o a y =>
      rw [← ex] at e
      have h2 : a = sz := (Prod.mk.inj e).2
      have h1 : a < s.heap.objs.size := Heap.lt_size hh
      rw [D.size] at h1
      exact absurd h2 (Nat.ne_of_lt h1)
    | g n y => rw [← ex] at e; cases (Prod.mk.inj e).1
  · intro x hx
    rcases List.mem_append.mp hx with hx | hx
    · exact D.low x hx
    · rw [List.mem_singleton.mp hx]; exact D.base
  · intro x hx
    rcases List.mem_append.mp hx with hx | hx
    · exact D.org x hx
    · rw [List.mem_singleton.mp hx]
      refine .inr ?_
      show s₀.heap.objs.size ≤ sz
      rw [← D.size]; exact D.kept.mono
  · exact ⟨by rw [Heap.size_push]; exact Nat.le_succ_of_le D.kept.mono, fun b x hb e => hold _ _ (D.kept.keep b x hb e), D.kept.gmono, D.kept.gkeep, D.kept.drawn, D.kept.os, D.kept.bare⟩
theorem Rep.update (D : Rep stat W s₀ led sz tk s) {j : Nat} {a : Addr} {x : Obj} {f : Obj → Obj} (hj : led[j]? = some (.o a x)) (hf : (f x).isFreed = false) :
    Rep stat W s₀ (led.set j (.o a (f x))) sz tk { s with heap := s.heap.update a f } := by
  have hm : Cell.o a x ∈ led := List.mem_of_getElem? hj
  have ho : s.heap.get? a = some x := D.cells _ hm
  have hs : Heap.SameBut a s.heap (s.heap.update a f) := Heap.SameBut.update ..
  have ge : (s.heap.update a f).get? a = some (f x) := by first | exact Heap.get?_update_self f ho hf | exact Heap.get?_update_self _ ho hf
  have hl := D.low _ hm
  have hk : (led.set j (.o a (f x))).map Cell.key = led.map Cell.key := set_keys hj rfl
  have hmem : ∀ y ∈ led.set j (.o a (f x)), y = .o a (f x) ∨ (y ∈ led ∧ y.key ≠ (true, a)) := by
    intro y hy
    obtain ⟨i, e⟩ := List.mem_iff_getElem?.mp hy
    rw [List.getElem?_set] at e
    split at e
    · split at e
      · cases e; exact .inl rfl
      · cases e
    · rename_i hne
      exact .inr ⟨List.mem_of_getElem? e, fun ek => hne (key_inj D.nd (i := j) (j := i) hj e ek.symm)⟩
  refine ⟨hs.1.trans D.size, D.toks, fun b y e => ⟨(D.stat b y e).1, ?_⟩, ?_, by rw [hk]; exact D.nd, ?_, D.base, ?_, ?_⟩
  · have h1 := D.stat b y e
    refine (hs.2 b fun q => ?_).trans h1.2
    exact absurd hl (Nat.not_le_of_lt (q ▸ h1.1))
  · intro y hy
    rcases hmem y hy with rfl | ⟨hy, hne⟩
    · exact ge
    · have := D.cells y hy
      cases y with
      | o b z => exact (hs.2 b fun q => hne (by rw [q]; rfl)).trans this
      | g n z => exact this
  · intro y hy
    rcases hmem y hy with rfl | ⟨hy, _⟩
    · exact hl
    · exact D.low y hy
  · intro y hy
    rcases hmem y hy with rfl | ⟨hy, _⟩
    · exact D.org (.o a x) hm
    · exact D.org y hy
  · refine ⟨by rw [hs.1]; exact D.kept.mono, fun b o hb e => ?_, D.kept.gmono, D.kept.gkeep, D.kept.drawn, D.kept.os, D.kept.bare⟩
    refine (hs.2 b fun q => ?_).trans (D.kept.keep b o hb e)
    subst q
    rcases D.org _ hm with h | h
    · exact hb h
    · exact Nat.not_le_of_lt (Heap.lt_size e) h
theorem Rep.fresh (D : Rep stat W s₀ led sz tk s) : Rep stat W s₀ led sz (tk + 1) { s with toks := s.toks + 1 } :=
  ⟨D.size, by rw [← D.toks], D.stat, fun x hx => by have := D.cells x hx; cases x <;> exact this, D.nd, D.low, D.base, D.org, ⟨D.kept.mono, D.kept.keep, D.kept.gmono, D.kept.gkeep, D.kept.drawn, D.kept.os, D.kept.bare⟩⟩
theorem Rep.newGen (D : Rep stat W s₀ led sz tk s) (c : Code) : Rep stat W s₀ (led ++ [.g s.gens.size (.fresh c)]) sz tk { s with gens := s.gens.push (.fresh c) } := by
  have hold : ∀ n x, s.gens[n]? = some x → (s.gens.push (.fresh c))[n]? = some x := fun n x e => by
    rw [Array.getElem?_push, if_neg (Nat.ne_of_lt (Array.getElem?_eq_some_iff.mp e).1)]; exact e
  refine ⟨D.size, D.toks, D.stat, ?_, ?_, ?_, D.base, ?_, ?_⟩
  · intro x hx
    rcases List.mem_append.mp hx with hx | hx
    · have := D.cells x hx
      cases x with
      | o a y => exact this
      | g n y => exact hold _ _ this
    · rw [List.mem_singleton.mp hx]
      show (s.gens.push (.fresh c))[s.gens.size]? = _
      rw [Array.getElem?_push, if_pos rfl]
  · rw [List.map_append, List.nodup_append]
    refine ⟨D.nd, List.nodup_cons.mpr ⟨by simp, List.nodup_nil⟩, ?_⟩
    intro k hk k' hk' e
    rw [List.mem_singleton.mp hk'] at e
    obtain ⟨x, hx, ex⟩ := List.mem_map.mp hk
    have hh := D.cells x hx
    cases x with
    | o a y => rw [← ex] at e; cases (Prod.mk.inj e).1
    | g n y =>
      rw [← ex] at e
      exact absurd (Prod.mk.inj e).2 (Nat.ne_of_lt (Array.getElem?_eq_some_iff.mp hh).1)
  · intro x hx
    rcases List.mem_append.mp hx with hx | hx
    · exact D.low x hx
    · rw [List.mem_singleton.mp hx]; trivial
  · intro x hx
    rcases List.mem_append.mp hx with hx | hx
    · exact D.org x hx
    · rw [List.mem_singleton.mp hx]
      exact .inr D.kept.gmono
  · exact ⟨D.kept.mono, D.kept.keep, by rw [Array.size_push]; exact Nat.le_succ_of_le D.kept.gmono, fun n x hn e => hold _ _ (D.kept.gkeep n x hn e), D.kept.drawn, D.kept.os, fun h => (D.kept.bare h).push rfl⟩
theorem Rep.over (D : Rep stat W s₀ led sz tk s) {i : Inst} {js : List Nat} {s' : Shared} (hj : js.Nodup) (hp : pick led js = some i.pre) {f : Fv} (hk : i.pre.map Cell.key = (i.upd sz tk f).map Cell.key)
    (h1 : s'.heap.objs.size = i.nsz sz f) (h2 : s'.toks = i.ntk tk f) (h3 : ∀ x ∈ i.upd sz tk f, x.holds s') (h4 : ∀ x ∈ i.new sz tk f, x.holds s' ∧ x.fresh s) (h5 : ((i.new sz tk f).map Cell.key).Nodup) (K : Kept (i.pre.map Cell.key) s s') :
    Rep stat W s₀ (put led js (i.upd sz tk f) ++ i.new sz tk f) (i.nsz sz f) (i.ntk tk f) s' := by
  have hlen : js.length = (i.upd sz tk f).length := by
    rw [pick_len hp, ← List.length_map (f := Cell.key) (as := i.pre), hk, List.length_map]
  have hkeys := put_keys hj hp hk
  have hin : ∀ k ∈ i.pre.map Cell.key, ∃ x ∈ led, x.key = k := by
    intro k hkm
    obtain ⟨x, hx, e⟩ := List.mem_map.mp hkm
    obtain ⟨j, _, ej⟩ := pick_mem hp x hx
    exact ⟨x, List.mem_of_getElem? ej, e⟩
  have hmem : ∀ y ∈ put led js (i.upd sz tk f), (y ∈ i.upd sz tk f) ∨ (y ∈ led ∧ y.key ∉ i.pre.map Cell.key) := by
    intro y hy
    rcases put_mem hlen hy with h | ⟨n, hn, e⟩
    · exact .inl h
    · refine .inr ⟨List.mem_of_getElem? e, fun hm => ?_⟩
      obtain ⟨x, hx, ex⟩ := List.mem_map.mp hm
      obtain ⟨j, hjm, ej⟩ := pick_mem hp x hx
      exact hn (key_inj D.nd ej e ex ▸ hjm)
  have hkl : ∀ y ∈ put led js (i.upd sz tk f), ∃ x ∈ led, x.key = y.key := by
    intro y hy
    have : y.key ∈ (put led js (i.upd sz tk f)).map Cell.key := List.mem_map_of_mem hy
    rw [hkeys] at this
    obtain ⟨x, hx, e⟩ := List.mem_map.mp this
    exact ⟨x, hx, e⟩
  refine ⟨h1, h2, fun a o e => ⟨(D.stat a o e).1, ?_⟩, ?_, ?_, ?_, ?_, ?_, ?_⟩
  · refine K.keep a o (fun hm => ?_) (D.stat a o e).2
    obtain ⟨x, hx, ex⟩ := hin _ hm
    have hl := D.low x hx
    have := (D.stat a o e).1
    cases x with
    | o b z =>
      have h2 : b = a := (Prod.mk.inj ex).2
      exact absurd (show N0 ≤ b from hl) (Nat.not_le_of_lt (h2 ▸ this))
    | g n z => cases (Prod.mk.inj ex).1
  · intro x hx
    rcases List.mem_append.mp hx with hx | hx
    · rcases hmem x hx with h | ⟨h, hn⟩
      · exact h3 x h
      · exact Cell.inKept K (D.cells x h) hn
    · exact (h4 x hx).1
  · rw [List.map_append, hkeys, List.nodup_append]
    refine ⟨D.nd, h5, ?_⟩
    intro k hk' k' hk'' e
    obtain ⟨x, hx, ex⟩ := List.mem_map.mp hk'
    obtain ⟨y, hy, ey⟩ := List.mem_map.mp hk''
    exact holds_old (D.cells x hx) (fresh_key (by rw [ex, ey, e]) (h4 y hy).2)
  · intro x hx
    rcases List.mem_append.mp hx with hx | hx
    · obtain ⟨y, hy, e⟩ := hkl x hx
      exact low_key e (D.low y hy)
    · have := (h4 x hx).2
      have b := D.base
      have := D.size
      cases x with
      | o a z =>
        have h : s.heap.objs.size ≤ a := (h4 _ hx).2
        show N0 ≤ a
        omega
      | g n z => trivial
  · have := K.mono
    have := D.size
    have := D.base
    omega
  · intro x hx
    rcases List.mem_append.mp hx with hx | hx
    · obtain ⟨y, hy, e⟩ := hkl x hx
      rcases D.org y hy with h | h
      · exact .inl (e ▸ h)
      · exact .inr (fresh_key e h)
    · refine .inr ?_
      have h := (h4 x hx).2
      have h1 := D.kept.mono
      have h2 := D.kept.gmono
      cases x with
      | o a z => exact Nat.le_trans h1 h
      | g n z => exact Nat.le_trans h2 h
  · refine ⟨Nat.le_trans D.kept.mono K.mono, fun b o hb e => ?_, Nat.le_trans D.kept.gmono K.gmono, fun g x hg e => ?_, K.drawn.trans D.kept.drawn, K.os.trans D.kept.os, fun h => K.bare (D.kept.bare h)⟩
    · refine K.keep b o (fun hm => ?_) (D.kept.keep b o hb e)
      obtain ⟨x, hx, ex⟩ := hin _ hm
      rcases D.org x hx with h | h
      · exact hb (ex ▸ h)
      · have : Cell.fresh s₀ (.o b o) := fresh_key ex h
        exact Nat.not_le_of_lt (Heap.lt_size e) this
    · refine K.gkeep g x (fun hm => ?_) (D.kept.gkeep g x hg e)
      obtain ⟨y, hy, ey⟩ := hin _ hm
      rcases D.org y hy with h | h
      · exact hg (ey ▸ h)
      · have : Cell.fresh s₀ (.g g x) := fresh_key ey h
        exact Nat.not_le_of_lt (Array.getElem?_eq_some_iff.mp e).1 this
end
end Zd
namespace Zd
open PySem PySem.Spec PySem.Calls PyProof.Rows PySem.W PySem.W.X
/-- what a meaning of (code, frames, tree, state) must obey -/
structure Laws (S : Setting) (w : World) (lv : Nat) (Mn : Code → List Fr → Sem Fin → Shared → Prop) : Prop where
  rule : ∀ {c κ t k s}, Mn c κ (k ()) s → Mn c κ (.rule t k) s
  pos : ∀ {c κ q k s}, Mn c κ (k ()) s → Mn c κ (.at q k) s
  point : ∀ {c κ l k s}, Mn c κ (k ()) s → Mn c κ (.point l k) s
  ask : ∀ {c κ k s}, Mn c κ (k S) s → Mn c κ (.ask k) s
  load : ∀ {c κ a q k o s}, s.heap.get? a = some o → Mn c κ (k o) s → Mn c κ (.load a q k) s
  alive : ∀ {c κ a k o s}, s.heap.get? a = some o → Mn c κ (k (some o)) s → Mn c κ (.loadIfAlive a k) s
  alloc : ∀ {c κ o k s}, Mn c κ (k s.heap.objs.size) { s with heap := s.heap.push o } → Mn c κ (.alloc o k) s
  update : ∀ {c κ a q f k o s}, s.heap.get? a = some o → Mn c κ (k ()) { s with heap := s.heap.update a f } → Mn c κ (.update a q f k) s
  fresh : ∀ {c κ k s}, Mn c κ (k s.toks) { s with toks := s.toks + 1 } → Mn c κ (.fresh k) s
  newGen : ∀ {c κ c' k s}, Mn c κ (k s.gens.size) { s with gens := s.gens.push (.fresh c') } → Mn c κ (.newGen c' k) s
  handled : ∀ {c κ k s}, Mn c κ (k none) s → Mn c κ (.handled false k) s
  popd : ∀ {c x κ f s}, Mn x.c κ (x.k (.ok f)) s → Mn c (x :: κ) (.pure (.done f)) s
  pope : ∀ {c x κ e s}, Mn x.c κ (x.k (.error e)) s → Mn c (x :: κ) (.raise e) s
  again : ∀ {c x κ c' s}, c'.quiet = true → Mn c' (x :: κ) (denZ c') s → Mn c (x :: κ) (.pure (.again c')) s
  call : ∀ {c κ c' g l k s}, (∀ p, Mn c' (⟨c, k, g, l, p⟩ :: κ) (denZ c') s) → Mn c κ (.call c' none g l k) s
  over : ∀ {c κ c' g l k s i R'}, (wsum c κ).1 ≤ 50 → (wsum c κ).2 ≤ 150 → i < lv → (∀ A, Room i A → wpAny (model S.program w) A (.call c' none g l .pure) R' (fun _ _ => False) s) →
    (∀ r s', R' r s' → Mn c κ (k r) s') → Mn c κ (.call c' none g l k) s
section
variable {stat : Nat → Option Obj} {S : Setting} {lv : Nat} {W : List (Bool × Nat)} {s₀ : Shared} {w : World} {Mn : Code → List Fr → Sem Fin → Shared → Prop} {c₀ : Code}
noncomputable def good (stat : Nat → Option Obj) (W : List (Bool × Nat)) (s₀ : Shared) (Mn : Code → List Fr → Sem Fin → Shared → Prop) : Out → Prop
  | .ret r led sz tk cs => (∀ p ∈ cs, Tm.ok p) ∧ ∀ s', Rep stat W s₀ led sz tk s' → ∀ c, Mn c [] (match r with | .ok f => .pure (.done f) | .error e => .raise e) s'
  | .again c' led sz tk cs => (∀ p ∈ cs, Tm.ok p) ∧ ∀ s', Rep stat W s₀ led sz tk s' → c'.quiet = true → ∀ c, Mn c [] (.pure (.again c')) s'
  | .at c κ t led sz tk cs => (∀ p ∈ cs, Tm.ok p) ∧ ∀ s', Rep stat W s₀ led sz tk s' → Mn c κ t s'
  | .stop _ => False
theorem run_cs : ∀ (n : Nat) (hs : List (H stat S)) (fr : Nat → Fv) (c : Code) (κ : List Fr) (t : Sem Fin) (led : Led) (sz tk : Nat) (cs : List (Tm × Tm)),
    good stat W s₀ Mn (run0 stat S lv n hs fr c κ t led sz tk cs) → ∀ p ∈ cs, Tm.ok p
  | 0, _, _, _, _, _, _, _, _, _, h => by unfold run0 at h; exact h.1
  | n + 1, hs, fr, c, κ, t, led, sz, tk, cs, h => by
    have ih := run_cs n
    unfold run0 at h
    intro p hp
    cases t with
    | pure fin =>
      cases fin with
      | done f =>
        cases κ with
        | nil => exact h.1 p hp
        | cons x κ => exact ih _ _ _ _ _ _ _ _ _ h p hp
      | again c' =>
        simp only [stepR] at h
        split at h
        · cases κ with
          | nil => exact h.1 p hp
          | cons x κ => exact ih _ _ _ _ _ _ _ _ _ h p hp
        · cases h
    | raise e =>
      cases κ with
      | nil => exact h.1 p hp
      | cons x κ => exact ih _ _ _ _ _ _ _ _ _ h p hp
    | rule tag k => exact ih _ _ _ _ _ _ _ _ _ h p hp
    | «at» q k => exact ih _ _ _ _ _ _ _ _ _ h p hp
    | point l k => exact ih _ _ _ _ _ _ _ _ _ h p hp
    | ask k => exact ih _ _ _ _ _ _ _ _ _ h p hp
    | load a q k =>
      simp only [stepR] at h
      split at h
      · split at h
        · exact ih _ _ _ _ _ _ _ _ _ h p (.tail _ hp)
        · cases h
      · split at h
        · exact ih _ _ _ _ _ _ _ _ _ h p (.tail _ hp)
        · cases h
      · exact h.1 p hp
    | loadIfAlive a k =>
      simp only [stepR] at h
      split at h
      · split at h
        · exact ih _ _ _ _ _ _ _ _ _ h p (.tail _ hp)
        · cases h
      · split at h
        · exact ih _ _ _ _ _ _ _ _ _ h p (.tail _ hp)
        · cases h
      · exact h.1 p hp
    | alloc o k =>
      simp only [stepR] at h
      split at h
      · cases h
      · exact ih _ _ _ _ _ _ _ _ _ h p hp
    | update a q f k =>
      simp only [stepR] at h
      split at h
      · split at h
        · split at h
          · cases h
          · exact ih _ _ _ _ _ _ _ _ _ h p (.tail _ hp)
        · cases h
      · exact h.1 p hp
    | fresh k => exact ih _ _ _ _ _ _ _ _ _ h p hp
    | handled own k =>
      cases own with
      | false => exact ih _ _ _ _ _ _ _ _ _ h p hp
      | true => cases h
    | call c' hd g l k =>
      cases hd with
      | some v => cases h
      | none =>
        simp only [stepR] at h
        split at h
        · exact ih _ _ _ _ _ _ _ _ _ h p hp
        · split at h
          · cases h
          · split at h
            · cases h
            · split at h
              · exact ih _ _ _ _ _ _ _ _ _ h p (List.mem_append_right _ (List.mem_append_right _ hp))
              · cases h
        · exact h.1 p hp
    | stack => exact h.1 p hp
    | newGen c' k => exact ih _ _ _ _ _ _ _ _ _ h p hp
    | genState => exact h.1 p hp
    | resume => exact h.1 p hp
    | yield => exact h.1 p hp
    | unsupported => exact h.1 p hp
    | finish => exact h.1 p hp
    | register => exact h.1 p hp
    | choose => exact h.1 p hp
    | os => exact h.1 p hp
    | fork => exact h.1 p hp
    | thread => exact h.1 p hp
    | await => exact h.1 p hp
theorem run0_sound (L : Laws S w lv Mn) (hS : w.params = S.params) : ∀ (n : Nat) (hs : List (H stat S)) (c : Code) (κ : List Fr) (t : Sem Fin) (led : Led) (sz tk : Nat) (cs : List (Tm × Tm)) (s : Shared),
    (∀ fr, good stat W s₀ Mn (run0 stat S lv n hs fr c κ t led sz tk cs)) → Rep stat W s₀ led sz tk s → Mn c κ t s
  | 0, _, c, κ, t, _, _, _, _, s, h, D => by
    have h := h fun _ => Fv.z
    unfold run0 at h
    exact h.2 s D
  | n + 1, hs, c, κ, t, led, sz, tk, cs, s, h, D => by
    have ih := run0_sound L hS n
    have z : Nat → Fv := fun _ => Fv.z
    have hcs := fun hs c κ t led sz tk cs => run_cs (stat := stat) (S := S) (lv := lv) (W := W) (s₀ := s₀) (Mn := Mn) n hs z c κ t led sz tk cs
    unfold run0 at h
    cases t with
    | pure fin =>
      cases fin with
      | done f =>
        cases κ with
        | nil => exact (h z).2 s D c
        | cons x κ => exact L.popd (ih _ _ _ _ _ _ _ _ _ h D)
      | again c' =>
        cases q : c'.quiet with
        | false => simp only [stepR, q] at h; cases h z
        | true =>
          simp only [stepR, q] at h
          cases κ with
          | nil => exact (h z).2 s D q c
          | cons x κ => exact L.again q (ih _ _ _ _ _ _ _ _ _ h D)
    | raise e =>
      cases κ with
      | nil => exact (h z).2 s D c
      | cons x κ => exact L.pope (ih _ _ _ _ _ _ _ _ _ h D)
    | rule tag k => exact L.rule (ih _ _ _ _ _ _ _ _ _ h D)
    | «at» q k => exact L.pos (ih _ _ _ _ _ _ _ _ _ h D)
    | point l k => exact L.point (ih _ _ _ _ _ _ _ _ _ h D)
    | ask k => exact L.ask (ih _ _ _ _ _ _ _ _ _ h D)
    | load a q k =>
      simp only [stepR] at h
      split at h
      · split at h
        · rename_i o e
          have e2 : a = _ := Tm.a.inj (hcs _ _ _ _ _ _ _ _ (h z) _ (.head _))
          exact L.load (by rw [e2]; exact (D.stat _ _ e).2) (ih _ _ _ _ _ _ _ _ _ h D)
        · cases h z
      · split at h
        · rename_i b x e
          have e2 : a = b := Tm.a.inj (hcs _ _ _ _ _ _ _ _ (h z) _ (.head _))
          exact L.load (by rw [e2]; exact D.cells _ (List.mem_of_getElem? e)) (ih _ _ _ _ _ _ _ _ _ h D)
        · cases h z
      · exact (h z).2 s D
    | loadIfAlive a k =>
      simp only [stepR] at h
      split at h
      · split at h
        · rename_i o e
          have e2 : a = _ := Tm.a.inj (hcs _ _ _ _ _ _ _ _ (h z) _ (.head _))
          exact L.alive (by rw [e2]; exact (D.stat _ _ e).2) (ih _ _ _ _ _ _ _ _ _ h D)
        · cases h z
      · split at h
        · rename_i b x e
          have e2 : a = b := Tm.a.inj (hcs _ _ _ _ _ _ _ _ (h z) _ (.head _))
          exact L.alive (by rw [e2]; exact D.cells _ (List.mem_of_getElem? e)) (ih _ _ _ _ _ _ _ _ _ h D)
        · cases h z
      · exact (h z).2 s D
    | alloc o k =>
      simp only [stepR] at h
      split at h
      · cases h z
      · rename_i hf
        have e := D.size
        refine L.alloc ?_
        rw [e]
        exact ih _ _ _ _ _ _ _ _ _ h (D.alloc hf)
    | update a q f k =>
      simp only [stepR] at h
      split at h
      · split at h
        · rename_i b x e
          split at h
          · cases h z
          · rename_i hf
            have e2 : a = b := Tm.a.inj (hcs _ _ _ _ _ _ _ _ (h z) _ (.head _))
            subst e2
            exact L.update (D.cells _ (List.mem_of_getElem? e)) (ih _ _ _ _ _ _ _ _ _ h (D.update e hf))
        · cases h z
      · exact (h z).2 s D
    | fresh k =>
      have e := D.toks
      refine L.fresh ?_
      have := ih _ _ _ _ _ _ _ _ _ h D.fresh
      rw [← e] at this
      exact this
    | handled own k =>
      cases own with
      | true => cases h z
      | false => exact L.handled (ih _ _ _ _ _ _ _ _ _ h D)
    | call c' hd g l k =>
      cases hd with
      | some v => cases h z
      | none =>
        simp only [stepR] at h
        split at h
        · refine L.call fun p => ?_
          exact ih _ _ (⟨c, k, g, l, p⟩ :: κ) _ _ _ _ cs s (fun fr => h fun n => match n with | 0 => { Fv.z with p := p } | m + 1 => fr m) D
        · rename_i C js hs
          split at h
          · cases h z
          · rename_i i ei
            split at h
            · cases h z
            · rename_i l' el
              split at h
              · rename_i hb
                have hc := run_cs n _ _ _ _ _ _ _ _ _ (h z)
                obtain ⟨hk, T⟩ := C.sound c' i ei fun p hp => hc p (List.mem_append_left _ hp)
                have hl : l' = i.pre := tmsOf_ok fun p hp => hc p (List.mem_append_right _ (List.mem_append_left _ hp))
                subst hl
                rw [Bool.and_eq_true, Bool.and_eq_true, Bool.and_eq_true] at hb
                obtain ⟨b1, b2, b3, b4⟩ := hb
                have hj := incr_nodup b4
                refine L.over (Nat.le_of_ble_eq_true b1) (Nat.le_of_ble_eq_true b2) (Nat.le_of_ble_eq_true b3) (fun A hA => T w hS A s sz tk g l hA D.stat (fun x hx => ?_) (pick_nodup D.nd hj el) (fun x hx => ?_) D.base D.size D.toks) ?_
                · obtain ⟨j, _, ej⟩ := pick_mem el x hx
                  exact D.cells x (List.mem_of_getElem? ej)
                · obtain ⟨j, _, ej⟩ := pick_mem el x hx
                  exact D.low x (List.mem_of_getElem? ej)
                · rintro r s' ⟨f, rfl, h1, h2, h3, h4, h5, K⟩
                  exact ih hs c κ _ _ _ _ (i.cs ++ (tmsOf i.pre i.pre ++ cs)) s' (fun fr => h (fun n => match n with | 0 => f | m + 1 => fr m)) (D.over hj el (hk _ _ f) h1 h2 h3 h4 h5 K)
              · cases h z
        · exact (h z).2 s D
    | stack => exact (h z).2 s D
    | newGen c' k => exact L.newGen (ih hs c κ (k s.gens.size) (led ++ [.g s.gens.size (.fresh c')]) sz tk cs _ (fun fr => h fun n => match n with | 0 => { Fv.z with n := fun _ => s.gens.size } | m + 1 => fr m) (D.newGen c'))
    | genState => exact (h z).2 s D
    | resume => exact (h z).2 s D
    | yield => exact (h z).2 s D
    | unsupported => exact (h z).2 s D
    | finish => exact (h z).2 s D
    | register => exact (h z).2 s D
    | choose => exact (h z).2 s D
    | os => exact (h z).2 s D
    | fork => exact (h z).2 s D
    | thread => exact (h z).2 s D
    | await => exact (h z).2 s D
theorem run_sound (L : Laws S w lv Mn) (hS : w.params = S.params) (n : Nat) (hs : List (H stat S)) (c : Code) (κ : List Fr) (t : Sem Fin) (led : Led) (sz tk : Nat) (cs : List (Tm × Tm)) (s : Shared)
    (h : ∀ fr, good stat W s₀ Mn (run stat S lv n hs fr c κ t led sz tk cs)) (D : Rep stat W s₀ led sz tk s) : Mn c κ t s :=
  run0_sound L hS n hs c κ t led sz tk cs s (fun fr => by rw [← run_eq]; exact h fr) D
end
noncomputable def aOf (A₀ : Around) : List Fr → Around
  | [] => A₀
  | x :: κ => (aOf A₀ κ).under x.c
noncomputable def finP (M : Model) (A : Around) (R : Result → Shared → Prop) (fin : Fin) (s' : Shared) : Prop := match fin with
  | .done f => R (.ok f) s'
  | .again c' => c'.quiet = true ∧ codeAny M A c' R s'
noncomputable def Post := (Fin → Shared → Prop) × (Value → Shared → Prop)
noncomputable def pF (M : Model) (A₀ : Around) (F : Post) : List Fr → Post
  | [] => F
  | x :: κ => (finP M (aOf A₀ (x :: κ)) (fun r s => wpAny M ((aOf A₀ κ).under x.c) (x.k r) (pF M A₀ F κ).1 (pF M A₀ F κ).2 s), fun e s => wpAny M ((aOf A₀ κ).under x.c) (x.k (.error e)) (pF M A₀ F κ).1 (pF M A₀ F κ).2 s)
noncomputable def Means (M : Model) (A₀ : Around) (F : Post) (c : Code) (κ : List Fr) (t : Sem Fin) (s : Shared) : Prop :=
  wpAny M ((aOf A₀ κ).under c) t (pF M A₀ F κ).1 (pF M A₀ F κ).2 s
theorem aOf_handled (A₀ : Around) : ∀ κ, (aOf A₀ κ).handled = A₀.handled
  | [] => rfl
  | _ :: κ => aOf_handled A₀ κ
theorem wsum_eq (A₀ : Around) : ∀ (κ : List Fr) (c : Code), ((aOf A₀ κ).under c).depth = A₀.depth + (wsum c κ).1 ∧ ((aOf A₀ κ).under c).units = A₀.units + (wsum c κ).2
  | [], _ => ⟨rfl, rfl⟩
  | x :: κ, c => by
    obtain ⟨h1, h2⟩ := wsum_eq A₀ κ x.c
    have e : wsum c (x :: κ) = ((wsum x.c κ).1 + c.weight, (wsum x.c κ).2 + c.cUnits) := rfl
    rw [e]
    constructor
    · show ((aOf A₀ κ).under x.c).depth + c.weight = _
      rw [h1, Nat.add_assoc]
    · show ((aOf A₀ κ).under x.c).units + c.cUnits = _
      rw [h2, Nat.add_assoc]
theorem code_of_wp {S : Setting} {w : World} {A : Around} {R : Result → Shared → Prop} {c : Code} {s : Shared} (h : wpAny (model S.program w) (A.under c) (denZ c) (finP (model S.program w) A R) (fun e s' => R (.error e) s') s) : codeAny (model S.program w) A c R s := by
  refine codeAny_of_tree ?_
  show wpAny _ _ (denote table c) _ _ _
  rw [denZ_eq]
  refine wpAny_mono h (fun fin s' q => ?_) fun _ _ q => q
  cases fin <;> exact q
theorem laws_none {S : Setting} {w : World} {lv : Nat} {A₀ : Around} (F : Post) (hS : w.params = S.params) (hA : Room lv A₀) : Laws S w lv (Means (model S.program w) A₀ F) where
  rule h := x_rule h
  pos h := x_at h
  point h := x_point h
  ask h := x_ask (by rw [hS]; exact h)
  load ho h := x_load ho h
  alive {c κ a k o s} ho h := fun Γ p hΓ => by
    show Sem.wp _ _ (k (s.heap.get? a)) _ _ _ _
    rw [ho]; exact h Γ p hΓ
  alloc {c κ o k s} h := wpAny_bind (m := alloc o) (f := k) (wpAny_alloc h)
  update {c κ a q f k o s} ho h := wpAny_bind (m := updatePart a q f) (f := k) (wpAny_updatePart ho h)
  fresh h := x_fresh h
  newGen {c κ c' k s} h := fun Γ p hΓ => h Γ p hΓ
  handled {c κ k s} h := x_handled (by
    have e : ((aOf A₀ κ).under c).handled = none := (aOf_handled A₀ κ).trans hA.1
    rw [e]; exact h)
  popd h := wpAny_pure h
  pope h := wpAny_throw h
  again q h := wpAny_pure ⟨q, code_of_wp h⟩
  call {c κ c' g l k s} h := by
    refine x_call ?_ (by intro e; cases e)
    exact code_of_wp (h default)
  over {c κ c' g l k s i R'} h1 h2 h3 hc hk := by
    have hw := wsum_eq A₀ κ c
    refine wpAny_bind (m := .call c' none g l .pure) (f := k) (wpAny_mono (hc ((aOf A₀ κ).under c) ⟨(aOf_handled A₀ κ).trans hA.1, ?_, ?_⟩) hk fun _ _ h => h.elim)
    · have := hA.2.1
      omega
    · have := hA.2.2
      omega
end Zd
namespace Zd
open PySem PySem.W
noncomputable def topStmt (i : Nat) : Option Stmt := PySem.Challenge.pw_zd0015_01.main.body[i]?
noncomputable def clsStmt (i j : Nat) : Option Stmt := match topStmt i with
  | some (.ClassDef _ _ _ b ..) => b[j]?
  | _ => none
noncomputable def partsOf : Option Stmt → Arguments × List Stmt × Scope
  | some (.FunctionDef _ a b _ _ _ sc ..) => (a, b, sc)
  | _ => (⟨[], [], none, [], [], none, []⟩, [], default)
noncomputable def so0 (P : Params) : Obj :=
  ⟨(.type "dict"), none, (.dict #[⟨PyData.keyHash P ⟨#[95, 95, 110, 97, 109, 101, 95, 95]⟩, (.str ⟨#[95, 95, 110, 97, 109, 101, 95, 95]⟩ 1), (.str ⟨#[98, 117, 105, 108, 116, 105, 110, 115]⟩ 160)⟩,
  ⟨PyData.keyHash P ⟨#[95, 95, 100, 111, 99, 95, 95]⟩, (.str ⟨#[95, 95, 100, 111, 99, 95, 95]⟩ 2), (.builtin "builtins.__doc__:str#opaque")⟩,
  ⟨PyData.keyHash P ⟨#[95, 95, 112, 97, 99, 107, 97, 103, 101, 95, 95]⟩, (.str ⟨#[95, 95, 112, 97, 99, 107, 97, 103, 101, 95, 95]⟩ 3), (.builtin "builtins.__package__:str#opaque")⟩,
  ⟨PyData.keyHash P ⟨#[95, 95, 108, 111, 97, 100, 101, 114, 95, 95]⟩, (.str ⟨#[95, 95, 108, 111, 97, 100, 101, 114, 95, 95]⟩ 4), (.builtin "builtins.__loader__:shared#opaque")⟩,
  ⟨PyData.keyHash P ⟨#[95, 95, 115, 112, 101, 99, 95, 95]⟩, (.str ⟨#[95, 95, 115, 112, 101, 99, 95, 95]⟩ 5), (.builtin "builtins.__spec__#opaque")⟩,
  ⟨PyData.keyHash P ⟨#[95, 95, 98, 117, 105, 108, 100, 95, 99, 108, 97, 115, 115, 95, 95]⟩, (.str ⟨#[95, 95, 98, 117, 105, 108, 100, 95, 99, 108, 97, 115, 115, 95, 95]⟩ 6), (.builtin "__build_class__")⟩,
  ⟨PyData.keyHash P ⟨#[95, 95, 105, 109, 112, 111, 114, 116, 95, 95]⟩, (.str ⟨#[95, 95, 105, 109, 112, 111, 114, 116, 95, 95]⟩ 7), (.builtin (String.ofList ['_', '_', 'i', 'm', 'p', 'o', 'r', 't', '_', '_']))⟩,
  ⟨PyData.keyHash P ⟨#[97, 98, 115]⟩, (.str ⟨#[97, 98, 115]⟩ 8), (.builtin "abs")⟩,
  ⟨PyData.keyHash P ⟨#[97, 108, 108]⟩, (.str ⟨#[97, 108, 108]⟩ 9), (.builtin "all")⟩,
  ⟨PyData.keyHash P ⟨#[97, 110, 121]⟩, (.str ⟨#[97, 110, 121]⟩ 10), (.builtin "any")⟩,
  ⟨PyData.keyHash P ⟨#[97, 115, 99, 105, 105]⟩, (.str ⟨#[97, 115, 99, 105, 105]⟩ 11), (.builtin "ascii")⟩,
  ⟨PyData.keyHash P ⟨#[98, 105, 110]⟩, (.str ⟨#[98, 105, 110]⟩ 12), (.builtin "bin")⟩,
  ⟨PyData.keyHash P ⟨#[98, 114, 101, 97, 107, 112, 111, 105, 110, 116]⟩, (.str ⟨#[98, 114, 101, 97, 107, 112, 111, 105, 110, 116]⟩ 13), (.builtin "breakpoint")⟩,
  ⟨PyData.keyHash P ⟨#[99, 97, 108, 108, 97, 98, 108, 101]⟩, (.str ⟨#[99, 97, 108, 108, 97, 98, 108, 101]⟩ 14), (.builtin "callable")⟩,
  ⟨PyData.keyHash P ⟨#[99, 104, 114]⟩, (.str ⟨#[99, 104, 114]⟩ 15), (.builtin "chr")⟩,
  ⟨PyData.keyHash P ⟨#[99, 111, 109, 112, 105, 108, 101]⟩, (.str ⟨#[99, 111, 109, 112, 105, 108, 101]⟩ 16), (.builtin "compile")⟩,
  ⟨PyData.keyHash P ⟨#[100, 101, 108, 97, 116, 116, 114]⟩, (.str ⟨#[100, 101, 108, 97, 116, 116, 114]⟩ 17), (.builtin "delattr")⟩,
  ⟨PyData.keyHash P ⟨#[100, 105, 114]⟩, (.str ⟨#[100, 105, 114]⟩ 18), (.builtin "dir")⟩,
  ⟨PyData.keyHash P ⟨#[100, 105, 118, 109, 111, 100]⟩, (.str ⟨#[100, 105, 118, 109, 111, 100]⟩ 19), (.builtin "divmod")⟩,
  ⟨PyData.keyHash P ⟨#[101, 118, 97, 108]⟩, (.str ⟨#[101, 118, 97, 108]⟩ 20), (.builtin "eval")⟩,
  ⟨PyData.keyHash P ⟨#[101, 120, 101, 99]⟩, (.str ⟨#[101, 120, 101, 99]⟩ 21), (.builtin "exec")⟩,
  ⟨PyData.keyHash P ⟨#[102, 111, 114, 109, 97, 116]⟩, (.str ⟨#[102, 111, 114, 109, 97, 116]⟩ 22), (.builtin "format")⟩,
  ⟨PyData.keyHash P ⟨#[103, 101, 116, 97, 116, 116, 114]⟩, (.str ⟨#[103, 101, 116, 97, 116, 116, 114]⟩ 23), (.builtin "getattr")⟩,
  ⟨PyData.keyHash P ⟨#[103, 108, 111, 98, 97, 108, 115]⟩, (.str ⟨#[103, 108, 111, 98, 97, 108, 115]⟩ 24), (.builtin "globals")⟩,
  ⟨PyData.keyHash P ⟨#[104, 97, 115, 97, 116, 116, 114]⟩, (.str ⟨#[104, 97, 115, 97, 116, 116, 114]⟩ 25), (.builtin "hasattr")⟩,
  ⟨PyData.keyHash P ⟨#[104, 97, 115, 104]⟩, (.str ⟨#[104, 97, 115, 104]⟩ 26), (.builtin "hash")⟩,
  ⟨PyData.keyHash P ⟨#[104, 101, 120]⟩, (.str ⟨#[104, 101, 120]⟩ 27), (.builtin "hex")⟩,
  ⟨PyData.keyHash P ⟨#[105, 100]⟩, (.str ⟨#[105, 100]⟩ 28), (.builtin "id")⟩,
  ⟨PyData.keyHash P ⟨#[105, 110, 112, 117, 116]⟩, (.str ⟨#[105, 110, 112, 117, 116]⟩ 29), (.builtin "input")⟩,
  ⟨PyData.keyHash P ⟨#[105, 115, 105, 110, 115, 116, 97, 110, 99, 101]⟩, (.str ⟨#[105, 115, 105, 110, 115, 116, 97, 110, 99, 101]⟩ 30), (.builtin "isinstance")⟩,
  ⟨PyData.keyHash P ⟨#[105, 115, 115, 117, 98, 99, 108, 97, 115, 115]⟩, (.str ⟨#[105, 115, 115, 117, 98, 99, 108, 97, 115, 115]⟩ 31), (.builtin "issubclass")⟩,
  ⟨PyData.keyHash P ⟨#[105, 116, 101, 114]⟩, (.str ⟨#[105, 116, 101, 114]⟩ 32), (.builtin "iter")⟩,
  ⟨PyData.keyHash P ⟨#[97, 105, 116, 101, 114]⟩, (.str ⟨#[97, 105, 116, 101, 114]⟩ 33), (.builtin "aiter")⟩,
  ⟨PyData.keyHash P ⟨#[108, 101, 110]⟩, (.str ⟨#[108, 101, 110]⟩ 34), (.builtin "len")⟩,
  ⟨PyData.keyHash P ⟨#[108, 111, 99, 97, 108, 115]⟩, (.str ⟨#[108, 111, 99, 97, 108, 115]⟩ 35), (.builtin "locals")⟩,
  ⟨PyData.keyHash P ⟨#[109, 97, 120]⟩, (.str ⟨#[109, 97, 120]⟩ 36), (.builtin "max")⟩,
  ⟨PyData.keyHash P ⟨#[109, 105, 110]⟩, (.str ⟨#[109, 105, 110]⟩ 37), (.builtin "min")⟩,
  ⟨PyData.keyHash P ⟨#[110, 101, 120, 116]⟩, (.str ⟨#[110, 101, 120, 116]⟩ 38), (.builtin "next")⟩,
  ⟨PyData.keyHash P ⟨#[97, 110, 101, 120, 116]⟩, (.str ⟨#[97, 110, 101, 120, 116]⟩ 39), (.builtin "anext")⟩,
  ⟨PyData.keyHash P ⟨#[111, 99, 116]⟩, (.str ⟨#[111, 99, 116]⟩ 40), (.builtin "oct")⟩,
  ⟨PyData.keyHash P ⟨#[111, 114, 100]⟩, (.str ⟨#[111, 114, 100]⟩ 41), (.builtin "ord")⟩,
  ⟨PyData.keyHash P ⟨#[112, 111, 119]⟩, (.str ⟨#[112, 111, 119]⟩ 42), (.builtin "pow")⟩,
  ⟨PyData.keyHash P ⟨#[112, 114, 105, 110, 116]⟩, (.str ⟨#[112, 114, 105, 110, 116]⟩ 43), (.builtin "print")⟩,
  ⟨PyData.keyHash P ⟨#[114, 101, 112, 114]⟩, (.str ⟨#[114, 101, 112, 114]⟩ 44), (.builtin "repr")⟩,
  ⟨PyData.keyHash P ⟨#[114, 111, 117, 110, 100]⟩, (.str ⟨#[114, 111, 117, 110, 100]⟩ 45), (.builtin "round")⟩,
  ⟨PyData.keyHash P ⟨#[115, 101, 116, 97, 116, 116, 114]⟩, (.str ⟨#[115, 101, 116, 97, 116, 116, 114]⟩ 46), (.builtin "setattr")⟩,
  ⟨PyData.keyHash P ⟨#[115, 111, 114, 116, 101, 100]⟩, (.str ⟨#[115, 111, 114, 116, 101, 100]⟩ 47), (.builtin "sorted")⟩,
  ⟨PyData.keyHash P ⟨#[115, 117, 109]⟩, (.str ⟨#[115, 117, 109]⟩ 48), (.builtin "sum")⟩,
  ⟨PyData.keyHash P ⟨#[118, 97, 114, 115]⟩, (.str ⟨#[118, 97, 114, 115]⟩ 49), (.builtin "vars")⟩,
  ⟨PyData.keyHash P ⟨#[78, 111, 110, 101]⟩, (.str ⟨#[78, 111, 110, 101]⟩ 50), .none⟩,
  ⟨PyData.keyHash P ⟨#[69, 108, 108, 105, 112, 115, 105, 115]⟩, (.str ⟨#[69, 108, 108, 105, 112, 115, 105, 115]⟩ 51), .ellipsis⟩,
  ⟨PyData.keyHash P ⟨#[78, 111, 116, 73, 109, 112, 108, 101, 109, 101, 110, 116, 101, 100]⟩, (.str ⟨#[78, 111, 116, 73, 109, 112, 108, 101, 109, 101, 110, 116, 101, 100]⟩ 52), .notImplemented⟩,
  ⟨PyData.keyHash P ⟨#[70, 97, 108, 115, 101]⟩, (.str ⟨#[70, 97, 108, 115, 101]⟩ 53), (.bool false)⟩,
  ⟨PyData.keyHash P ⟨#[84, 114, 117, 101]⟩, (.str ⟨#[84, 114, 117, 101]⟩ 54), (.bool true)⟩,
  ⟨PyData.keyHash P ⟨#[98, 111, 111, 108]⟩, (.str ⟨#[98, 111, 111, 108]⟩ 55), (.type "bool")⟩,
  ⟨PyData.keyHash P ⟨#[109, 101, 109, 111, 114, 121, 118, 105, 101, 119]⟩, (.str ⟨#[109, 101, 109, 111, 114, 121, 118, 105, 101, 119]⟩ 56), (.type "memoryview")⟩,
  ⟨PyData.keyHash P ⟨#[98, 121, 116, 101, 97, 114, 114, 97, 121]⟩, (.str ⟨#[98, 121, 116, 101, 97, 114, 114, 97, 121]⟩ 57), (.type "bytearray")⟩,
  ⟨PyData.keyHash P ⟨#[98, 121, 116, 101, 115]⟩, (.str ⟨#[98, 121, 116, 101, 115]⟩ 58), (.type "bytes")⟩,
  ⟨PyData.keyHash P ⟨#[99, 108, 97, 115, 115, 109, 101, 116, 104, 111, 100]⟩, (.str ⟨#[99, 108, 97, 115, 115, 109, 101, 116, 104, 111, 100]⟩ 59), (.type "classmethod")⟩,
  ⟨PyData.keyHash P ⟨#[99, 111, 109, 112, 108, 101, 120]⟩, (.str ⟨#[99, 111, 109, 112, 108, 101, 120]⟩ 60), (.type "complex")⟩,
  ⟨PyData.keyHash P ⟨#[100, 105, 99, 116]⟩, (.str ⟨#[100, 105, 99, 116]⟩ 61), (.type "dict")⟩,
  ⟨PyData.keyHash P ⟨#[101, 110, 117, 109, 101, 114, 97, 116, 101]⟩, (.str ⟨#[101, 110, 117, 109, 101, 114, 97, 116, 101]⟩ 62), (.type "enumerate")⟩,
  ⟨PyData.keyHash P ⟨#[102, 105, 108, 116, 101, 114]⟩, (.str ⟨#[102, 105, 108, 116, 101, 114]⟩ 63), (.type "filter")⟩,
  ⟨PyData.keyHash P ⟨#[102, 108, 111, 97, 116]⟩, (.str ⟨#[102, 108, 111, 97, 116]⟩ 64), (.type "float")⟩,
  ⟨PyData.keyHash P ⟨#[102, 114, 111, 122, 101, 110, 115, 101, 116]⟩, (.str ⟨#[102, 114, 111, 122, 101, 110, 115, 101, 116]⟩ 65), (.type "frozenset")⟩,
  ⟨PyData.keyHash P ⟨#[112, 114, 111, 112, 101, 114, 116, 121]⟩, (.str ⟨#[112, 114, 111, 112, 101, 114, 116, 121]⟩ 66), (.type "property")⟩,
  ⟨PyData.keyHash P ⟨#[105, 110, 116]⟩, (.str ⟨#[105, 110, 116]⟩ 67), (.type "int")⟩,
  ⟨PyData.keyHash P ⟨#[108, 105, 115, 116]⟩, (.str ⟨#[108, 105, 115, 116]⟩ 68), (.type "list")⟩,
  ⟨PyData.keyHash P ⟨#[109, 97, 112]⟩, (.str ⟨#[109, 97, 112]⟩ 69), (.type "map")⟩,
  ⟨PyData.keyHash P ⟨#[111, 98, 106, 101, 99, 116]⟩, (.str ⟨#[111, 98, 106, 101, 99, 116]⟩ 70), (.type "object")⟩,
  ⟨PyData.keyHash P ⟨#[114, 97, 110, 103, 101]⟩, (.str ⟨#[114, 97, 110, 103, 101]⟩ 71), (.type "range")⟩,
  ⟨PyData.keyHash P ⟨#[114, 101, 118, 101, 114, 115, 101, 100]⟩, (.str ⟨#[114, 101, 118, 101, 114, 115, 101, 100]⟩ 72), (.type "reversed")⟩,
  ⟨PyData.keyHash P ⟨#[115, 101, 116]⟩, (.str ⟨#[115, 101, 116]⟩ 73), (.type "set")⟩,
  ⟨PyData.keyHash P ⟨#[115, 108, 105, 99, 101]⟩, (.str ⟨#[115, 108, 105, 99, 101]⟩ 74), (.type "slice")⟩,
  ⟨PyData.keyHash P ⟨#[115, 116, 97, 116, 105, 99, 109, 101, 116, 104, 111, 100]⟩, (.str ⟨#[115, 116, 97, 116, 105, 99, 109, 101, 116, 104, 111, 100]⟩ 75), (.type "staticmethod")⟩,
  ⟨PyData.keyHash P ⟨#[115, 116, 114]⟩, (.str ⟨#[115, 116, 114]⟩ 76), (.type "str")⟩,
  ⟨PyData.keyHash P ⟨#[115, 117, 112, 101, 114]⟩, (.str ⟨#[115, 117, 112, 101, 114]⟩ 77), (.type "super")⟩,
  ⟨PyData.keyHash P ⟨#[116, 117, 112, 108, 101]⟩, (.str ⟨#[116, 117, 112, 108, 101]⟩ 78), (.type "tuple")⟩,
  ⟨PyData.keyHash P ⟨#[116, 121, 112, 101]⟩, (.str ⟨#[116, 121, 112, 101]⟩ 79), (.type "type")⟩,
  ⟨PyData.keyHash P ⟨#[122, 105, 112]⟩, (.str ⟨#[122, 105, 112]⟩ 80), (.type "zip")⟩,
  ⟨PyData.keyHash P ⟨#[95, 95, 100, 101, 98, 117, 103, 95, 95]⟩, (.str ⟨#[95, 95, 100, 101, 98, 117, 103, 95, 95]⟩ 81), (.bool true)⟩,
  ⟨PyData.keyHash P ⟨#[66, 97, 115, 101, 69, 120, 99, 101, 112, 116, 105, 111, 110]⟩, (.str ⟨#[66, 97, 115, 101, 69, 120, 99, 101, 112, 116, 105, 111, 110]⟩ 82), (.type "BaseException")⟩,
  ⟨PyData.keyHash P ⟨#[66, 97, 115, 101, 69, 120, 99, 101, 112, 116, 105, 111, 110, 71, 114, 111, 117, 112]⟩, (.str ⟨#[66, 97, 115, 101, 69, 120, 99, 101, 112, 116, 105, 111, 110, 71, 114, 111, 117, 112]⟩ 83), (.type "BaseExceptionGroup")⟩,
  ⟨PyData.keyHash P ⟨#[69, 120, 99, 101, 112, 116, 105, 111, 110]⟩, (.str ⟨#[69, 120, 99, 101, 112, 116, 105, 111, 110]⟩ 84), (.type "Exception")⟩,
  ⟨PyData.keyHash P ⟨#[71, 101, 110, 101, 114, 97, 116, 111, 114, 69, 120, 105, 116]⟩, (.str ⟨#[71, 101, 110, 101, 114, 97, 116, 111, 114, 69, 120, 105, 116]⟩ 85), (.type "GeneratorExit")⟩,
  ⟨PyData.keyHash P ⟨#[75, 101, 121, 98, 111, 97, 114, 100, 73, 110, 116, 101, 114, 114, 117, 112, 116]⟩, (.str ⟨#[75, 101, 121, 98, 111, 97, 114, 100, 73, 110, 116, 101, 114, 114, 117, 112, 116]⟩ 86), (.type "KeyboardInterrupt")⟩,
  ⟨PyData.keyHash P ⟨#[83, 121, 115, 116, 101, 109, 69, 120, 105, 116]⟩, (.str ⟨#[83, 121, 115, 116, 101, 109, 69, 120, 105, 116]⟩ 87), (.type "SystemExit")⟩,
  ⟨PyData.keyHash P ⟨#[65, 114, 105, 116, 104, 109, 101, 116, 105, 99, 69, 114, 114, 111, 114]⟩, (.str ⟨#[65, 114, 105, 116, 104, 109, 101, 116, 105, 99, 69, 114, 114, 111, 114]⟩ 88), (.type "ArithmeticError")⟩,
  ⟨PyData.keyHash P ⟨#[65, 115, 115, 101, 114, 116, 105, 111, 110, 69, 114, 114, 111, 114]⟩, (.str ⟨#[65, 115, 115, 101, 114, 116, 105, 111, 110, 69, 114, 114, 111, 114]⟩ 89), (.type "AssertionError")⟩,
  ⟨PyData.keyHash P ⟨#[65, 116, 116, 114, 105, 98, 117, 116, 101, 69, 114, 114, 111, 114]⟩, (.str ⟨#[65, 116, 116, 114, 105, 98, 117, 116, 101, 69, 114, 114, 111, 114]⟩ 90), (.type "AttributeError")⟩,
  ⟨PyData.keyHash P ⟨#[66, 117, 102, 102, 101, 114, 69, 114, 114, 111, 114]⟩, (.str ⟨#[66, 117, 102, 102, 101, 114, 69, 114, 114, 111, 114]⟩ 91), (.type "BufferError")⟩,
  ⟨PyData.keyHash P ⟨#[69, 79, 70, 69, 114, 114, 111, 114]⟩, (.str ⟨#[69, 79, 70, 69, 114, 114, 111, 114]⟩ 92), (.type "EOFError")⟩,
  ⟨PyData.keyHash P ⟨#[73, 109, 112, 111, 114, 116, 69, 114, 114, 111, 114]⟩, (.str ⟨#[73, 109, 112, 111, 114, 116, 69, 114, 114, 111, 114]⟩ 93), (.type "ImportError")⟩,
  ⟨PyData.keyHash P ⟨#[76, 111, 111, 107, 117, 112, 69, 114, 114, 111, 114]⟩, (.str ⟨#[76, 111, 111, 107, 117, 112, 69, 114, 114, 111, 114]⟩ 94), (.type "LookupError")⟩,
  ⟨PyData.keyHash P ⟨#[77, 101, 109, 111, 114, 121, 69, 114, 114, 111, 114]⟩, (.str ⟨#[77, 101, 109, 111, 114, 121, 69, 114, 114, 111, 114]⟩ 95), (.type "MemoryError")⟩,
  ⟨PyData.keyHash P ⟨#[78, 97, 109, 101, 69, 114, 114, 111, 114]⟩, (.str ⟨#[78, 97, 109, 101, 69, 114, 114, 111, 114]⟩ 96), (.type "NameError")⟩,
  ⟨PyData.keyHash P ⟨#[79, 83, 69, 114, 114, 111, 114]⟩, (.str ⟨#[79, 83, 69, 114, 114, 111, 114]⟩ 97), (.type "OSError")⟩,
  ⟨PyData.keyHash P ⟨#[82, 101, 102, 101, 114, 101, 110, 99, 101, 69, 114, 114, 111, 114]⟩, (.str ⟨#[82, 101, 102, 101, 114, 101, 110, 99, 101, 69, 114, 114, 111, 114]⟩ 98), (.type "ReferenceError")⟩,
  ⟨PyData.keyHash P ⟨#[82, 117, 110, 116, 105, 109, 101, 69, 114, 114, 111, 114]⟩, (.str ⟨#[82, 117, 110, 116, 105, 109, 101, 69, 114, 114, 111, 114]⟩ 99), (.type "RuntimeError")⟩,
  ⟨PyData.keyHash P ⟨#[83, 116, 111, 112, 65, 115, 121, 110, 99, 73, 116, 101, 114, 97, 116, 105, 111, 110]⟩, (.str ⟨#[83, 116, 111, 112, 65, 115, 121, 110, 99, 73, 116, 101, 114, 97, 116, 105, 111, 110]⟩ 100), (.type "StopAsyncIteration")⟩,
  ⟨PyData.keyHash P ⟨#[83, 116, 111, 112, 73, 116, 101, 114, 97, 116, 105, 111, 110]⟩, (.str ⟨#[83, 116, 111, 112, 73, 116, 101, 114, 97, 116, 105, 111, 110]⟩ 101), (.type "StopIteration")⟩,
  ⟨PyData.keyHash P ⟨#[83, 121, 110, 116, 97, 120, 69, 114, 114, 111, 114]⟩, (.str ⟨#[83, 121, 110, 116, 97, 120, 69, 114, 114, 111, 114]⟩ 102), (.type "SyntaxError")⟩,
  ⟨PyData.keyHash P ⟨#[83, 121, 115, 116, 101, 109, 69, 114, 114, 111, 114]⟩, (.str ⟨#[83, 121, 115, 116, 101, 109, 69, 114, 114, 111, 114]⟩ 103), (.type "SystemError")⟩,
  ⟨PyData.keyHash P ⟨#[84, 121, 112, 101, 69, 114, 114, 111, 114]⟩, (.str ⟨#[84, 121, 112, 101, 69, 114, 114, 111, 114]⟩ 104), (.type "TypeError")⟩,
  ⟨PyData.keyHash P ⟨#[86, 97, 108, 117, 101, 69, 114, 114, 111, 114]⟩, (.str ⟨#[86, 97, 108, 117, 101, 69, 114, 114, 111, 114]⟩ 105), (.type "ValueError")⟩,
  ⟨PyData.keyHash P ⟨#[87, 97, 114, 110, 105, 110, 103]⟩, (.str ⟨#[87, 97, 114, 110, 105, 110, 103]⟩ 106), (.type "Warning")⟩,
  ⟨PyData.keyHash P ⟨#[70, 108, 111, 97, 116, 105, 110, 103, 80, 111, 105, 110, 116, 69, 114, 114, 111, 114]⟩, (.str ⟨#[70, 108, 111, 97, 116, 105, 110, 103, 80, 111, 105, 110, 116, 69, 114, 114, 111, 114]⟩ 107), (.type "FloatingPointError")⟩,
  ⟨PyData.keyHash P ⟨#[79, 118, 101, 114, 102, 108, 111, 119, 69, 114, 114, 111, 114]⟩, (.str ⟨#[79, 118, 101, 114, 102, 108, 111, 119, 69, 114, 114, 111, 114]⟩ 108), (.type "OverflowError")⟩,
  ⟨PyData.keyHash P ⟨#[90, 101, 114, 111, 68, 105, 118, 105, 115, 105, 111, 110, 69, 114, 114, 111, 114]⟩, (.str ⟨#[90, 101, 114, 111, 68, 105, 118, 105, 115, 105, 111, 110, 69, 114, 114, 111, 114]⟩ 109), (.type "ZeroDivisionError")⟩,
  ⟨PyData.keyHash P ⟨#[66, 121, 116, 101, 115, 87, 97, 114, 110, 105, 110, 103]⟩, (.str ⟨#[66, 121, 116, 101, 115, 87, 97, 114, 110, 105, 110, 103]⟩ 110), (.type "BytesWarning")⟩,
  ⟨PyData.keyHash P ⟨#[68, 101, 112, 114, 101, 99, 97, 116, 105, 111, 110, 87, 97, 114, 110, 105, 110, 103]⟩, (.str ⟨#[68, 101, 112, 114, 101, 99, 97, 116, 105, 111, 110, 87, 97, 114, 110, 105, 110, 103]⟩ 111), (.type "DeprecationWarning")⟩,
  ⟨PyData.keyHash P ⟨#[69, 110, 99, 111, 100, 105, 110, 103, 87, 97, 114, 110, 105, 110, 103]⟩, (.str ⟨#[69, 110, 99, 111, 100, 105, 110, 103, 87, 97, 114, 110, 105, 110, 103]⟩ 112), (.type "EncodingWarning")⟩,
  ⟨PyData.keyHash P ⟨#[70, 117, 116, 117, 114, 101, 87, 97, 114, 110, 105, 110, 103]⟩, (.str ⟨#[70, 117, 116, 117, 114, 101, 87, 97, 114, 110, 105, 110, 103]⟩ 113), (.type "FutureWarning")⟩,
  ⟨PyData.keyHash P ⟨#[73, 109, 112, 111, 114, 116, 87, 97, 114, 110, 105, 110, 103]⟩, (.str ⟨#[73, 109, 112, 111, 114, 116, 87, 97, 114, 110, 105, 110, 103]⟩ 114), (.type "ImportWarning")⟩,
  ⟨PyData.keyHash P ⟨#[80, 101, 110, 100, 105, 110, 103, 68, 101, 112, 114, 101, 99, 97, 116, 105, 111, 110, 87, 97, 114, 110, 105, 110, 103]⟩, (.str ⟨#[80, 101, 110, 100, 105, 110, 103, 68, 101, 112, 114, 101, 99, 97, 116, 105, 111, 110, 87, 97, 114, 110, 105, 110, 103]⟩ 115), (.type "PendingDeprecationWarning")⟩,
  ⟨PyData.keyHash P ⟨#[82, 101, 115, 111, 117, 114, 99, 101, 87, 97, 114, 110, 105, 110, 103]⟩, (.str ⟨#[82, 101, 115, 111, 117, 114, 99, 101, 87, 97, 114, 110, 105, 110, 103]⟩ 116), (.type "ResourceWarning")⟩,
  ⟨PyData.keyHash P ⟨#[82, 117, 110, 116, 105, 109, 101, 87, 97, 114, 110, 105, 110, 103]⟩, (.str ⟨#[82, 117, 110, 116, 105, 109, 101, 87, 97, 114, 110, 105, 110, 103]⟩ 117), (.type "RuntimeWarning")⟩,
  ⟨PyData.keyHash P ⟨#[83, 121, 110, 116, 97, 120, 87, 97, 114, 110, 105, 110, 103]⟩, (.str ⟨#[83, 121, 110, 116, 97, 120, 87, 97, 114, 110, 105, 110, 103]⟩ 118), (.type "SyntaxWarning")⟩,
  ⟨PyData.keyHash P ⟨#[85, 110, 105, 99, 111, 100, 101, 87, 97, 114, 110, 105, 110, 103]⟩, (.str ⟨#[85, 110, 105, 99, 111, 100, 101, 87, 97, 114, 110, 105, 110, 103]⟩ 119), (.type "UnicodeWarning")⟩,
  ⟨PyData.keyHash P ⟨#[85, 115, 101, 114, 87, 97, 114, 110, 105, 110, 103]⟩, (.str ⟨#[85, 115, 101, 114, 87, 97, 114, 110, 105, 110, 103]⟩ 120), (.type "UserWarning")⟩,
  ⟨PyData.keyHash P ⟨#[66, 108, 111, 99, 107, 105, 110, 103, 73, 79, 69, 114, 114, 111, 114]⟩, (.str ⟨#[66, 108, 111, 99, 107, 105, 110, 103, 73, 79, 69, 114, 114, 111, 114]⟩ 121), (.type "BlockingIOError")⟩,
  ⟨PyData.keyHash P ⟨#[67, 104, 105, 108, 100, 80, 114, 111, 99, 101, 115, 115, 69, 114, 114, 111, 114]⟩, (.str ⟨#[67, 104, 105, 108, 100, 80, 114, 111, 99, 101, 115, 115, 69, 114, 114, 111, 114]⟩ 122), (.type "ChildProcessError")⟩,
  ⟨PyData.keyHash P ⟨#[67, 111, 110, 110, 101, 99, 116, 105, 111, 110, 69, 114, 114, 111, 114]⟩, (.str ⟨#[67, 111, 110, 110, 101, 99, 116, 105, 111, 110, 69, 114, 114, 111, 114]⟩ 123), (.type "ConnectionError")⟩,
  ⟨PyData.keyHash P ⟨#[70, 105, 108, 101, 69, 120, 105, 115, 116, 115, 69, 114, 114, 111, 114]⟩, (.str ⟨#[70, 105, 108, 101, 69, 120, 105, 115, 116, 115, 69, 114, 114, 111, 114]⟩ 124), (.type "FileExistsError")⟩,
  ⟨PyData.keyHash P ⟨#[70, 105, 108, 101, 78, 111, 116, 70, 111, 117, 110, 100, 69, 114, 114, 111, 114]⟩, (.str ⟨#[70, 105, 108, 101, 78, 111, 116, 70, 111, 117, 110, 100, 69, 114, 114, 111, 114]⟩ 125), (.type "FileNotFoundError")⟩,
  ⟨PyData.keyHash P ⟨#[73, 110, 116, 101, 114, 114, 117, 112, 116, 101, 100, 69, 114, 114, 111, 114]⟩, (.str ⟨#[73, 110, 116, 101, 114, 114, 117, 112, 116, 101, 100, 69, 114, 114, 111, 114]⟩ 126), (.type "InterruptedError")⟩,
  ⟨PyData.keyHash P ⟨#[73, 115, 65, 68, 105, 114, 101, 99, 116, 111, 114, 121, 69, 114, 114, 111, 114]⟩, (.str ⟨#[73, 115, 65, 68, 105, 114, 101, 99, 116, 111, 114, 121, 69, 114, 114, 111, 114]⟩ 127), (.type "IsADirectoryError")⟩,
  ⟨PyData.keyHash P ⟨#[78, 111, 116, 65, 68, 105, 114, 101, 99, 116, 111, 114, 121, 69, 114, 114, 111, 114]⟩, (.str ⟨#[78, 111, 116, 65, 68, 105, 114, 101, 99, 116, 111, 114, 121, 69, 114, 114, 111, 114]⟩ 128), (.type "NotADirectoryError")⟩,
  ⟨PyData.keyHash P ⟨#[80, 101, 114, 109, 105, 115, 115, 105, 111, 110, 69, 114, 114, 111, 114]⟩, (.str ⟨#[80, 101, 114, 109, 105, 115, 115, 105, 111, 110, 69, 114, 114, 111, 114]⟩ 129), (.type "PermissionError")⟩,
  ⟨PyData.keyHash P ⟨#[80, 114, 111, 99, 101, 115, 115, 76, 111, 111, 107, 117, 112, 69, 114, 114, 111, 114]⟩, (.str ⟨#[80, 114, 111, 99, 101, 115, 115, 76, 111, 111, 107, 117, 112, 69, 114, 114, 111, 114]⟩ 130), (.type "ProcessLookupError")⟩,
  ⟨PyData.keyHash P ⟨#[84, 105, 109, 101, 111, 117, 116, 69, 114, 114, 111, 114]⟩, (.str ⟨#[84, 105, 109, 101, 111, 117, 116, 69, 114, 114, 111, 114]⟩ 131), (.type "TimeoutError")⟩,
  ⟨PyData.keyHash P ⟨#[73, 110, 100, 101, 110, 116, 97, 116, 105, 111, 110, 69, 114, 114, 111, 114]⟩, (.str ⟨#[73, 110, 100, 101, 110, 116, 97, 116, 105, 111, 110, 69, 114, 114, 111, 114]⟩ 132), (.type "IndentationError")⟩,
  ⟨PyData.keyHash P ⟨#[95, 73, 110, 99, 111, 109, 112, 108, 101, 116, 101, 73, 110, 112, 117, 116, 69, 114, 114, 111, 114]⟩, (.str ⟨#[95, 73, 110, 99, 111, 109, 112, 108, 101, 116, 101, 73, 110, 112, 117, 116, 69, 114, 114, 111, 114]⟩ 133), (.type "_IncompleteInputError")⟩,
  ⟨PyData.keyHash P ⟨#[73, 110, 100, 101, 120, 69, 114, 114, 111, 114]⟩, (.str ⟨#[73, 110, 100, 101, 120, 69, 114, 114, 111, 114]⟩ 134), (.type "IndexError")⟩,
  ⟨PyData.keyHash P ⟨#[75, 101, 121, 69, 114, 114, 111, 114]⟩, (.str ⟨#[75, 101, 121, 69, 114, 114, 111, 114]⟩ 135), (.type "KeyError")⟩,
  ⟨PyData.keyHash P ⟨#[77, 111, 100, 117, 108, 101, 78, 111, 116, 70, 111, 117, 110, 100, 69, 114, 114, 111, 114]⟩, (.str ⟨#[77, 111, 100, 117, 108, 101, 78, 111, 116, 70, 111, 117, 110, 100, 69, 114, 114, 111, 114]⟩ 136), (.type "ModuleNotFoundError")⟩,
  ⟨PyData.keyHash P ⟨#[78, 111, 116, 73, 109, 112, 108, 101, 109, 101, 110, 116, 101, 100, 69, 114, 114, 111, 114]⟩, (.str ⟨#[78, 111, 116, 73, 109, 112, 108, 101, 109, 101, 110, 116, 101, 100, 69, 114, 114, 111, 114]⟩ 137), (.type "NotImplementedError")⟩,
  ⟨PyData.keyHash P ⟨#[80, 121, 116, 104, 111, 110, 70, 105, 110, 97, 108, 105, 122, 97, 116, 105, 111, 110, 69, 114, 114, 111, 114]⟩, (.str ⟨#[80, 121, 116, 104, 111, 110, 70, 105, 110, 97, 108, 105, 122, 97, 116, 105, 111, 110, 69, 114, 114, 111, 114]⟩ 138), (.type "PythonFinalizationError")⟩,
  ⟨PyData.keyHash P ⟨#[82, 101, 99, 117, 114, 115, 105, 111, 110, 69, 114, 114, 111, 114]⟩, (.str ⟨#[82, 101, 99, 117, 114, 115, 105, 111, 110, 69, 114, 114, 111, 114]⟩ 139), (.type "RecursionError")⟩,
  ⟨PyData.keyHash P ⟨#[85, 110, 98, 111, 117, 110, 100, 76, 111, 99, 97, 108, 69, 114, 114, 111, 114]⟩, (.str ⟨#[85, 110, 98, 111, 117, 110, 100, 76, 111, 99, 97, 108, 69, 114, 114, 111, 114]⟩ 140), (.type "UnboundLocalError")⟩,
  ⟨PyData.keyHash P ⟨#[85, 110, 105, 99, 111, 100, 101, 69, 114, 114, 111, 114]⟩, (.str ⟨#[85, 110, 105, 99, 111, 100, 101, 69, 114, 114, 111, 114]⟩ 141), (.type "UnicodeError")⟩,
  ⟨PyData.keyHash P ⟨#[66, 114, 111, 107, 101, 110, 80, 105, 112, 101, 69, 114, 114, 111, 114]⟩, (.str ⟨#[66, 114, 111, 107, 101, 110, 80, 105, 112, 101, 69, 114, 114, 111, 114]⟩ 142), (.type "BrokenPipeError")⟩,
  ⟨PyData.keyHash P ⟨#[67, 111, 110, 110, 101, 99, 116, 105, 111, 110, 65, 98, 111, 114, 116, 101, 100, 69, 114, 114, 111, 114]⟩, (.str ⟨#[67, 111, 110, 110, 101, 99, 116, 105, 111, 110, 65, 98, 111, 114, 116, 101, 100, 69, 114, 114, 111, 114]⟩ 143), (.type "ConnectionAbortedError")⟩,
  ⟨PyData.keyHash P ⟨#[67, 111, 110, 110, 101, 99, 116, 105, 111, 110, 82, 101, 102, 117, 115, 101, 100, 69, 114, 114, 111, 114]⟩, (.str ⟨#[67, 111, 110, 110, 101, 99, 116, 105, 111, 110, 82, 101, 102, 117, 115, 101, 100, 69, 114, 114, 111, 114]⟩ 144), (.type "ConnectionRefusedError")⟩,
  ⟨PyData.keyHash P ⟨#[67, 111, 110, 110, 101, 99, 116, 105, 111, 110, 82, 101, 115, 101, 116, 69, 114, 114, 111, 114]⟩, (.str ⟨#[67, 111, 110, 110, 101, 99, 116, 105, 111, 110, 82, 101, 115, 101, 116, 69, 114, 114, 111, 114]⟩ 145), (.type "ConnectionResetError")⟩,
  ⟨PyData.keyHash P ⟨#[84, 97, 98, 69, 114, 114, 111, 114]⟩, (.str ⟨#[84, 97, 98, 69, 114, 114, 111, 114]⟩ 146), (.type "TabError")⟩,
  ⟨PyData.keyHash P ⟨#[85, 110, 105, 99, 111, 100, 101, 68, 101, 99, 111, 100, 101, 69, 114, 114, 111, 114]⟩, (.str ⟨#[85, 110, 105, 99, 111, 100, 101, 68, 101, 99, 111, 100, 101, 69, 114, 114, 111, 114]⟩ 147), (.type "UnicodeDecodeError")⟩,
  ⟨PyData.keyHash P ⟨#[85, 110, 105, 99, 111, 100, 101, 69, 110, 99, 111, 100, 101, 69, 114, 114, 111, 114]⟩, (.str ⟨#[85, 110, 105, 99, 111, 100, 101, 69, 110, 99, 111, 100, 101, 69, 114, 114, 111, 114]⟩ 148), (.type "UnicodeEncodeError")⟩,
  ⟨PyData.keyHash P ⟨#[85, 110, 105, 99, 111, 100, 101, 84, 114, 97, 110, 115, 108, 97, 116, 101, 69, 114, 114, 111, 114]⟩, (.str ⟨#[85, 110, 105, 99, 111, 100, 101, 84, 114, 97, 110, 115, 108, 97, 116, 101, 69, 114, 114, 111, 114]⟩ 149), (.type "UnicodeTranslateError")⟩,
  ⟨PyData.keyHash P ⟨#[69, 120, 99, 101, 112, 116, 105, 111, 110, 71, 114, 111, 117, 112]⟩, (.str ⟨#[69, 120, 99, 101, 112, 116, 105, 111, 110, 71, 114, 111, 117, 112]⟩ 150), (.type "ExceptionGroup")⟩,
  ⟨PyData.keyHash P ⟨#[69, 110, 118, 105, 114, 111, 110, 109, 101, 110, 116, 69, 114, 114, 111, 114]⟩, (.str ⟨#[69, 110, 118, 105, 114, 111, 110, 109, 101, 110, 116, 69, 114, 114, 111, 114]⟩ 151), (.type "OSError")⟩,
  ⟨PyData.keyHash P ⟨#[73, 79, 69, 114, 114, 111, 114]⟩, (.str ⟨#[73, 79, 69, 114, 114, 111, 114]⟩ 152), (.type "OSError")⟩,
  ⟨PyData.keyHash P ⟨#[111, 112, 101, 110]⟩, (.str ⟨#[111, 112, 101, 110]⟩ 153), (.builtin "open")⟩,
  ⟨PyData.keyHash P ⟨#[113, 117, 105, 116]⟩, (.str ⟨#[113, 117, 105, 116]⟩ 154), (.builtin "builtins.quit#opaque")⟩,
  ⟨PyData.keyHash P ⟨#[101, 120, 105, 116]⟩, (.str ⟨#[101, 120, 105, 116]⟩ 155), (.builtin "builtins.exit#opaque")⟩,
  ⟨PyData.keyHash P ⟨#[99, 111, 112, 121, 114, 105, 103, 104, 116]⟩, (.str ⟨#[99, 111, 112, 121, 114, 105, 103, 104, 116]⟩ 156), (.builtin "builtins.copyright#opaque")⟩,
  ⟨PyData.keyHash P ⟨#[99, 114, 101, 100, 105, 116, 115]⟩, (.str ⟨#[99, 114, 101, 100, 105, 116, 115]⟩ 157), (.builtin "builtins.credits#opaque")⟩,
  ⟨PyData.keyHash P ⟨#[108, 105, 99, 101, 110, 115, 101]⟩, (.str ⟨#[108, 105, 99, 101, 110, 115, 101]⟩ 158), (.builtin "builtins.license#opaque")⟩,
  ⟨PyData.keyHash P ⟨#[104, 101, 108, 112]⟩, (.str ⟨#[104, 101, 108, 112]⟩ 159), (.builtin "builtins.help#opaque")⟩] 159), #[]⟩
noncomputable def so2 (P : Params) : Obj :=
  ⟨.none, none, (.dict #[⟨PyData.keyHash P ⟨#[105, 109, 112, 111, 114, 116, 46, 108, 111, 97, 100, 101, 100, 46, 95, 115, 114, 101]⟩, (.str ⟨#[105, 109, 112, 111, 114, 116, 46, 108, 111, 97, 100, 101, 100, 46, 95, 115, 114, 101]⟩ 183), (.bool true)⟩,
  ⟨PyData.keyHash P ⟨#[99, 108, 97, 115, 115, 46, 95, 102, 114, 111, 122, 101, 110, 95, 105, 109, 112, 111, 114, 116, 108, 105, 98, 46, 66, 117, 105, 108, 116, 105, 110, 73, 109, 112, 111, 114, 116, 101, 114]⟩, (.str ⟨#[99, 108, 97, 115, 115, 46, 95, 102, 114, 111, 122, 101, 110, 95, 105, 109, 112, 111, 114, 116, 108, 105, 98, 46, 66, 117, 105, 108, 116, 105, 110, 73, 109, 112, 111, 114, 116, 101, 114]⟩ 185), (.ref 14)⟩,
  ⟨PyData.keyHash P ⟨#[119, 97, 116, 99, 104, 101, 100, 46, 105, 109, 112, 111, 114, 116]⟩, (.str ⟨#[119, 97, 116, 99, 104, 101, 100, 46, 105, 109, 112, 111, 114, 116]⟩ 206), (.ref 18)⟩,
  ⟨PyData.keyHash P ⟨#[99, 108, 97, 115, 115, 46, 95, 102, 114, 111, 122, 101, 110, 95, 105, 109, 112, 111, 114, 116, 108, 105, 98, 46, 77, 111, 100, 117, 108, 101, 83, 112, 101, 99]⟩, (.str ⟨#[99, 108, 97, 115, 115, 46, 95, 102, 114, 111, 122, 101, 110, 95, 105, 109, 112, 111, 114, 116, 108, 105, 98, 46, 77, 111, 100, 117, 108, 101, 83, 112, 101, 99]⟩ 216), (.ref 22)⟩,
  ⟨PyData.keyHash P ⟨#[115, 121, 115, 46, 109, 111, 100, 117, 108, 101, 115, 46, 98, 111, 111, 107, 101, 100, 45, 101, 112, 111, 99, 104]⟩, (.str ⟨#[115, 121, 115, 46, 109, 111, 100, 117, 108, 101, 115, 46, 98, 111, 111, 107, 101, 100, 45, 101, 112, 111, 99, 104]⟩ 245), (.int 3 0)⟩,
  ⟨PyData.keyHash P ⟨#[105, 109, 112, 111, 114, 116, 46, 108, 97, 116, 101, 114, 45, 108, 97, 105, 100, 46, 95, 115, 114, 101]⟩, (.str ⟨#[105, 109, 112, 111, 114, 116, 46, 108, 97, 116, 101, 114, 45, 108, 97, 105, 100, 46, 95, 115, 114, 101]⟩ 270), (.bool true)⟩,
  ⟨PyData.keyHash P ⟨#[119, 97, 116, 99, 104, 101, 100, 46, 108, 105, 98, 114, 97, 114, 121]⟩, (.str ⟨#[119, 97, 116, 99, 104, 101, 100, 46, 108, 105, 98, 114, 97, 114, 121]⟩ 272), (.ref 27)⟩,
  ⟨PyData.keyHash P ⟨#[119, 97, 116, 99, 104, 101, 100, 46, 108, 105, 98, 114, 97, 114, 121, 45, 111, 98, 106, 101, 99, 116, 115]⟩, (.str ⟨#[119, 97, 116, 99, 104, 101, 100, 46, 108, 105, 98, 114, 97, 114, 121, 45, 111, 98, 106, 101, 99, 116, 115]⟩ 0), (.str ⟨#[12]⟩ 0)⟩,
  ⟨PyData.keyHash P ⟨#[119, 97, 116, 99, 104, 101, 100, 46, 108, 105, 98, 114, 97, 114, 121, 45, 100, 101, 101, 112, 46, 95, 115, 114, 101]⟩, (.str ⟨#[119, 97, 116, 99, 104, 101, 100, 46, 108, 105, 98, 114, 97, 114, 121, 45, 100, 101, 101, 112, 46, 95, 115, 114, 101]⟩ 273), (.str ⟨#[4, 0, 0, 11, 4, 0, 0, 11, 4, 0, 0, 3, 4, 0, 0, 11, 8, 4, 100, 105, 99, 116, 2]⟩ 0)⟩] 9), #[]⟩
noncomputable def so3 (P : Params) : Obj :=
  ⟨(.type "dict"), none, (.dict #[⟨PyData.keyHash P ⟨#[95, 95, 110, 97, 109, 101, 95, 95]⟩, (.str ⟨#[95, 95, 110, 97, 109, 101, 95, 95]⟩ 165), (.str ⟨#[108, 97, 119, 95, 122, 100, 48, 48, 49, 53, 95, 48, 49]⟩ 626)⟩,
  ⟨PyData.keyHash P ⟨#[95, 95, 100, 111, 99, 95, 95]⟩, (.str ⟨#[95, 95, 100, 111, 99, 95, 95]⟩ 166), .none⟩,
  ⟨PyData.keyHash P ⟨#[95, 95, 112, 97, 99, 107, 97, 103, 101, 95, 95]⟩, (.str ⟨#[95, 95, 112, 97, 99, 107, 97, 103, 101, 95, 95]⟩ 167), .none⟩,
  ⟨PyData.keyHash P ⟨#[95, 95, 108, 111, 97, 100, 101, 114, 95, 95]⟩, (.str ⟨#[95, 95, 108, 111, 97, 100, 101, 114, 95, 95]⟩ 168), (.builtin "__main__.__loader__#opaque")⟩,
  ⟨PyData.keyHash P ⟨#[95, 95, 115, 112, 101, 99, 95, 95]⟩, (.str ⟨#[95, 95, 115, 112, 101, 99, 95, 95]⟩ 169), .none⟩,
  ⟨PyData.keyHash P ⟨#[95, 95, 97, 110, 110, 111, 116, 97, 116, 105, 111, 110, 115, 95, 95]⟩, (.str ⟨#[95, 95, 97, 110, 110, 111, 116, 97, 116, 105, 111, 110, 115, 95, 95]⟩ 170), (.ref 6)⟩,
  ⟨PyData.keyHash P ⟨#[95, 95, 98, 117, 105, 108, 116, 105, 110, 115, 95, 95]⟩, (.str ⟨#[95, 95, 98, 117, 105, 108, 116, 105, 110, 115, 95, 95]⟩ 171), (.ref 4)⟩,
  ⟨PyData.keyHash P ⟨#[95, 95, 102, 105, 108, 101, 95, 95]⟩, (.str ⟨#[95, 95, 102, 105, 108, 101, 95, 95]⟩ 173), (.str ⟨#[47, 99, 108, 97, 105, 109, 47, 99, 117, 116, 46, 112, 121]⟩ 172)⟩,
  ⟨PyData.keyHash P ⟨#[95, 95, 99, 97, 99, 104, 101, 100, 95, 95]⟩, (.str ⟨#[95, 95, 99, 97, 99, 104, 101, 100, 95, 95]⟩ 174), .none⟩,
  ⟨PyData.keyHash P ⟨#[95, 115, 114, 101]⟩, (.str ⟨#[95, 115, 114, 101]⟩ 275), (.ref 12)⟩,
  ⟨PyData.keyHash P ⟨#[95, 119, 97, 108, 108]⟩, (.str ⟨#[95, 119, 97, 108, 108]⟩ 288), (.ref 38)⟩,
  ⟨PyData.keyHash P ⟨#[116, 115, 112, 101, 99, 105, 97, 108, 115]⟩, (.str ⟨#[116, 115, 112, 101, 99, 105, 97, 108, 115]⟩ 324), (.ref 43)⟩,
  ⟨PyData.keyHash P ⟨#[95, 110, 97, 109, 101, 95, 100, 105, 115, 97, 108, 108, 111, 119, 101, 100, 95, 114, 101]⟩, (.str ⟨#[95, 110, 97, 109, 101, 95, 100, 105, 115, 97, 108, 108, 111, 119, 101, 100, 95, 114, 101]⟩ 350), (.ref 48)⟩,
  ⟨PyData.keyHash P ⟨#[95, 118, 97, 108, 117, 101, 95, 100, 105, 115, 97, 108, 108, 111, 119, 101, 100, 95, 114, 101]⟩, (.str ⟨#[95, 118, 97, 108, 117, 101, 95, 100, 105, 115, 97, 108, 108, 111, 119, 101, 100, 95, 114, 101]⟩ 384), (.ref 53)⟩,
  ⟨PyData.keyHash P ⟨#[95, 102, 111, 114, 109, 97, 116, 112, 97, 114, 97, 109]⟩, (.str ⟨#[95, 102, 111, 114, 109, 97, 116, 112, 97, 114, 97, 109]⟩ 394), (.ref 61)⟩,
  ⟨PyData.keyHash P ⟨#[72, 101, 97, 100, 101, 114, 115]⟩, (.str ⟨#[72, 101, 97, 100, 101, 114, 115]⟩ 551), (.ref 182)⟩,
  ⟨PyData.keyHash P ⟨#[95, 105, 116, 101, 114, 95, 101, 115, 99, 97, 112, 101, 100, 95, 99, 104, 97, 114, 115]⟩, (.str ⟨#[95, 105, 116, 101, 114, 95, 101, 115, 99, 97, 112, 101, 100, 95, 99, 104, 97, 114, 115]⟩ 563), (.ref 193)⟩,
  ⟨PyData.keyHash P ⟨#[95, 115, 116, 114, 105, 112, 95, 113, 117, 111, 116, 101, 100, 95, 114, 101, 97, 108, 110, 97, 109, 101, 115]⟩, (.str ⟨#[95, 115, 116, 114, 105, 112, 95, 113, 117, 111, 116, 101, 100, 95, 114, 101, 97, 108, 110, 97, 109, 101, 115]⟩ 575), (.ref 200)⟩,
  ⟨PyData.keyHash P ⟨#[95, 99, 104, 101, 99, 107, 95, 112, 97, 114, 101, 110, 116, 104, 101, 115, 105, 115]⟩, (.str ⟨#[95, 99, 104, 101, 99, 107, 95, 112, 97, 114, 101, 110, 116, 104, 101, 115, 105, 115]⟩ 585), (.ref 207)⟩,
  ⟨PyData.keyHash P ⟨#[97, 100, 100, 95, 102, 117, 110, 99, 95, 115, 116, 97, 116, 115]⟩, (.str ⟨#[97, 100, 100, 95, 102, 117, 110, 99, 95, 115, 116, 97, 116, 115]⟩ 605), (.ref 214)⟩,
  ⟨PyData.keyHash P ⟨#[97, 100, 100, 95, 99, 97, 108, 108, 101, 114, 115]⟩, (.str ⟨#[97, 100, 100, 95, 99, 97, 108, 108, 101, 114, 115]⟩ 616), (.ref 221)⟩,
  ⟨PyData.keyHash P ⟨#[99, 111, 117, 110, 116, 95, 99, 97, 108, 108, 115]⟩, (.str ⟨#[99, 111, 117, 110, 116, 95, 99, 97, 108, 108, 115]⟩ 625), (.ref 228)⟩,
  ⟨PyData.keyHash P ⟨#[95, 108, 97, 119, 95, 114, 111, 119]⟩, (.str ⟨#[95, 108, 97, 119, 95, 114, 111, 119]⟩ 633), (.ref 233)⟩,
  ⟨PyData.keyHash P ⟨#[95, 108, 97, 119, 95, 100, 101, 112, 116, 104, 115]⟩, (.str ⟨#[95, 108, 97, 119, 95, 100, 101, 112, 116, 104, 115]⟩ 643), (.ref 240)⟩,
  ⟨PyData.keyHash P ⟨#[95, 108, 97, 119, 95, 115, 101, 99, 111, 110, 100]⟩, (.str ⟨#[95, 108, 97, 119, 95, 115, 101, 99, 111, 110, 100]⟩ 649), (.ref 245)⟩,
  ⟨PyData.keyHash P ⟨#[95, 108, 97, 119, 95, 115, 116, 101, 112, 115]⟩, (.str ⟨#[95, 108, 97, 119, 95, 115, 116, 101, 112, 115]⟩ 661), (.ref 252)⟩,
  ⟨PyData.keyHash P ⟨#[95, 108, 97, 119, 95, 98, 111, 111, 107, 95, 111, 102, 95, 112, 97, 105, 114, 115]⟩, (.str ⟨#[95, 108, 97, 119, 95, 98, 111, 111, 107, 95, 111, 102, 95, 112, 97, 105, 114, 115]⟩ 667), (.ref 257)⟩,
  ⟨PyData.keyHash P ⟨#[95, 108, 97, 119, 95, 98, 111, 111, 107, 95, 111, 102, 95, 115, 116, 101, 112, 115]⟩, (.str ⟨#[95, 108, 97, 119, 95, 98, 111, 111, 107, 95, 111, 102, 95, 115, 116, 101, 112, 115]⟩ 680), (.ref 264)⟩,
  ⟨PyData.keyHash P ⟨#[95, 108, 97, 119, 95, 98, 97, 99, 107]⟩, (.str ⟨#[95, 108, 97, 119, 95, 98, 97, 99, 107]⟩ 686), (.ref 269)⟩,
  ⟨PyData.keyHash P ⟨#[108, 97, 119]⟩, (.str ⟨#[108, 97, 119]⟩ 696), (.ref 276)⟩] 30), #[]⟩
noncomputable def so47 (P : Params) : Obj :=
  ⟨(.type "tuple"), none, (.seq #[(.int 14 0), (.int 10 0), (.int 4 0), (.int 1 0), (.int 1 0), (.int 22 0), (.int 0 0), (.int 31 0), (.int 16 0), (.int 127 0), (.int 0 0), (.int 13 0), (.int 7 0), (.int 22 0), (.int 0 0), (.int 31 0), (.int 16 0), (.int 127 0), (.int 0 0), (.int 1 0)] 0), #[]⟩
noncomputable def so48 (P : Params) : Obj :=
  ⟨(.type "re.Pattern"), none, (.fields #[(.str ⟨#[91, 92, 120, 48, 48, 45, 92, 120, 49, 70, 92, 120, 55, 70, 93]⟩ 326), (.int 32 349), (.int 0 0), .none, .none, (.ref 47), (.int 0 0)]), #[]⟩
noncomputable def so52 (P : Params) : Obj :=
  ⟨(.type "tuple"), none, (.seq #[(.int 14 0), (.int 14 0), (.int 4 0), (.int 1 0), (.int 1 0), (.int 9 0), (.int 4294966783 0), (.int 0 0), (.int 0 0), (.int 2147483648 0), (.int 0 0), (.int 0 0), (.int 0 0), (.int 0 0), (.int 0 0), (.int 13 0), (.int 11 0), (.int 9 0), (.int 4294966783 0), (.int 0 0), (.int 0 0), (.int 2147483648 0), (.int 0 0), (.int 0 0), (.int 0 0), (.int 0 0), (.int 0 0), (.int 1 0)] 0), #[]⟩
noncomputable def so53 (P : Params) : Obj :=
  ⟨(.type "re.Pattern"), none, (.fields #[(.str ⟨#[91, 92, 120, 48, 48, 45, 92, 120, 48, 56, 92, 120, 48, 65, 45, 92, 120, 49, 70, 92, 120, 55, 70, 93]⟩ 352), (.int 32 383), (.int 0 0), .none, .none, (.ref 52), (.int 0 0)]), #[]⟩
noncomputable def so69 (P : Params) : Obj :=
  ⟨(.type "tuple"), none, (.seq #[.none] 0), #[]⟩
noncomputable def so75 (P : Params) : Obj :=
  ⟨(.type "code"), none, (.fields #[(.str ⟨#[95, 95, 105, 110, 105, 116, 95, 95]⟩ 407), (.str ⟨#[72, 101, 97, 100, 101, 114, 115, 46, 95, 95, 105, 110, 105, 116, 95, 95]⟩ 408), (.str ⟨#[47, 99, 108, 97, 105, 109, 47, 99, 117, 116, 46, 112, 121]⟩ 409), (.int 20 0), (.int 2 0), (.int 0 0), (.int 0 0), (.int 3 0), (.ref 70), (.bool true), (.int 276 0), (.ref 71), .none, (.ref 72), (.ref 73), (.ref 74), (.int 414 0), (.int 20 0), (.str ⟨#[47, 99, 108, 97, 105, 109, 47, 99, 117, 116, 46, 112, 121]⟩ 415)]), #[]⟩
noncomputable def so76 (P : Params) : Obj :=
  ⟨(.type "function"), none, (.func { name := ⟨#[95, 95, 105, 110, 105, 116, 95, 95]⟩, qualname := ⟨#[72, 101, 97, 100, 101, 114, 115, 46, 95, 95, 105, 110, 105, 116, 95, 95]⟩, params := (partsOf (clsStmt 7 0)).1, body := .stmts (partsOf (clsStmt 7 0)).2.1, scope := (partsOf (clsStmt 7 0)).2.2, globals := 3, closure := [], defaults := (.ref 69), kwdefaults := .none, doc := .none, pyModule := (.str ⟨#[99, 112, 121, 51, 49, 51, 46, 119, 115, 103, 105, 114, 101, 102, 46, 104, 101, 97, 100, 101, 114, 115]⟩ 289), annotations := none, code := (.ref 75), closureTuple := .none, builtins := 0 }), #[]⟩
noncomputable def so82 (P : Params) : Obj :=
  ⟨(.type "code"), none, (.fields #[(.str ⟨#[95, 99, 111, 110, 118, 101, 114, 116, 95, 115, 116, 114, 105, 110, 103, 95, 116, 121, 112, 101]⟩ 417), (.str ⟨#[72, 101, 97, 100, 101, 114, 115, 46, 95, 99, 111, 110, 118, 101, 114, 116, 95, 115, 116, 114, 105, 110, 103, 95, 116, 121, 112, 101]⟩ 418), (.str ⟨#[47, 99, 108, 97, 105, 109, 47, 99, 117, 116, 46, 112, 121]⟩ 419), (.int 30 0), (.int 2 0), (.int 0 0), (.int 1 0), (.int 3 0), (.ref 77), (.bool true), (.int 276 0), (.ref 78), .none, (.ref 79), (.ref 80), (.ref 81), (.int 424 0), (.int 30 0), (.str ⟨#[47, 99, 108, 97, 105, 109, 47, 99, 117, 116, 46, 112, 121]⟩ 425)]), #[]⟩
noncomputable def so83 (P : Params) : Obj :=
  ⟨(.type "function"), none, (.func { name := ⟨#[95, 99, 111, 110, 118, 101, 114, 116, 95, 115, 116, 114, 105, 110, 103, 95, 116, 121, 112, 101]⟩, qualname := ⟨#[72, 101, 97, 100, 101, 114, 115, 46, 95, 99, 111, 110, 118, 101, 114, 116, 95, 115, 116, 114, 105, 110, 103, 95, 116, 121, 112, 101]⟩, params := (partsOf (clsStmt 7 1)).1, body := .stmts (partsOf (clsStmt 7 1)).2.1, scope := (partsOf (clsStmt 7 1)).2.2, globals := 3, closure := [], defaults := .none, kwdefaults := .none, doc := .none, pyModule := (.str ⟨#[99, 112, 121, 51, 49, 51, 46, 119, 115, 103, 105, 114, 101, 102, 46, 104, 101, 97, 100, 101, 114, 115]⟩ 289), annotations := none, code := (.ref 82), closureTuple := .none, builtins := 0 }), #[]⟩
noncomputable def so120 (P : Params) : Obj :=
  ⟨(.type "code"), none, (.fields #[(.str ⟨#[103, 101, 116, 95, 97, 108, 108]⟩ 465), (.str ⟨#[72, 101, 97, 100, 101, 114, 115, 46, 103, 101, 116, 95, 97, 108, 108]⟩ 466), (.str ⟨#[47, 99, 108, 97, 105, 109, 47, 99, 117, 116, 46, 112, 121]⟩ 467), (.int 55 0), (.int 2 0), (.int 0 0), (.int 0 0), (.int 3 0), (.ref 117), (.bool true), (.int 276 0), (.ref 118), .none, .none, .none, (.ref 119), (.int 468 0), (.int 55 0), (.str ⟨#[47, 99, 108, 97, 105, 109, 47, 99, 117, 116, 46, 112, 121]⟩ 469)]), #[]⟩
noncomputable def so121 (P : Params) : Obj :=
  ⟨(.type "function"), none, (.func { name := ⟨#[103, 101, 116, 95, 97, 108, 108]⟩, qualname := ⟨#[72, 101, 97, 100, 101, 114, 115, 46, 103, 101, 116, 95, 97, 108, 108]⟩, params := (partsOf (clsStmt 7 7)).1, body := .stmts (partsOf (clsStmt 7 7)).2.1, scope := (partsOf (clsStmt 7 7)).2.2, globals := 3, closure := [], defaults := .none, kwdefaults := .none, doc := .none, pyModule := (.str ⟨#[99, 112, 121, 51, 49, 51, 46, 119, 115, 103, 105, 114, 101, 102, 46, 104, 101, 97, 100, 101, 114, 115]⟩ 289), annotations := none, code := (.ref 120), closureTuple := .none, builtins := 0 }), #[]⟩
noncomputable def so178 (P : Params) : Obj :=
  ⟨(.type "code"), none, (.fields #[(.str ⟨#[97, 100, 100, 95, 104, 101, 97, 100, 101, 114]⟩ 530), (.str ⟨#[72, 101, 97, 100, 101, 114, 115, 46, 97, 100, 100, 95, 104, 101, 97, 100, 101, 114]⟩ 531), (.str ⟨#[47, 99, 108, 97, 105, 109, 47, 99, 117, 116, 46, 112, 121]⟩ 532), (.int 87 0), (.int 3 0), (.int 0 0), (.int 0 0), (.int 11 0), (.ref 173), (.bool true), (.int 276 0), (.ref 174), .none, (.ref 175), (.ref 176), (.ref 177), (.int 540 0), (.int 87 0), (.str ⟨#[47, 99, 108, 97, 105, 109, 47, 99, 117, 116, 46, 112, 121]⟩ 541)]), #[]⟩
noncomputable def so179 (P : Params) : Obj :=
  ⟨(.type "function"), none, (.func { name := ⟨#[97, 100, 100, 95, 104, 101, 97, 100, 101, 114]⟩, qualname := ⟨#[72, 101, 97, 100, 101, 114, 115, 46, 97, 100, 100, 95, 104, 101, 97, 100, 101, 114]⟩, params := (partsOf (clsStmt 7 16)).1, body := .stmts (partsOf (clsStmt 7 16)).2.1, scope := (partsOf (clsStmt 7 16)).2.2, globals := 3, closure := [], defaults := .none, kwdefaults := .none, doc := .none, pyModule := (.str ⟨#[99, 112, 121, 51, 49, 51, 46, 119, 115, 103, 105, 114, 101, 102, 46, 104, 101, 97, 100, 101, 114, 115]⟩ 289), annotations := none, code := (.ref 178), closureTuple := .none, builtins := 0 }), #[]⟩
noncomputable def so181 (P : Params) : Obj :=
  ⟨(.type "dict"), none, (.dict #[⟨PyData.keyHash P ⟨#[95, 95, 109, 111, 100, 117, 108, 101, 95, 95]⟩, (.str ⟨#[95, 95, 109, 111, 100, 117, 108, 101, 95, 95]⟩ 402), (.str ⟨#[99, 112, 121, 51, 49, 51, 46, 119, 115, 103, 105, 114, 101, 102, 46, 104, 101, 97, 100, 101, 114, 115]⟩ 289)⟩,
  ⟨PyData.keyHash P ⟨#[95, 95, 102, 105, 114, 115, 116, 108, 105, 110, 101, 110, 111, 95, 95]⟩, (.str ⟨#[95, 95, 102, 105, 114, 115, 116, 108, 105, 110, 101, 110, 111, 95, 95]⟩ 406), (.int 18 405)⟩,
  ⟨PyData.keyHash P ⟨#[95, 95, 105, 110, 105, 116, 95, 95]⟩, (.str ⟨#[95, 95, 105, 110, 105, 116, 95, 95]⟩ 416), (.ref 76)⟩,
  ⟨PyData.keyHash P ⟨#[95, 99, 111, 110, 118, 101, 114, 116, 95, 115, 116, 114, 105, 110, 103, 95, 116, 121, 112, 101]⟩, (.str ⟨#[95, 99, 111, 110, 118, 101, 114, 116, 95, 115, 116, 114, 105, 110, 103, 95, 116, 121, 112, 101]⟩ 426), (.ref 83)⟩,
  ⟨PyData.keyHash P ⟨#[95, 95, 108, 101, 110, 95, 95]⟩, (.str ⟨#[95, 95, 108, 101, 110, 95, 95]⟩ 433), (.ref 90)⟩,
  ⟨PyData.keyHash P ⟨#[95, 95, 115, 101, 116, 105, 116, 101, 109, 95, 95]⟩, (.str ⟨#[95, 95, 115, 101, 116, 105, 116, 101, 109, 95, 95]⟩ 442), (.ref 97)⟩,
  ⟨PyData.keyHash P ⟨#[95, 95, 100, 101, 108, 105, 116, 101, 109, 95, 95]⟩, (.str ⟨#[95, 95, 100, 101, 108, 105, 116, 101, 109, 95, 95]⟩ 448), (.ref 102)⟩,
  ⟨PyData.keyHash P ⟨#[95, 95, 103, 101, 116, 105, 116, 101, 109, 95, 95]⟩, (.str ⟨#[95, 95, 103, 101, 116, 105, 116, 101, 109, 95, 95]⟩ 456), (.ref 109)⟩,
  ⟨PyData.keyHash P ⟨#[95, 95, 99, 111, 110, 116, 97, 105, 110, 115, 95, 95]⟩, (.str ⟨#[95, 95, 99, 111, 110, 116, 97, 105, 110, 115, 95, 95]⟩ 464), (.ref 116)⟩,
  ⟨PyData.keyHash P ⟨#[103, 101, 116, 95, 97, 108, 108]⟩, (.str ⟨#[103, 101, 116, 95, 97, 108, 108]⟩ 470), (.ref 121)⟩,
  ⟨PyData.keyHash P ⟨#[103, 101, 116]⟩, (.str ⟨#[103, 101, 116]⟩ 481), (.ref 129)⟩,
  ⟨PyData.keyHash P ⟨#[107, 101, 121, 115]⟩, (.str ⟨#[107, 101, 121, 115]⟩ 487), (.ref 134)⟩,
  ⟨PyData.keyHash P ⟨#[118, 97, 108, 117, 101, 115]⟩, (.str ⟨#[118, 97, 108, 117, 101, 115]⟩ 493), (.ref 139)⟩,
  ⟨PyData.keyHash P ⟨#[105, 116, 101, 109, 115]⟩, (.str ⟨#[105, 116, 101, 109, 115]⟩ 500), (.ref 146)⟩,
  ⟨PyData.keyHash P ⟨#[95, 95, 114, 101, 112, 114, 95, 95]⟩, (.str ⟨#[95, 95, 114, 101, 112, 114, 95, 95]⟩ 507), (.ref 153)⟩,
  ⟨PyData.keyHash P ⟨#[95, 95, 115, 116, 114, 95, 95]⟩, (.str ⟨#[95, 95, 115, 116, 114, 95, 95]⟩ 513), (.ref 158)⟩,
  ⟨PyData.keyHash P ⟨#[95, 95, 98, 121, 116, 101, 115, 95, 95]⟩, (.str ⟨#[95, 95, 98, 121, 116, 101, 115, 95, 95]⟩ 520), (.ref 165)⟩,
  ⟨PyData.keyHash P ⟨#[115, 101, 116, 100, 101, 102, 97, 117, 108, 116]⟩, (.str ⟨#[115, 101, 116, 100, 101, 102, 97, 117, 108, 116]⟩ 529), (.ref 172)⟩,
  ⟨PyData.keyHash P ⟨#[97, 100, 100, 95, 104, 101, 97, 100, 101, 114]⟩, (.str ⟨#[97, 100, 100, 95, 104, 101, 97, 100, 101, 114]⟩ 542), (.ref 179)⟩,
  ⟨PyData.keyHash P ⟨#[95, 95, 115, 116, 97, 116, 105, 99, 95, 97, 116, 116, 114, 105, 98, 117, 116, 101, 115, 95, 95]⟩, (.str ⟨#[95, 95, 115, 116, 97, 116, 105, 99, 95, 97, 116, 116, 114, 105, 98, 117, 116, 101, 115, 95, 95]⟩ 544), (.ref 180)⟩,
  ⟨PyData.keyHash P ⟨#[95, 95, 100, 105, 99, 116, 95, 95]⟩, (.str ⟨#[95, 95, 100, 105, 99, 116, 95, 95]⟩ 546), (.ref 183)⟩,
  ⟨PyData.keyHash P ⟨#[95, 95, 119, 101, 97, 107, 114, 101, 102, 95, 95]⟩, (.str ⟨#[95, 95, 119, 101, 97, 107, 114, 101, 102, 95, 95]⟩ 548), (.ref 184)⟩,
  ⟨PyData.keyHash P ⟨#[95, 95, 100, 111, 99, 95, 95]⟩, (.str ⟨#[95, 95, 100, 111, 99, 95, 95]⟩ 549), .none⟩] 4), #[]⟩
noncomputable def so182 (P : Params) : Obj :=
  ⟨(.type "type"), none, (.cls { name := ⟨#[72, 101, 97, 100, 101, 114, 115]⟩, bases := [(.type "object")], mro := [(.ref 182), (.type "object")], ns := 181, qualname := ⟨#[72, 101, 97, 100, 101, 114, 115]⟩, hasDict := true, slotNames := [], subclasses := [], abstract := false, collection := none, hasDel := false }), #[none, none, (some (.str ⟨#[72, 101, 97, 100, 101, 114, 115]⟩ 395)), (some (.str ⟨#[72, 101, 97, 100, 101, 114, 115]⟩ 403)), (some (.builtin "object.__new__")), (some (.bool true))]⟩
noncomputable def so192 (P : Params) : Obj :=
  ⟨(.type "code"), none, (.fields #[(.str ⟨#[95, 105, 116, 101, 114, 95, 101, 115, 99, 97, 112, 101, 100, 95, 99, 104, 97, 114, 115]⟩ 554), (.str ⟨#[95, 105, 116, 101, 114, 95, 101, 115, 99, 97, 112, 101, 100, 95, 99, 104, 97, 114, 115]⟩ 555), (.str ⟨#[47, 99, 108, 97, 105, 109, 47, 99, 117, 116, 46, 112, 121]⟩ 556), (.int 101 0), (.int 1 0), (.int 0 0), (.int 0 0), (.int 35 0), (.ref 187), (.bool true), (.int 276 0), (.ref 188), .none, (.ref 189), (.ref 190), (.ref 191), (.int 561 0), (.int 101 0), (.str ⟨#[47, 99, 108, 97, 105, 109, 47, 99, 117, 116, 46, 112, 121]⟩ 562)]), #[]⟩
noncomputable def so193 (P : Params) : Obj :=
  ⟨(.type "function"), none, (.func { name := ⟨#[95, 105, 116, 101, 114, 95, 101, 115, 99, 97, 112, 101, 100, 95, 99, 104, 97, 114, 115]⟩, qualname := ⟨#[95, 105, 116, 101, 114, 95, 101, 115, 99, 97, 112, 101, 100, 95, 99, 104, 97, 114, 115]⟩, params := (partsOf (topStmt 9)).1, body := .stmts (partsOf (topStmt 9)).2.1, scope := (partsOf (topStmt 9)).2.2, globals := 3, closure := [], defaults := .none, kwdefaults := .none, doc := .none, pyModule := (.str ⟨#[99, 112, 121, 51, 49, 51, 46, 101, 109, 97, 105, 108, 46, 117, 116, 105, 108, 115]⟩ 552), annotations := none, code := (.ref 192), closureTuple := .none, builtins := 0 }), #[]⟩
noncomputable def so199 (P : Params) : Obj :=
  ⟨(.type "code"), none, (.fields #[(.str ⟨#[95, 115, 116, 114, 105, 112, 95, 113, 117, 111, 116, 101, 100, 95, 114, 101, 97, 108, 110, 97, 109, 101, 115]⟩ 564), (.str ⟨#[95, 115, 116, 114, 105, 112, 95, 113, 117, 111, 116, 101, 100, 95, 114, 101, 97, 108, 110, 97, 109, 101, 115]⟩ 565), (.str ⟨#[47, 99, 108, 97, 105, 109, 47, 99, 117, 116, 46, 112, 121]⟩ 566), (.int 114 0), (.int 1 0), (.int 0 0), (.int 0 0), (.int 3 0), (.ref 194), (.bool true), (.int 276 0), (.ref 195), .none, (.ref 196), (.ref 197), (.ref 198), (.int 573 0), (.int 114 0), (.str ⟨#[47, 99, 108, 97, 105, 109, 47, 99, 117, 116, 46, 112, 121]⟩ 574)]), #[]⟩
noncomputable def so200 (P : Params) : Obj :=
  ⟨(.type "function"), none, (.func { name := ⟨#[95, 115, 116, 114, 105, 112, 95, 113, 117, 111, 116, 101, 100, 95, 114, 101, 97, 108, 110, 97, 109, 101, 115]⟩, qualname := ⟨#[95, 115, 116, 114, 105, 112, 95, 113, 117, 111, 116, 101, 100, 95, 114, 101, 97, 108, 110, 97, 109, 101, 115]⟩, params := (partsOf (topStmt 10)).1, body := .stmts (partsOf (topStmt 10)).2.1, scope := (partsOf (topStmt 10)).2.2, globals := 3, closure := [], defaults := .none, kwdefaults := .none, doc := .none, pyModule := (.str ⟨#[99, 112, 121, 51, 49, 51, 46, 101, 109, 97, 105, 108, 46, 117, 116, 105, 108, 115]⟩ 552), annotations := none, code := (.ref 199), closureTuple := .none, builtins := 0 }), #[]⟩
noncomputable def so206 (P : Params) : Obj :=
  ⟨(.type "code"), none, (.fields #[(.str ⟨#[95, 99, 104, 101, 99, 107, 95, 112, 97, 114, 101, 110, 116, 104, 101, 115, 105, 115]⟩ 576), (.str ⟨#[95, 99, 104, 101, 99, 107, 95, 112, 97, 114, 101, 110, 116, 104, 101, 115, 105, 115]⟩ 577), (.str ⟨#[47, 99, 108, 97, 105, 109, 47, 99, 117, 116, 46, 112, 121]⟩ 578), (.int 132 0), (.int 1 0), (.int 0 0), (.int 0 0), (.int 3 0), (.ref 201), (.bool true), (.int 276 0), (.ref 202), .none, (.ref 203), (.ref 204), (.ref 205), (.int 583 0), (.int 132 0), (.str ⟨#[47, 99, 108, 97, 105, 109, 47, 99, 117, 116, 46, 112, 121]⟩ 584)]), #[]⟩
noncomputable def so207 (P : Params) : Obj :=
  ⟨(.type "function"), none, (.func { name := ⟨#[95, 99, 104, 101, 99, 107, 95, 112, 97, 114, 101, 110, 116, 104, 101, 115, 105, 115]⟩, qualname := ⟨#[95, 99, 104, 101, 99, 107, 95, 112, 97, 114, 101, 110, 116, 104, 101, 115, 105, 115]⟩, params := (partsOf (topStmt 11)).1, body := .stmts (partsOf (topStmt 11)).2.1, scope := (partsOf (topStmt 11)).2.2, globals := 3, closure := [], defaults := .none, kwdefaults := .none, doc := .none, pyModule := (.str ⟨#[99, 112, 121, 51, 49, 51, 46, 101, 109, 97, 105, 108, 46, 117, 116, 105, 108, 115]⟩ 552), annotations := none, code := (.ref 206), closureTuple := .none, builtins := 0 }), #[]⟩
noncomputable def so213 (P : Params) : Obj :=
  ⟨(.type "code"), none, (.fields #[(.str ⟨#[97, 100, 100, 95, 102, 117, 110, 99, 95, 115, 116, 97, 116, 115]⟩ 588), (.str ⟨#[97, 100, 100, 95, 102, 117, 110, 99, 95, 115, 116, 97, 116, 115]⟩ 589), (.str ⟨#[47, 99, 108, 97, 105, 109, 47, 99, 117, 116, 46, 112, 121]⟩ 590), (.int 144 0), (.int 2 0), (.int 0 0), (.int 0 0), (.int 3 0), (.ref 208), (.bool true), (.int 276 0), (.ref 209), .none, (.ref 210), (.ref 211), (.ref 212), (.int 603 0), (.int 144 0), (.str ⟨#[47, 99, 108, 97, 105, 109, 47, 99, 117, 116, 46, 112, 121]⟩ 604)]), #[]⟩
noncomputable def so214 (P : Params) : Obj :=
  ⟨(.type "function"), none, (.func { name := ⟨#[97, 100, 100, 95, 102, 117, 110, 99, 95, 115, 116, 97, 116, 115]⟩, qualname := ⟨#[97, 100, 100, 95, 102, 117, 110, 99, 95, 115, 116, 97, 116, 115]⟩, params := (partsOf (topStmt 13)).1, body := .stmts (partsOf (topStmt 13)).2.1, scope := (partsOf (topStmt 13)).2.2, globals := 3, closure := [], defaults := .none, kwdefaults := .none, doc := .none, pyModule := (.str ⟨#[99, 112, 121, 51, 49, 51, 46, 112, 115, 116, 97, 116, 115]⟩ 586), annotations := none, code := (.ref 213), closureTuple := .none, builtins := 0 }), #[]⟩
noncomputable def so220 (P : Params) : Obj :=
  ⟨(.type "code"), none, (.fields #[(.str ⟨#[97, 100, 100, 95, 99, 97, 108, 108, 101, 114, 115]⟩ 606), (.str ⟨#[97, 100, 100, 95, 99, 97, 108, 108, 101, 114, 115]⟩ 607), (.str ⟨#[47, 99, 108, 97, 105, 109, 47, 99, 117, 116, 46, 112, 121]⟩ 608), (.int 148 0), (.int 2 0), (.int 0 0), (.int 0 0), (.int 3 0), (.ref 215), (.bool true), (.int 276 0), (.ref 216), .none, (.ref 217), (.ref 218), (.ref 219), (.int 614 0), (.int 148 0), (.str ⟨#[47, 99, 108, 97, 105, 109, 47, 99, 117, 116, 46, 112, 121]⟩ 615)]), #[]⟩
noncomputable def so221 (P : Params) : Obj :=
  ⟨(.type "function"), none, (.func { name := ⟨#[97, 100, 100, 95, 99, 97, 108, 108, 101, 114, 115]⟩, qualname := ⟨#[97, 100, 100, 95, 99, 97, 108, 108, 101, 114, 115]⟩, params := (partsOf (topStmt 14)).1, body := .stmts (partsOf (topStmt 14)).2.1, scope := (partsOf (topStmt 14)).2.2, globals := 3, closure := [], defaults := .none, kwdefaults := .none, doc := .none, pyModule := (.str ⟨#[99, 112, 121, 51, 49, 51, 46, 112, 115, 116, 97, 116, 115]⟩ 586), annotations := none, code := (.ref 220), closureTuple := .none, builtins := 0 }), #[]⟩
noncomputable def so227 (P : Params) : Obj :=
  ⟨(.type "code"), none, (.fields #[(.str ⟨#[99, 111, 117, 110, 116, 95, 99, 97, 108, 108, 115]⟩ 617), (.str ⟨#[99, 111, 117, 110, 116, 95, 99, 97, 108, 108, 115]⟩ 618), (.str ⟨#[47, 99, 108, 97, 105, 109, 47, 99, 117, 116, 46, 112, 121]⟩ 619), (.int 161 0), (.int 1 0), (.int 0 0), (.int 0 0), (.int 3 0), (.ref 222), (.bool true), (.int 276 0), (.ref 223), .none, (.ref 224), (.ref 225), (.ref 226), (.int 623 0), (.int 161 0), (.str ⟨#[47, 99, 108, 97, 105, 109, 47, 99, 117, 116, 46, 112, 121]⟩ 624)]), #[]⟩
noncomputable def so228 (P : Params) : Obj :=
  ⟨(.type "function"), none, (.func { name := ⟨#[99, 111, 117, 110, 116, 95, 99, 97, 108, 108, 115]⟩, qualname := ⟨#[99, 111, 117, 110, 116, 95, 99, 97, 108, 108, 115]⟩, params := (partsOf (topStmt 15)).1, body := .stmts (partsOf (topStmt 15)).2.1, scope := (partsOf (topStmt 15)).2.2, globals := 3, closure := [], defaults := .none, kwdefaults := .none, doc := .none, pyModule := (.str ⟨#[99, 112, 121, 51, 49, 51, 46, 112, 115, 116, 97, 116, 115]⟩ 586), annotations := none, code := (.ref 227), closureTuple := .none, builtins := 0 }), #[]⟩
noncomputable def so232 (P : Params) : Obj :=
  ⟨(.type "code"), none, (.fields #[(.str ⟨#[95, 108, 97, 119, 95, 114, 111, 119]⟩ 628), (.str ⟨#[95, 108, 97, 119, 95, 114, 111, 119]⟩ 629), (.str ⟨#[47, 99, 108, 97, 105, 109, 47, 99, 117, 116, 46, 112, 121]⟩ 630), (.int 167 0), (.int 1 0), (.int 0 0), (.int 0 0), (.int 3 0), (.ref 229), (.bool true), (.int 276 0), (.ref 230), .none, .none, .none, (.ref 231), (.int 631 0), (.int 167 0), (.str ⟨#[47, 99, 108, 97, 105, 109, 47, 99, 117, 116, 46, 112, 121]⟩ 632)]), #[]⟩
noncomputable def so233 (P : Params) : Obj :=
  ⟨(.type "function"), none, (.func { name := ⟨#[95, 108, 97, 119, 95, 114, 111, 119]⟩, qualname := ⟨#[95, 108, 97, 119, 95, 114, 111, 119]⟩, params := (partsOf (topStmt 17)).1, body := .stmts (partsOf (topStmt 17)).2.1, scope := (partsOf (topStmt 17)).2.2, globals := 3, closure := [], defaults := .none, kwdefaults := .none, doc := .none, pyModule := (.str ⟨#[108, 97, 119, 95, 122, 100, 48, 48, 49, 53, 95, 48, 49]⟩ 626), annotations := none, code := (.ref 232), closureTuple := .none, builtins := 0 }), #[]⟩
noncomputable def so239 (P : Params) : Obj :=
  ⟨(.type "code"), none, (.fields #[(.str ⟨#[95, 108, 97, 119, 95, 100, 101, 112, 116, 104, 115]⟩ 634), (.str ⟨#[95, 108, 97, 119, 95, 100, 101, 112, 116, 104, 115]⟩ 635), (.str ⟨#[47, 99, 108, 97, 105, 109, 47, 99, 117, 116, 46, 112, 121]⟩ 636), (.int 179 0), (.int 1 0), (.int 0 0), (.int 0 0), (.int 3 0), (.ref 234), (.bool true), (.int 276 0), (.ref 235), .none, (.ref 236), (.ref 237), (.ref 238), (.int 641 0), (.int 179 0), (.str ⟨#[47, 99, 108, 97, 105, 109, 47, 99, 117, 116, 46, 112, 121]⟩ 642)]), #[]⟩
noncomputable def so240 (P : Params) : Obj :=
  ⟨(.type "function"), none, (.func { name := ⟨#[95, 108, 97, 119, 95, 100, 101, 112, 116, 104, 115]⟩, qualname := ⟨#[95, 108, 97, 119, 95, 100, 101, 112, 116, 104, 115]⟩, params := (partsOf (topStmt 18)).1, body := .stmts (partsOf (topStmt 18)).2.1, scope := (partsOf (topStmt 18)).2.2, globals := 3, closure := [], defaults := .none, kwdefaults := .none, doc := .none, pyModule := (.str ⟨#[108, 97, 119, 95, 122, 100, 48, 48, 49, 53, 95, 48, 49]⟩ 626), annotations := none, code := (.ref 239), closureTuple := .none, builtins := 0 }), #[]⟩
noncomputable def so244 (P : Params) : Obj :=
  ⟨(.type "code"), none, (.fields #[(.str ⟨#[95, 108, 97, 119, 95, 115, 101, 99, 111, 110, 100]⟩ 644), (.str ⟨#[95, 108, 97, 119, 95, 115, 101, 99, 111, 110, 100]⟩ 645), (.str ⟨#[47, 99, 108, 97, 105, 109, 47, 99, 117, 116, 46, 112, 121]⟩ 646), (.int 189 0), (.int 1 0), (.int 0 0), (.int 0 0), (.int 3 0), (.ref 241), (.bool true), (.int 276 0), (.ref 242), .none, .none, .none, (.ref 243), (.int 647 0), (.int 189 0), (.str ⟨#[47, 99, 108, 97, 105, 109, 47, 99, 117, 116, 46, 112, 121]⟩ 648)]), #[]⟩
noncomputable def so245 (P : Params) : Obj :=
  ⟨(.type "function"), none, (.func { name := ⟨#[95, 108, 97, 119, 95, 115, 101, 99, 111, 110, 100]⟩, qualname := ⟨#[95, 108, 97, 119, 95, 115, 101, 99, 111, 110, 100]⟩, params := (partsOf (topStmt 19)).1, body := .stmts (partsOf (topStmt 19)).2.1, scope := (partsOf (topStmt 19)).2.2, globals := 3, closure := [], defaults := .none, kwdefaults := .none, doc := .none, pyModule := (.str ⟨#[108, 97, 119, 95, 122, 100, 48, 48, 49, 53, 95, 48, 49]⟩ 626), annotations := none, code := (.ref 244), closureTuple := .none, builtins := 0 }), #[]⟩
noncomputable def so251 (P : Params) : Obj :=
  ⟨(.type "code"), none, (.fields #[(.str ⟨#[95, 108, 97, 119, 95, 115, 116, 101, 112, 115]⟩ 650), (.str ⟨#[95, 108, 97, 119, 95, 115, 116, 101, 112, 115]⟩ 651), (.str ⟨#[47, 99, 108, 97, 105, 109, 47, 99, 117, 116, 46, 112, 121]⟩ 652), (.int 201 0), (.int 1 0), (.int 0 0), (.int 0 0), (.int 3 0), (.ref 246), (.bool true), (.int 276 0), (.ref 247), .none, (.ref 248), (.ref 249), (.ref 250), (.int 659 0), (.int 201 0), (.str ⟨#[47, 99, 108, 97, 105, 109, 47, 99, 117, 116, 46, 112, 121]⟩ 660)]), #[]⟩
noncomputable def so252 (P : Params) : Obj :=
  ⟨(.type "function"), none, (.func { name := ⟨#[95, 108, 97, 119, 95, 115, 116, 101, 112, 115]⟩, qualname := ⟨#[95, 108, 97, 119, 95, 115, 116, 101, 112, 115]⟩, params := (partsOf (topStmt 20)).1, body := .stmts (partsOf (topStmt 20)).2.1, scope := (partsOf (topStmt 20)).2.2, globals := 3, closure := [], defaults := .none, kwdefaults := .none, doc := .none, pyModule := (.str ⟨#[108, 97, 119, 95, 122, 100, 48, 48, 49, 53, 95, 48, 49]⟩ 626), annotations := none, code := (.ref 251), closureTuple := .none, builtins := 0 }), #[]⟩
noncomputable def so256 (P : Params) : Obj :=
  ⟨(.type "code"), none, (.fields #[(.str ⟨#[95, 108, 97, 119, 95, 98, 111, 111, 107, 95, 111, 102, 95, 112, 97, 105, 114, 115]⟩ 662), (.str ⟨#[95, 108, 97, 119, 95, 98, 111, 111, 107, 95, 111, 102, 95, 112, 97, 105, 114, 115]⟩ 663), (.str ⟨#[47, 99, 108, 97, 105, 109, 47, 99, 117, 116, 46, 112, 121]⟩ 664), (.int 210 0), (.int 1 0), (.int 0 0), (.int 0 0), (.int 3 0), (.ref 253), (.bool true), (.int 276 0), (.ref 254), .none, .none, .none, (.ref 255), (.int 665 0), (.int 210 0), (.str ⟨#[47, 99, 108, 97, 105, 109, 47, 99, 117, 116, 46, 112, 121]⟩ 666)]), #[]⟩
noncomputable def so257 (P : Params) : Obj :=
  ⟨(.type "function"), none, (.func { name := ⟨#[95, 108, 97, 119, 95, 98, 111, 111, 107, 95, 111, 102, 95, 112, 97, 105, 114, 115]⟩, qualname := ⟨#[95, 108, 97, 119, 95, 98, 111, 111, 107, 95, 111, 102, 95, 112, 97, 105, 114, 115]⟩, params := (partsOf (topStmt 21)).1, body := .stmts (partsOf (topStmt 21)).2.1, scope := (partsOf (topStmt 21)).2.2, globals := 3, closure := [], defaults := .none, kwdefaults := .none, doc := .none, pyModule := (.str ⟨#[108, 97, 119, 95, 122, 100, 48, 48, 49, 53, 95, 48, 49]⟩ 626), annotations := none, code := (.ref 256), closureTuple := .none, builtins := 0 }), #[]⟩
noncomputable def so263 (P : Params) : Obj :=
  ⟨(.type "code"), none, (.fields #[(.str ⟨#[95, 108, 97, 119, 95, 98, 111, 111, 107, 95, 111, 102, 95, 115, 116, 101, 112, 115]⟩ 668), (.str ⟨#[95, 108, 97, 119, 95, 98, 111, 111, 107, 95, 111, 102, 95, 115, 116, 101, 112, 115]⟩ 669), (.str ⟨#[47, 99, 108, 97, 105, 109, 47, 99, 117, 116, 46, 112, 121]⟩ 670), (.int 217 0), (.int 2 0), (.int 0 0), (.int 0 0), (.int 3 0), (.ref 258), (.bool true), (.int 276 0), (.ref 259), .none, (.ref 260), (.ref 261), (.ref 262), (.int 678 0), (.int 217 0), (.str ⟨#[47, 99, 108, 97, 105, 109, 47, 99, 117, 116, 46, 112, 121]⟩ 679)]), #[]⟩
noncomputable def so264 (P : Params) : Obj :=
  ⟨(.type "function"), none, (.func { name := ⟨#[95, 108, 97, 119, 95, 98, 111, 111, 107, 95, 111, 102, 95, 115, 116, 101, 112, 115]⟩, qualname := ⟨#[95, 108, 97, 119, 95, 98, 111, 111, 107, 95, 111, 102, 95, 115, 116, 101, 112, 115]⟩, params := (partsOf (topStmt 22)).1, body := .stmts (partsOf (topStmt 22)).2.1, scope := (partsOf (topStmt 22)).2.2, globals := 3, closure := [], defaults := .none, kwdefaults := .none, doc := .none, pyModule := (.str ⟨#[108, 97, 119, 95, 122, 100, 48, 48, 49, 53, 95, 48, 49]⟩ 626), annotations := none, code := (.ref 263), closureTuple := .none, builtins := 0 }), #[]⟩
noncomputable def so268 (P : Params) : Obj :=
  ⟨(.type "code"), none, (.fields #[(.str ⟨#[95, 108, 97, 119, 95, 98, 97, 99, 107]⟩ 681), (.str ⟨#[95, 108, 97, 119, 95, 98, 97, 99, 107]⟩ 682), (.str ⟨#[47, 99, 108, 97, 105, 109, 47, 99, 117, 116, 46, 112, 121]⟩ 683), (.int 225 0), (.int 2 0), (.int 0 0), (.int 0 0), (.int 3 0), (.ref 265), (.bool true), (.int 276 0), (.ref 266), .none, .none, .none, (.ref 267), (.int 684 0), (.int 225 0), (.str ⟨#[47, 99, 108, 97, 105, 109, 47, 99, 117, 116, 46, 112, 121]⟩ 685)]), #[]⟩
noncomputable def so269 (P : Params) : Obj :=
  ⟨(.type "function"), none, (.func { name := ⟨#[95, 108, 97, 119, 95, 98, 97, 99, 107]⟩, qualname := ⟨#[95, 108, 97, 119, 95, 98, 97, 99, 107]⟩, params := (partsOf (topStmt 23)).1, body := .stmts (partsOf (topStmt 23)).2.1, scope := (partsOf (topStmt 23)).2.2, globals := 3, closure := [], defaults := .none, kwdefaults := .none, doc := .none, pyModule := (.str ⟨#[108, 97, 119, 95, 122, 100, 48, 48, 49, 53, 95, 48, 49]⟩ 626), annotations := none, code := (.ref 268), closureTuple := .none, builtins := 0 }), #[]⟩
noncomputable def so275 (P : Params) : Obj :=
  ⟨(.type "code"), none, (.fields #[(.str ⟨#[108, 97, 119]⟩ 687), (.str ⟨#[108, 97, 119]⟩ 688), (.str ⟨#[47, 99, 108, 97, 105, 109, 47, 99, 117, 116, 46, 112, 121]⟩ 689), (.int 228 0), (.int 1 0), (.int 0 0), (.int 0 0), (.int 3 0), (.ref 270), (.bool true), (.int 276 0), (.ref 271), .none, (.ref 272), (.ref 273), (.ref 274), (.int 694 0), (.int 228 0), (.str ⟨#[47, 99, 108, 97, 105, 109, 47, 99, 117, 116, 46, 112, 121]⟩ 695)]), #[]⟩
noncomputable def so276 (P : Params) : Obj :=
  ⟨(.type "function"), none, (.func { name := ⟨#[108, 97, 119]⟩, qualname := ⟨#[108, 97, 119]⟩, params := (partsOf (topStmt 24)).1, body := .stmts (partsOf (topStmt 24)).2.1, scope := (partsOf (topStmt 24)).2.2, globals := 3, closure := [], defaults := .none, kwdefaults := .none, doc := .none, pyModule := (.str ⟨#[108, 97, 119, 95, 122, 100, 48, 48, 49, 53, 95, 48, 49]⟩ 626), annotations := none, code := (.ref 275), closureTuple := .none, builtins := 0 }), #[]⟩
noncomputable def statL (P : Params) : List (Nat × Obj) := [(0, so0 P), (2, so2 P), (3, so3 P), (47, so47 P), (48, so48 P), (52, so52 P), (53, so53 P), (69, so69 P), (75, so75 P), (76, so76 P), (82, so82 P), (83, so83 P), (120, so120 P), (121, so121 P), (178, so178 P), (179, so179 P), (181, so181 P), (182, so182 P), (192, so192 P), (193, so193 P), (199, so199 P), (200, so200 P), (206, so206 P), (207, so207 P), (213, so213 P), (214, so214 P), (220, so220 P), (221, so221 P), (227, so227 P), (228, so228 P), (232, so232 P), (233, so233 P), (239, so239 P), (240, so240 P), (244, so244 P), (245, so245 P), (251, so251 P), (252, so252 P), (256, so256 P), (257, so257 P), (263, so263 P), (264, so264 P), (268, so268 P), (269, so269 P), (275, so275 P), (276, so276 P)]
noncomputable def lookS : List (Nat × Obj) → Nat → Option Obj
  | [], _ => none
  | p :: l, a => match Nat.beq p.1 a with
    | true => some p.2
    | false => lookS l a
noncomputable def stat (P : Params) : Nat → Option Obj := lookS (statL P)
end Zd
namespace Zd
open PySem PySem.Spec PySem.Calls PyProof.Rows PySem.W PySem.W.X
noncomputable def Out.cs : Out → List (Tm × Tm)
  | .ret _ _ _ _ cs => cs
  | .again _ _ _ _ cs => cs
  | .at _ _ _ _ _ _ cs => cs
  | .stop _ => [(.a 0, .a 1)]
noncomputable def sel (led : Led) (js : List Nat) : Led := match pick led js with
  | some l => l
  | none => []
noncomputable def Out.sel (js : List Nat) : Out → Out
  | .ret r led sz tk _ => .ret r (Zd.sel led js) sz tk []
  | .again c led sz tk _ => .again c (Zd.sel led js) sz tk []
  | .at c κ t led sz tk _ => .at c κ t (Zd.sel led js) sz tk []
  | .stop n => .stop n
section
variable {stat : Nat → Option Obj} {S : Setting} {lv : Nat} {W : List (Bool × Nat)} {s₀ : Shared} {w : World} {Mn : Code → List Fr → Sem Fin → Shared → Prop}
theorem Rep.sub {led led' : Led} {sz tk : Nat} {s : Shared} (D : Rep stat W s₀ led sz tk s) (h : ∀ x ∈ led', x ∈ led) (nd : (led'.map Cell.key).Nodup) : Rep stat W s₀ led' sz tk s :=
  ⟨D.size, D.toks, D.stat, fun x hx => D.cells x (h x hx), nd, fun x hx => D.low x (h x hx), D.base, fun x hx => D.org x (h x hx), D.kept⟩
theorem Rep.sel {led : Led} {js : List Nat} {sz tk : Nat} {s : Shared} (D : Rep stat W s₀ led sz tk s) (hj : incr js = true) : Rep stat W s₀ (Zd.sel led js) sz tk s := by
  unfold Zd.sel
  split
  · rename_i l e
    refine D.sub (fun x hx => ?_) (pick_nodup D.nd (incr_nodup hj) e)
    obtain ⟨j, _, ej⟩ := pick_mem e x hx
    exact List.mem_of_getElem? ej
  · exact D.sub (fun x hx => by cases hx) List.nodup_nil
theorem ok_of_maps : ∀ {cs : List (Tm × Tm)}, cs.map Prod.fst = cs.map Prod.snd → ∀ p ∈ cs, Tm.ok p
  | [], _, _, h => by cases h
  | (a, b) :: cs, e, p, h => by
    rw [List.map_cons, List.map_cons] at e
    injection e with e1 e2
    rcases List.mem_cons.mp h with rfl | h
    · exact e1
    · exact ok_of_maps e2 p h
theorem good_of_sel {js : List Nat} (hj : incr js = true) : ∀ {o : Out}, (∀ p ∈ o.cs, Tm.ok p) → good stat W s₀ Mn (o.sel js) → good stat W s₀ Mn o
  | .ret .., h, g => ⟨h, fun s' D => g.2 s' (D.sel hj)⟩
  | .again .., h, g => ⟨h, fun s' D => g.2 s' (D.sel hj)⟩
  | .at .., h, g => ⟨h, fun s' D => g.2 s' (D.sel hj)⟩
  | .stop _, _, g => g
theorem run_to (L : Laws S w lv Mn) (hS : w.params = S.params) (n : Nat) (hs : List (H stat S)) (js : List Nat) {c : Code} {κ : List Fr} {t : Sem Fin} {led : Led} {sz tk : Nat} {s : Shared} {X : (Nat → Fv) → Out}
    (e : ∀ fr, ((run stat S lv n hs fr c κ t led sz tk []).sel js, (run stat S lv n hs fr c κ t led sz tk []).cs.map Prod.fst) = (X fr, (run stat S lv n hs fr c κ t led sz tk []).cs.map Prod.snd))
    (hj : incr js = true) (hX : ∀ fr, good stat W s₀ Mn (X fr)) (D : Rep stat W s₀ led sz tk s) : Mn c κ t s :=
  run_sound L hS n hs c κ t led sz tk [] s (fun fr => good_of_sel hj (ok_of_maps (Prod.mk.inj (e fr)).2) (by rw [(Prod.mk.inj (e fr)).1]; exact hX fr)) D
end
theorem statS {P : Params} {s : Shared} (h : Stat (stat P) s) : s.heap.NoLimit := by
  have h2 := (h 2 (so2 P) rfl).2
  refine ⟨_, ⟨so2 P, _, _, h2, rfl, ?_, fun _ => rfl⟩, by rfl⟩
  intro e he
  simp only [List.mem_toArray, List.mem_cons, List.not_mem_nil, or_false] at he
  rcases he with rfl | rfl | rfl | rfl | rfl | rfl | rfl | rfl | rfl <;> exact ⟨_, _, rfl⟩
end Zd
namespace Zd
open PySem PySem.Spec PySem.Calls PyProof.Rows PySem.W PySem.W.X
noncomputable def pq (P : Params) (b1 b2 : Bool) : Params := { P with followText := fq b1 b2 P.followText }
noncomputable def SQ (prog : Program) (P : Params) (b1 b2 : Bool) : Setting := ⟨prog, pq P b1 b2⟩
noncomputable abbrev stQ (P : Params) (b1 b2 : Bool) : Nat → Option Obj := stat (pq P b1 b2)
noncomputable def envD (i : Option Stmt) (q : Str) (f c L : Addr) : Env := { scope := (partsOf i).2.2, locals := L, globals := 3, cells := [], qual := q, func := some f, code := .ref c, frame := some L, builtins := 0 }
noncomputable def hsh (P : Params) (n : Str) : Int := X.condFn Int n.cps.isEmpty 0 (ZFast.zw12210062019545310541 (P.strHash n.cps))
noncomputable def ent (P : Params) (n : Str) (t : Nat) (v : Value) : DictEntry := ⟨hsh P n, .str n t, v⟩
noncomputable def frm (es : List DictEntry) : Obj := ⟨.type "frame", none, .dict es.toArray es.length, #[]⟩
noncomputable def entered (c : Code) : Sem Fin := R.bindR ZFast.enterX fun _ => .pure (.again c)
section
variable {prog : Program} {w : World} {A : Around} {s : Shared}
theorem wp_of_code {c : Code} {R : Result → Shared → Prop} {E : Value → Shared → Prop} {g : Bool} {l : List Value} (h : codeAny (model prog w) A c R s) : wpAny (model prog w) A (.call c none g l .pure) R E s :=
  x_call (show codeAny (model prog w) A c _ s from codeAny_mono h fun _ _ q => wpAny_pure q) (by intro e; cases e)
theorem wp_of_call {f : Value} {pos : List Value} {kw : List (Str × Value)} {Q : Value → Shared → Prop} {E E' : Value → Shared → Prop} {g : Bool} {l : List Value}
    (h : wpAny (model prog w) A (call f pos kw) Q E s) :
    wpAny (model prog w) A (.call (.call f ⟨pos, kw⟩) none g l .pure) (fun r s' => match r with | .ok (.ret v) => Q v s' | .ok _ => False | .error e => E e s') E' s := by
  intro Γ p hΓ
  have z := h Γ p hΓ
  refine wpCode_mono (fun r s' q => ?_) z
  cases r with
  | error e => exact q
  | ok f =>
    cases f with
    | ret v => exact q
    | _ => exact q
end
section
variable {prog : Program} {P : Params} {b1 b2 : Bool} {lv : Nat} {w : World} {A : Around} {W : List (Bool × Nat)} {s₀ s : Shared} {led led1 : Led} {sz tk sz1 tk1 : Nat}
theorem means_enter {F : Post} {c : Code} {K : Unit → Sem Fin} (hA : Room lv A) (hw : c.weight = 0) (D : Rep (stQ P b1 b2) W s₀ led sz tk s) (h : Means (model prog w) A F c [] (K ()) s) :
    Means (model prog w) A F c [] (R.bindR ZFast.enterX K) s := by
  have e : R.bindR ZFast.enterX K = (enterFrame >>= K) := by
    rw [← ZFast.enterX_eq]
    show _ = Sem.bind enterFrame K
    rw [R.bindR_eq]
  unfold Means
  rw [e]
  refine wpAny_bind (wpAny_enterFrame (statS D.stat) ?_ h)
  show A.depth + c.weight < 1000
  have := hA.2.1
  omega
/-- a def's call: to its body -/
theorem def_call {c c2 : Code} {n : Nat} {hs : List (H (stQ P b1 b2) (SQ prog P b1 b2))} {js : List Nat} {R : Result → Shared → Prop}
    (e : ∀ fr, ((run (stQ P b1 b2) (SQ prog P b1 b2) lv n hs fr c [] (denZ c) led sz tk []).sel js, (run (stQ P b1 b2) (SQ prog P b1 b2) lv n hs fr c [] (denZ c) led sz tk []).cs.map Prod.fst) =
      (.at c [] (entered c2) led1 sz1 tk1 [], (run (stQ P b1 b2) (SQ prog P b1 b2) lv n hs fr c [] (denZ c) led sz tk []).cs.map Prod.snd))
    (hP : w.params = pq P b1 b2) (hA : Room lv A) (hj : incr js = true) (hw : c.weight = 0) (q : c2.quiet = true) (D : Rep (stQ P b1 b2) W s₀ led sz tk s)
    (h : ∀ s', Rep (stQ P b1 b2) W s₀ led1 sz1 tk1 s' → codeAny (model prog w) A c2 R s') : codeAny (model prog w) A c R s := by
  refine code_of_wp (S := SQ prog P b1 b2) ?_
  exact run_to (laws_none (S := SQ prog P b1 b2) (finP (model prog w) A R, fun e s' => R (.error e) s') hP hA) hP n hs js e hj
    (fun fr => ⟨fun _ h => (nomatch h), fun s' D' => means_enter hA hw D' (wpAny_pure ⟨q, h s' D'⟩)⟩) D
/-- a code that runs to its end -/
theorem code_ret {c : Code} {n : Nat} {hs : List (H (stQ P b1 b2) (SQ prog P b1 b2))} {js : List Nat} {R : Result → Shared → Prop} {r : (Nat → Fv) → Result} {led1 : (Nat → Fv) → Led} {sz1 tk1 : (Nat → Fv) → Nat}
    (e : ∀ fr, ((run (stQ P b1 b2) (SQ prog P b1 b2) lv n hs fr c [] (denZ c) led sz tk []).sel js, (run (stQ P b1 b2) (SQ prog P b1 b2) lv n hs fr c [] (denZ c) led sz tk []).cs.map Prod.fst) =
      (.ret (r fr) (led1 fr) (sz1 fr) (tk1 fr) [], (run (stQ P b1 b2) (SQ prog P b1 b2) lv n hs fr c [] (denZ c) led sz tk []).cs.map Prod.snd))
    (hP : w.params = pq P b1 b2) (hA : Room lv A) (hj : incr js = true) (D : Rep (stQ P b1 b2) W s₀ led sz tk s)
    (h : ∀ fr s', Rep (stQ P b1 b2) W s₀ (led1 fr) (sz1 fr) (tk1 fr) s' → R (r fr) s') : codeAny (model prog w) A c R s := by
  refine code_of_wp (S := SQ prog P b1 b2) ?_
  refine run_to (laws_none (S := SQ prog P b1 b2) (finP (model prog w) A R, fun e s' => R (.error e) s') hP hA) hP n hs js e hj
    (fun fr => ⟨fun _ h => (nomatch h), fun s' D' c' => ?_⟩) D
  have z := h fr s' D'
  revert z
  cases r fr with
  | ok f => exact fun z => wpAny_pure z
  | error e => exact fun z => wpAny_throw z
/-- a code that goes on with another code -/
theorem code_again {c : Code} {n : Nat} {hs : List (H (stQ P b1 b2) (SQ prog P b1 b2))} {js : List Nat} {R : Result → Shared → Prop} {c2 : (Nat → Fv) → Code} {led1 : (Nat → Fv) → Led} {sz1 tk1 : (Nat → Fv) → Nat}
    (e : ∀ fr, ((run (stQ P b1 b2) (SQ prog P b1 b2) lv n hs fr c [] (denZ c) led sz tk []).sel js, (run (stQ P b1 b2) (SQ prog P b1 b2) lv n hs fr c [] (denZ c) led sz tk []).cs.map Prod.fst) =
      (.again (c2 fr) (led1 fr) (sz1 fr) (tk1 fr) [], (run (stQ P b1 b2) (SQ prog P b1 b2) lv n hs fr c [] (denZ c) led sz tk []).cs.map Prod.snd))
    (hP : w.params = pq P b1 b2) (hA : Room lv A) (hj : incr js = true) (D : Rep (stQ P b1 b2) W s₀ led sz tk s)
    (h : ∀ fr s', Rep (stQ P b1 b2) W s₀ (led1 fr) (sz1 fr) (tk1 fr) s' → codeAny (model prog w) A (c2 fr) R s') : codeAny (model prog w) A c R s := by
  refine code_of_wp (S := SQ prog P b1 b2) ?_
  exact run_to (laws_none (S := SQ prog P b1 b2) (finP (model prog w) A R, fun e s' => R (.error e) s') hP hA) hP n hs js e hj
    (fun fr => ⟨fun _ h => (nomatch h), fun s' D' q c' => wpAny_pure ⟨q, h fr s' D'⟩⟩) D
end
/-- the state at a contract's start -/
theorem rep_start {stat : Nat → Option Obj} {led : Led} {s : Shared} {sz tk : Nat} (h1 : Stat stat s) (h2 : ∀ x ∈ led, x.holds s) (h3 : (led.map Cell.key).Nodup) (h4 : ∀ x ∈ led, x.low) (h5 : N0 ≤ sz) (h6 : s.heap.objs.size = sz) (h7 : s.toks = tk) :
    Rep stat (led.map Cell.key) s led sz tk s :=
  ⟨h6, h7, h1, h2, h3, h4, h5, fun _ hx => .inl (List.mem_map_of_mem hx), .refl _ _⟩
/-- the state at a contract's end -/
theorem rep_end {stat : Nat → Option Obj} {i : Inst} {s s' : Shared} {sz tk sz' tk' : Nat} {r : Result} {led : Led} (f : Fv) (D : Rep stat (i.pre.map Cell.key) s led sz' tk' s') (hr : r = i.res sz tk f) (h1 : i.nsz sz f = sz') (h2 : i.ntk tk f = tk')
    (h3 : led = i.upd sz tk f ++ i.new sz tk f) (h4 : ∀ k ∈ (i.new sz tk f).map Cell.key, k ∉ i.pre.map Cell.key) : After i sz tk s r s' := by
  refine ⟨f, hr, D.size.trans h1.symm, D.toks.trans h2.symm, fun x hx => D.cells x (h3 ▸ List.mem_append_left _ hx), fun x hx => ?_, ?_, D.kept⟩
  · have hm : x ∈ led := h3 ▸ List.mem_append_right _ hx
    refine ⟨D.cells x hm, ?_⟩
    rcases D.org x hm with h | h
    · exact absurd h (h4 _ (List.mem_map_of_mem hx))
    · exact h
  · have nd := D.nd
    rw [h3, List.map_append] at nd
    exact (List.nodup_append.mp nd).2.1
end Zd
namespace Zd
open PySem PySem.Spec PySem.Calls PyProof.Rows PySem.W PySem.W.X
inductive Mk where
  | val (v : Value) | int (i : Int) | str (x : Str)
noncomputable def Mk.made : Mk → Made
  | .val v => .val v
  | .int i => .int i
  | .str x => .str x
noncomputable def Mk.small : Mk → Prop
  | .str x => x.length ≤ sizeLine
  | _ => True
noncomputable def Mk.inst : Mk → List (Tm × Tm) → Inst
  | .val v, cs => { lv := 0, cs, pre := [], upd := fun _ _ _ => [], res := fun _ _ _ => .ok (.ret v), new := fun _ _ _ => [], nsz := fun sz _ => sz, ntk := fun tk _ => tk }
  | .int i, cs => { lv := 0, cs, pre := [], upd := fun _ _ _ => [], res := fun _ tk _ => .ok (.ret (.int i tk)), new := fun _ _ _ => [], nsz := fun sz _ => sz, ntk := fun tk _ => tk + 1 }
  | .str x, cs => { lv := 0, cs, pre := [], upd := fun _ _ _ => [], res := fun _ tk _ => .ok (.ret (.str x tk)), new := fun _ _ _ => [], nsz := fun sz _ => sz, ntk := fun tk _ => tk + 1 }
noncomputable def eqS (a b : String) : Bool := Nat.beq (S.codeS a) (S.codeS b)
theorem eqS_eq {a b : String} (h : eqS a b = true) : a = b := PySem.code_inj a b ((S.code_S _).trans ((Nat.eq_of_beq_eq_true h).trans (S.code_S _).symm))
noncomputable def pureF (id : String) (g : List Value → Option (List (Tm × Tm) × Mk)) : Code → Option Inst
  | .call (.builtin id') ⟨args, kw⟩ => match kw with
    | [] => match eqS id' id with
      | true => match g args with
        | some (cs, m) => some (m.inst cs)
        | none => none
      | false => none
    | _ :: _ => none
  | _ => none
theorem kept_toks (s : Shared) (n : Nat) : Kept [] s { s with toks := n } := ⟨Nat.le_refl _, fun _ _ _ h => h, Nat.le_refl _, fun _ _ _ h => h, rfl, rfl, id⟩
theorem pure_triple {stat : Nat → Option Obj} {S : Setting} {id : String} {args : List Value} {m : Mk} {cs : List (Tm × Tm)}
    (h : ∀ (prog : Program) (w : World) (A : Around) (Q : Value → Shared → Prop) (E : Value → Shared → Prop) (s : Shared), m.made.post Q s → wpAny (model prog w) A (call (.builtin id) args) Q E s) (hm : m.small) :
    Triple stat S (.call (.builtin id) ⟨args, []⟩) (m.inst cs) := by
  intro w hS A s sz tk g l hA hst hpre _ _ hb hsz htk
  refine wpAny_mono (wp_of_call (E' := fun _ _ => False) (Q := fun v s' => After (m.inst cs) sz tk s (.ok (.ret v)) s') (E := fun _ _ => False) ?_) (fun r s' q => ?_) fun _ _ h => h
  · refine h _ _ _ _ _ _ ?_
    subst hsz htk
    cases m with
    | val v => exact ⟨Fv.z, rfl, rfl, rfl, fun _ h => (nomatch h), fun _ h => (nomatch h), List.nodup_nil, .refl _ _⟩
    | int i => exact ⟨Fv.z, rfl, rfl, rfl, fun _ h => (nomatch h), fun _ h => (nomatch h), List.nodup_nil, kept_toks s _⟩
    | str x => exact ⟨hm, Fv.z, rfl, rfl, rfl, fun _ h => (nomatch h), fun _ h => (nomatch h), List.nodup_nil, kept_toks s _⟩
  · cases r with
    | error e => cases q
    | ok f =>
      cases f with
      | ret v => exact q
      | _ => cases q
noncomputable def ctrPure {stat : Nat → Option Obj} {S : Setting} (id : String) (g : List Value → Option (List (Tm × Tm) × Mk))
    (h : ∀ args cs m, g args = some (cs, m) → (∀ p ∈ cs, Tm.ok p) → m.small ∧ ∀ (prog : Program) (w : World) (A : Around) (Q : Value → Shared → Prop) (E : Value → Shared → Prop) (s : Shared), m.made.post Q s → wpAny (model prog w) A (call (.builtin id) args) Q E s) : Ctr stat S where
  f := pureF id g
  sound c i hi hcs := by
    unfold pureF at hi
    split at hi
    · split at hi
      · split at hi
        · rename_i e
          split at hi
          · rename_i cs m hg
            cases hi
            rw [eqS_eq e]
            have hc : (m.inst cs).cs = cs := by cases m <;> rfl
            rw [hc] at hcs
            have z := h _ _ _ hg hcs
            exact ⟨fun _ _ _ => by cases m <;> rfl, pure_triple z.2 z.1⟩
          · cases hi
        · cases hi
      · cases hi
    · cases hi
theorem okS {a b : Str} {l : List (Tm × Tm)} (h : ∀ p ∈ (Tm.s a, Tm.s b) :: l, Tm.ok p) : a = b ∧ ∀ p ∈ l, Tm.ok p := ⟨Tm.s.inj (h _ (.head _)), fun p hp => h p (.tail _ hp)⟩
theorem okI {a b : Int} {l : List (Tm × Tm)} (h : ∀ p ∈ (Tm.i a, Tm.i b) :: l, Tm.ok p) : a = b ∧ ∀ p ∈ l, Tm.ok p := ⟨Tm.i.inj (h _ (.head _)), fun p hp => h p (.tail _ hp)⟩
section
variable {stat : Nat → Option Obj} {S : Setting}
/-- «y in x» of texts comes out as b -/
noncomputable def cContains (x0 y0 : Str) (b : Bool) (h : (!(Builtin.Str.occurrences x0 y0 0 x0.length 1).isEmpty) = b) : Ctr stat S :=
  ctrPure "str.__contains__" (fun | [.str x _, .str y _] => some ([(.s x, .s x0), (.s y, .s y0)], .val (.bool b)) | _ => none) fun args cs m hg hcs => by
    split at hg
    · cases hg
      obtain ⟨e1, hcs⟩ := okS hcs
      obtain ⟨e2, _⟩ := okS hcs
      subst e1 e2 h
      exact ⟨trivial, fun prog w A Q E s hq => call_gives F.slot_str_contains rfl F.entry_str_contains (F.args_str_contains_2 _ _) (gives_str_contains _ _ _ _) hq⟩
    · cases hg
end
end Zd
namespace Zd
open PySem PySem.Spec PySem.Calls PyProof.Rows PySem.W PySem.W.X
theorem weight_call (f : Value) (a : Args) : (Code.call f a).weight = 0 := rfl
noncomputable def celO (v : Option Value) : Obj := ⟨.type "cell", none, .cell v, #[]⟩
noncomputable def env200 (sz : Nat) : Env := { envD (topStmt 10) "_strip_quoted_realnames.<locals>." 200 199 sz with cells := [] }
noncomputable def body200 (sz : Nat) : Code := .func (partsOf (topStmt 10)).2.1 (env200 sz)
noncomputable abbrev code200 (v0 : Value) : Code := .call (.ref 200) ⟨[v0], []⟩
theorem call200 (lv : Nat) (prog : Program) (P : Params) (b1 b2 : Bool) (v0 : Value) (sz tk : Nat) (fr : Nat → Fv) :
    let o := run (stQ P b1 b2) (SQ prog P b1 b2) lv 40 [.s 200, .s 199, .d 0, .d 0] fr (code200 v0) [] (denZ (code200 v0)) [] sz tk []
    (o.sel [0], o.cs.map Prod.fst) = (.at (code200 v0) [] (entered (body200 sz)) [.o sz (frm [ent P "addr" tk v0])] (sz + 1) (tk + 1) [], o.cs.map Prod.snd) := by
  kernel_rfl
noncomputable def env207 (sz : Nat) : Env := { envD (topStmt 11) "_check_parenthesis.<locals>." 207 206 sz with cells := [] }
noncomputable def body207 (sz : Nat) : Code := .func (partsOf (topStmt 11)).2.1 (env207 sz)
noncomputable abbrev code207 (v0 : Value) : Code := .call (.ref 207) ⟨[v0], []⟩
theorem call207 (lv : Nat) (prog : Program) (P : Params) (b1 b2 : Bool) (v0 : Value) (sz tk : Nat) (fr : Nat → Fv) :
    let o := run (stQ P b1 b2) (SQ prog P b1 b2) lv 40 [.s 207, .s 206, .d 0, .d 0] fr (code207 v0) [] (denZ (code207 v0)) [] sz tk []
    (o.sel [0], o.cs.map Prod.fst) = (.at (code207 v0) [] (entered (body207 sz)) [.o sz (frm [ent P "addr" tk v0])] (sz + 1) (tk + 1) [], o.cs.map Prod.snd) := by
  kernel_rfl
noncomputable def env214 (sz : Nat) : Env := { envD (topStmt 13) "add_func_stats.<locals>." 214 213 sz with cells := [] }
noncomputable def body214 (sz : Nat) : Code := .func (partsOf (topStmt 13)).2.1 (env214 sz)
noncomputable abbrev code214 (v0 v1 : Value) : Code := .call (.ref 214) ⟨[v0, v1], []⟩
theorem call214 (lv : Nat) (prog : Program) (P : Params) (b1 b2 : Bool) (v0 v1 : Value) (sz tk : Nat) (fr : Nat → Fv) :
    let o := run (stQ P b1 b2) (SQ prog P b1 b2) lv 40 [.s 214, .s 213, .d 0, .d 0, .d 0, .d 0] fr (code214 v0 v1) [] (denZ (code214 v0 v1)) [] sz tk []
    (o.sel [0], o.cs.map Prod.fst) = (.at (code214 v0 v1) [] (entered (body214 sz)) [.o sz (frm [ent P "target" tk v0, ent P "source" (tk + 1) v1])] (sz + 1) (tk + 2) [], o.cs.map Prod.snd) := by
  kernel_rfl
noncomputable def env221 (sz : Nat) : Env := { envD (topStmt 14) "add_callers.<locals>." 221 220 sz with cells := [] }
noncomputable def body221 (sz : Nat) : Code := .func (partsOf (topStmt 14)).2.1 (env221 sz)
noncomputable abbrev code221 (v0 v1 : Value) : Code := .call (.ref 221) ⟨[v0, v1], []⟩
theorem call221 (lv : Nat) (prog : Program) (P : Params) (b1 b2 : Bool) (v0 v1 : Value) (sz tk : Nat) (fr : Nat → Fv) :
    let o := run (stQ P b1 b2) (SQ prog P b1 b2) lv 40 [.s 221, .s 220, .d 0, .d 0, .d 0, .d 0] fr (code221 v0 v1) [] (denZ (code221 v0 v1)) [] sz tk []
    (o.sel [0], o.cs.map Prod.fst) = (.at (code221 v0 v1) [] (entered (body221 sz)) [.o sz (frm [ent P "target" tk v0, ent P "source" (tk + 1) v1])] (sz + 1) (tk + 2) [], o.cs.map Prod.snd) := by
  kernel_rfl
noncomputable def env228 (sz : Nat) : Env := { envD (topStmt 15) "count_calls.<locals>." 228 227 sz with cells := [] }
noncomputable def body228 (sz : Nat) : Code := .func (partsOf (topStmt 15)).2.1 (env228 sz)
noncomputable abbrev code228 (v0 : Value) : Code := .call (.ref 228) ⟨[v0], []⟩
theorem call228 (lv : Nat) (prog : Program) (P : Params) (b1 b2 : Bool) (v0 : Value) (sz tk : Nat) (fr : Nat → Fv) :
    let o := run (stQ P b1 b2) (SQ prog P b1 b2) lv 40 [.s 228, .s 227, .d 0, .d 0] fr (code228 v0) [] (denZ (code228 v0)) [] sz tk []
    (o.sel [0], o.cs.map Prod.fst) = (.at (code228 v0) [] (entered (body228 sz)) [.o sz (frm [ent P "callers" tk v0])] (sz + 1) (tk + 1) [], o.cs.map Prod.snd) := by
  kernel_rfl
noncomputable def env233 (sz : Nat) : Env := { envD (topStmt 17) "_law_row.<locals>." 233 232 sz with cells := [] }
noncomputable def body233 (sz : Nat) : Code := .func (partsOf (topStmt 17)).2.1 (env233 sz)
noncomputable abbrev code233 (v0 : Value) : Code := .call (.ref 233) ⟨[v0], []⟩
theorem call233 (lv : Nat) (prog : Program) (P : Params) (b1 b2 : Bool) (v0 : Value) (sz tk : Nat) (fr : Nat → Fv) :
    let o := run (stQ P b1 b2) (SQ prog P b1 b2) lv 40 [.s 233, .s 232, .d 0, .d 0] fr (code233 v0) [] (denZ (code233 v0)) [] sz tk []
    (o.sel [0], o.cs.map Prod.fst) = (.at (code233 v0) [] (entered (body233 sz)) [.o sz (frm [ent P "script" tk v0])] (sz + 1) (tk + 1) [], o.cs.map Prod.snd) := by
  kernel_rfl
noncomputable def env240 (sz : Nat) : Env := { envD (topStmt 18) "_law_depths.<locals>." 240 239 sz with cells := [] }
noncomputable def body240 (sz : Nat) : Code := .func (partsOf (topStmt 18)).2.1 (env240 sz)
noncomputable abbrev code240 (v0 : Value) : Code := .call (.ref 240) ⟨[v0], []⟩
theorem call240 (lv : Nat) (prog : Program) (P : Params) (b1 b2 : Bool) (v0 : Value) (sz tk : Nat) (fr : Nat → Fv) :
    let o := run (stQ P b1 b2) (SQ prog P b1 b2) lv 40 [.s 240, .s 239, .d 0, .d 0] fr (code240 v0) [] (denZ (code240 v0)) [] sz tk []
    (o.sel [0], o.cs.map Prod.fst) = (.at (code240 v0) [] (entered (body240 sz)) [.o sz (frm [ent P "row" tk v0])] (sz + 1) (tk + 1) [], o.cs.map Prod.snd) := by
  kernel_rfl
noncomputable def env245 (sz : Nat) : Env := { envD (topStmt 19) "_law_second.<locals>." 245 244 sz with cells := [("page", sz + 1)] }
noncomputable def body245 (sz : Nat) : Code := .func (partsOf (topStmt 19)).2.1 (env245 sz)
noncomputable abbrev code245 (v0 : Value) : Code := .call (.ref 245) ⟨[v0], []⟩
theorem call245 (lv : Nat) (prog : Program) (P : Params) (b1 b2 : Bool) (v0 : Value) (sz tk : Nat) (fr : Nat → Fv) :
    let o := run (stQ P b1 b2) (SQ prog P b1 b2) lv 40 [.s 245, .s 244, .d 0, .d 0] fr (code245 v0) [] (denZ (code245 v0)) [] sz tk []
    (o.sel [0, 1], o.cs.map Prod.fst) = (.at (code245 v0) [] (entered (body245 sz)) [.o sz (frm [ent P "depths" tk v0]), .o (sz + 1) (celO none)] (sz + 2) (tk + 1) [], o.cs.map Prod.snd) := by
  kernel_rfl
noncomputable def env252 (sz : Nat) : Env := { envD (topStmt 20) "_law_steps.<locals>." 252 251 sz with cells := [] }
noncomputable def body252 (sz : Nat) : Code := .func (partsOf (topStmt 20)).2.1 (env252 sz)
noncomputable abbrev code252 (v0 : Value) : Code := .call (.ref 252) ⟨[v0], []⟩
theorem call252 (lv : Nat) (prog : Program) (P : Params) (b1 b2 : Bool) (v0 : Value) (sz tk : Nat) (fr : Nat → Fv) :
    let o := run (stQ P b1 b2) (SQ prog P b1 b2) lv 40 [.s 252, .s 251, .d 0, .d 0] fr (code252 v0) [] (denZ (code252 v0)) [] sz tk []
    (o.sel [0], o.cs.map Prod.fst) = (.at (code252 v0) [] (entered (body252 sz)) [.o sz (frm [ent P "row" tk v0])] (sz + 1) (tk + 1) [], o.cs.map Prod.snd) := by
  kernel_rfl
noncomputable def env257 (sz : Nat) : Env := { envD (topStmt 21) "_law_book_of_pairs.<locals>." 257 256 sz with cells := [("deep", sz + 1)] }
noncomputable def body257 (sz : Nat) : Code := .func (partsOf (topStmt 21)).2.1 (env257 sz)
noncomputable abbrev code257 (v0 : Value) : Code := .call (.ref 257) ⟨[v0], []⟩
theorem call257 (lv : Nat) (prog : Program) (P : Params) (b1 b2 : Bool) (v0 : Value) (sz tk : Nat) (fr : Nat → Fv) :
    let o := run (stQ P b1 b2) (SQ prog P b1 b2) lv 40 [.s 257, .s 256, .d 0, .d 0] fr (code257 v0) [] (denZ (code257 v0)) [] sz tk []
    (o.sel [0, 1], o.cs.map Prod.fst) = (.at (code257 v0) [] (entered (body257 sz)) [.o sz (frm [ent P "depths" tk v0]), .o (sz + 1) (celO none)] (sz + 2) (tk + 1) [], o.cs.map Prod.snd) := by
  kernel_rfl
noncomputable def env264 (sz : Nat) : Env := { envD (topStmt 22) "_law_book_of_steps.<locals>." 264 263 sz with cells := [] }
noncomputable def body264 (sz : Nat) : Code := .func (partsOf (topStmt 22)).2.1 (env264 sz)
noncomputable abbrev code264 (v0 v1 : Value) : Code := .call (.ref 264) ⟨[v0, v1], []⟩
theorem call264 (lv : Nat) (prog : Program) (P : Params) (b1 b2 : Bool) (v0 v1 : Value) (sz tk : Nat) (fr : Nat → Fv) :
    let o := run (stQ P b1 b2) (SQ prog P b1 b2) lv 40 [.s 264, .s 263, .d 0, .d 0, .d 0, .d 0] fr (code264 v0 v1) [] (denZ (code264 v0 v1)) [] sz tk []
    (o.sel [0], o.cs.map Prod.fst) = (.at (code264 v0 v1) [] (entered (body264 sz)) [.o sz (frm [ent P "depths" tk v0, ent P "steps" (tk + 1) v1])] (sz + 1) (tk + 2) [], o.cs.map Prod.snd) := by
  kernel_rfl
noncomputable def env269 (sz : Nat) : Env := { envD (topStmt 23) "_law_back.<locals>." 269 268 sz with cells := [("runs", sz + 1)] }
noncomputable def body269 (sz : Nat) : Code := .func (partsOf (topStmt 23)).2.1 (env269 sz)
noncomputable abbrev code269 (v0 v1 : Value) : Code := .call (.ref 269) ⟨[v0, v1], []⟩
theorem call269 (lv : Nat) (prog : Program) (P : Params) (b1 b2 : Bool) (v0 v1 : Value) (sz tk : Nat) (fr : Nat → Fv) :
    let o := run (stQ P b1 b2) (SQ prog P b1 b2) lv 40 [.s 269, .s 268, .d 1, .d 1, .d 0, .d 0] fr (code269 v0 v1) [] (denZ (code269 v0 v1)) [] sz tk []
    (o.sel [0, 1], o.cs.map Prod.fst) = (.at (code269 v0 v1) [] (entered (body269 sz)) [.o sz (frm [ent P "number" tk v1]), .o (sz + 1) (celO (some v0))] (sz + 2) (tk + 1) [], o.cs.map Prod.snd) := by
  kernel_rfl
noncomputable def env276 (sz : Nat) : Env := { envD (topStmt 24) "law.<locals>." 276 275 sz with cells := [] }
noncomputable def body276 (sz : Nat) : Code := .func (partsOf (topStmt 24)).2.1 (env276 sz)
noncomputable abbrev code276 (v0 : Value) : Code := .call (.ref 276) ⟨[v0], []⟩
theorem call276 (lv : Nat) (prog : Program) (P : Params) (b1 b2 : Bool) (v0 : Value) (sz tk : Nat) (fr : Nat → Fv) :
    let o := run (stQ P b1 b2) (SQ prog P b1 b2) lv 40 [.s 276, .s 275, .d 0, .d 0] fr (code276 v0) [] (denZ (code276 v0)) [] sz tk []
    (o.sel [0], o.cs.map Prod.fst) = (.at (code276 v0) [] (entered (body276 sz)) [.o sz (frm [ent P "script" tk v0])] (sz + 1) (tk + 1) [], o.cs.map Prod.snd) := by
  kernel_rfl
noncomputable def env121 (sz : Nat) : Env := { envD (clsStmt 7 7) "Headers.get_all.<locals>." 121 120 sz with cells := [("name", sz + 1)] }
noncomputable def body121 (sz : Nat) : Code := .func (partsOf (clsStmt 7 7)).2.1 (env121 sz)
noncomputable abbrev code121 (v0 v1 : Value) : Code := .call (.ref 121) ⟨[v0, v1], []⟩
theorem call121 (lv : Nat) (prog : Program) (P : Params) (b1 b2 : Bool) (v0 v1 : Value) (sz tk : Nat) (fr : Nat → Fv) :
    let o := run (stQ P b1 b2) (SQ prog P b1 b2) lv 40 [.s 121, .s 120, .d 0, .d 0, .d 1, .d 1] fr (code121 v0 v1) [] (denZ (code121 v0 v1)) [] sz tk []
    (o.sel [0, 1], o.cs.map Prod.fst) = (.at (code121 v0 v1) [] (entered (body121 sz)) [.o sz (frm [ent P "self" tk v0]), .o (sz + 1) (celO (some v1))] (sz + 2) (tk + 1) [], o.cs.map Prod.snd) := by
  kernel_rfl
end Zd
namespace Zd
open PySem PySem.Spec PySem.Calls PyProof.Rows PySem.W PySem.W.X
/-- a contract of a def -/
noncomputable def ctrDef {stat : Nat → Option Obj} {S : Setting} (a : Nat) (g : List Value → Option Inst)
    (h : ∀ args i, g args = some i → (∀ p ∈ i.cs, Tm.ok p) → (∀ sz tk f, i.pre.map Cell.key = (i.upd sz tk f).map Cell.key) ∧ Triple stat S (.call (.ref a) ⟨args, []⟩) i) : Ctr stat S where
  f
    | .call (.ref a') ⟨args, kw⟩ => match kw with
      | [] => match Nat.beq a' a with
        | true => g args
        | false => none
      | _ :: _ => none
    | _ => none
  sound c i hi hcs := by
    split at hi
    · split at hi
      · split at hi
        · rename_i e
          rw [Nat.eq_of_beq_eq_true e]
          exact h _ _ hi hcs
        · cases hi
      · cases hi
    · cases hi
section
variable {prog : Program} {P : Params} {b1 b2 : Bool}
noncomputable def noQ (x : Str) : Prop := (!(Builtin.Str.occurrences x "\"" 0 x.length 1).isEmpty) = false
theorem b200 (lv : Nat) (x : Str) (xt : Nat) (hx : noQ x) (L sz tk t0 : Nat) (fr : Nat → Fv) :
    let o := run (stQ P b1 b2) (SQ prog P b1 b2) (lv + 1) 40 [.d 0, .o (cContains x "\"" false hx) [], .d 0] fr (body200 L) [] (denZ (body200 L)) [.o L (frm [ent P "addr" t0 (.str x xt)])] sz tk []
    (o.sel [], o.cs.map Prod.fst) = (.ret (.ok (.ret (.str x xt))) [] sz (tk + 1) [], o.cs.map Prod.snd) := by
  kernel_rfl
noncomputable def inst200 (x : Str) (xt : Nat) (cs : List (Tm × Tm)) : Inst := { lv := 1, cs, pre := [], upd := fun _ _ _ => [], res := fun _ _ _ => .ok (.ret (.str x xt)), new := fun _ _ _ => [] }
theorem triple200 (x : Str) (xt : Nat) (hx : noQ x) (cs : List (Tm × Tm)) : Triple (stQ P b1 b2) (SQ prog P b1 b2) (code200 (.str x xt)) (inst200 x xt cs) := by
  intro w hS A s sz tk g l hA hst hpre hnd hlow hb hsz htk
  refine wp_of_code ?_
  have D := rep_start (led := []) hst (fun _ h => (nomatch h)) List.nodup_nil (fun _ h => (nomatch h)) hb hsz htk
  refine def_call (call200 1 prog P b1 b2 (.str x xt) sz tk) hS hA rfl rfl rfl D fun s1 D1 => ?_
  refine code_ret (b200 0 x xt hx sz (sz + 1) (tk + 1) tk) hS hA rfl D1 fun fr s2 D2 => ?_
  exact rep_end (i := inst200 x xt cs) { Fv.z with n := fun k => match k with | 0 => sz + 1 | _ => tk + 1 + 1 } D2 rfl rfl rfl rfl (fun _ h => (nomatch h))
noncomputable def c200 (x0 : Str) (hx : noQ x0) : Ctr (stQ P b1 b2) (SQ prog P b1 b2) :=
  ctrDef 200 (fun | [.str x t] => some (inst200 x t [(.s x, .s x0)]) | _ => none) fun args i hi hcs => by
    split at hi
    · cases hi
      obtain ⟨e, _⟩ := okS hcs
      subst e
      exact ⟨fun _ _ _ => rfl, triple200 _ _ hx _⟩
    · cases hi
end
end Zd
namespace Zd
open PySem PySem.Spec PySem.Calls PyProof.Rows PySem.W PySem.W.X
noncomputable def mkGenT (c : Code) (nm : Str) : Sem Fin := R.bindR (ZFast.zw2426001476595277715 c nm nm) ZFast.zw6905046200447255374
noncomputable def enteredG (c : Code) (nm : Str) : Sem Fin := R.bindR ZFast.enterX fun _ => mkGenT c nm
noncomputable def n193 : Str := "_iter_escaped_chars"
noncomputable def env193 (sz : Nat) : Env := envD (topStmt 9) "_iter_escaped_chars.<locals>." 193 192 sz
noncomputable def body193 (sz : Nat) : Code := .func (partsOf (topStmt 9)).2.1 (env193 sz)
noncomputable abbrev code193 (v0 : Value) : Code := .call (.ref 193) ⟨[v0], []⟩
noncomputable def genO (g t1 t2 : Nat) : Obj := ⟨.type "generator", none, .fields #[.int (g : Int) 0, .str n193 t1, .str n193 t2], #[]⟩
section
variable {prog : Program} {P : Params} {b1 b2 : Bool}
theorem call193 (lv : Nat) (v0 : Value) (sz tk : Nat) (fr : Nat → Fv) :
    let o := run (stQ P b1 b2) (SQ prog P b1 b2) lv 40 [.s 193, .s 192, .d 0, .d 0] fr (code193 v0) [] (denZ (code193 v0)) [] sz tk []
    (o.sel [0], o.cs.map Prod.fst) = (.at (code193 v0) [] (enteredG (body193 sz) n193) [.o sz (frm [ent P "addr" tk v0])] (sz + 1) (tk + 1) [], o.cs.map Prod.snd) := by
  kernel_rfl
theorem made193 (lv : Nat) (v0 : Value) (L sz tk t0 : Nat) (fr : Nat → Fv) :
    let o := run (stQ P b1 b2) (SQ prog P b1 b2) lv 40 [] fr (code193 v0) [] (mkGenT (body193 L) n193) [.o L (frm [ent P "addr" t0 v0])] sz tk []
    (o.sel [0, 1, 2], o.cs.map Prod.fst) = (.ret (.ok (.ret (.ref sz))) [.o L (frm [ent P "addr" t0 v0]), .g ((fr 0).n 0) (.fresh (body193 L)), .o sz (genO ((fr 0).n 0) tk (tk + 1))] (sz + 1) (tk + 2) [], o.cs.map Prod.snd) := by
  kernel_rfl
noncomputable def inst193 (P : Params) (v0 : Value) (cs : List (Tm × Tm)) : Inst := { lv := 1, cs, pre := [], upd := fun _ _ _ => [], res := fun sz _ _ => .ok (.ret (.ref (sz + 1))), new := fun sz tk f => [.o sz (frm [ent P "addr" tk v0]), .g (f.n 2) (.fresh (body193 sz)), .o (sz + 1) (genO (f.n 2) (tk + 1) (tk + 2))], nsz := fun sz _ => sz + 2, ntk := fun tk _ => tk + 3 }
theorem triple193 (v0 : Value) (cs : List (Tm × Tm)) : Triple (stQ P b1 b2) (SQ prog P b1 b2) (code193 v0) (inst193 P v0 cs) := by
  intro w hS A s sz tk g l hA hst hpre hnd hlow hb hsz htk
  refine wp_of_code ?_
  have D := rep_start (led := []) hst (fun _ h => (nomatch h)) List.nodup_nil (fun _ h => (nomatch h)) hb hsz htk
  refine code_of_wp (S := SQ prog P b1 b2) ?_
  refine run_to (laws_none (S := SQ prog P b1 b2) (lv := 1) (finP (model prog w) A (After (inst193 P v0 cs) sz tk s), fun e s' => After (inst193 P v0 cs) sz tk s (.error e) s') hS hA) hS _ _ [0] (call193 1 v0 sz tk) rfl
    (fun fr => ⟨fun _ h => (nomatch h), fun s1 D1 => means_enter hA rfl D1 ?_⟩) D
  refine run_to (laws_none (S := SQ prog P b1 b2) (lv := 1) (finP (model prog w) A (After (inst193 P v0 cs) sz tk s), fun e s' => After (inst193 P v0 cs) sz tk s (.error e) s') hS hA) hS _ _ [0, 1, 2] (made193 1 v0 sz (sz + 1) (tk + 1) tk) rfl
    (fun fr => ⟨fun _ h => (nomatch h), fun s2 D2 c' => wpAny_pure ?_⟩) D1
  exact rep_end (i := inst193 P v0 cs) { Fv.z with n := fun _ => (fr 0).n 0 } D2 rfl rfl rfl rfl (fun _ _ h => (nomatch h))
noncomputable def c193 : Ctr (stQ P b1 b2) (SQ prog P b1 b2) :=
  ctrDef 193 (fun | [v] => some (inst193 P v []) | _ => none) fun args i hi hcs => by
    split at hi
    · cases hi
      exact ⟨fun _ _ _ => rfl, triple193 _ _⟩
    · cases hi
end
end Zd
namespace Zd
open PySem PySem.Spec PySem.Calls PyProof.Rows PySem.W PySem.W.X
noncomputable def Fr.frame (x : Fr) : Frame := .ret x.k none x.g x.l x.c x.p []
noncomputable def MeansS (prog : Program) (w : World) (A₀ : Around) (Pe : End → Shared → Prop) (c : Code) (κ : List Fr) (t : Sem Fin) (s : Shared) : Prop :=
  SegX (model prog w) A₀ c t (κ.map Fr.frame) s Pe
theorem marks_none (x : Option Value × Option Value) : ∀ κ : List Fr, marksOver (κ.map Fr.frame) x = x
  | [] => rfl
  | _ :: κ => by
    have z := marks_none x κ
    unfold marksOver at z ⊢
    rw [List.map_cons, List.foldr_cons, z]; rfl
theorem over_sum (A₀ : Around) : ∀ (κ : List Fr) (c : Code), (A₀.over c (κ.map Fr.frame)).depth = A₀.depth + (wsum c κ).1 ∧ (A₀.over c (κ.map Fr.frame)).units = A₀.units + (wsum c κ).2
  | [], c => ⟨rfl, rfl⟩
  | x :: κ, c => by
    obtain ⟨h1, h2⟩ := over_sum A₀ κ x.c
    have e : wsum c (x :: κ) = ((wsum x.c κ).1 + c.weight, (wsum x.c κ).2 + c.cUnits) := rfl
    rw [e]
    have f1 : (A₀.over x.c (κ.map Fr.frame)).depth = A₀.depth + frameCount ((κ.map Fr.frame).map Frame.where_) + x.c.weight := rfl
    have f2 : (A₀.over x.c (κ.map Fr.frame)).units = A₀.units + unitsOf ((κ.map Fr.frame).map Frame.where_) + x.c.cUnits := rfl
    have g1 : (A₀.over c ((x :: κ).map Fr.frame)).depth = A₀.depth + frameCount ((x.c, x.p) :: (κ.map Fr.frame).map Frame.where_) + c.weight := rfl
    have g2 : (A₀.over c ((x :: κ).map Fr.frame)).units = A₀.units + unitsOf ((x.c, x.p) :: (κ.map Fr.frame).map Frame.where_) + c.cUnits := rfl
    rw [g1, g2, frameCount_cons, unitsOf_cons]
    constructor
    · show _ = A₀.depth + ((wsum x.c κ).1 + c.weight)
      omega
    · show _ = A₀.units + ((wsum x.c κ).2 + c.cUnits)
      omega
theorem over_handled (A₀ : Around) (κ : List Fr) (c : Code) : (A₀.over c (κ.map Fr.frame)).handled = A₀.handled := by
  show (marksOver (κ.map Fr.frame) (A₀.handled, A₀.handled)).1 = _
  rw [marks_none]
theorem laws_seg {S : Setting} {w : World} {lv : Nat} {A₀ : Around} (Pe : End → Shared → Prop) (hS : w.params = S.params) (hA : Room lv A₀) : Laws S w lv (MeansS S.program w A₀ Pe) where
  rule {c κ t k s} h := s_cmd _ _ _ _ _ _ (m := rule t) (k := k) (wpAny_rule h)
  pos {c κ q k s} h := s_cmd _ _ _ _ _ _ (m := standAt q) (k := k) (wpAny_standAt h)
  point {c κ l k s} h := s_skim _ _ _ _ _ _ s (.point l k) 1 h
  ask {c κ k s} h := s_skim _ _ _ _ _ _ s (.ask k) 1 (by
    show SegX _ _ _ (k ⟨S.program, w.params⟩) _ _ _
    rw [hS]; exact h)
  load {c κ a q k o s} ho h := s_cmd _ _ _ _ _ _ (m := loadPart a q) (k := k) (wpAny_loadPart ho h)
  alive {c κ a k o s} ho h := s_alive _ _ _ _ _ _ s.heap s.gens s.drawn s.toks s.os a k o ho h
  alloc {c κ o k s} h := s_cmd _ _ _ _ _ _ (m := PySem.alloc o) (k := k) (wpAny_alloc h)
  update {c κ a q f k o s} ho h := s_cmd _ _ _ _ _ _ (m := updatePart a q f) (k := k) (wpAny_updatePart ho h)
  fresh {c κ k s} h := s_fresh _ _ _ _ _ _ s.heap s.gens s.drawn s.toks s.os k h
  newGen {c κ c' k s} h := s_newGen _ _ _ _ _ _ s.heap s.gens s.drawn s.toks s.os c' k h
  handled {c κ k s} h := s_handled _ _ _ _ _ _ s k (by
    have e : (A₀.over c (κ.map Fr.frame)).handled = none := (over_handled A₀ κ c).trans hA.1
    rw [e]; exact h)
  popd {c x κ f s} h := s_pop _ _ _ _ _ _ s (.ok f) _ rfl x.k none x.g x.l x.c x.p [] h
  pope {c x κ e s} h := s_pop _ _ _ _ _ _ s (.error e) _ rfl x.k none x.g x.l x.c x.p [] h
  again {c x κ c' s} q h := s_again _ _ _ _ _ _ s c' q (by
    show SegX _ _ _ (denote table c') _ _ _
    rw [denZ_eq]; exact h)
  call {c κ c' g l k s} h := s_call _ _ _ _ _ _ s c' none g l k fun p => (by
    show SegX _ _ _ (denote table c') _ _ _
    rw [denZ_eq]; exact h p)
  over {c κ c' g l k s i R'} h1 h2 h3 hc hk := by
    have hw := over_sum A₀ κ c
    refine s_cmd _ _ _ _ _ _ (m := .call c' none g l .pure) (k := k) (wpAny_mono (hc (A₀.over c (κ.map Fr.frame)) ⟨(over_handled A₀ κ c).trans hA.1, ?_, ?_⟩) hk fun _ _ h => h.elim)
    · have := hA.2.1
      omega
    · have := hA.2.2
      omega
end Zd
namespace Zd
open PySem PySem.Spec PySem.Calls PyProof.Rows PySem.W PySem.W.X
noncomputable def hZ (env : Env) (x : Value) : Sem Unit := R.bindR (ZFast.noteFrameY x env) fun _ => ZFast.zw1623429502029203251 x
/-- a for loop's turn behind the item that it has met: to the target and on -/
noncomputable def tailZ (tgt : PySem.Expr) (it : Value) (body orelse : List Stmt) (env : Env) (v : Value) : Sem Fin :=
  R.onRaiseR (R.bindR (ZFast.zw17772580674575903948 tgt env v) fun _ => R.bindR (ZFast.zw12563942051412417395 body env) fun r => match r with
    | .next => .pure (.again (.forLoop tgt it body orelse env))
    | .cont => .pure (.again (.forLoop tgt it body orelse env))
    | .brk => .pure (.done .next)
    | .ret v => .pure (.done (.ret v))) (hZ env)
noncomputable def restZ (tgt : PySem.Expr) (it : Value) (body orelse : List Stmt) (env : Env) (v : Value) : Sem Fin :=
  R.onRaiseR (R.bindR (ZFast.zw1578499551869305889 tgt it v) fun _ => R.bindR (ZFast.zw17772580674575903948 tgt env v) fun _ => R.bindR (ZFast.zw12563942051412417395 body env) fun r => match r with
    | .next => .pure (.again (.forLoop tgt it body orelse env))
    | .cont => .pure (.again (.forLoop tgt it body orelse env))
    | .brk => .pure (.done .next)
    | .ret v => .pure (.done (.ret v))) (hZ env)
theorem rest_load {es : List PySem.Expr} {x1} {p : Pos} {r a : Addr} {body orelse : List Stmt} {env : Env} :
    restZ (.Tuple es x1 p) (.ref r) body orelse env (.ref a) = .load r none fun o => Sem.onRaise (Sem.bind (match o.cls, o.data with
      | .type n, .fields vs => if (["enumerate", "zip", "dict_itemiterator", "dict_reverseitemiterator", "odict_iterator", "itertools.zip_longest", "itertools.pairwise"].contains n && vs[0]? == some (rawInt a)) = true then (do rule "for.unpacks-the-owned-tuple"; updateField r 0 .none) else pure ()
      | _, _ => pure ()) fun _ => R.bindR (ZFast.zw17772580674575903948 (.Tuple es x1 p) env (.ref a)) fun _ => R.bindR (ZFast.zw12563942051412417395 body env) fun r' => match r' with
    | .next => .pure (.again (.forLoop (.Tuple es x1 p) (.ref r) body orelse env))
    | .cont => .pure (.again (.forLoop (.Tuple es x1 p) (.ref r) body orelse env))
    | .brk => .pure (.done .next)
    | .ret v => .pure (.done (.ret v))) (hZ env) := by
  unfold restZ
  rw [← ZFast.ze1578499551869305889, ← R.bindR_eq, ← R.onRaiseR_eq]
  rfl
theorem owned_step0 {stat : Nat → Option Obj} {S : Setting} {w : World} {lv : Nat} {Mn : Code → List Fr → Sem Fin → Shared → Prop} (L : Laws S w lv Mn) {W : List (Bool × Nat)} {s₀ s : Shared} {led : Led} {sz tk j : Nat}
    {es : List PySem.Expr} {x1} {p : Pos} {r a : Addr} {body orelse : List Stmt} {env : Env} {n : String} {vs : Array Value} {c : Code} {κ : List Fr}
    (D : Rep stat W s₀ led sz tk s) (hj : led[j]? = some (.o r ⟨.type n, none, .fields vs, #[]⟩))
    (hn : (["enumerate", "zip", "dict_itemiterator", "dict_reverseitemiterator", "odict_iterator", "itertools.zip_longest", "itertools.pairwise"] : List String).contains n = true) (hv : vs[0]? = some (rawInt a)) (hs : 0 < vs.size)
    (h : ∀ s', Rep stat W s₀ (led.set j (.o r ⟨.type n, none, .fields (vs.setIfInBounds 0 .none), #[]⟩)) sz tk s' → Mn c κ (tailZ (.Tuple es x1 p) (.ref r) body orelse env (.ref a)) s') :
    Mn c κ (restZ (.Tuple es x1 p) (.ref r) body orelse env (.ref a)) s := by
  have ho : s.heap.get? r = some ⟨.type n, none, .fields vs, #[]⟩ := D.cells _ (List.mem_of_getElem? hj)
  rw [rest_load]
  refine L.load ho ?_
  dsimp only
  rw [if_pos (by rw [hn, hv]; simp)]
  refine L.rule ?_
  refine L.load ho ?_
  have D' := D.update hj (f := Obj.mapFields (·.setIfInBounds 0 .none)) rfl
  have key := h _ D'
  show Mn c κ (Sem.onRaise (Sem.bind (if 0 < vs.size then update r (Obj.mapFields (·.setIfInBounds 0 .none)) else unsupported "internal:no-such-field") _) _) s
  rw [if_pos hs]
  refine L.update ho ?_
  have e : tailZ (.Tuple es x1 p) (.ref r) body orelse env (.ref a) = _ := rfl
  unfold tailZ at key
  rw [← R.onRaiseR_eq] at key
  exact key
noncomputable def isTup : PySem.Expr → Bool
  | .Tuple _ _ _ => true
  | _ => false
theorem owned_step {stat : Nat → Option Obj} {S : Setting} {w : World} {lv : Nat} {Mn : Code → List Fr → Sem Fin → Shared → Prop} (L : Laws S w lv Mn) {W : List (Bool × Nat)} {s₀ s : Shared} {led : Led} {sz tk : Nat} (j : Nat)
    {tgt : PySem.Expr} {r a : Addr} {body orelse : List Stmt} {env : Env} {n : String} {vs : Array Value} {c : Code} {κ : List Fr} (ht : isTup tgt = true)
    (D : Rep stat W s₀ led sz tk s) (hj : led[j]? = some (.o r ⟨.type n, none, .fields vs, #[]⟩))
    (hn : (["enumerate", "zip", "dict_itemiterator", "dict_reverseitemiterator", "odict_iterator", "itertools.zip_longest", "itertools.pairwise"] : List String).contains n = true) (hv : vs[0]? = some (rawInt a)) (hs : 0 < vs.size)
    (h : ∀ s', Rep stat W s₀ (led.set j (.o r ⟨.type n, none, .fields (vs.setIfInBounds 0 .none), #[]⟩)) sz tk s' → Mn c κ (tailZ tgt (.ref r) body orelse env (.ref a)) s') :
    Mn c κ (restZ tgt (.ref r) body orelse env (.ref a)) s := by
  cases tgt with
  | Tuple es x1 p => exact owned_step0 L D hj hn hv hs h
  | _ => cases ht
end Zd
namespace Zd
open PySem PySem.Spec PySem.Calls PyProof.Rows PySem.W PySem.W.X
noncomputable def siO (x : Str) (t : Nat) (k : Nat) : Obj := ⟨.type "str_ascii_iterator", none, .fields #[.str x t, .int (k : Int) 0], #[]⟩
noncomputable def siE (k : Nat) : Obj := ⟨.type "str_ascii_iterator", none, .fields #[.none, .int (k : Int) 0], #[]⟩
noncomputable def excO (t : Nat) : Obj := ⟨.type "StopIteration", none, .fields #[.ref t, .none, .none, .none, .bool false, .none], #[]⟩
theorem kept_update {a : Addr} {f : Obj → Obj} (s : Shared) (n : Nat) : Kept [(true, a)] s { s with heap := s.heap.update a f, toks := n } := by
  have hs : Heap.SameBut a s.heap (s.heap.update a f) := Heap.SameBut.update ..
  exact ⟨by rw [hs.1]; exact Nat.le_refl _, fun b o hb e => (hs.2 b fun q => hb (q ▸ .head _)).trans e, Nat.le_refl _, fun _ _ _ h => h, rfl, rfl, id⟩
theorem kept_push (s : Shared) (o : Obj) : Kept [] s { s with heap := s.heap.push o } :=
  ⟨by rw [Heap.size_push]; exact Nat.le_succ _, fun b o' _ e => Heap.get?_push_of_some _ e, Nat.le_refl _, fun _ _ _ h => h, rfl, rfl, id⟩
theorem Kept.trans {W : List (Bool × Nat)} {a b c : Shared} (x : Kept W a b) (y : Kept W b c) : Kept W a c :=
  ⟨Nat.le_trans x.mono y.mono, fun b o hb e => y.keep b o hb (x.keep b o hb e), Nat.le_trans x.gmono y.gmono, fun b o hb e => y.gkeep b o hb (x.gkeep b o hb e), y.drawn.trans x.drawn, y.os.trans x.os, fun h => y.bare (x.bare h)⟩
theorem Kept.wide {W W' : List (Bool × Nat)} {a b : Shared} (x : Kept W a b) (h : ∀ k ∈ W, k ∈ W') : Kept W' a b :=
  ⟨x.mono, fun b o hb e => x.keep b o (fun q => hb (h _ q)) e, x.gmono, fun b o hb e => x.gkeep b o (fun q => hb (h _ q)) e, x.drawn, x.os, x.bare⟩
section
variable {stat : Nat → Option Obj} {S : Setting}
noncomputable def instSI (si : Addr) (x : Str) (t k c : Nat) (cs : List (Tm × Tm)) : Inst := { lv := 0, cs, pre := [.o si (siO x t k)], upd := fun _ _ _ => [.o si (siO x t (k + 1))], res := fun _ tk _ => .ok (.ret (.str ⟨#[c]⟩ tk)), new := fun _ _ _ => [], nsz := fun sz _ => sz, ntk := fun tk _ => tk + 1 }
noncomputable def instSE (si : Addr) (x : Str) (t k : Nat) (cs : List (Tm × Tm)) : Inst := { lv := 0, cs, pre := [.o si (siO x t k)], upd := fun _ _ _ => [.o si (siE k)], res := fun sz _ _ => .error (.ref (sz + 1)), new := fun sz _ _ => [.o (sz + 1) (excO sz)], nsz := fun sz _ => sz + 2, ntk := fun tk _ => tk }
theorem si_item (si : Addr) (x : Str) (t k c : Nat) (cs : List (Tm × Tm)) (hx : x.cps[k]? = some c) : Triple stat S (.call (.builtin "str_ascii_iterator.__next__") ⟨[.ref si], []⟩) (instSI si x t k c cs) := by
  intro w hS A s sz tk g l hA hst hpre hnd hlow hb hsz htk
  have ho : s.heap.get? si = some (siO x t k) := hpre _ (.head _)
  have hT : s.TypeIs (.ref si) "str_ascii_iterator" := ⟨_, ho, rfl⟩
  refine wpAny_mono (wp_of_call (E' := fun _ _ => False) (Q := fun v s' => After (instSI si x t k c cs) sz tk s (.ok (.ret v)) s') (E := fun _ _ => False) ?_) (fun r s' q => ?_) fun _ _ h => h
  · refine wpAny_call_entry F.slot_str_ascii_iterator_next hT F.entry_str_ascii_iterator_next ?_ (F.args_str_ascii_iterator_next_1 _)
    show wpAny _ _ (field (.ref si) 0 >>= _) _ _ s
    refine wpAny_bind (wpAny_field ho rfl (x := .str x t) rfl ?_)
    show wpAny _ _ (field (.ref si) 1 >>= _) _ _ s
    refine wpAny_bind (wpAny_field ho rfl (x := .int k 0) rfl ?_)
    simp only [Int.toNat_natCast, hx]
    refine wpAny_bind (wpAny_setField ho rfl (by simp) (wpAny_bind (wpAny_mkStr (wpAny_pure ⟨_, rfl, ?_⟩))))
    subst hsz htk
    refine ⟨Fv.z, rfl, (Heap.SameBut.update ..).1, rfl, ?_, fun _ h => (nomatch h), List.nodup_nil, kept_update s _⟩
    intro y hy
    rw [List.mem_singleton.mp hy]
    exact Heap.get?_update_self _ ho rfl
  · cases r with
    | error e => cases q
    | ok f =>
      cases f with
      | ret v => exact q
      | _ => cases q
theorem si_end (si : Addr) (x : Str) (t k : Nat) (cs : List (Tm × Tm)) (hx : x.cps[k]? = none) : Triple stat S (.call (.builtin "str_ascii_iterator.__next__") ⟨[.ref si], []⟩) (instSE si x t k cs) := by
  intro w hS A s sz tk g l hA hst hpre hnd hlow hb hsz htk
  have ho : s.heap.get? si = some (siO x t k) := hpre _ (.head _)
  have hT : s.TypeIs (.ref si) "str_ascii_iterator" := ⟨_, ho, rfl⟩
  refine wpAny_mono (wp_of_call (E' := fun _ _ => False) (Q := fun _ _ => False) (E := fun e s' => After (instSE si x t k cs) sz tk s (.error e) s') ?_) (fun r s' q => ?_) fun _ _ h => h
  · refine wpAny_call_entry F.slot_str_ascii_iterator_next hT F.entry_str_ascii_iterator_next ?_ (F.args_str_ascii_iterator_next_1 _)
    show wpAny _ _ (field (.ref si) 0 >>= _) _ _ s
    refine wpAny_bind (wpAny_field ho rfl (x := .str x t) rfl ?_)
    show wpAny _ _ (field (.ref si) 1 >>= _) _ _ s
    refine wpAny_bind (wpAny_field ho rfl (x := .int k 0) rfl ?_)
    simp only [Int.toNat_natCast, hx]
    refine wpAny_bind (wpAny_rule (wpAny_bind (wpAny_setField ho rfl (by simp) (wpAny_bind (wpAny_letGo ?_)))))
    show wpAny _ _ (newExc (.type "StopIteration") [] >>= _) _ _ _
    refine wpAny_bind ?_
    simp only [newExc, newTuple]
    refine wpAny_bind (wpAny_newObj_type ?_ (by size_fits))
    refine wpAny_bind (m := firstArgMember _ _) (wpAny_of_eq (a := Value.none) (by first | rfl | (simp only [firstArgMember]; rfl)) ?_)
    refine wpAny_newObj_type ?_ (by size_fits)
    simp only [raiseNew]
    refine wpAny_bind (wpAny_handled ?_)
    rw [show A.in1.handled = none from hA.1]
    refine wpAny_bind (wpAny_pure (wpAny_throw ?_))
    subst hsz htk
    have e1 : (s.heap.update si (Obj.mapFields (·.setIfInBounds 0 .none))).objs.size = s.heap.objs.size := (Heap.SameBut.update ..).1
    have hu : (s.heap.update si (Obj.mapFields (·.setIfInBounds 0 .none))).get? si = some (siE k) := Heap.get?_update_self _ ho rfl
    refine ⟨Fv.z, ?_, ?_, rfl, ?_, ?_, List.nodup_cons.mpr ⟨by simp, List.nodup_nil⟩, ?_⟩
    · show Except.error _ = Except.error _
      rw [Heap.size_push]
      exact congrArg (fun n => Except.error (Value.ref (n + 1))) e1
    · show ((Heap.push (Heap.push _ _) _).objs.size) = _
      rw [Heap.size_push, Heap.size_push]
      exact congrArg (· + 2) e1
    · intro y hy
      rw [List.mem_singleton.mp hy]
      exact Heap.get?_push_of_some _ (Heap.get?_push_of_some _ hu)
    · intro y hy
      rw [List.mem_singleton.mp hy]
      refine ⟨?_, Nat.le_succ _⟩
      show Heap.get? (Heap.push (Heap.push _ _) _) (s.heap.objs.size + 1) = some (excO s.heap.objs.size)
      have := Heap.get?_push_size (Heap.push (s.heap.update si (Obj.mapFields (·.setIfInBounds 0 .none))) { cls := .type "tuple", data := .seq #[] 0 }) (o := excO s.heap.objs.size) rfl
      rw [Heap.size_push, e1] at this
      rw [← this]
      have e2 : excO s.heap.objs.size = excO (s.heap.update si (Obj.mapFields (·.setIfInBounds 0 .none))).objs.size := by rw [e1]
      rw [e2]
      rfl
    · have k1 := kept_update (a := si) (f := Obj.mapFields (·.setIfInBounds 0 .none)) s s.toks
      exact k1.trans (((kept_push _ _).wide (fun _ h => (nomatch h))).trans ((kept_push _ _).wide (fun _ h => (nomatch h))))
  · cases r with
    | error e => exact q
    | ok f =>
      cases f with
      | ret v => cases q
      | _ => cases q
end
end Zd
namespace Zd
open PySem PySem.Spec PySem.Calls PyProof.Rows PySem.W PySem.W.X
theorem okA {a b : Nat} {l : List (Tm × Tm)} (h : ∀ p ∈ (Tm.a a, Tm.a b) :: l, Tm.ok p) : a = b ∧ ∀ p ∈ l, Tm.ok p := ⟨Tm.a.inj (h _ (.head _)), fun p hp => h p (.tail _ hp)⟩
section
variable {stat : Nat → Option Obj} {S : Setting}
/-- «x == y» of texts comes out as b -/
noncomputable def cStrEq (x0 y0 : Str) (b : Bool) (h : (x0.cps.toList == y0.cps.toList) = b) : Ctr stat S :=
  ctrPure "str.__eq__" (fun | [.str x _, .str y _] => some ([(.s x, .s x0), (.s y, .s y0)], .val (.bool b)) | _ => none) fun args cs m hg hcs => by
    split at hg
    · cases hg
      obtain ⟨e1, hcs⟩ := okS hcs
      obtain ⟨e2, _⟩ := okS hcs
      subst e1 e2 h
      exact ⟨trivial, fun prog w A Q E s hq => call_gives F.slot_str_eq rfl F.entry_str_eq (F.args_str_eq_2 _ _) (gives_str_eq _ _ _ _) hq⟩
    · cases hg
noncomputable def cIntGe (x0 y0 : Int) (b : Bool) (h : decide (x0 ≥ y0) = b) : Ctr stat S :=
  ctrPure "int.__ge__" (fun | [.int x _, .int y _] => some ([(.i x, .i x0), (.i y, .i y0)], .val (.bool b)) | _ => none) fun args cs m hg hcs => by
    split at hg
    · cases hg
      obtain ⟨e1, hcs⟩ := okI hcs
      obtain ⟨e2, _⟩ := okI hcs
      subst e1 e2 h
      exact ⟨trivial, fun prog w A Q E s hq => call_gives F.slot_int_ge rfl F.entry_int_ge (F.args_int_ge_2 _ _) (gives_int_ge _ _ _ _) hq⟩
    · cases hg
noncomputable def cIntLt (x0 y0 : Int) (b : Bool) (h : decide (x0 < y0) = b) : Ctr stat S :=
  ctrPure "int.__lt__" (fun | [.int x _, .int y _] => some ([(.i x, .i x0), (.i y, .i y0)], .val (.bool b)) | _ => none) fun args cs m hg hcs => by
    split at hg
    · cases hg
      obtain ⟨e1, hcs⟩ := okI hcs
      obtain ⟨e2, _⟩ := okI hcs
      subst e1 e2 h
      exact ⟨trivial, fun prog w A Q E s hq => call_gives F.slot_int_lt rfl F.entry_int_lt (F.args_int_lt_2 _ _) (gives_int_lt _ _ _ _) hq⟩
    · cases hg
noncomputable def cIntEq (x0 y0 : Int) (b : Bool) (h : (x0 == y0) = b) : Ctr stat S :=
  ctrPure "int.__eq__" (fun | [.int x _, .int y _] => some ([(.i x, .i x0), (.i y, .i y0)], .val (.bool b)) | _ => none) fun args cs m hg hcs => by
    split at hg
    · cases hg
      obtain ⟨e1, hcs⟩ := okI hcs
      obtain ⟨e2, _⟩ := okI hcs
      subst e1 e2 h
      exact ⟨trivial, fun prog w A Q E s hq => call_gives F.slot_int_eq rfl F.entry_int_eq (F.args_int_eq_2 _ _) (gives_int_eq _ _ _ _) hq⟩
    · cases hg
/-- a contract of a built-in of one argument, an object -/
noncomputable def ctrB1 (id : String) (a0 : Addr) (i : List (Tm × Tm) → Inst) (hi : ∀ cs, (i cs).cs = cs)
    (h : ∀ cs, (∀ sz tk f, (i cs).pre.map Cell.key = ((i cs).upd sz tk f).map Cell.key) ∧ Triple stat S (.call (.builtin id) ⟨[.ref a0], []⟩) (i cs)) : Ctr stat S where
  f
    | .call (.builtin id') ⟨args, kw⟩ => match kw with
      | [] => match eqS id' id with
        | true => match args with
          | [.ref a] => some (i [(.a a, .a a0)])
          | _ => none
        | false => none
      | _ :: _ => none
    | _ => none
  sound c j hj hcs := by
    split at hj
    · split at hj
      · split at hj
        · rename_i e
          split at hj
          · cases hj
            rw [hi] at hcs
            obtain ⟨e2, _⟩ := okA hcs
            rw [eqS_eq e, e2]
            exact h _
          · cases hj
        · cases hj
      · cases hj
    · cases hj
noncomputable def cSI (si : Addr) (x : Str) (t k c : Nat) (hx : x.cps[k]? = some c) : Ctr stat S :=
  ctrB1 "str_ascii_iterator.__next__" si (instSI si x t k c) (fun _ => rfl) fun cs => ⟨fun _ _ _ => rfl, si_item si x t k c cs hx⟩
noncomputable def cSE (si : Addr) (x : Str) (t k : Nat) (hx : x.cps[k]? = none) : Ctr stat S :=
  ctrB1 "str_ascii_iterator.__next__" si (instSE si x t k) (fun _ => rfl) fun cs => ⟨fun _ _ _ => rfl, si_end si x t k cs hx⟩
noncomputable def enO (f0 : Value) (it : Addr) (k : Nat) (item : Value) : Obj := ⟨.type "enumerate", none, .fields #[f0, .bool false, .ref it, .int (k : Int) 0, .none, item], #[]⟩
noncomputable def instEN (x : Str) (t : Nat) (cs : List (Tm × Tm)) : Inst := { lv := 0, cs, pre := [], upd := fun _ _ _ => [], res := fun sz _ _ => .ok (.ret (.ref (sz + 1))), new := fun sz _ _ => [.o sz (siO x t 0), .o (sz + 1) (enO .none sz 0 .none)], nsz := fun sz _ => sz + 2, ntk := fun tk _ => tk }
theorem en_new (x : Str) (t : Nat) (cs : List (Tm × Tm)) (hx : x.cps.all (· < 128) = true) : Triple stat S (.call (.type "enumerate") ⟨[.str x t], []⟩) (instEN x t cs) := by
  intro w hS A s sz tk g l hA hst hpre hnd hlow hb hsz htk
  refine wpAny_mono (wp_of_call (E' := fun _ _ => False) (Q := fun v s' => After (instEN x t cs) sz tk s (.ok (.ret v)) s') (E := fun _ _ => False) ?_) (fun r s' q => ?_) fun _ _ h => h
  · refine callType_new F.called_enumerate (by decide) (F.typeCall_enumerate_1 _) (F.newCall_enumerate_1 _) (fun obj => F.args_object_init_2 obj _) F.entry_enumerate_new
      (meets_enumerate_newS x t) ?_
    have ht : strIterType x = "str_ascii_iterator" := by unfold strIterType; rw [hx]; rfl
    rw [ht]
    have hz : (s.heap.push { cls := .type "str_ascii_iterator", data := .fields #[.str x t, .int 0 0] }).objs.size = s.heap.objs.size + 1 := Heap.size_push ..
    show _ ∧ _
    rw [hz]
    have he : ((s.heap.push { cls := .type "str_ascii_iterator", data := .fields #[.str x t, .int 0 0] }).push
        { cls := .type "enumerate", data := .fields #[.none, .bool false, .ref s.heap.objs.size, rawInt 0, .none, .none] }).get? (s.heap.objs.size + 1) = some (enO .none s.heap.objs.size 0 .none) := by
      have := Heap.get?_push_size (s.heap.push { cls := .type "str_ascii_iterator", data := .fields #[.str x t, .int 0 0] })
        (o := { cls := .type "enumerate", data := .fields #[.none, .bool false, .ref s.heap.objs.size, rawInt 0, .none, .none] }) rfl
      rw [hz] at this; exact this
    refine ⟨⟨_, he, rfl⟩, ?_⟩
    subst hsz htk
    refine ⟨Fv.z, rfl, by rw [Heap.size_push, hz]; rfl, rfl, fun _ h => (nomatch h), ?_, ?_, ?_⟩
    · intro y hy
      rcases List.mem_cons.mp hy with rfl | hy
      · exact ⟨Heap.get?_push_of_some _ (Heap.get?_push_size _ rfl), Nat.le_refl _⟩
      · rw [List.mem_singleton.mp hy]
        exact ⟨he, Nat.le_succ _⟩
    · refine List.nodup_cons.mpr ⟨?_, List.nodup_cons.mpr ⟨by simp, List.nodup_nil⟩⟩
      intro hm
      have := List.mem_singleton.mp hm
      have := (Prod.mk.inj this).2
      exact absurd this (Nat.ne_of_lt (Nat.lt_succ_self _))
    · exact (kept_push s _).trans (kept_push _ _)
  · cases r with
    | error e => cases q
    | ok f =>
      cases f with
      | ret v => exact q
      | _ => cases q
noncomputable def cEN (x0 : Str) (hx : x0.cps.all (· < 128) = true) : Ctr stat S where
  f
    | .call (.type id') ⟨args, kw⟩ => match kw with
      | [] => match eqS id' "enumerate" with
        | true => match args with
          | [.str x t] => some (instEN x t [(.s x, .s x0)])
          | _ => none
        | false => none
      | _ :: _ => none
    | _ => none
  sound c j hj hcs := by
    split at hj
    · split at hj
      · split at hj
        · rename_i e
          split at hj
          · cases hj
            obtain ⟨e2, _⟩ := okS hcs
            rw [eqS_eq e, e2]
            exact ⟨fun _ _ _ => rfl, en_new _ _ _ hx⟩
          · cases hj
        · cases hj
      · cases hj
    · cases hj
end
end Zd
namespace Zd
open PySem PySem.Spec PySem.Calls PyProof.Rows PySem.W PySem.W.X
noncomputable def Out.frs : Out → List Fr
  | .at _ κ _ _ _ _ _ => κ
  | _ => []
noncomputable def Out.yk : Out → Resume → Sem Fin
  | .at _ _ (.yield _ _ _ k) _ _ _ _ => k
  | _ => fun _ => .raise .none
noncomputable def Out.yl : Out → List Value
  | .at _ _ (.yield _ _ l _) _ _ _ _ => l
  | _ => []
noncomputable def forOf : Option Stmt → PySem.Expr × List Stmt × List Stmt
  | some (.For t _ b e _) => (t, b, e)
  | _ => (default, [], [])
noncomputable def tupO (l : List Value) : Obj := ⟨.type "tuple", none, .seq l.toArray 0, #[]⟩
noncomputable def chr1 (c : Nat) : Str := ⟨#[c]⟩
noncomputable def for193 : PySem.Expr × List Stmt × List Stmt := forOf ((partsOf (topStmt 9)).2.1[2]?)
noncomputable def codeF (L en : Nat) : Code := .forLoop for193.1 (.ref en) for193.2.1 for193.2.2 (env193 L)
noncomputable def restF (L en tup : Nat) : Sem Fin := restZ for193.1 (.ref en) for193.2.1 for193.2.2 (env193 L) (.ref tup)
noncomputable def tailF (L en tup : Nat) : Sem Fin := tailZ for193.1 (.ref en) for193.2.1 for193.2.2 (env193 L) (.ref tup)
noncomputable def frG (P : Params) (t0 t1 t2 t3 : Nat) (x : Str) (xt : Nat) (pv : Value) (ch : Option Value) : Obj :=
  frm ([ent P "addr" t0 (.str x xt), ent P "pos" t1 pv, ent P "escape" t2 (.bool false)] ++ (match ch with | some v => [ent P "ch" t3 v] | none => []))
section
variable (lv : Nat) (prog : Program) (P : Params) (b1 b2 : Bool) (x : Str) (xt : Nat) (ha : x.cps.all (· < 128) = true) (c : Nat) (L sz tk t0 : Nat)
noncomputable def gA1 (h0 : x.cps[0]? = some c) (fr : Nat → Fv) : Out := run (stQ P b1 b2) (SQ prog P b1 b2) (lv + 1) 120
  [.d 0, .d 0, .d 0, .d 0, .s 3, .s 0, .d 0, .o (cEN x ha) [], .d 2, .d 2, .n, .d 2, .d 2, .n, .d 2, .n, .d 2, .d 2, .d 1, .o (cSI sz x xt 0 c h0) [1], .d 2, .d 2, .d 2, .d 2, .d 2, .d 2, .d 2, .d 2, .d 2, .d 2, .d 2, .d 2, .d 2, .d 2]
  fr (body193 L) [] (denZ (body193 L)) [.o L (frm [ent P "addr" t0 (.str x xt)])] sz tk []
theorem tA1 (h0 : x.cps[0]? = some c) (fr : Nat → Fv) :
    let o := gA1 lv prog P b1 b2 x xt ha c L sz tk t0 h0 fr
    (o.sel [0, 1, 2, 3], o.cs.map Prod.fst) = (.at (codeF L (sz + 1)) o.frs (restF L (sz + 1) (sz + 2))
      [.o L (frG P t0 (tk + 1) (tk + 2) 0 x xt (.int 0 tk) none), .o sz (siO x xt 1), .o (sz + 1) (enO (rawInt ((sz + 2 : Nat) : Int)) sz 1 (.str (chr1 c) (tk + 3))), .o (sz + 2) (tupO [.int 0 (tk + 4), .str (chr1 c) (tk + 3)])] (sz + 3) (tk + 5) [], o.cs.map Prod.snd) := by
  cases b2 <;> kernel_rfl
end
section
variable (lv : Nat) (prog : Program) (P : Params) (b1 b2 : Bool) (x : Str) (xt : Nat) (c : Nat) (L si en tup z tk t0 t1 t2 t3 ti tc k : Nat) (kf : Result → Sem Fin) (gg : Bool) (ll : List Value) (pp : Pos) (pv : Value)
noncomputable def notBs (c : Nat) : Prop := ((chr1 c).cps.toList == ("\\" : Str).cps.toList) = false
noncomputable def gT (hc : notBs c) (och : Option Value) (it : Value) (fr : Nat → Fv) : Out := run (stQ P b1 b2) (SQ prog P b1 b2) (lv + 1) 120
  [.d 3, .d 3, .d 3, .n, .d 3, .d 4, .d 4, .n, .d 4, .d 4, .d 4, .d 3, .d 4, .d 4, .d 4, .n, .d 4, .d 4, .d 4, .d 3, .d 4, .d 4, .d 4, .n, .d 4, .d 4, .d 4, .d 3, .d 4, .d 4, .d 6, .d 0, .d 0, .d 0, .d 0, .d 0, .d 0, .o (cStrEq (chr1 c) "\\" false hc) [], .d 0, .d 0]
  fr (codeF L en) [⟨body193 L, kf, gg, ll, pp⟩] (tailF L en tup) [.o L (frG P t0 t1 t2 t3 x xt pv och), .o si (siO x xt (k + 1)), .o en (enO .none si (k + 1) it), .o tup (tupO [.int (k : Int) ti, .str (chr1 c) tc])] z tk []
noncomputable def YK (prog : Program) (P : Params) (L en : Nat) (b2 : Bool) : Resume → Sem Fin := (gT 0 prog P false b2 ⟨#[]⟩ 0 40 L 0 en 0 0 0 0 0 0 0 0 0 0 (fun _ => .raise .none) false [] default .none rfl none .none (fun _ => Fv.z)).yk
theorem tT0 (hc : notBs c) (it : Value) (fr : Nat → Fv) :
    let o := gT lv prog P b1 b2 x xt c L si en tup z tk t0 t1 t2 t3 ti tc k kf gg ll pp pv hc none it fr
    (o.sel [0, 1, 2, 7], o.cs.map Prod.fst) = (.at (codeF L en) [⟨body193 L, kf, gg, ll, pp⟩] (.yield (.ref (z + 3)) false o.yl (YK prog P L en b2))
      [.o L (frG P t0 t1 t2 (tk + 1) x xt (.int (k : Int) ti) (some (.str (chr1 c) tc))), .o si (siO x xt (k + 1)), .o en (enO .none si (k + 1) it), .o (z + 3) (tupO [.int (k : Int) ti, .str (chr1 c) tc])] (z + 4) (tk + 3) [], o.cs.map Prod.snd) := by
  cases b2 <;> kernel_rfl
theorem tT1 (hc : notBs c) (v it : Value) (fr : Nat → Fv) :
    let o := gT lv prog P b1 b2 x xt c L si en tup z tk t0 t1 t2 t3 ti tc k kf gg ll pp pv hc (some v) it fr
    (o.sel [0, 1, 2, 7], o.cs.map Prod.fst) = (.at (codeF L en) [⟨body193 L, kf, gg, ll, pp⟩] (.yield (.ref (z + 3)) false o.yl (YK prog P L en b2))
      [.o L (frG P t0 t1 t2 t3 x xt (.int (k : Int) ti) (some (.str (chr1 c) tc))), .o si (siO x xt (k + 1)), .o en (enO .none si (k + 1) it), .o (z + 3) (tupO [.int (k : Int) ti, .str (chr1 c) tc])] (z + 4) (tk + 3) [], o.cs.map Prod.snd) := by
  cases b2 <;> kernel_rfl
end
end Zd
namespace Zd
open PySem PySem.Spec PySem.Calls PyProof.Rows PySem.W PySem.W.X
noncomputable def Out.fk : Out → Result → Sem Fin
  | .at _ (x :: _) _ _ _ _ _ => x.k
  | _ => fun _ => .raise .none
noncomputable def Out.fl : Out → List Value
  | .at _ (x :: _) _ _ _ _ _ => x.l
  | _ => []
noncomputable def KF (prog : Program) (P : Params) (L sz : Nat) (b2 : Bool) : Result → Sem Fin := (gA1 0 prog P false b2 (chr1 40) 0 (by decide +kernel) 40 L sz 0 0 (by decide +kernel) (fun _ => Fv.z)).fk
section
variable (lv : Nat) (prog : Program) (P : Params) (b1 b2 : Bool) (x : Str) (xt : Nat) (ha : x.cps.all (· < 128) = true) (c : Nat) (L sz tk t0 : Nat)
theorem tA1f (h0 : x.cps[0]? = some c) (fr : Nat → Fv) :
    let o := gA1 lv prog P b1 b2 x xt ha c L sz tk t0 h0 fr
    o.frs = [⟨body193 L, KF prog P L sz b2, false, o.fl, (fr 2).p⟩] := by
  cases b2 <;> kernel_rfl
/-- the fresh generator of an empty text -/
noncomputable def gAe (h0 : x.cps[0]? = none) (fr : Nat → Fv) : Out := run (stQ P b1 b2) (SQ prog P b1 b2) (lv + 1) 120
  [.d 0, .d 0, .d 0, .d 0, .s 3, .s 0, .d 0, .o (cEN x ha) [], .d 2, .d 2, .n, .d 2, .d 2, .n, .d 2, .n, .d 2, .d 2, .d 1, .o (cSE sz x xt 0 h0) [1], .d 3, .d 0]
  fr (body193 L) [] (denZ (body193 L)) [.o L (frm [ent P "addr" t0 (.str x xt)])] sz tk []
theorem tAe (h0 : x.cps[0]? = none) (fr : Nat → Fv) :
    let o := gAe lv prog P b1 b2 x xt ha L sz tk t0 h0 fr
    (o.sel [0, 1, 2], o.cs.map Prod.fst) = (.ret (.ok (.ret .none)) [.o L (frG P t0 (tk + 1) (tk + 2) 0 x xt (.int 0 tk) none), .o sz (siE 0), .o (sz + 1) (enO .none sz 0 .none)] (sz + 4) (tk + 3) [], o.cs.map Prod.snd) := by
  cases b2 <;> kernel_rfl
end
section
variable (lv : Nat) (prog : Program) (P : Params) (b1 b2 : Bool) (x : Str) (xt : Nat) (c : Nat) (L si en z tk t0 t1 t2 t3 j : Nat) (kf : Result → Sem Fin) (gg : Bool) (ll : List Value) (pp : Pos) (pv cv it : Value)
/-- woken: the next item -/
noncomputable def gB (h0 : x.cps[j]? = some c) (fr : Nat → Fv) : Out := run (stQ P b1 b2) (SQ prog P b1 b2) (lv + 1) 120
  [.d 2, .n, .d 2, .d 2, .d 1, .o (cSI si x xt j c h0) [1], .d 2, .d 2, .d 2, .d 2, .d 2, .d 2, .d 2, .d 2, .d 2, .d 2, .d 2, .d 2, .d 2, .d 2]
  fr (codeF L en) [⟨body193 L, kf, gg, ll, pp⟩] (YK prog P L en b2 (.send .none)) [.o L (frG P t0 t1 t2 t3 x xt pv (some cv)), .o si (siO x xt j), .o en (enO .none si j it)] z tk []
theorem tB (h0 : x.cps[j]? = some c) (fr : Nat → Fv) :
    let o := gB lv prog P b1 b2 x xt c L si en z tk t0 t1 t2 t3 j kf gg ll pp pv cv it h0 fr
    (o.sel [0, 1, 2, 3], o.cs.map Prod.fst) = (.at (codeF L en) [⟨body193 L, kf, gg, ll, pp⟩] (restF L en z)
      [.o L (frG P t0 t1 t2 t3 x xt pv (some cv)), .o si (siO x xt (j + 1)), .o en (enO (rawInt (z : Int)) si (j + 1) (.str (chr1 c) tk)), .o z (tupO [.int (j : Int) (tk + 1), .str (chr1 c) tk])] (z + 1) (tk + 2) [], o.cs.map Prod.snd) := by
  cases b2 <;> kernel_rfl
/-- woken: the end -/
noncomputable def gBe (sz : Nat) (h0 : x.cps[j]? = none) (fr : Nat → Fv) : Out := run (stQ P b1 b2) (SQ prog P b1 b2) (lv + 1) 120
  [.d 2, .n, .d 2, .d 2, .d 1, .o (cSE si x xt j h0) [1], .d 3, .d 0]
  fr (codeF L en) [⟨body193 L, KF prog P L sz b2, gg, ll, pp⟩] (YK prog P L en b2 (.send .none)) [.o L (frG P t0 t1 t2 t3 x xt pv (some cv)), .o si (siO x xt j), .o en (enO .none si j it)] z tk []
theorem tBe (sz : Nat) (h0 : x.cps[j]? = none) (fr : Nat → Fv) :
    let o := gBe lv prog P b1 b2 x xt L si en z tk t0 t1 t2 t3 j gg ll pp pv cv it sz h0 fr
    (o.sel [0, 1, 2], o.cs.map Prod.fst) = (.ret (.ok (.ret .none)) [.o L (frG P t0 t1 t2 t3 x xt pv (some cv)), .o si (siE j), .o en (enO .none si j it)] (z + 2) tk [], o.cs.map Prod.snd) := by
  cases b2 <;> kernel_rfl
end
end Zd
namespace Zd
open PySem PySem.Spec PySem.Calls PyProof.Rows PySem.W PySem.W.X
noncomputable def tup0 : Obj := { cls := .type "tuple", data := .seq #[] 0 }
theorem gen_next {prog : Program} {w : World} {A : Around} {s : Shared} {Q : Value → Shared → Prop} {E : Value → Shared → Prop} {a g u1 u2 : Nat} {gs : GenState} {c₀ : Code} {t₀ : Sem Fin} {fs₀ : List Frame} {Pe : End → Shared → Prop}
    (hh : A.handled = none) (hl : s.heap.NoLimit) (hroom : A.depth < recursionLimit)
    (ho : s.heap.get? a = some (genO g u1 u2)) (hgs : s.gens[g]? = some gs)
    (hcase : (gs = .fresh c₀ ∧ t₀ = denote table c₀ ∧ fs₀ = []) ∨ (∃ k₀ l₀ p₀ cl, gs = .suspended k₀ l₀ c₀ p₀ fs₀ cl ∧ t₀ = k₀ (.send .none)))
    (hseg : SegX (model prog w) A.in1 c₀ t₀ fs₀ (s.setGen g .running) Pe)
    (hy : ∀ v gd l k c p fs s₁, Pe (.susp v gd l k c p fs) s₁ → Q v (s₁.setGen g (End.susp v gd l k c p fs).genState))
    (hr : ∀ r s₁, Pe (.ret r) s₁ → r = .ok (.ret .none) ∧ E (.ref (s₁.heap.objs.size + 1)) { s₁.setGen g .finished with heap := (s₁.heap.push tup0).push (excO s₁.heap.objs.size) }) :
    wpAny (model prog w) A (call (.builtin "generator.__next__") [.ref a]) Q E s := by
  have hg : s.heap.IsGen a g := ⟨_, _, _, ho, rfl, rfl, rfl⟩
  refine wpAny_call_entry slot_gen_next hg.typeIs entry_gen_next ?_ (args_gen_next _)
  show wpAny _ _ (Builtin.Generator.genWake (.ref a) (.send .none)) _ _ s
  unfold Builtin.Generator.genWake
  refine wpAny_bind (wpAny_holding (wpAny_genNumber hg (wpAny_bind (wpAny_genState hgs ?_))))
  have go : ∀ (K : GenResult → Sem Fin) (Q' : Fin → Shared → Prop) (E' : Value → Shared → Prop), (∀ e s₁, Pe e s₁ → wpAny (model prog w) A.in1 (K e.result) Q' E' (s₁.setGen g e.genState)) → wpAny (model prog w) A.in1 (.resume g (.send .none) [] K) Q' E' s := by
    intro K Q' E' hK Γ p hΓ
    rw [Sem.wp_resume]
    rcases hcase with ⟨rfl, rfl, rfl⟩ | ⟨k₀, l₀, p₀, cl, rfl, rfl⟩
    · obtain ⟨e₁, s₁, hr, hqt, he⟩ := hseg (Γ.wake c₀ p) p rfl (hΓ.wake c₀ p)
      exact ⟨_, _, by unfold Wakes; rw [hgs]; exact ⟨e₁, s₁, hr, hqt, rfl, rfl⟩, hK _ _ he Γ p hΓ⟩
    · obtain ⟨e₁, s₁, hr, hqt, he⟩ := hseg (Γ.wake c₀ p) p₀ rfl (hΓ.wake c₀ p)
      exact ⟨_, _, by unfold Wakes; rw [hgs]; exact ⟨e₁, s₁, hr, hqt, rfl, rfl⟩, hK _ _ he Γ p hΓ⟩
  have fin : ∀ (K : GenResult → Sem Fin), (∀ v, K (.yielded v) = ret v) → (∃ J : Unit → Sem Fin, K (.returned .none) = (newExc (.type "StopIteration") [] >>= fun e => ((raiseNew e : Sem Unit) >>= J))) → wpAny (model prog w) A.in1 (.resume g (.send .none) [] K) (fun fin s' => ∃ v, fin = .done (.ret v) ∧ Q v s') E s := by
    intro K hK1 ⟨J, hK2⟩
    refine go K _ _ fun e s₁ he => ?_
    cases e with
    | susp v gd l k c p fs =>
      show wpAny _ _ (K (.yielded v)) _ _ _
      rw [hK1]
      exact wpAny_pure ⟨v, rfl, hy _ _ _ _ _ _ _ _ he⟩
    | ret r =>
      obtain ⟨rfl, hE⟩ := hr _ _ he
      show wpAny _ _ (K (.returned .none)) _ _ _
      rw [hK2]
      show wpAny _ _ (newExc (.type "StopIteration") [] >>= _) _ _ _
      refine wpAny_bind ?_
      simp only [newExc, newTuple]
      refine wpAny_bind (wpAny_newObj_type ?_ (by size_fits))
      refine wpAny_bind (m := firstArgMember _ _) (wpAny_of_eq (a := Value.none) (by first | rfl | (simp only [firstArgMember]; rfl)) ?_)
      refine wpAny_newObj_type ?_ (by size_fits)
      simp only [raiseNew]
      refine wpAny_bind (wpAny_bind (wpAny_handled ?_))
      rw [show A.in1.handled = none from hh]
      refine wpAny_throw ?_
      have e1 : (Heap.push (s₁.setGen g .finished).heap tup0).objs.size = s₁.heap.objs.size + 1 := Heap.size_push ..
      have := hE
      rw [← e1] at this
      exact this
  rcases hcase with ⟨rfl, _, _⟩ | ⟨k₀, l₀, p₀, cl, rfl, _⟩
  · exact wpAny_bind (wpAny_roomToWake hl hroom (fin _ (fun _ => rfl) ⟨_, rfl⟩))
  · exact wpAny_bind (wpAny_roomToWake hl hroom (fin _ (fun _ => rfl) ⟨_, rfl⟩))
end Zd
namespace Zd
open PySem PySem.Spec PySem.Calls PyProof.Rows PySem.W PySem.W.X
noncomputable def Cell.isO : Cell → Bool
  | .o _ _ => true
  | .g _ _ => false
theorem holds_heap {s s' : Shared} (e : s'.heap = s.heap) : ∀ {x : Cell}, x.isO = true → x.holds s → x.holds s'
  | .o a o, _, h => by show s'.heap.get? a = _; rw [e]; exact h
  | .g _ _, h, _ => by cases h
theorem kept_setGen (s : Shared) (g : Nat) (x : GenState) (hx : x.bare = true) : Kept [(false, g)] s (s.setGen g x) := by
  refine ⟨Nat.le_refl _, fun _ _ _ h => h, ?_, ?_, rfl, rfl, ?_⟩
  · show _ ≤ (s.gens.setIfInBounds g x).size
    rw [Array.size_setIfInBounds]; exact Nat.le_refl _
  · intro n y hn e
    show (s.gens.setIfInBounds g x)[n]? = _
    rw [Array.getElem?_setIfInBounds_ne (fun q => hn (by rw [← q]; exact .head _))]; exact e
  · intro h y hy
    obtain ⟨n, hn, e⟩ := Array.mem_iff_getElem.mp hy
    have e2 : (s.gens.setIfInBounds g x)[n]? = some y := by rw [← e]; exact Array.getElem?_eq_getElem _
    by_cases q : g = n
    · subst q
      rw [Array.getElem?_setIfInBounds_self] at e2
      split at e2
      · cases e2; exact hx
      · cases e2
    · rw [Array.getElem?_setIfInBounds_ne q] at e2
      exact h y (Array.mem_of_getElem? e2)
/-- what a segment's end tells: the generator stands asleep at G, or is through -/
theorem gen_after {stat : Nat → Option Obj} {i : Inst} {a g u1 u2 : Nat} {gs G : GenState} {led0 U N led : Led} {s s' : Shared} {sz tk sz' tk' : Nat} {r : Result} (f : Fv)
    (hpre : i.pre = .o a (genO g u1 u2) :: .g g gs :: led0) (hupd : i.upd sz tk f = .o a (genO g u1 u2) :: .g g G :: U) (hnew : i.new sz tk f = N) (hr : r = i.res sz tk f) (h1 : i.nsz sz f = sz') (h2 : i.ntk tk f = tk')
    (hold : ∀ x ∈ i.pre, x.holds s) (hnd : (i.pre.map Cell.key).Nodup) (hk : led0.map Cell.key = U.map Cell.key) (hO' : (U ++ N).all Cell.isO = true) (hG : G.bare = true) (hl : led = U ++ N)
    (D : Rep stat (led0.map Cell.key) (s.setGen g .running) led sz' tk' s') : After i sz tk s r (s'.setGen g G) := by
  subst hl
  have hO : ∀ x ∈ U ++ N, x.isO = true := List.all_eq_true.mp hO'
  have hg : s.gens[g]? = some gs := hold (.g g gs) (by rw [hpre]; exact .tail _ (.head _))
  have ha : s.heap.get? a = some (genO g u1 u2) := hold (.o a _) (by rw [hpre]; exact .head _)
  have hlt : g < s.gens.size := (Array.getElem?_eq_some_iff.mp hg).1
  rw [hpre, List.map_cons, List.map_cons] at hnd
  obtain ⟨hn1, hnd⟩ := List.nodup_cons.mp hnd
  obtain ⟨hn2, hnd⟩ := List.nodup_cons.mp hnd
  have K1 := kept_setGen s g .running rfl
  have K2 := D.kept
  have K3 := kept_setGen s' g G hG
  have hsz : (s.setGen g .running).gens.size = s.gens.size := by show (s.gens.setIfInBounds g _).size = _; rw [Array.size_setIfInBounds]
  refine ⟨f, hr, D.size.trans h1.symm, D.toks.trans h2.symm, ?_, ?_, ?_, ?_⟩
  · rw [hupd]
    intro x hx
    rcases List.mem_cons.mp hx with rfl | hx
    · exact K2.keep a _ (fun hm => hn1 (.tail _ hm)) ha
    · rcases List.mem_cons.mp hx with rfl | hx
      · show (s'.gens.setIfInBounds g G)[g]? = some G
        rw [Array.getElem?_setIfInBounds_self, if_pos]
        have := K2.gmono
        omega
      · exact holds_heap (s := s') (s' := s'.setGen g G) rfl (hO x (List.mem_append_left _ hx)) (D.cells x (List.mem_append_left _ hx))
  · rw [hnew]
    intro x hx
    refine ⟨holds_heap (s := s') (s' := s'.setGen g G) rfl (hO x (List.mem_append_right _ hx)) (D.cells x (List.mem_append_right _ hx)), ?_⟩
    have hx0 := hO x (List.mem_append_right _ hx)
    rcases D.org x (List.mem_append_right _ hx) with h | h
    · exfalso
      have nd := D.nd
      rw [List.map_append] at nd
      exact (List.nodup_append.mp nd).2.2 _ (hk ▸ h) _ (List.mem_map_of_mem hx) rfl
    · cases x with
      | o b y => exact h
      | g n y => cases hx0
  · rw [hnew]
    have nd := D.nd
    rw [List.map_append] at nd
    exact (List.nodup_append.mp nd).2.1
  · rw [hpre, List.map_cons, List.map_cons]
    refine (K1.wide (W' := (true, a) :: (false, g) :: led0.map Cell.key) fun k hk => ?_).trans ((K2.wide fun k hk => .tail _ (.tail _ hk)).trans (K3.wide fun k hk => ?_))
    · rw [List.mem_singleton.mp hk]; exact .tail _ (.head _)
    · rw [List.mem_singleton.mp hk]; exact .tail _ (.head _)
end Zd
namespace Zd
open PySem PySem.Spec PySem.Calls PyProof.Rows PySem.W PySem.W.X
noncomputable def gsS (prog : Program) (P : Params) (L z0 : Nat) (b2 : Bool) (yl ll : List Value) (p pp : Pos) : GenState :=
  .suspended (YK prog P L (z0 + 1) b2) yl (codeF L (z0 + 1)) p [Frame.ret (KF prog P L z0 b2) none false ll (body193 L) pp []] false
noncomputable abbrev nextC (a : Addr) : Code := .call (.builtin "generator.__next__") ⟨[.ref a], []⟩
theorem tup193 : isTup for193.1 = true := by kernel_rfl
theorem Rep.cast {stat : Nat → Option Obj} {W : List (Bool × Nat)} {s₀ s : Shared} {led : Led} {sz tk : Nat} (D : Rep stat W s₀ led sz tk s) (led' : Led) (sz' tk' : Nat) (e1 : led = led') (e2 : sz = sz') (e3 : tk = tk') : Rep stat W s₀ led' sz' tk' s := by
  subst e1 e2 e3; exact D
section
variable {prog : Program} {P : Params} {b1 b2 : Bool} (a g u1 u2 L : Nat) (x : Str) (xt t0 t1 t2 t3 c j z0 : Nat)
noncomputable def instGF (prog : Program) (P : Params) (b2 : Bool) (cs : List (Tm × Tm)) : Inst := { lv := 2, cs, pre := [.o a (genO g u1 u2), .g g (.fresh (body193 L)), .o L (frm [ent P "addr" t0 (.str x xt)])], upd := fun sz tk f => [.o a (genO g u1 u2), .g g (gsS prog P L sz b2 (f.l 0) (f.l 1) f.p f.q), .o L (frG P t0 (tk + 1) (tk + 2) (tk + 6) x xt (.int ((0 : Nat) : Int) (tk + 4)) (some (.str (chr1 c) (tk + 3))))], res := fun sz _ _ => .ok (.ret (.ref (sz + 6))), new := fun sz tk f => [.o sz (siO x xt 1), .o (sz + 1) (enO .none sz 1 (.str (chr1 c) (tk + 3))), .o (sz + 6) (tupO [.int ((0 : Nat) : Int) (tk + 4), .str (chr1 c) (tk + 3)])], nsz := fun sz _ => sz + 7, ntk := fun tk _ => tk + 8 }
theorem room_in1 {A : Around} (h : Room 2 A) : Room 1 A.in1 := ⟨h.1, by show A.depth + 50 * 1 ≤ 900; have := h.2.1; omega, by show A.units + 1 + 150 * 1 ≤ 9000; have := h.2.2; omega⟩
theorem room_lt {n : Nat} {A : Around} (h : Room n A) : A.depth < recursionLimit := by
  have := h.2.1
  show A.depth < 1000
  omega
set_option maxHeartbeats 1000000 in
theorem tripGF (cs : List (Tm × Tm)) (ha : x.cps.all (· < 128) = true) (h0 : x.cps[0]? = some c) (hc : notBs c) : Triple (stQ P b1 b2) (SQ prog P b1 b2) (nextC a) (instGF a g u1 u2 L x xt t0 c prog P b2 cs) := by
  intro w hS A s sz tk g' l' hA hst hpre hnd hlow hb hsz htk
  refine wpAny_mono (wp_of_call (E' := fun _ _ => False) (Q := fun v s' => After (instGF a g u1 u2 L x xt t0 c prog P b2 cs) sz tk s (.ok (.ret v)) s') (E := fun _ _ => False) ?_) (fun r s' q => ?_) fun _ _ h => h
  · have hr1 := room_in1 hA
    have ho : s.heap.get? a = some (genO g u1 u2) := hpre (.o a _) (.head _)
    have hgs : s.gens[g]? = some (.fresh (body193 L)) := hpre (.g g _) (.tail _ (.head _))
    have D0 : Rep (stQ P b1 b2) ([Cell.o L (frm [ent P "addr" t0 (.str x xt)])].map Cell.key) (s.setGen g .running) [.o L (frm [ent P "addr" t0 (.str x xt)])] sz tk (s.setGen g .running) := by
      refine rep_start hst (fun y hy => ?_) (List.nodup_cons.mpr ⟨by simp, List.nodup_nil⟩) (fun y hy => hlow y (.tail _ (.tail _ hy))) hb hsz htk
      rw [List.mem_singleton.mp hy]
      exact hpre (.o L _) (.tail _ (.tail _ (.head _)))
    refine gen_next (Pe := fun e s₁ => ∃ yl ll p pp, e = .susp (.ref (sz + 6)) false yl (YK prog P L (sz + 1) b2) (codeF L (sz + 1)) p [Frame.ret (KF prog P L sz b2) none false ll (body193 L) pp []] ∧
      Rep (stQ P b1 b2) ([Cell.o L (frm [ent P "addr" t0 (.str x xt)])].map Cell.key) (s.setGen g .running) [.o L (frG P t0 (tk + 1) (tk + 2) (tk + 6) x xt (.int ((0 : Nat) : Int) (tk + 4)) (some (.str (chr1 c) (tk + 3)))), .o sz (siO x xt 1), .o (sz + 1) (enO .none sz 1 (.str (chr1 c) (tk + 3))), .o (sz + 6) (tupO [.int ((0 : Nat) : Int) (tk + 4), .str (chr1 c) (tk + 3)])] (sz + 7) (tk + 8) s₁)
      hA.1 (statS hst) (room_lt hA) ho hgs (.inl ⟨rfl, rfl, rfl⟩) ?_ ?_ ?_
    · show MeansS prog w A.in1 _ (body193 L) [] (denote table (body193 L)) (s.setGen g .running)
      rw [denZ_eq]
      refine run_to (laws_seg (S := SQ prog P b1 b2) (lv := 1) _ hS hr1) hS _ _ [0, 1, 2, 3] (tA1 0 prog P b1 b2 x xt ha c L sz tk t0 h0) rfl (fun fr => ⟨fun _ h => (nomatch h), fun s1 D1 => ?_⟩) D0
      rw [tA1f 0 prog P b1 b2 x xt ha c L sz tk t0 h0 fr]
      refine owned_step (laws_seg (S := SQ prog P b1 b2) (lv := 1) _ hS hr1) 2 tup193 D1 rfl (by decide) rfl (Nat.succ_pos _) fun s2 D2 => ?_
      replace D2 := D2.cast [.o L (frG P t0 (tk + 1) (tk + 2) 0 x xt (.int 0 tk) none), .o sz (siO x xt (0 + 1)), .o (sz + 1) (enO .none sz (0 + 1) (.str (chr1 c) (tk + 3))), .o (sz + 2) (tupO [.int ((0 : Nat) : Int) (tk + 4), .str (chr1 c) (tk + 3)])] (sz + 3) (tk + 5) (by kernel_rfl) rfl rfl
      refine run_to (laws_seg (S := SQ prog P b1 b2) (lv := 1) _ hS hr1) hS _ _ [0, 1, 2, 7] (tT0 0 prog P b1 b2 x xt c L sz (sz + 1) (sz + 2) (sz + 3) (tk + 5) t0 (tk + 1) (tk + 2) 0 (tk + 4) (tk + 3) 0 (KF prog P L sz b2) false _ _ (.int 0 tk) hc (.str (chr1 c) (tk + 3))) rfl (fun fr2 => ⟨fun _ h => (nomatch h), fun s3 D3 => ?_⟩) D2
      refine s_yield _ _ _ _ _ _ s3 _ _ _ rfl rfl fun p => ?_
      refine ⟨_, _, p, _, rfl, ?_⟩
      refine D3.cast _ _ _ ?_ ?_ ?_
      · kernel_rfl
      · kernel_rfl
      · kernel_rfl
    · rintro v gd l k c' p fs s₁ ⟨yl, ll, p', pp, e, D⟩
      cases e
      exact gen_after (i := instGF a g u1 u2 L x xt t0 c prog P b2 cs) (led0 := [.o L (frm [ent P "addr" t0 (.str x xt)])]) { Fv.z with p := p, q := pp, l := fun n => match n with | 0 => l | _ => ll } rfl rfl rfl rfl rfl rfl hpre hnd rfl rfl rfl rfl D
    · rintro r s₁ ⟨yl, ll, p', pp, e, D⟩
      cases e
  · cases r with
    | error e => cases q
    | ok f =>
      cases f with
      | ret v => exact q
      | _ => cases q
end
end Zd
namespace Zd
open PySem PySem.Spec PySem.Calls PyProof.Rows PySem.W PySem.W.X
section
variable {prog : Program} {P : Params} {b1 b2 : Bool} (a g u1 u2 L : Nat) (x : Str) (xt t0 t1 t2 t3 c j z0 : Nat) (pv cv it : Value) (yl ll : List Value) (p0 p1 : Pos)
noncomputable abbrev ledG (P : Params) (L : Nat) (x : Str) (xt t0 t1 t2 t3 j z0 : Nat) (pv cv it : Value) : Led := [.o L (frG P t0 t1 t2 t3 x xt pv (some cv)), .o z0 (siO x xt j), .o (z0 + 1) (enO .none z0 j it)]
noncomputable def instGS (prog : Program) (P : Params) (b2 : Bool) (cs : List (Tm × Tm)) : Inst := { lv := 2, cs, pre := .o a (genO g u1 u2) :: .g g (gsS prog P L z0 b2 yl ll p0 p1) :: ledG P L x xt t0 t1 t2 t3 j z0 pv cv it, upd := fun sz tk f => .o a (genO g u1 u2) :: .g g (gsS prog P L z0 b2 (f.l 0) ll f.p p1) :: ledG P L x xt t0 t1 t2 t3 (j + 1) z0 (.int (j : Int) (tk + 1)) (.str (chr1 c) tk) (.str (chr1 c) tk), res := fun sz _ _ => .ok (.ret (.ref (sz + 4))), new := fun sz tk f => [.o (sz + 4) (tupO [.int (j : Int) (tk + 1), .str (chr1 c) tk])], nsz := fun sz _ => sz + 5, ntk := fun tk _ => tk + 5 }
theorem rep_seg {stat : Nat → Option Obj} {s : Shared} {g sz tk : Nat} {c1 c2 : Cell} {led : Led} (hst : Stat stat s) (hO : led.all Cell.isO = true) (hpre : ∀ x ∈ c1 :: c2 :: led, x.holds s) (hnd : ((c1 :: c2 :: led).map Cell.key).Nodup) (hlow : ∀ x ∈ c1 :: c2 :: led, x.low)
    (hb : N0 ≤ sz) (hsz : s.heap.objs.size = sz) (htk : s.toks = tk) : Rep stat (led.map Cell.key) (s.setGen g .running) led sz tk (s.setGen g .running) :=
  rep_start hst (fun y hy => holds_heap (s := s) (s' := s.setGen g .running) rfl (List.all_eq_true.mp hO y hy) (hpre y (.tail _ (.tail _ hy)))) (List.nodup_cons.mp (List.nodup_cons.mp hnd).2).2 (fun y hy => hlow y (.tail _ (.tail _ hy))) hb hsz htk
set_option maxHeartbeats 1000000 in
theorem tripGS (cs : List (Tm × Tm)) (h0 : x.cps[j]? = some c) (hc : notBs c) : Triple (stQ P b1 b2) (SQ prog P b1 b2) (nextC a) (instGS a g u1 u2 L x xt t0 t1 t2 t3 c j z0 pv cv it yl ll p0 p1 prog P b2 cs) := by
  intro w hS A s sz tk g' l' hA hst hpre hnd hlow hb hsz htk
  refine wpAny_mono (wp_of_call (E' := fun _ _ => False) (Q := fun v s' => After (instGS a g u1 u2 L x xt t0 t1 t2 t3 c j z0 pv cv it yl ll p0 p1 prog P b2 cs) sz tk s (.ok (.ret v)) s') (E := fun _ _ => False) ?_) (fun r s' q => ?_) fun _ _ h => h
  · have hr1 := room_in1 hA
    have ho : s.heap.get? a = some (genO g u1 u2) := hpre (.o a _) (.head _)
    have hgs : s.gens[g]? = some (gsS prog P L z0 b2 yl ll p0 p1) := hpre (.g g _) (.tail _ (.head _))
    have D0 := rep_seg (g := g) hst (led := ledG P L x xt t0 t1 t2 t3 j z0 pv cv it) rfl hpre hnd hlow hb hsz htk
    refine gen_next (Pe := fun e s₁ => ∃ yl p, e = .susp (.ref (sz + 4)) false yl (YK prog P L (z0 + 1) b2) (codeF L (z0 + 1)) p [Frame.ret (KF prog P L z0 b2) none false ll (body193 L) p1 []] ∧
      Rep (stQ P b1 b2) ((ledG P L x xt t0 t1 t2 t3 j z0 pv cv it).map Cell.key) (s.setGen g .running) (ledG P L x xt t0 t1 t2 t3 (j + 1) z0 (.int (j : Int) (tk + 1)) (.str (chr1 c) tk) (.str (chr1 c) tk) ++ [.o (sz + 4) (tupO [.int (j : Int) (tk + 1), .str (chr1 c) tk])]) (sz + 5) (tk + 5) s₁)
      hA.1 (statS hst) (room_lt hA) ho hgs (.inr ⟨_, _, _, _, rfl, rfl⟩) ?_ ?_ ?_
    · show MeansS prog w A.in1 _ (codeF L (z0 + 1)) [⟨body193 L, KF prog P L z0 b2, false, ll, p1⟩] (YK prog P L (z0 + 1) b2 (.send .none)) (s.setGen g .running)
      refine run_to (laws_seg (S := SQ prog P b1 b2) (lv := 1) _ hS hr1) hS _ _ [0, 1, 2, 3] (tB 0 prog P b1 b2 x xt c L z0 (z0 + 1) sz tk t0 t1 t2 t3 j (KF prog P L z0 b2) false ll p1 pv cv it h0) rfl (fun fr => ⟨fun _ h => (nomatch h), fun s1 D1 => ?_⟩) D0
      refine owned_step (laws_seg (S := SQ prog P b1 b2) (lv := 1) _ hS hr1) 2 tup193 D1 rfl (by decide) rfl (Nat.succ_pos _) fun s2 D2 => ?_
      replace D2 := D2.cast [.o L (frG P t0 t1 t2 t3 x xt pv (some cv)), .o z0 (siO x xt (j + 1)), .o (z0 + 1) (enO .none z0 (j + 1) (.str (chr1 c) tk)), .o sz (tupO [.int (j : Int) (tk + 1), .str (chr1 c) tk])] (sz + 1) (tk + 2) (by kernel_rfl) rfl rfl
      refine run_to (laws_seg (S := SQ prog P b1 b2) (lv := 1) _ hS hr1) hS _ _ [0, 1, 2, 7] (tT1 0 prog P b1 b2 x xt c L z0 (z0 + 1) sz (sz + 1) (tk + 2) t0 t1 t2 t3 (tk + 1) tk j (KF prog P L z0 b2) false ll p1 pv hc cv (.str (chr1 c) tk)) rfl (fun fr2 => ⟨fun _ h => (nomatch h), fun s3 D3 => ?_⟩) D2
      refine s_yield _ _ _ _ _ _ s3 _ _ _ rfl rfl fun p => ?_
      refine ⟨_, p, rfl, ?_⟩
      refine D3.cast _ _ _ ?_ ?_ ?_
      · kernel_rfl
      · kernel_rfl
      · kernel_rfl
    · rintro v gd l k c' p fs s₁ ⟨yl', p', e, D⟩
      cases e
      exact gen_after (i := instGS a g u1 u2 L x xt t0 t1 t2 t3 c j z0 pv cv it yl ll p0 p1 prog P b2 cs) (led0 := ledG P L x xt t0 t1 t2 t3 j z0 pv cv it) { Fv.z with p := p, l := fun _ => l } rfl rfl rfl rfl rfl rfl hpre hnd rfl rfl rfl rfl D
    · rintro r s₁ ⟨yl', p', e, D⟩
      cases e
  · cases r with
    | error e => cases q
    | ok f =>
      cases f with
      | ret v => exact q
      | _ => cases q
/-- the end: of a sleeping generator -/
noncomputable def instGE (prog : Program) (P : Params) (b2 : Bool) (cs : List (Tm × Tm)) : Inst := { lv := 2, cs, pre := .o a (genO g u1 u2) :: .g g (gsS prog P L z0 b2 yl ll p0 p1) :: ledG P L x xt t0 t1 t2 t3 j z0 pv cv it, upd := fun sz tk f => .o a (genO g u1 u2) :: .g g .finished :: [.o L (frG P t0 t1 t2 t3 x xt pv (some cv)), .o z0 (siE j), .o (z0 + 1) (enO .none z0 j it)], res := fun sz _ _ => .error (.ref (sz + 3)), new := fun sz tk f => [.o (sz + 3) (excO (sz + 2))], nsz := fun sz _ => sz + 4, ntk := fun tk _ => tk }
set_option maxHeartbeats 1000000 in
theorem tripGE (cs : List (Tm × Tm)) (h0 : x.cps[j]? = none) : Triple (stQ P b1 b2) (SQ prog P b1 b2) (nextC a) (instGE a g u1 u2 L x xt t0 t1 t2 t3 j z0 pv cv it yl ll p0 p1 prog P b2 cs) := by
  intro w hS A s sz tk g' l' hA hst hpre hnd hlow hb hsz htk
  refine wpAny_mono (wp_of_call (E' := fun _ _ => False) (Q := fun _ _ => False) (E := fun e s' => After (instGE a g u1 u2 L x xt t0 t1 t2 t3 j z0 pv cv it yl ll p0 p1 prog P b2 cs) sz tk s (.error e) s') ?_) (fun r s' q => ?_) fun _ _ h => h
  · have hr1 := room_in1 hA
    have ho : s.heap.get? a = some (genO g u1 u2) := hpre (.o a _) (.head _)
    have hgs : s.gens[g]? = some (gsS prog P L z0 b2 yl ll p0 p1) := hpre (.g g _) (.tail _ (.head _))
    have D0 := rep_seg (g := g) hst (led := ledG P L x xt t0 t1 t2 t3 j z0 pv cv it) rfl hpre hnd hlow hb hsz htk
    refine gen_next (Pe := fun e s₁ => e = .ret (.ok (.ret .none)) ∧
      Rep (stQ P b1 b2) ((ledG P L x xt t0 t1 t2 t3 j z0 pv cv it).map Cell.key) (s.setGen g .running) [.o L (frG P t0 t1 t2 t3 x xt pv (some cv)), .o z0 (siE j), .o (z0 + 1) (enO .none z0 j it)] (sz + 2) tk s₁)
      hA.1 (statS hst) (room_lt hA) ho hgs (.inr ⟨_, _, _, _, rfl, rfl⟩) ?_ ?_ ?_
    · show MeansS prog w A.in1 _ (codeF L (z0 + 1)) [⟨body193 L, KF prog P L z0 b2, false, ll, p1⟩] (YK prog P L (z0 + 1) b2 (.send .none)) (s.setGen g .running)
      refine run_to (laws_seg (S := SQ prog P b1 b2) (lv := 1) _ hS hr1) hS _ _ [0, 1, 2] (tBe 0 prog P b1 b2 x xt L z0 (z0 + 1) sz tk t0 t1 t2 t3 j false ll p1 pv cv it z0 h0) rfl (fun fr => ⟨fun _ h => (nomatch h), fun s1 D1 c' => ?_⟩) D0
      exact s_end _ _ _ _ _ _ (.ok (.ret .none)) _ rfl ⟨rfl, D1⟩
    · rintro v gd l k c' p fs s₁ ⟨e, D⟩
      cases e
    · rintro r s₁ ⟨e, D⟩
      cases e
      refine ⟨rfl, ?_⟩
      have D1 := (D.alloc (o := tup0) rfl).alloc (o := excO (sz + 2)) rfl
      have D2 := D1.sub (led' := [.o L (frG P t0 t1 t2 t3 x xt pv (some cv)), .o z0 (siE j), .o (z0 + 1) (enO .none z0 j it), .o (sz + 3) (excO (sz + 2))]) (fun y hy => by
        simp only [List.mem_cons, List.not_mem_nil, or_false] at hy
        rcases hy with rfl | rfl | rfl | rfl <;> simp) (by
        have nd := D1.nd
        simp only [List.cons_append, List.nil_append, List.map_cons, List.map_nil] at nd ⊢
        refine List.Nodup.sublist ?_ nd
        exact .cons_cons _ (.cons_cons _ (.cons_cons _ (.cons _ (.cons_cons _ .slnil)))))
      have e1 : s₁.heap.objs.size = sz + 2 := D.size
      rw [e1]
      exact gen_after (i := instGE a g u1 u2 L x xt t0 t1 t2 t3 j z0 pv cv it yl ll p0 p1 prog P b2 cs) (led0 := ledG P L x xt t0 t1 t2 t3 j z0 pv cv it) Fv.z rfl rfl rfl rfl rfl rfl hpre hnd rfl rfl rfl rfl D2
  · cases r with
    | error e => exact q
    | ok f =>
      cases f with
      | ret v => cases q
      | _ => cases q
/-- the end: of a fresh generator, the text is empty -/
noncomputable def instGZ (P : Params) (cs : List (Tm × Tm)) : Inst := { lv := 2, cs, pre := [.o a (genO g u1 u2), .g g (.fresh (body193 L)), .o L (frm [ent P "addr" t0 (.str x xt)])], upd := fun sz tk f => [.o a (genO g u1 u2), .g g .finished, .o L (frG P t0 (tk + 1) (tk + 2) 0 x xt (.int 0 tk) none)], res := fun sz _ _ => .error (.ref (sz + 5)), new := fun sz tk f => [.o (sz + 5) (excO (sz + 4))], nsz := fun sz _ => sz + 6, ntk := fun tk _ => tk + 3 }
set_option maxHeartbeats 1000000 in
theorem tripGZ (cs : List (Tm × Tm)) (ha : x.cps.all (· < 128) = true) (h0 : x.cps[0]? = none) : Triple (stQ P b1 b2) (SQ prog P b1 b2) (nextC a) (instGZ a g u1 u2 L x xt t0 P cs) := by
  intro w hS A s sz tk g' l' hA hst hpre hnd hlow hb hsz htk
  refine wpAny_mono (wp_of_call (E' := fun _ _ => False) (Q := fun _ _ => False) (E := fun e s' => After (instGZ a g u1 u2 L x xt t0 P cs) sz tk s (.error e) s') ?_) (fun r s' q => ?_) fun _ _ h => h
  · have hr1 := room_in1 hA
    have ho : s.heap.get? a = some (genO g u1 u2) := hpre (.o a _) (.head _)
    have hgs : s.gens[g]? = some (.fresh (body193 L)) := hpre (.g g _) (.tail _ (.head _))
    have D0 := rep_seg (g := g) hst (led := [.o L (frm [ent P "addr" t0 (.str x xt)])]) rfl hpre hnd hlow hb hsz htk
    refine gen_next (Pe := fun e s₁ => e = .ret (.ok (.ret .none)) ∧
      Rep (stQ P b1 b2) ([Cell.o L (frm [ent P "addr" t0 (.str x xt)])].map Cell.key) (s.setGen g .running) [.o L (frG P t0 (tk + 1) (tk + 2) 0 x xt (.int 0 tk) none), .o sz (siE 0), .o (sz + 1) (enO .none sz 0 .none)] (sz + 4) (tk + 3) s₁)
      hA.1 (statS hst) (room_lt hA) ho hgs (.inl ⟨rfl, rfl, rfl⟩) ?_ ?_ ?_
    · show MeansS prog w A.in1 _ (body193 L) [] (denote table (body193 L)) (s.setGen g .running)
      rw [denZ_eq]
      refine run_to (laws_seg (S := SQ prog P b1 b2) (lv := 1) _ hS hr1) hS _ _ [0, 1, 2] (tAe 0 prog P b1 b2 x xt ha L sz tk t0 h0) rfl (fun fr => ⟨fun _ h => (nomatch h), fun s1 D1 c' => ?_⟩) D0
      exact s_end _ _ _ _ _ _ (.ok (.ret .none)) _ rfl ⟨rfl, D1⟩
    · rintro v gd l k c' p fs s₁ ⟨e, D⟩
      cases e
    · rintro r s₁ ⟨e, D⟩
      cases e
      refine ⟨rfl, ?_⟩
      have D1 := (D.alloc (o := tup0) rfl).alloc (o := excO (sz + 4)) rfl
      have D2 := D1.sub (led' := [.o L (frG P t0 (tk + 1) (tk + 2) 0 x xt (.int 0 tk) none), .o (sz + 5) (excO (sz + 4))]) (fun y hy => by
        simp only [List.mem_cons, List.not_mem_nil, or_false] at hy
        rcases hy with rfl | rfl <;> simp) (by
        have nd := D1.nd
        simp only [List.cons_append, List.nil_append, List.map_cons, List.map_nil] at nd ⊢
        refine List.Nodup.sublist ?_ nd
        exact .cons_cons _ (.cons _ (.cons _ (.cons _ (.cons_cons _ .slnil)))))
      have e1 : s₁.heap.objs.size = sz + 4 := D.size
      rw [e1]
      exact gen_after (i := instGZ a g u1 u2 L x xt t0 P cs) (led0 := [.o L (frm [ent P "addr" t0 (.str x xt)])]) Fv.z rfl rfl rfl rfl rfl rfl hpre hnd rfl rfl rfl rfl D2
  · cases r with
    | error e => exact q
    | ok f =>
      cases f with
      | ret v => cases q
      | _ => cases q
noncomputable def cGF (ha : x.cps.all (· < 128) = true) (h0 : x.cps[0]? = some c) (hc : notBs c) : Ctr (stQ P b1 b2) (SQ prog P b1 b2) :=
  ctrB1 "generator.__next__" a (instGF a g u1 u2 L x xt t0 c prog P b2) (fun _ => rfl) fun cs => ⟨fun _ _ _ => rfl, tripGF a g u1 u2 L x xt t0 c cs ha h0 hc⟩
noncomputable def cGS (h0 : x.cps[j]? = some c) (hc : notBs c) : Ctr (stQ P b1 b2) (SQ prog P b1 b2) :=
  ctrB1 "generator.__next__" a (instGS a g u1 u2 L x xt t0 t1 t2 t3 c j z0 pv cv it yl ll p0 p1 prog P b2) (fun _ => rfl) fun cs => ⟨fun _ _ _ => rfl, tripGS a g u1 u2 L x xt t0 t1 t2 t3 c j z0 pv cv it yl ll p0 p1 cs h0 hc⟩
noncomputable def cGE (h0 : x.cps[j]? = none) : Ctr (stQ P b1 b2) (SQ prog P b1 b2) :=
  ctrB1 "generator.__next__" a (instGE a g u1 u2 L x xt t0 t1 t2 t3 j z0 pv cv it yl ll p0 p1 prog P b2) (fun _ => rfl) fun cs => ⟨fun _ _ _ => rfl, tripGE a g u1 u2 L x xt t0 t1 t2 t3 j z0 pv cv it yl ll p0 p1 cs h0⟩
noncomputable def cGZ (ha : x.cps.all (· < 128) = true) (h0 : x.cps[0]? = none) : Ctr (stQ P b1 b2) (SQ prog P b1 b2) :=
  ctrB1 "generator.__next__" a (instGZ a g u1 u2 L x xt t0 P) (fun _ => rfl) fun cs => ⟨fun _ _ _ => rfl, tripGZ a g u1 u2 L x xt t0 cs ha h0⟩
end
end Zd
namespace Zd
open PySem PySem.Spec PySem.Calls PyProof.Rows PySem.W PySem.W.X
noncomputable def for207 : PySem.Expr × List Stmt × List Stmt := forOf ((partsOf (topStmt 11)).2.1[2]?)
noncomputable def codeC (C a : Nat) : Code := .forLoop for207.1 (.ref a) for207.2.1 for207.2.2 (env207 C)
noncomputable def frC (P : Params) (s0 s1 s2 s3 : Nat) (x : Str) (xt : Nat) (o : Int) (ot : Nat) (pc : Option (Value × Value)) : Obj :=
  frm ([ent P "addr" s0 (.str x xt), ent P "opens" s1 (.int o ot)] ++ (match pc with | some v => [ent P "pos" s2 v.1, ent P "ch" s3 v.2] | none => []))
section
variable (lv : Nat) (prog : Program) (P : Params) (b1 b2 : Bool) (a g u1 u2 L C : Nat) (x : Str) (xt t0 t1 t2 t3 s0 s1 s2 s3 c j z0 : Nat) (pv cv it : Value) (yl ll : List Value) (p0 p1 : Pos) (o : Int) (ot sz tk : Nat) (pc : Value × Value)
noncomputable abbrev hUnp (prog : Program) (P : Params) (b1 b2 : Bool) : List (H (stQ P b1 b2) (SQ prog P b1 b2)) := [.d 0, .d 6, .d 6, .d 6, .n, .d 6, .d 7, .d 7, .n, .d 7, .d 7, .d 7, .d 6, .d 7, .d 7, .d 7, .n, .d 7, .d 7, .d 7, .d 6, .d 7, .d 7, .d 7, .n, .d 7, .d 7, .d 7, .d 6, .d 7, .d 7, .d 9]
noncomputable abbrev ledF (P : Params) (a g u1 u2 L C : Nat) (x : Str) (xt t0 s0 s1 : Nat) (o : Int) (ot : Nat) : Led := [.o a (genO g u1 u2), .g g (.fresh (body193 L)), .o L (frm [ent P "addr" t0 (.str x xt)]), .o C (frC P s0 s1 0 0 x xt o ot none)]
noncomputable abbrev ledN (prog : Program) (P : Params) (b2 : Bool) (a g u1 u2 L C : Nat) (x : Str) (xt t0 t1 t2 t3 s0 s1 s2 s3 j z0 : Nat) (pv cv it : Value) (yl ll : List Value) (p0 p1 : Pos) (o : Int) (ot : Nat) (pc : Value × Value) : Led :=
  [.o a (genO g u1 u2), .g g (gsS prog P L z0 b2 yl ll p0 p1), .o L (frG P t0 t1 t2 t3 x xt pv (some cv)), .o C (frC P s0 s1 s2 s3 x xt o ot (some pc)), .o z0 (siO x xt j), .o (z0 + 1) (enO .none z0 j it)]
theorem notBs40 : notBs 40 := by unfold notBs; decide +kernel
theorem notBs41 : notBs 41 := by unfold notBs; decide +kernel
/-- the first turn, an opening bracket -/
noncomputable def gCF (ha : x.cps.all (· < 128) = true) (h0 : x.cps[0]? = some 40) (fr : Nat → Fv) : Out := run (stQ P b1 b2) (SQ prog P b1 b2) (lv + 3) 200
  ([.d 0, .o (cGF a g u1 u2 L x xt t0 40 ha h0 notBs40) [0, 1, 2]] ++ hUnp prog P b1 b2 ++ [.d 3, .d 3, .d 3, .d 3, .d 3, .n, .d 3, .n, .d 3, .d 3])
  fr (codeC C a) [] (denZ (codeC C a)) (ledF P a g u1 u2 L C x xt t0 s0 s1 o ot) sz tk []
noncomputable def gCFc (ha : x.cps.all (· < 128) = true) (h0 : x.cps[0]? = some 41) (hn : Bool) (hl : decide (o - 1 < 0) = hn) (fr : Nat → Fv) : Out := run (stQ P b1 b2) (SQ prog P b1 b2) (lv + 3) 200
  ([.d 0, .o (cGF a g u1 u2 L x xt t0 41 ha h0 notBs41) [0, 1, 2]] ++ hUnp prog P b1 b2 ++ [.d 3, .d 3, .d 3, .d 3, .d 3, .n, .d 3, .n, .d 3, .n, .d 3, .d 3, .d 3, .o (cIntLt (o - 1) 0 hn hl) []])
  fr (codeC C a) [] (denZ (codeC C a)) (ledF P a g u1 u2 L C x xt t0 s0 s1 o ot) sz tk []
noncomputable def gCN (h0 : x.cps[j]? = some 40) (fr : Nat → Fv) : Out := run (stQ P b1 b2) (SQ prog P b1 b2) (lv + 3) 200
  ([.d 0, .o (cGS a g u1 u2 L x xt t0 t1 t2 t3 40 j z0 pv cv it yl ll p0 p1 h0 notBs40) [0, 1, 2, 4, 5]] ++ hUnp prog P b1 b2 ++ [.d 3, .d 3, .d 3, .d 3, .d 3, .n, .d 3, .n, .d 3, .d 3])
  fr (codeC C a) [] (denZ (codeC C a)) (ledN prog P b2 a g u1 u2 L C x xt t0 t1 t2 t3 s0 s1 s2 s3 j z0 pv cv it yl ll p0 p1 o ot pc) sz tk []
noncomputable def gCNc (h0 : x.cps[j]? = some 41) (hn : Bool) (hl : decide (o - 1 < 0) = hn) (fr : Nat → Fv) : Out := run (stQ P b1 b2) (SQ prog P b1 b2) (lv + 3) 200
  ([.d 0, .o (cGS a g u1 u2 L x xt t0 t1 t2 t3 41 j z0 pv cv it yl ll p0 p1 h0 notBs41) [0, 1, 2, 4, 5]] ++ hUnp prog P b1 b2 ++ [.d 3, .d 3, .d 3, .d 3, .d 3, .n, .d 3, .n, .d 3, .n, .d 3, .d 3, .d 3, .o (cIntLt (o - 1) 0 hn hl) []])
  fr (codeC C a) [] (denZ (codeC C a)) (ledN prog P b2 a g u1 u2 L C x xt t0 t1 t2 t3 s0 s1 s2 s3 j z0 pv cv it yl ll p0 p1 o ot pc) sz tk []
noncomputable def gCE (h0 : x.cps[j]? = none) (fr : Nat → Fv) : Out := run (stQ P b1 b2) (SQ prog P b1 b2) (lv + 3) 200
  [.d 0, .o (cGE a g u1 u2 L x xt t0 t1 t2 t3 j z0 pv cv it yl ll p0 p1 h0) [0, 1, 2, 4, 5], .d 6]
  fr (codeC C a) [] (denZ (codeC C a)) (ledN prog P b2 a g u1 u2 L C x xt t0 t1 t2 t3 s0 s1 s2 s3 j z0 pv cv it yl ll p0 p1 o ot pc) sz tk []
noncomputable def gCZ (ha : x.cps.all (· < 128) = true) (h0 : x.cps[0]? = none) (fr : Nat → Fv) : Out := run (stQ P b1 b2) (SQ prog P b1 b2) (lv + 3) 200
  [.d 0, .o (cGZ a g u1 u2 L x xt t0 ha h0) [0, 1, 2], .d 4]
  fr (codeC C a) [] (denZ (codeC C a)) (ledF P a g u1 u2 L C x xt t0 s0 s1 o ot) sz tk []
theorem tCF (ha : x.cps.all (· < 128) = true) (h0 : x.cps[0]? = some 40) (fr : Nat → Fv) :
    let r := gCF lv prog P b1 b2 a g u1 u2 L C x xt t0 s0 s1 o ot sz tk ha h0 fr
    (r.sel [0, 1, 2, 3, 4, 5], r.cs.map Prod.fst) = (.again (codeC C a) (ledN prog P b2 a g u1 u2 L C x xt t0 (tk + 1) (tk + 2) (tk + 6) s0 s1 (tk + 8) (tk + 9) 1 sz (.int ((0 : Nat) : Int) (tk + 4)) (.str (chr1 40) (tk + 3)) (.str (chr1 40) (tk + 3)) ((fr 0).l 0) ((fr 0).l 1) (fr 0).p (fr 0).q (o + 1) (tk + 12) (.int ((0 : Nat) : Int) (tk + 4), .str (chr1 40) (tk + 3))) (sz + 10) (tk + 14) [], r.cs.map Prod.snd) := by
  cases b2 <;> kernel_rfl
theorem tCFc (ha : x.cps.all (· < 128) = true) (h0 : x.cps[0]? = some 41) (hl : decide (o - 1 < 0) = false) (fr : Nat → Fv) :
    let r := gCFc lv prog P b1 b2 a g u1 u2 L C x xt t0 s0 s1 o ot sz tk ha h0 false hl fr
    (r.sel [0, 1, 2, 3, 4, 5], r.cs.map Prod.fst) = (.again (codeC C a) (ledN prog P b2 a g u1 u2 L C x xt t0 (tk + 1) (tk + 2) (tk + 6) s0 s1 (tk + 8) (tk + 9) 1 sz (.int ((0 : Nat) : Int) (tk + 4)) (.str (chr1 41) (tk + 3)) (.str (chr1 41) (tk + 3)) ((fr 0).l 0) ((fr 0).l 1) (fr 0).p (fr 0).q (o - 1) (tk + 13) (.int ((0 : Nat) : Int) (tk + 4), .str (chr1 41) (tk + 3))) (sz + 10) (tk + 16) [], r.cs.map Prod.snd) := by
  cases b2 <;> kernel_rfl
theorem tCFx (ha : x.cps.all (· < 128) = true) (h0 : x.cps[0]? = some 41) (hl : decide (o - 1 < 0) = true) (fr : Nat → Fv) :
    let r := gCFc lv prog P b1 b2 a g u1 u2 L C x xt t0 s0 s1 o ot sz tk ha h0 true hl fr
    (r.sel [], r.cs.map Prod.fst) = (.ret (.ok (.ret (.bool false))) [] (sz + 10) (tk + 16) [], r.cs.map Prod.snd) := by
  cases b2 <;> kernel_rfl
theorem tCN (h0 : x.cps[j]? = some 40) (fr : Nat → Fv) :
    let r := gCN lv prog P b1 b2 a g u1 u2 L C x xt t0 t1 t2 t3 s0 s1 s2 s3 j z0 pv cv it yl ll p0 p1 o ot sz tk pc h0 fr
    (r.sel [0, 1, 2, 3, 4, 5], r.cs.map Prod.fst) = (.again (codeC C a) (ledN prog P b2 a g u1 u2 L C x xt t0 t1 t2 t3 s0 s1 s2 s3 (j + 1) z0 (.int (j : Int) (tk + 1)) (.str (chr1 40) tk) (.str (chr1 40) tk) ((fr 0).l 0) ll (fr 0).p p1 (o + 1) (tk + 9) (.int (j : Int) (tk + 1), .str (chr1 40) tk)) (sz + 8) (tk + 11) [], r.cs.map Prod.snd) := by
  cases b2 <;> kernel_rfl
theorem tCNc (h0 : x.cps[j]? = some 41) (hl : decide (o - 1 < 0) = false) (fr : Nat → Fv) :
    let r := gCNc lv prog P b1 b2 a g u1 u2 L C x xt t0 t1 t2 t3 s0 s1 s2 s3 j z0 pv cv it yl ll p0 p1 o ot sz tk pc h0 false hl fr
    (r.sel [0, 1, 2, 3, 4, 5], r.cs.map Prod.fst) = (.again (codeC C a) (ledN prog P b2 a g u1 u2 L C x xt t0 t1 t2 t3 s0 s1 s2 s3 (j + 1) z0 (.int (j : Int) (tk + 1)) (.str (chr1 41) tk) (.str (chr1 41) tk) ((fr 0).l 0) ll (fr 0).p p1 (o - 1) (tk + 10) (.int (j : Int) (tk + 1), .str (chr1 41) tk)) (sz + 8) (tk + 13) [], r.cs.map Prod.snd) := by
  cases b2 <;> kernel_rfl
theorem tCNx (h0 : x.cps[j]? = some 41) (hl : decide (o - 1 < 0) = true) (fr : Nat → Fv) :
    let r := gCNc lv prog P b1 b2 a g u1 u2 L C x xt t0 t1 t2 t3 s0 s1 s2 s3 j z0 pv cv it yl ll p0 p1 o ot sz tk pc h0 true hl fr
    (r.sel [], r.cs.map Prod.fst) = (.ret (.ok (.ret (.bool false))) [] (sz + 8) (tk + 13) [], r.cs.map Prod.snd) := by
  cases b2 <;> kernel_rfl
theorem tCE (h0 : x.cps[j]? = none) (fr : Nat → Fv) :
    let r := gCE lv prog P b1 b2 a g u1 u2 L C x xt t0 t1 t2 t3 s0 s1 s2 s3 j z0 pv cv it yl ll p0 p1 o ot sz tk pc h0 fr
    (r.sel [3], r.cs.map Prod.fst) = (.again (.block for207.2.2 (env207 C)) [.o C (frC P s0 s1 s2 s3 x xt o ot (some pc))] (sz + 4) tk [], r.cs.map Prod.snd) := by
  cases b2 <;> kernel_rfl
theorem tCZ (ha : x.cps.all (· < 128) = true) (h0 : x.cps[0]? = none) (fr : Nat → Fv) :
    let r := gCZ lv prog P b1 b2 a g u1 u2 L C x xt t0 s0 s1 o ot sz tk ha h0 fr
    (r.sel [3], r.cs.map Prod.fst) = (.again (.block for207.2.2 (env207 C)) [.o C (frC P s0 s1 0 0 x xt o ot none)] (sz + 6) (tk + 3) [], r.cs.map Prod.snd) := by
  cases b2 <;> kernel_rfl
end
end Zd
namespace Zd
open PySem PySem.Spec PySem.Calls PyProof.Rows PySem.W PySem.W.X
/-- what is open behind these signs; none: more closed than opened -/
noncomputable def wk : List Nat → Int → Option Int
  | [], o => some o
  | c :: l, o => if c = 40 then wk l (o + 1) else if o - 1 < 0 then none else wk l (o - 1)
noncomputable def par (x : Str) : Prop := ∀ c ∈ x.cps.toList, c = 40 ∨ c = 41
theorem Rep.rev {stat : Nat → Option Obj} {W : List (Bool × Nat)} {s₀ s : Shared} {led : Led} {sz tk : Nat} (D : Rep stat W s₀ led sz tk s) : Rep stat W s₀ led.reverse sz tk s :=
  D.sub (fun x hx => List.mem_reverse.mp hx) (by rw [List.map_reverse]; exact (List.reverse_perm _).nodup_iff.mpr D.nd)
noncomputable def Out.ck : Out → Result → Sem Fin
  | .at _ _ (.call _ _ _ _ k) _ _ _ _ => k
  | _ => fun _ => .raise .none
noncomputable def Out.cl : Out → List Value
  | .at _ _ (.call _ _ _ l _) _ _ _ _ => l
  | _ => []
section
variable {prog : Program} {P : Params} {b1 b2 : Bool} {lv : Nat} {w : World} {A : Around} {s : Shared}
theorem means_call {F : Post} {c c' : Code} {g : Bool} {l : List Value} {k : Result → Sem Fin} (h : codeAny (model prog w) (A.under c) c' (fun r s' => Means (model prog w) A F c [] (k r) s') s) :
    Means (model prog w) A F c [] (.call c' none g l k) s := x_call h (by intro e; cases e)
theorem room_under {n : Nat} {c : Code} (h : Room (n + 1) A) (h1 : c.weight ≤ 50) (h2 : c.cUnits ≤ 150) : Room n (A.under c) :=
  ⟨h.1, by show A.depth + c.weight + 50 * n ≤ 900; have := h.2.1; omega, by show A.units + c.cUnits + 150 * n ≤ 9000; have := h.2.2; omega⟩
end
section
variable (lv : Nat) (prog : Program) (P : Params) (b1 b2 : Bool) (C : Nat) (sz tk : Nat) (led : Led)
theorem tBlk (lv : Nat) (prog : Program) (P : Params) (b1 b2 : Bool) (C : Nat) (sz tk : Nat) (cl : Cell) (fr : Nat → Fv) :
    let r := run (stQ P b1 b2) (SQ prog P b1 b2) lv 20 [] fr (.block for207.2.2 (env207 C)) [] (denZ (.block for207.2.2 (env207 C))) [cl] sz tk []
    (r.sel [0], r.cs.map Prod.fst) = (.ret (.ok .next) [cl] sz tk [], r.cs.map Prod.snd) := by
  kernel_rfl
end
theorem drop_some {x : Str} {j c : Nat} (h : x.cps[j]? = some c) : x.cps.toList.drop j = c :: x.cps.toList.drop (j + 1) := by
  have h' : x.cps.toList[j]? = some c := by rw [Array.getElem?_toList]; exact h
  obtain ⟨hl, e⟩ := List.getElem?_eq_some_iff.mp h'
  rw [List.drop_eq_getElem_cons hl, e]
theorem drop_none {x : Str} {j : Nat} (h : x.cps[j]? = none) : x.cps.toList.drop j = [] := by
  have h' : x.cps.toList[j]? = none := by rw [Array.getElem?_toList]; exact h
  exact List.drop_eq_nil_of_le (List.getElem?_eq_none_iff.mp h')
section
variable {prog : Program} {P : Params} {b1 b2 : Bool} {w : World} {A : Around} {W : List (Bool × Nat)} {s₀ : Shared} {R : Result → Shared → Prop} {a g u1 u2 L C : Nat} {x : Str} {xt : Nat}
/-- what the loop's end is to give -/
structure LoopEnd (P : Params) (b1 b2 : Bool) (W : List (Bool × Nat)) (s₀ : Shared) (R : Result → Shared → Prop) (C : Nat) (x : Str) (xt s0 s1 : Nat) (res : Option Int) : Prop where
  no : res = none → ∀ sz tk s', Rep (stQ P b1 b2) W s₀ [] sz tk s' → R (.ok (.ret (.bool false))) s'
  yes : ∀ o', res = some o' → ∀ s2 s3 ot pc sz tk s', Rep (stQ P b1 b2) W s₀ [.o C (frC P s0 s1 s2 s3 x xt o' ot pc)] sz tk s' → R (.ok .next) s'
theorem chk_loop (hS : w.params = pq P b1 b2) (hA : Room 3 A) (hp : par x) : ∀ (n j z0 t0 t1 t2 t3 s0 s1 s2 s3 : Nat) (pv cv it : Value) (yl ll : List Value) (p0 p1 : Pos) (o : Int) (ot sz tk : Nat) (pc : Value × Value) (s : Shared), x.cps.size - j = n →
    Rep (stQ P b1 b2) W s₀ (ledN prog P b2 a g u1 u2 L C x xt t0 t1 t2 t3 s0 s1 s2 s3 j z0 pv cv it yl ll p0 p1 o ot pc) sz tk s → LoopEnd P b1 b2 W s₀ R C x xt s0 s1 (wk (x.cps.toList.drop j) o) → codeAny (model prog w) A (codeC C a) R s
  | 0, j, z0, t0, t1, t2, t3, s0, s1, s2, s3, pv, cv, it, yl, ll, p0, p1, o, ot, sz, tk, pc, s, hn, D, E => by
    have hj : x.cps[j]? = none := Array.getElem?_eq_none_iff.mpr (by omega)
    rw [drop_none hj] at E
    refine code_again (tCE 0 prog P b1 b2 a g u1 u2 L C x xt t0 t1 t2 t3 s0 s1 s2 s3 j z0 pv cv it yl ll p0 p1 o ot sz tk pc hj) hS hA rfl D fun fr s1 D1 => ?_
    exact code_ret (tBlk 3 prog P b1 b2 C _ _ _) hS hA rfl D1 fun fr s2 D2 => E.yes o rfl _ _ _ _ _ _ _ D2
  | n + 1, j, z0, t0, t1, t2, t3, s0, s1, s2, s3, pv, cv, it, yl, ll, p0, p1, o, ot, sz, tk, pc, s, hn, D, E => by
    have hlt : j < x.cps.size := by omega
    have hj' : x.cps[j]? = some x.cps[j] := Array.getElem?_eq_getElem hlt
    generalize x.cps[j] = c at hj'
    have hj := hj'
    have hn' : x.cps.size - (j + 1) = n := by omega
    rw [drop_some hj] at E
    have hc : c = 40 ∨ c = 41 := hp c (by
      have h' : x.cps.toList[j]? = some c := by rw [Array.getElem?_toList]; exact hj
      exact List.mem_of_getElem? h')
    rcases hc with rfl | rfl
    · refine code_again (tCN 0 prog P b1 b2 a g u1 u2 L C x xt t0 t1 t2 t3 s0 s1 s2 s3 j z0 pv cv it yl ll p0 p1 o ot sz tk pc hj) hS hA rfl D fun fr s1 D1 => ?_
      exact chk_loop hS hA hp n (j + 1) _ _ _ _ _ _ _ _ _ _ _ _ _ _ _ _ _ _ _ _ _ _ hn' D1 E
    · cases hl : decide (o - 1 < 0) with
      | true =>
        have e : wk (41 :: x.cps.toList.drop (j + 1)) o = none := by
          unfold wk
          rw [if_neg (by decide), if_pos (of_decide_eq_true hl)]
        rw [e] at E
        exact code_ret (tCNx 0 prog P b1 b2 a g u1 u2 L C x xt t0 t1 t2 t3 s0 s1 s2 s3 j z0 pv cv it yl ll p0 p1 o ot sz tk pc hj hl) hS hA rfl D fun fr s1 D1 => E.no rfl _ _ _ D1
      | false =>
        have e : wk (41 :: x.cps.toList.drop (j + 1)) o = wk (x.cps.toList.drop (j + 1)) (o - 1) := by
          rw [wk, if_neg (by decide), if_neg (of_decide_eq_false hl)]
        rw [e] at E
        refine code_again (tCNc 0 prog P b1 b2 a g u1 u2 L C x xt t0 t1 t2 t3 s0 s1 s2 s3 j z0 pv cv it yl ll p0 p1 o ot sz tk pc hj hl) hS hA rfl D fun fr s1 D1 => ?_
        exact chk_loop hS hA hp n (j + 1) _ _ _ _ _ _ _ _ _ _ _ _ _ _ _ _ _ _ _ _ _ _ hn' D1 E
termination_by structural n => n
end
end Zd
namespace Zd
open PySem PySem.Spec PySem.Calls PyProof.Rows PySem.W PySem.W.X
section
variable (prog : Program) (P : Params) (b1 b2 : Bool) (C : Nat) (x : Str) (xt t0 sz tk : Nat) (hx : noQ x)
noncomputable def g207 (fr : Nat → Fv) : Out := run (stQ P b1 b2) (SQ prog P b1 b2) 4 200
  [.s 3, .d 0, .s 200, .o (c200 x hx) [], .d 0, .d 0, .d 0, .d 0, .s 3, .d 0, .s 193, .o c193 [], .d 3, .d 3, .n, .d 3, .d 3] fr (body207 C) [] (denZ (body207 C)) [.o C (frm [ent P "addr" t0 (.str x xt)])] sz tk []
theorem t207 (fr : Nat → Fv) :
    let r := g207 prog P b1 b2 C x xt t0 sz tk hx fr
    (r.sel [0, 1, 2, 3], r.cs.map Prod.fst) = (.at (body207 C) [] (.call (codeC C ((fr 0).n 0 + 1)) none false r.cl r.ck) [.o C (frC P t0 ((fr 0).n 1 + 2) 0 0 x xt 0 ((fr 0).n 1 + 1) none), .o ((fr 0).n 0) (frm [ent P "addr" ((fr 0).n 1 + 3) (.str x xt)]), .g ((fr 1).n 2) (.fresh (body193 ((fr 0).n 0))), .o ((fr 0).n 0 + 1) (genO ((fr 1).n 2) ((fr 0).n 1 + 4) ((fr 0).n 1 + 5))] ((fr 0).n 0 + 2) ((fr 0).n 1 + 6) [], r.cs.map Prod.snd) := by
  cases b2 <;> kernel_rfl
theorem t207y (fr : Nat → Fv) (s1 s2 s3 ot z k : Nat) (o : Int) (b : Bool) (ho : (o == 0) = b) (pc : Option (Value × Value)) (fr2 : Nat → Fv) :
    let r := run (stQ P b1 b2) (SQ prog P b1 b2) 4 100 [.d 0, .o (cIntEq o 0 b ho) []] fr2 (body207 C) [] ((g207 prog P b1 b2 C x xt t0 sz tk hx fr).ck (.ok .next)) [.o C (frC P t0 s1 s2 s3 x xt o ot pc)] z k []
    (r.sel [], r.cs.map Prod.fst) = (.ret (.ok (.ret (.bool b))) [] z (k + 1) [], r.cs.map Prod.snd) := by
  cases pc <;> cases b2 <;> kernel_rfl
theorem t207n (fr : Nat → Fv) (z k : Nat) (fr2 : Nat → Fv) :
    let r := run (stQ P b1 b2) (SQ prog P b1 b2) 4 100 [] fr2 (body207 C) [] ((g207 prog P b1 b2 C x xt t0 sz tk hx fr).ck (.ok (.ret (.bool false)))) [] z k []
    (r.sel [], r.cs.map Prod.fst) = (.ret (.ok (.ret (.bool false))) [] z k [], r.cs.map Prod.snd) := by
  cases b2 <;> kernel_rfl
end
noncomputable def chkS (x : Str) : Bool := match wk x.cps.toList 0 with
  | some o => o == 0
  | none => false
section
variable {prog : Program} {P : Params} {b1 b2 : Bool} {w : World} {A : Around} {W : List (Bool × Nat)} {s₀ : Shared} {R : Result → Shared → Prop}
theorem means_ret {lv : Nat} {stat : Nat → Option Obj} {led : Led} {sz tk sz1 tk1 n : Nat} {F : Post} {c : Code} {t : Sem Fin} {r : Value} {js : List Nat} {S : Setting} {hs : List (H stat S)} {s : Shared} (hS : w.params = S.params) (hA : Room lv A)
    (e : ∀ fr, ((run stat S lv n hs fr c [] t led sz tk []).sel js, (run stat S lv n hs fr c [] t led sz tk []).cs.map Prod.fst) = (.ret (.ok (.ret r)) [] sz1 tk1 [], (run stat S lv n hs fr c [] t led sz tk []).cs.map Prod.snd))
    (hj : incr js = true) (D : Rep stat W s₀ led sz tk s) (h : ∀ s', Rep stat W s₀ [] sz1 tk1 s' → F.1 (.done (.ret r)) s') : Means (model S.program w) A F c [] t s :=
  run_to (laws_none F hS hA) hS n hs js e hj (fun fr => ⟨fun _ h => (nomatch h), fun s' D' c' => wpAny_pure (h s' D')⟩) D
theorem chk_first {a g u1 u2 L C : Nat} {x : Str} {xt : Nat} (hS : w.params = pq P b1 b2) (hA : Room 3 A) (hp : par x) (ha : x.cps.all (· < 128) = true) (t0 s0 s1 : Nat) (o : Int) (ot sz tk : Nat) (s : Shared)
    (D : Rep (stQ P b1 b2) W s₀ (ledF P a g u1 u2 L C x xt t0 s0 s1 o ot) sz tk s) (E : LoopEnd P b1 b2 W s₀ R C x xt s0 s1 (wk x.cps.toList o)) : codeAny (model prog w) A (codeC C a) R s := by
  have e0 : x.cps.toList.drop 0 = x.cps.toList := rfl
  rw [← e0] at E
  cases hj : x.cps[0]? with
  | none =>
    rw [drop_none hj] at E
    refine code_again (tCZ 0 prog P b1 b2 a g u1 u2 L C x xt t0 s0 s1 o ot sz tk ha hj) hS hA rfl D fun fr s1 D1 => ?_
    exact code_ret (tBlk 3 prog P b1 b2 C _ _ _) hS hA rfl D1 fun fr s2 D2 => E.yes o rfl _ _ _ _ _ _ _ D2
  | some c =>
    rw [drop_some hj] at E
    have hc : c = 40 ∨ c = 41 := hp c (by
      have h' : x.cps.toList[0]? = some c := by rw [Array.getElem?_toList]; exact hj
      exact List.mem_of_getElem? h')
    rcases hc with rfl | rfl
    · refine code_again (tCF 0 prog P b1 b2 a g u1 u2 L C x xt t0 s0 s1 o ot sz tk ha hj) hS hA rfl D fun fr s1 D1 => ?_
      exact chk_loop hS hA hp _ 1 _ _ _ _ _ _ _ _ _ _ _ _ _ _ _ _ _ _ _ _ _ _ rfl D1 E
    · cases hl : decide (o - 1 < 0) with
      | true =>
        have e : wk (41 :: x.cps.toList.drop (0 + 1)) o = none := by
          unfold wk
          rw [if_neg (by decide), if_pos (of_decide_eq_true hl)]
        rw [e] at E
        exact code_ret (tCFx 0 prog P b1 b2 a g u1 u2 L C x xt t0 s0 s1 o ot sz tk ha hj hl) hS hA rfl D fun fr s1 D1 => E.no rfl _ _ _ D1
      | false =>
        have e : wk (41 :: x.cps.toList.drop (0 + 1)) o = wk (x.cps.toList.drop (0 + 1)) (o - 1) := by
          rw [wk, if_neg (by decide), if_neg (of_decide_eq_false hl)]
        rw [e] at E
        refine code_again (tCFc 0 prog P b1 b2 a g u1 u2 L C x xt t0 s0 s1 o ot sz tk ha hj hl) hS hA rfl D fun fr s1 D1 => ?_
        exact chk_loop hS hA hp _ 1 _ _ _ _ _ _ _ _ _ _ _ _ _ _ _ _ _ _ _ _ _ _ rfl D1 E
noncomputable def inst207 (b : Bool) (cs : List (Tm × Tm)) : Inst := { lv := 4, cs, pre := [], upd := fun _ _ _ => [], res := fun _ _ _ => .ok (.ret (.bool b)), new := fun _ _ _ => [] }
theorem triple207 (x : Str) (xt : Nat) (hx : noQ x) (hp : par x) (ha : x.cps.all (· < 128) = true) (cs : List (Tm × Tm)) : Triple (stQ P b1 b2) (SQ prog P b1 b2) (code207 (.str x xt)) (inst207 (chkS x) cs) := by
  intro w hS A s sz tk g l hA hst hpre hnd hlow hb hsz htk
  refine wp_of_code ?_
  have D := rep_start (led := []) hst (fun _ h => (nomatch h)) List.nodup_nil (fun _ h => (nomatch h)) hb hsz htk
  have fin : ∀ b sz' tk' s', b = chkS x → Rep (stQ P b1 b2) (([] : Led).map Cell.key) s [] sz' tk' s' → After (inst207 (chkS x) cs) sz tk s (.ok (.ret (.bool b))) s' := fun b sz' tk' s' e D' => by
    subst e
    exact rep_end (i := inst207 (chkS x) cs) { Fv.z with n := fun k => match k with | 0 => sz' | _ => tk' } D' rfl rfl rfl rfl (fun _ h => (nomatch h))
  refine def_call (lv := 4) (call207 4 prog P b1 b2 (.str x xt) sz tk) hS hA rfl rfl rfl D fun s1 D1 => ?_
  refine code_of_wp (S := SQ prog P b1 b2) ?_
  refine run_to (laws_none (S := SQ prog P b1 b2) (lv := 4) (finP (model prog w) A (After (inst207 (chkS x) cs) sz tk s), fun e s' => After (inst207 (chkS x) cs) sz tk s (.error e) s') hS hA) hS _ _ [0, 1, 2, 3] (t207 prog P b1 b2 sz x xt tk (sz + 1) (tk + 1) hx) rfl
    (fun fr => ⟨fun _ h => (nomatch h), fun s2 D2 => ?_⟩) D1
  refine means_call ?_
  have hA3 : Room 3 (A.under (body207 sz)) := room_under hA (by show 1 + 0 + 0 + 0 ≤ 50; decide) (by show 3 * 1 ≤ 150; decide)
  refine chk_first hS hA3 hp ha _ _ _ _ _ _ _ s2 D2.rev ⟨fun hno sz' tk' s' D' => ?_, fun o' hyes s2' s3' ot pc sz' tk' s' D' => ?_⟩
  · refine means_ret (S := SQ prog P b1 b2) hS hA (t207n prog P b1 b2 sz x xt tk (sz + 1) (tk + 1) hx fr sz' tk') rfl D' fun s3 D3 => fin _ _ _ _ ?_ D3
    unfold chkS; rw [hno]
  · refine means_ret (S := SQ prog P b1 b2) hS hA (t207y prog P b1 b2 sz x xt tk (sz + 1) (tk + 1) hx fr _ s2' s3' ot sz' tk' o' _ rfl pc) rfl D' fun s3 D3 => fin _ _ _ _ ?_ D3
    unfold chkS; rw [hyes]
noncomputable def c207 (x0 : Str) (b : Bool) (hx : noQ x0) (hp : par x0) (ha : x0.cps.all (· < 128) = true) (hb : chkS x0 = b) : Ctr (stQ P b1 b2) (SQ prog P b1 b2) :=
  ctrDef 207 (fun | [.str x t] => some (inst207 b [(.s x, .s x0)]) | _ => none) fun args i hi hcs => by
    split at hi
    · cases hi
      obtain ⟨e, _⟩ := okS hcs
      subst e hb
      exact ⟨fun _ _ _ => rfl, triple207 _ _ hx hp ha _⟩
    · cases hi
end
end Zd
namespace Zd
open PySem PySem.Spec PySem.Calls PyProof.Rows PySem.W PySem.W.X
/-- a text that is one of the two given, or a new one -/
inductive Pk where
  | fst | snd | str (z : Str)
noncomputable def Pk.mk (v w : Value) : Pk → Mk
  | .fst => .val v
  | .snd => .val w
  | .str z => .str z
section
variable {stat : Nat → Option Obj} {S : Setting}
noncomputable def cStrLen (x0 : Str) (n : Int) (h : (x0.length : Int) = n) : Ctr stat S :=
  ctrPure "str.__len__" (fun | [.str x _] => some ([(.s x, .s x0)], .int n) | _ => none) fun args cs m hg hcs => by
    split at hg
    · cases hg
      obtain ⟨e1, _⟩ := okS hcs
      subst e1 h
      exact ⟨trivial, fun prog w A Q E s hq => call_gives F.slot_str_len rfl F.entry_str_len (F.args_str_len_1 _) (gives_str_len _ _) hq⟩
    · cases hg
noncomputable def cStrItem (x0 : Str) (i0 : Int) (c : Nat) (hr : (decide (i0 < -(2 ^ 63 : Int)) || decide (i0 ≥ 2 ^ 63)) = false) (h : (seqIndex? i0 x0.length).bind (x0.cps[·]?) = some c) : Ctr stat S :=
  ctrPure "str.__getitem__" (fun | [.str x _, .int i _] => some ([(.s x, .s x0), (.i i, .i i0)], .str ⟨#[c]⟩) | _ => none) fun args cs m hg hcs => by
    split at hg
    · cases hg
      obtain ⟨e1, hcs⟩ := okS hcs
      obtain ⟨e2, _⟩ := okI hcs
      subst e1 e2
      exact ⟨by show 1 ≤ sizeLine; decide, fun prog w A Q E s hq => call_gives F.slot_str_getitem rfl F.entry_str_getitem (F.args_str_getitem_2 _ _) (gives_str_getitem _ _ _ _ _ hr h) hq⟩
    · cases hg
noncomputable def mulOk (x : Str) (n : Int) : Prop := (decide (n < -(2 ^ 63 : Int)) || decide (n ≥ 2 ^ 63)) = false ∧ (¬ n < 1 → (n == 1 || x.length == 0) = false → ¬ ((x.length : Int) > (2 ^ 63 - 1) / n)) ∧ (¬ n < 1 → (n == 1 || x.length == 0) = false → Builtin.Str.tooLong (x.length * n.toNat) = false)
noncomputable def mulM (x : Str) (n : Int) : Pk := if n < 1 then .str Str.empty else if (n == 1 || x.length == 0) = true then .fst else .str ⟨(List.replicate n.toNat x.cps).foldl (· ++ ·) #[]⟩
noncomputable def Pk.small : Pk → Prop
  | .str z => z.length ≤ sizeLine
  | _ => True
noncomputable def cStrMul (x0 : Str) (n0 : Int) (k : Pk) (hk : mulM x0 n0 = k) (ho : mulOk x0 n0) (hs : k.small) : Ctr stat S :=
  ctrPure "str.__mul__" (fun | [.str x t, .int n u] => some ([(.s x, .s x0), (.i n, .i n0)], k.mk (.str x t) (.int n u)) | _ => none) fun args cs m hg hcs => by
    split at hg
    · cases hg
      obtain ⟨e1, hcs⟩ := okS hcs
      obtain ⟨e2, _⟩ := okI hcs
      subst e1 e2 hk
      refine ⟨?_, fun prog w A Q E s hq => call_gives F.slot_str_mul rfl F.entry_str_mul (F.args_str_mul_2 _ _) (gives_str_mul _ _ _ _ ho.1 ho.2.1 ho.2.2) ?_⟩
      · revert hs
        cases mulM _ _ <;> exact id
      · revert hq
        unfold mulM
        split
        · exact id
        · split <;> exact id
    · cases hg
noncomputable def addM (x y : Str) : Pk := if x.length == 0 then .snd else if y.length == 0 then .fst else .str (x ++ y)
noncomputable def cStrAdd (x0 y0 : Str) (k : Pk) (hk : addM x0 y0 = k) (hs : k.small) : Ctr stat S :=
  ctrPure "str.__add__" (fun | [.str x t, .str y u] => some ([(.s x, .s x0), (.s y, .s y0)], k.mk (.str x t) (.str y u)) | _ => none) fun args cs m hg hcs => by
    split at hg
    · cases hg
      obtain ⟨e1, hcs⟩ := okS hcs
      obtain ⟨e2, _⟩ := okS hcs
      subst e1 e2 hk
      refine ⟨?_, fun prog w A Q E s hq => call_gives F.slot_str_add rfl F.entry_str_add (F.args_str_add_2 _ _) (gives_str_add _ _ _ _) ?_⟩
      · revert hs
        cases addM _ _ <;> exact id
      · revert hq
        unfold addM
        split
        · exact id
        · split <;> exact id
    · cases hg
noncomputable def sliO (l u : Option (Int × Tok)) : Obj := ⟨.type "slice", none, .fields #[partValue l, partValue u, .none], #[]⟩
noncomputable def preK (x : Str) (l u : Option Int) : Pk :=
  if ((Builtin.Str.strSliceIndices l u 1 x.length).length == x.length) = true then .fst else .str ⟨((Builtin.Str.strSliceIndices l u 1 x.length).filterMap (x.cps[·]?)).toArray⟩
noncomputable def Pk.val (v : Value) (tk : Nat) : Pk → Value
  | .str z => .str z tk
  | _ => v
noncomputable def Pk.ntk (tk : Nat) : Pk → Nat
  | .str _ => tk + 1
  | _ => tk
noncomputable def instSl (a : Addr) (l u : Option (Int × Tok)) (k : Pk) (v : Value) (cs : List (Tm × Tm)) : Inst := { lv := 0, cs, pre := [.o a (sliO l u)], upd := fun _ _ _ => [.o a (sliO l u)], res := fun _ tk _ => .ok (.ret (k.val v tk)), new := fun _ _ _ => [], nsz := fun sz _ => sz, ntk := fun tk _ => k.ntk tk }
theorem slice_triple (x : Str) (t : Nat) (a : Addr) (l u : Option (Int × Tok)) (k : Pk) (hk : preK x (l.map (·.1)) (u.map (·.1)) = k) (hs : k.small) (cs : List (Tm × Tm)) :
    Triple stat S (.call (.builtin "str.__getitem__") ⟨[.str x t, .ref a], []⟩) (instSl a l u k (.str x t) cs) := by
  intro w hS A s sz tk g gl hA hst hpre hnd hlow hb hsz htk
  have ho : s.heap.get? a = some (sliO l u) := hpre _ (.head _)
  refine wpAny_mono (wp_of_call (E' := fun _ _ => False) (Q := fun v s' => After (instSl a l u k (.str x t) cs) sz tk s (.ok (.ret v)) s') (E := fun _ _ => False) ?_) (fun r s' q => ?_) fun _ _ h => h
  · refine call_meets F.slot_str_getitem rfl F.entry_str_getitem (F.args_str_getitem_2 _ _) (meets_str_getitem_slice x t a l u none rfl) ⟨⟨_, ho, rfl, rfl⟩, ?_⟩
    subst hsz htk
    have hc : ∀ y ∈ (instSl a l u k (.str x t) cs).pre, ∀ n, Cell.holds { s with toks := n } y := fun y hy n => by
      have := hpre y hy
      rw [List.mem_singleton.mp hy] at this ⊢
      exact this
    have key : ∀ v s', ((∃ z, k = .str z ∧ v = .str z s.toks ∧ s' = { s with toks := s.toks + 1 }) ∨ ((∀ z, k ≠ .str z) ∧ v = .str x t ∧ s' = s)) → After (instSl a l u k (.str x t) cs) s.heap.objs.size s.toks s (.ok (.ret v)) s' := by
      rintro v s' (⟨z, rfl, rfl, rfl⟩ | ⟨hn, rfl, rfl⟩)
      · exact ⟨Fv.z, rfl, rfl, rfl, fun y hy => hc y hy _, fun _ h => (nomatch h), List.nodup_nil, (kept_toks s _).wide (fun _ h => (nomatch h))⟩
      · refine ⟨Fv.z, ?_, rfl, ?_, fun y hy => hpre y hy, fun _ h => (nomatch h), List.nodup_nil, .refl _ _⟩
        · cases k with
          | str z => exact absurd rfl (hn z)
          | _ => rfl
        · cases k with
          | str z => exact absurd rfl (hn z)
          | _ => rfl
    have e : (((none : Option (Int × Tok)).map (·.1)).getD 1 == 1) = true := rfl
    unfold sliceMade
    rw [e, Bool.true_and]
    change (if ((slicePicked x l u none).length == x.length) = true then Pk.fst else Pk.str ⟨((slicePicked x l u none).filterMap (x.cps[·]?)).toArray⟩) = k at hk
    split at hk
    · rename_i c
      rw [if_pos c]
      exact key _ _ (.inr ⟨fun z h => (nomatch (hk.trans h)), rfl, rfl⟩)
    · rename_i c
      rw [if_neg c]
      refine ⟨?_, key _ _ (.inl ⟨_, hk.symm, rfl, rfl⟩)⟩
      rw [← hk] at hs
      exact hs
  · cases r with
    | error e => cases q
    | ok f =>
      cases f with
      | ret v => exact q
      | _ => cases q
noncomputable def cSlice (x0 : Str) (a0 : Addr) (l u : Option (Int × Tok)) (k : Pk) (hk : preK x0 (l.map (·.1)) (u.map (·.1)) = k) (hs : k.small) : Ctr stat S where
  f
    | .call (.builtin id') ⟨args, kw⟩ => match kw with
      | [] => match eqS id' "str.__getitem__" with
        | true => match args with
          | [.str x t, .ref a] => some (instSl a0 l u k (.str x t) [(.s x, .s x0), (.a a, .a a0)])
          | _ => none
        | false => none
      | _ :: _ => none
    | _ => none
  sound c j hj hcs := by
    split at hj
    · split at hj
      · split at hj
        · rename_i e
          split at hj
          · cases hj
            obtain ⟨e1, hcs⟩ := okS hcs
            obtain ⟨e2, _⟩ := okA hcs
            rw [eqS_eq e, e1, e2]
            exact ⟨fun _ _ _ => rfl, slice_triple _ _ _ _ _ _ hk hs _⟩
          · cases hj
        · cases hj
      · cases hj
    · cases hj
end
end Zd
namespace Zd
open PySem PySem.Spec PySem.Calls PyProof.Rows PySem.W PySem.W.X
noncomputable def seqO (vs : List Value) (m : Nat) : Obj := ⟨.type "list", none, .seq ⟨vs⟩ m, #[]⟩
section
variable {stat : Nat → Option Obj} {S : Setting}
noncomputable def instAp (a : Addr) (vs : List Value) (m : Nat) (v : Value) (cs : List (Tm × Tm)) : Inst := { lv := 0, cs, pre := [.o a (seqO vs m)], upd := fun _ _ _ => [.o a (seqO (vs ++ [v]) (m + 1))], res := fun _ tk _ => .ok (.ret .none), new := fun _ _ _ => [], nsz := fun sz _ => sz, ntk := fun tk _ => tk }
theorem append_triple (a : Addr) (vs : List Value) (m : Nat) (v : Value) (hl : vs.length ≤ sizeLine) (cs : List (Tm × Tm)) : Triple stat S (.call (.builtin "list.append") ⟨[.ref a, v], []⟩) (instAp a vs m v cs) := by
  intro w hS A s sz tk g gl hA hst hpre hnd hlow hb hsz htk
  have ho : s.heap.get? a = some (seqO vs m) := hpre _ (.head _)
  have hT : s.TypeIs (.ref a) "list" := ⟨_, ho, rfl⟩
  refine wpAny_mono (wp_of_call (E' := fun _ _ => False) (Q := fun v' s' => After (instAp a vs m v cs) sz tk s (.ok (.ret v')) s') (E := fun _ _ => False) ?_) (fun r s' q => ?_) fun _ _ h => h
  · refine wpAny_call_entry F.slot_list_append hT F.entry_list_append ?_ (F.args_list_append_2 _ _)
    show wpAny _ _ (updateSeq a (·.push v) >>= fun _ => ret .none) _ _ s
    refine wpAny_bind ?_
    refine wpAny_updateSeq ho rfl (wpAny_pure ⟨.none, rfl, ?_⟩)
    subst hsz htk
    refine ⟨Fv.z, rfl, (Heap.SameBut.update ..).1, rfl, ?_, fun _ h => (nomatch h), List.nodup_nil, kept_update s _⟩
    intro y hy
    rw [List.mem_singleton.mp hy]
    have := Heap.get?_update_self (Obj.mapSeq (·.push v)) ho rfl
    refine this.trans ?_
    simp [Obj.mapSeq, seqO]
  · cases r with
    | error e => cases q
    | ok f =>
      cases f with
      | ret v => exact q
      | _ => cases q
noncomputable def cAppend (a0 : Addr) (vs : List Value) (m : Nat) (hl : vs.length ≤ sizeLine) : Ctr stat S where
  f
    | .call (.builtin id') ⟨args, kw⟩ => match kw with
      | [] => match eqS id' "list.append" with
        | true => match args with
          | [.ref a, v] => some (instAp a0 vs m v [(.a a, .a a0)])
          | _ => none
        | false => none
      | _ :: _ => none
    | _ => none
  sound c j hj hcs := by
    split at hj
    · split at hj
      · split at hj
        · rename_i e
          split at hj
          · cases hj
            obtain ⟨e1, hcs⟩ := okA hcs
            rw [eqS_eq e, e1]
            exact ⟨fun _ _ _ => rfl, append_triple _ _ _ _ hl _⟩
          · cases hj
        · cases hj
      · cases hj
    · cases hj
end
end Zd
namespace Zd
open PySem PySem.Spec PySem.Calls PyProof.Rows PySem.W PySem.W.X
noncomputable def ifOf : Option Stmt → PySem.Expr × List Stmt × List Stmt
  | some (.If t b o _) => (t, b, o)
  | _ => (.Constant .none 0 ⟨0, 0, 0, 0⟩, [], [])
noncomputable def whileOf : Option Stmt → PySem.Expr × List Stmt × List Stmt
  | some (.While t b o _) => (t, b, o)
  | _ => (.Constant .none 0 ⟨0, 0, 0, 0⟩, [], [])
noncomputable def for240 : PySem.Expr × List Stmt × List Stmt := forOf ((partsOf (topStmt 18)).2.1[2]?)
noncomputable def if240 : PySem.Expr × List Stmt × List Stmt := ifOf (for240.2.1[0]?)
noncomputable def wh240 : PySem.Expr × List Stmt × List Stmt := whileOf (if240.2.1[1]?)
noncomputable def codeDF (C r : Nat) : Code := .forLoop for240.1 (.ref r) for240.2.1 for240.2.2 (env240 C)
noncomputable def codeDW (C : Nat) : Code := .whileLoop wh240.1 wh240.2.1 wh240.2.2 (env240 C)
noncomputable def frD (P : Params) (k0 k1 k2 k3 : Nat) (x : Str) (xt L : Nat) (d : Int) (dt : Nat) (p : Option (Int × Nat)) : Obj :=
  frm ([ent P "row" k0 (.str x xt), ent P "depths" k1 (.ref L), ent P "deep" k2 (.int d dt)] ++ (match p with | some (i, t) => [ent P "place" k3 (.int i t)] | none => []))
noncomputable def mkO : Option Str → Pk
  | none => .fst
  | some y => .str y
noncomputable def mkS : Option Str → Str
  | none => ")"
  | some y => y
noncomputable def adS (x y : Str) : Pk → Str
  | .fst => x
  | .snd => y
  | .str z => z
section
variable (lv : Nat) (prog : Program) (P : Params) (b1 b2 : Bool) (C k0 k1 k2 k3 : Nat) (x : Str) (xt L : Nat) (d : Int) (dt p pt sz tk : Nat) (rr : Nat) (X1 X2 : Obj) (z : Str) (o : Option Str) (ka : Pk)
/-- what a turn of the while loop asks of the texts -/
structure WhA (x : Str) (p : Nat) (d : Int) (z : Str) (o : Option Str) (ka : Pk) (b : Bool) : Prop where
  h1 : decide (d ≥ 0) = true
  h2 : preK x none (some (p : Int)) = .str z
  h2s : (Pk.str z).small
  h3 : mulM ")" d = mkO o
  h3o : mulOk ")" d
  h3s : (mkO o).small
  h4 : addM z (mkS o) = ka
  h4s : ka.small
  h5 : noQ (adS z (mkS o) ka)
  h6 : par (adS z (mkS o) ka)
  h7 : (adS z (mkS o) ka).cps.all (· < 128) = true
  h8 : chkS (adS z (mkS o) ka) = b
variable (b : Bool) (h : WhA x p d z o ka b)
noncomputable def gDW (hs : List (H (stQ P b1 b2) (SQ prog P b1 b2))) (fr : Nat → Fv) : Out := run (stQ P b1 b2) (SQ prog P b1 b2) (lv + 5) 100
  ([.d 0, .o (cIntGe d 0 true h.h1) [], .s 3, .d 0, .d 0, .o (cSlice x sz none (some ((p : Int), pt)) (.str z) h.h2 h.h2s) [3], .d 0, .n, .o (cStrMul ")" d (mkO o) h.h3 h.h3o h.h3s) [], .o (cStrAdd z (mkS o) ka h.h4 h.h4s) [], .s 207, .o (c207 (adS z (mkS o) ka) b h.h5 h.h6 h.h7 h.h8) []] ++ hs)
  fr (codeDW C) [] (denZ (codeDW C)) [.o C (frD P k0 k1 k2 k3 x xt L d dt (some ((p : Int), pt))), .o L X1, .o rr X2] sz tk []
theorem tDWy (h : WhA x p d z o ka true) (fr : Nat → Fv) :
    let r := gDW lv prog P b1 b2 C k0 k1 k2 k3 x xt L d dt p pt sz tk rr X1 X2 z o ka true h [] fr
    (r.sel [0, 1, 2], r.cs.map Prod.fst) = (.ret (.ok .next) [.o C (frD P k0 k1 k2 k3 x xt L d dt (some ((p : Int), pt))), .o L X1, .o rr X2] ((fr 5).n 0) ((fr 5).n 1) [], r.cs.map Prod.snd) := by
  cases o <;> cases ka <;> cases b2 <;> kernel_rfl
theorem tDWn (h : WhA x p d z o ka false) (fr : Nat → Fv) :
    let r := gDW lv prog P b1 b2 C k0 k1 k2 k3 x xt L d dt p pt sz tk rr X1 X2 z o ka false h [.d 0, .n, .d 0, .d 0] fr
    (r.sel [0, 1, 2], r.cs.map Prod.fst) = (.again (codeDW C) [.o C (frD P k0 k1 k2 k3 x xt L (d - 1) ((fr 5).n 1 + 1) (some ((p : Int), pt))), .o L X1, .o rr X2] ((fr 5).n 0) ((fr 5).n 1 + 3) [], r.cs.map Prod.snd) := by
  cases o <;> cases ka <;> cases b2 <;> kernel_rfl
theorem tDWe (h : decide (d ≥ 0) = false) (q : Option (Int × Nat)) (fr : Nat → Fv) :
    let r := run (stQ P b1 b2) (SQ prog P b1 b2) (lv + 5) 100 [.d 0, .o (cIntGe d 0 false h) []] fr (codeDW C) [] (denZ (codeDW C)) [.o C (frD P k0 k1 k2 k3 x xt L d dt q), .o L X1, .o rr X2] sz tk []
    (r.sel [0, 1, 2], r.cs.map Prod.fst) = (.ret (.ok .next) [.o C (frD P k0 k1 k2 k3 x xt L d dt q), .o L X1, .o rr X2] sz (tk + 1) [], r.cs.map Prod.snd) := by
  cases q <;> cases b2 <;> kernel_rfl
noncomputable def rgO (n : Nat) : Obj := ⟨.type "range", none, .fields #[.int 0 0, .int (n : Int) 0, .int 1 0], #[]⟩
noncomputable def riO (j : Nat) (n : Int) : Obj := ⟨.type "range_iterator", none, .fields #[.int (j : Int) 0, .int n 0, .int 1 0], #[]⟩
noncomputable def kq (q : Option (Int × Nat)) (a b : Nat) : Nat := match q with | none => a | some _ => b
noncomputable abbrev ledD (P : Params) (C L r k0 k1 k2 k3 : Nat) (x : Str) (xt : Nat) (d : Int) (dt : Nat) (q : Option (Int × Nat)) (vs : List Value) (ml : Nat) (j : Nat) (n : Int) : Led := [.o C (frD P k0 k1 k2 k3 x xt L d dt q), .o L (seqO vs ml), .o r (riO j n)]
variable (r : Nat) (q : Option (Int × Nat)) (vs : List Value) (ml : Nat) (j n : Nat)
noncomputable def gDF (c : Nat) (b : Bool) (hr : (decide ((j : Int) < -(2 ^ 63 : Int)) || decide ((j : Int) ≥ 2 ^ 63)) = false) (h : (seqIndex? (j : Int) x.length).bind (x.cps[·]?) = some c) (hb : ((chr1 c).cps.toList == ("(" : Str).cps.toList) = b) (hs : List (H (stQ P b1 b2) (SQ prog P b1 b2))) (fr : Nat → Fv) : Out := run (stQ P b1 b2) (SQ prog P b1 b2) (lv + 5) 100
  ([.d 2, .n, .d 2, .d 2, .d 2, .d 2, .d 2, .d 2, .d 2, .d 2, .d 0, .d 0, .d 0, .d 0, .o (cStrItem x j c hr h) [], .o (cStrEq (chr1 c) "(" b hb) []] ++ hs)
  fr (codeDF C r) [] (denZ (codeDF C r)) (ledD P C L r k0 k1 k2 k3 x xt d dt q vs ml j ((n + 1 : Nat) : Int)) sz tk []
theorem tDFc (hr : (decide ((j : Int) < -(2 ^ 63 : Int)) || decide ((j : Int) ≥ 2 ^ 63)) = false) (h : (seqIndex? (j : Int) x.length).bind (x.cps[·]?) = some 41) (fr : Nat → Fv) :
    let o := gDF lv prog P b1 b2 C k0 k1 k2 k3 x xt L d dt sz tk r q vs ml j n 41 false hr h rfl [] fr
    (o.sel [0, 1, 2], o.cs.map Prod.fst) = (.again (codeDF C r) (ledD P C L r k0 k1 k2 (kq q (tk + 1) k3) x xt d dt (some ((j : Int), tk)) vs ml (j + 1) (((n + 1 : Nat) : Int) - 1)) sz (kq q (tk + 4) (tk + 4)) [], o.cs.map Prod.snd) := by
  cases q <;> cases b2 <;> kernel_rfl
theorem tDFo (hr : (decide ((j : Int) < -(2 ^ 63 : Int)) || decide ((j : Int) ≥ 2 ^ 63)) = false) (h : (seqIndex? (j : Int) x.length).bind (x.cps[·]?) = some 40) (fr : Nat → Fv) :
    let o := gDF lv prog P b1 b2 C k0 k1 k2 k3 x xt L d dt sz tk r q vs ml j n 40 true hr h rfl [.d 0, .n, .d 0, .d 0] fr
    (o.sel [0, 1, 2], o.cs.map Prod.fst) = (.at (codeDF C r) [] (.call (codeDW C) none false o.cl o.ck) (ledD P C L r k0 k1 k2 (kq q (tk + 1) k3) x xt (d + 1) (tk + 5) (some ((j : Int), tk)) vs ml (j + 1) (((n + 1 : Nat) : Int) - 1)) sz (tk + 7) [], o.cs.map Prod.snd) := by
  cases q <;> cases b2 <;> kernel_rfl
end
end Zd
namespace Zd
open PySem PySem.Spec PySem.Calls PyProof.Rows PySem.W PySem.W.X
section
variable (lv : Nat) (prog : Program) (P : Params) (b1 b2 : Bool) (C k0 k1 k2 k3 : Nat) (x : Str) (xt L : Nat) (d : Int) (dt p pt sz tk : Nat) (r : Nat) (q : Option (Int × Nat)) (vs : List Value) (ml : Nat) (j n : Nat)
theorem tDFp (hl : vs.length ≤ sizeLine) (hr : (decide ((j : Int) < -(2 ^ 63 : Int)) || decide ((j : Int) ≥ 2 ^ 63)) = false) (h : (seqIndex? (j : Int) x.length).bind (x.cps[·]?) = some 40) (fr : Nat → Fv) (d' : Int) (dt' k3' : Nat) (i' : Int) (t' : Nat) (j' : Nat) (m : Int) (z k : Nat) (fr2 : Nat → Fv) :
    let o := run (stQ P b1 b2) (SQ prog P b1 b2) (lv + 5) 100 [.d 0, .d 1, .d 1, .d 1, .d 1, .d 0, .o (cAppend L vs ml hl) [1]] fr2 (codeDF C r) [] ((gDF lv prog P b1 b2 C k0 k1 k2 k3 x xt L d dt sz tk r q vs ml j n 40 true hr h rfl [.d 0, .n, .d 0, .d 0] fr).ck (.ok .next)) (ledD P C L r k0 k1 k2 k3' x xt d' dt' (some (i', t')) vs ml j' m) z k []
    (o.sel [0, 1, 2], o.cs.map Prod.fst) = (.again (codeDF C r) (ledD P C L r k0 k1 k2 k3' x xt d' dt' (some (i', t')) (vs ++ [.int d' dt']) (ml + 1) j' m) z k [], o.cs.map Prod.snd) := by
  cases q <;> cases b2 <;> kernel_rfl
theorem tDFe (fr : Nat → Fv) :
    let o := run (stQ P b1 b2) (SQ prog P b1 b2) (lv + 5) 100 [.d 2, .n, .d 2, .d 2, .d 2, .d 2, .d 4] fr (codeDF C r) [] (denZ (codeDF C r)) (ledD P C L r k0 k1 k2 k3 x xt d dt q vs ml j 0) sz tk []
    (o.sel [0, 1], o.cs.map Prod.fst) = (.again (.block for240.2.2 (env240 C)) [.o C (frD P k0 k1 k2 k3 x xt L d dt q), .o L (seqO vs ml)] (sz + 2) tk [], o.cs.map Prod.snd) := by
  cases b2 <;> kernel_rfl
theorem tDBl (l : Led) (fr : Nat → Fv) :
    let o := run (stQ P b1 b2) (SQ prog P b1 b2) (lv + 5) 20 [] fr (.block for240.2.2 (env240 C)) [] (denZ (.block for240.2.2 (env240 C))) l sz tk []
    (o.sel [0, 1], o.cs.map Prod.fst) = (Out.sel [0, 1] (.ret (.ok .next) l sz tk []), o.cs.map Prod.snd) := by
  kernel_rfl
noncomputable def gDb (hn : (x.length : Int) = (n : Int)) (fr : Nat → Fv) : Out := run (stQ P b1 b2) (SQ prog P b1 b2) (lv + 6) 200
  [.d 0, .d 0, .n, .d 0, .d 0, .s 3, .s 0, .s 3, .s 0, .d 0, .n, .o (cStrLen x n hn) [], .n, .n, .d 2, .d 2, .n, .d 2, .d 2, .d 2, .d 2, .n, .d 2, .d 2, .d 2, .d 2, .d 3] fr (body240 C) [] (denZ (body240 C)) [.o C (frm [ent P "row" k0 (.str x xt)])] sz tk []
theorem tDb (x : Str) (hn : (x.length : Int) = ((14 : Nat) : Int)) (fr : Nat → Fv) :
    let o := gDb lv prog P b1 b2 C k0 x xt sz tk 14 hn fr
    (o.sel [0, 1, 3], o.cs.map Prod.fst) = (.at (body240 C) [] (.call (codeDF C (sz + 2)) none false o.cl o.ck) (ledD P C sz (sz + 2) k0 tk (tk + 3) 0 x xt (-1) (tk + 2) none [] 0 0 14) (sz + 3) (tk + 8) [], o.cs.map Prod.snd) := by
  cases b2 <;> kernel_rfl
end
end Zd
namespace Zd
open PySem PySem.Spec PySem.Calls PyProof.Rows PySem.W PySem.W.X
open Builtin Builtin.Str
noncomputable def chkL (l : List Nat) : Bool := match wk l 0 with
  | some o => o == 0
  | none => false
theorem chkS_eq (x : Str) : chkS x = chkL x.cps.toList := rfl
theorem noQ_of_par {x : Str} (h : par x) : noQ x := by
  have z := StrLaws.found_one x 34
  have e : (⟨#[34]⟩ : Str) = ("\"" : Str) := by decide +kernel
  rw [e] at z
  unfold noQ
  rw [z]
  refine decide_eq_false fun hm => ?_
  rcases h _ hm with h | h <;> cases h
theorem ascii_of_par {x : Str} (h : par x) : x.cps.all (· < 128) = true := by
  rw [← Array.all_toList, List.all_eq_true]
  intro c hc
  rcases h _ hc with h | h <;> subst h <;> rfl
theorem preK_take (x : Str) (p : Nat) (h : p < x.length) : preK x none (some (p : Int)) = .str ⟨(x.cps.toList.take p).toArray⟩ := by
  have e0 : strSliceIndices none (some (p : Int)) 1 x.length = strSliceIndices (some ((0 : Nat) : Int)) (some (p : Int)) 1 x.length := by
    have : max (0 : Int) (min 0 (x.length : Int)) = 0 := by omega
    simp [strSliceIndices, this]
  have e1 := StrLaws.strSliceIndices_plain (a := 0) (b := p) (len := x.length) (Nat.zero_le _) (Nat.le_of_lt h)
  have e2 := StrLaws.sliced_plain x (a := 0) (b := p) (Nat.zero_le _) (Nat.le_of_lt h)
  unfold preK
  rw [e0, if_neg (by rw [e1]; simp; omega), e2]
  simp
theorem fold_rep (c : Nat) : ∀ (n : Nat) (a : Array Nat), ((List.replicate n #[c]).foldl (· ++ ·) a).toList = a.toList ++ List.replicate n c
  | 0, a => by simp
  | n + 1, a => by
    rw [List.replicate_succ, List.foldl_cons, fold_rep c n, List.replicate_succ]
    simp
noncomputable def mulO (e : Nat) : Option Str := match e with
  | 1 => none
  | e => some ⟨(List.replicate e 41).toArray⟩
theorem cl1 : (")" : Str) = ⟨#[41]⟩ := by decide +kernel
theorem mul_eq (e : Nat) : mulM ")" (e : Int) = mkO (mulO e) := by
  unfold mulM
  rw [cl1]
  match e with
  | 0 => rfl
  | 1 => rfl
  | e + 2 =>
    rw [if_neg (by omega), if_neg (by simp [Str.length]; omega)]
    show Pk.str _ = Pk.str _
    congr 1
    refine Str.ext' (Array.toList_inj.mp ?_)
    have := fold_rep 41 (e + 2) #[]
    rw [show (((e + 2 : Nat) : Int)).toNat = e + 2 from rfl]
    simpa using this
theorem mkS_mulO (e : Nat) : (mkS (mulO e)).cps.toList = List.replicate e 41 := by
  match e with
  | 0 => rfl
  | 1 => rw [show mkS (mulO 1) = ")" from rfl, cl1]; rfl
  | e + 2 => rfl
theorem adS_list (x y : Str) : (adS x y (addM x y)).cps.toList = x.cps.toList ++ y.cps.toList := by
  unfold addM
  by_cases h : x.length == 0
  · rw [if_pos h]
    have : x.cps.toList = [] := by
      have := eq_of_beq h
      unfold Str.length at this
      rw [Array.toList_eq_nil_iff]
      exact Array.size_eq_zero_iff.mp this
    rw [this]; rfl
  · rw [if_neg h]
    by_cases h : y.length == 0
    · rw [if_pos h]
      have : y.cps.toList = [] := by
        have := eq_of_beq h
        unfold Str.length at this
        rw [Array.toList_eq_nil_iff]
        exact Array.size_eq_zero_iff.mp this
      rw [this, List.append_nil]; rfl
    · rw [if_neg h]
      show (x.cps ++ y.cps).toList = _
      simp
theorem par_app {l m : List Nat} (h : ∀ c ∈ l, c = 40 ∨ c = 41) (h' : ∀ c ∈ m, c = 40 ∨ c = 41) : ∀ c ∈ l ++ m, c = 40 ∨ c = 41 := fun c hc =>
  (List.mem_append.mp hc).elim (h c) (h' c)
theorem big_line : 10000 ≤ sizeLine := by decide
theorem whA (x : Str) (hp : par x) (hx : x.length ≤ 100) (p e : Nat) (h : p < x.length) (he : e ≤ 100) :
    WhA x p (e : Int) ⟨(x.cps.toList.take p).toArray⟩ (mulO e) (addM ⟨(x.cps.toList.take p).toArray⟩ (mkS (mulO e))) (chkL (x.cps.toList.take p ++ List.replicate e 41)) := by
  have hl := adS_list ⟨(x.cps.toList.take p).toArray⟩ (mkS (mulO e))
  rw [mkS_mulO] at hl
  have hl' : (adS ⟨(x.cps.toList.take p).toArray⟩ (mkS (mulO e)) (addM ⟨(x.cps.toList.take p).toArray⟩ (mkS (mulO e)))).cps.toList = x.cps.toList.take p ++ List.replicate e 41 := by simpa using hl
  have hpar : par (adS ⟨(x.cps.toList.take p).toArray⟩ (mkS (mulO e)) (addM ⟨(x.cps.toList.take p).toArray⟩ (mkS (mulO e)))) := by
    unfold par
    rw [hl']
    exact par_app (fun c hc => hp c (List.mem_of_mem_take hc)) fun c hc => .inr (List.eq_of_mem_replicate hc)
  refine ⟨decide_eq_true (Int.natCast_nonneg e), preK_take x p h, ?_, mul_eq e, ⟨?_, ?_, ?_⟩, ?_, rfl, ?_, noQ_of_par hpar, hpar, ascii_of_par hpar, by rw [chkS_eq, hl']⟩
  · show Array.size _ ≤ _
    have := big_line
    have h2 : x.cps.toList.length = x.length := rfl
    simp
    omega
  · have h1 : decide ((e : Int) < -(2 ^ 63 : Int)) = false := decide_eq_false (by omega)
    have h2 : decide ((e : Int) ≥ 2 ^ 63) = false := decide_eq_false (by omega)
    rw [h1, h2]; rfl
  · intro h1 _ h3
    have h4 : ((")" : Str).length : Int) = 1 := by rw [cl1]; rfl
    rw [h4] at h3
    have h5 : (1 : Int) ≤ (2 ^ 63 - 1) / e := by
      rw [Int.le_ediv_iff_mul_le (by omega)]
      omega
    omega
  · intro _ _
    have h4 : (")" : Str).length = 1 := by rw [cl1]; rfl
    rw [h4]
    have := big_line
    unfold tooLong
    refine decide_eq_false ?_
    omega
  · have hb := big_line
    match e with
    | 0 => exact Nat.zero_le _
    | 1 => trivial
    | e + 2 =>
      show Array.size _ ≤ _
      simp; omega
  · have hb := big_line
    have h2 : x.cps.toList.length = x.length := rfl
    have hm : (mkS (mulO e)).length ≤ 100 := by
      have := congrArg List.length (mkS_mulO e)
      rw [List.length_replicate] at this
      show (mkS (mulO e)).cps.toList.length ≤ 100
      omega
    unfold addM
    split
    · trivial
    · split
      · trivial
      · show Array.size _ ≤ _
        show ((List.take p x.cps.toList).toArray ++ (mkS (mulO e)).cps).size ≤ _
        rw [Array.size_append]
        have : (List.take p x.cps.toList).toArray.size ≤ 100 := by simp; omega
        have h3 : (mkS (mulO e)).cps.size ≤ 100 := hm
        omega
/-- the place of the while loop's end -/
noncomputable def fnd (l : List Nat) : Nat → Int
  | 0 => -1
  | e + 1 => if chkL (l ++ List.replicate e 41) then e else fnd l e
end Zd
namespace Zd
open PySem PySem.Spec PySem.Calls PyProof.Rows PySem.W PySem.W.X
/-- the depths that the loop tells from place j on -/
noncomputable def dlx (x : List Nat) : Nat → Nat → Int → List Int
  | 0, _, _ => []
  | n + 1, j, d => if x[j]? = some 40 then fnd (x.take j) (d + 2).toNat :: dlx x n (j + 1) (fnd (x.take j) (d + 2).toNat) else dlx x n (j + 1) d
noncomputable def tagL : List Int → Nat → (Nat → Nat) → List Value
  | [], _, _ => []
  | d :: ds, k, f => .int d (f k) :: tagL ds (k + 1) f
noncomputable def tagT (ts : List (Int × Nat)) : List Value := ts.map fun p => .int p.1 p.2
theorem tag_eq (f : Nat → Nat) : ∀ (ts : List (Int × Nat)) (k : Nat), (∀ i, f (k + i) = ((ts[i]?).map Prod.snd).getD 0) → tagL (ts.map Prod.fst) k f = tagT ts
  | [], _, _ => rfl
  | p :: ts, k, h => by
    show Value.int p.1 (f k) :: _ = Value.int p.1 p.2 :: _
    have h0 := h 0
    rw [show f k = p.2 from h0, tag_eq f ts (k + 1) fun i => by rw [Nat.add_right_comm, Nat.add_assoc]; exact h (i + 1)]
    rfl
theorem fnd_ge (l : List Nat) : ∀ e, -1 ≤ fnd l e ∧ fnd l e ≤ (e : Int) - 1
  | 0 => ⟨Int.le_refl _, Int.le_refl _⟩
  | e + 1 => by
    unfold fnd
    have := fnd_ge l e
    split <;> omega
section
variable {prog : Program} {P : Params} {b1 b2 : Bool} {w : World} {A : Around} {W : List (Bool × Nat)} {s₀ : Shared} {R : Result → Shared → Prop} {C k0 k1 k2 : Nat} {x : Str} {xt L r : Nat}
theorem dep_while (hS : w.params = pq P b1 b2) (hA : Room 5 A) (hp : par x) (hx : x.length ≤ 100) {k3 p pt : Nat} (hlt : p < x.length) {X1 X2 : Obj} : ∀ (e : Nat) (d : Int) (dt sz tk : Nat) (s : Shared), d = (e : Int) - 1 → e ≤ 100 →
    Rep (stQ P b1 b2) W s₀ [.o C (frD P k0 k1 k2 k3 x xt L d dt (some ((p : Int), pt))), .o L X1, .o r X2] sz tk s →
    (∀ dt' sz' tk' s', Rep (stQ P b1 b2) W s₀ [.o C (frD P k0 k1 k2 k3 x xt L (fnd (x.cps.toList.take p) e) dt' (some ((p : Int), pt))), .o L X1, .o r X2] sz' tk' s' → R (.ok .next) s') →
    codeAny (model prog w) A (codeDW C) R s
  | 0, d, dt, sz, tk, s, hd, _, D, h => by
    subst hd
    exact code_ret (tDWe 0 prog P b1 b2 C k0 k1 k2 k3 x xt L _ dt sz tk r X1 X2 rfl _) hS hA rfl D fun fr s' D' => h _ _ _ _ D'
  | e + 1, d, dt, sz, tk, s, hd, he, D, h => by
    have hd' : d = (e : Int) := by omega
    subst hd'
    have a := whA x hp hx p e hlt (by omega)
    unfold fnd at h
    cases hb : chkL (x.cps.toList.take p ++ List.replicate e 41) with
    | true =>
      rw [hb] at a
      rw [hb, if_pos rfl] at h
      exact code_ret (tDWy 0 prog P b1 b2 C k0 k1 k2 k3 x xt L _ dt p pt sz tk r X1 X2 _ _ _ a) hS hA rfl D fun fr s' D' => h _ _ _ _ D'
    | false =>
      rw [hb] at a
      rw [hb, if_neg (by decide)] at h
      refine code_again (tDWn 0 prog P b1 b2 C k0 k1 k2 k3 x xt L _ dt p pt sz tk r X1 X2 _ _ _ a) hS hA rfl D fun fr s' D' => ?_
      exact dep_while hS hA hp hx hlt e _ _ _ _ _ rfl (by omega) D' h
theorem dep_for (hS : w.params = pq P b1 b2) (hA : Room 6 A) (hp : par x) (hx : x.length ≤ 100) : ∀ (n j k3 : Nat) (d : Int) (dt : Nat) (q : Option (Int × Nat)) (ts : List (Int × Nat)) (sz tk : Nat) (s : Shared), j + n = x.length → -1 ≤ d → d < (j : Int) → ts.length ≤ j →
    Rep (stQ P b1 b2) W s₀ (ledD P C L r k0 k1 k2 k3 x xt d dt q (tagT ts) ts.length j (n : Int)) sz tk s →
    (∀ k3' d' dt' q' ts' sz' tk' s', ts'.map Prod.fst = ts.map Prod.fst ++ dlx x.cps.toList n j d → Rep (stQ P b1 b2) W s₀ [.o C (frD P k0 k1 k2 k3' x xt L d' dt' q'), .o L (seqO (tagT ts') ts'.length)] sz' tk' s' → R (.ok .next) s') →
    codeAny (model prog w) A (codeDF C r) R s
  | 0, j, k3, d, dt, q, ts, sz, tk, s, hj, hd, hdj, hts, D, h => by
    refine code_again (tDFe 0 prog P b1 b2 C k0 k1 k2 k3 x xt L d dt sz tk r q (tagT ts) ts.length j) hS (lv := 5) ⟨hA.1, by have := hA.2.1; omega, by have := hA.2.2; omega⟩ rfl D fun fr s1 D1 => ?_
    exact code_ret (tDBl 0 prog P b1 b2 C _ _ _) hS (lv := 5) ⟨hA.1, by have := hA.2.1; omega, by have := hA.2.2; omega⟩ rfl D1 fun fr s2 D2 => h _ _ _ _ ts _ _ _ (by unfold dlx; rw [List.append_nil]) D2
  | n + 1, j, k3, d, dt, q, ts, sz, tk, s, hj, hd, hdj, hts, D, h => by
    have hA5 : Room 5 A := ⟨hA.1, by have := hA.2.1; omega, by have := hA.2.2; omega⟩
    have hlt : j < x.length := by omega
    have hlt' : j < x.cps.size := hlt
    have hr : (decide ((j : Int) < -(2 ^ 63 : Int)) || decide ((j : Int) ≥ 2 ^ 63)) = false := by
      rw [decide_eq_false (by omega), decide_eq_false (by omega)]; rfl
    have hget : (seqIndex? (j : Int) x.length).bind (x.cps[·]?) = x.cps[j]? := by
      have : seqIndex? (j : Int) x.length = some j := by
        unfold seqIndex?
        have e : ¬ ((j : Int) < 0) := by omega
        simp [e, hlt]
      rw [this]; rfl
    have hcl : x.cps[j]? = some x.cps[j] := Array.getElem?_eq_getElem hlt'
    have hcl' : x.cps.toList[j]? = x.cps[j]? := Array.getElem?_toList
    have hc : x.cps[j] = 40 ∨ x.cps[j] = 41 := hp _ (Array.getElem_mem_toList _)
    have hsub : (((n + 1 : Nat) : Int) - 1) = (n : Int) := by omega
    rcases hc with hc | hc
    · rw [hc] at hcl
      have e : dlx x.cps.toList (n + 1) j d = fnd (x.cps.toList.take j) (d + 2).toNat :: dlx x.cps.toList n (j + 1) (fnd (x.cps.toList.take j) (d + 2).toNat) := by
        rw [dlx, if_pos (hcl'.trans hcl)]
      rw [e] at h
      have hg := hget.trans hcl
      have e0 : ((d + 2).toNat : Int) = d + 2 := Int.toNat_of_nonneg (by omega)
      refine code_of_wp (S := SQ prog P b1 b2) ?_
      refine run_to (laws_none (S := SQ prog P b1 b2) (lv := 5) (finP (model prog w) A R, fun e s' => R (.error e) s') hS hA5) hS _ _ [0, 1, 2] (tDFo 0 prog P b1 b2 C k0 k1 k2 k3 x xt L d dt sz tk r q (tagT ts) ts.length j n hr hg) rfl
        (fun fr => ⟨fun _ h => (nomatch h), fun s2 D2 => ?_⟩) D
      rw [hsub] at D2
      refine means_call ?_
      have hA5' : Room 5 (A.under (codeDF C r)) := room_under hA (Nat.le_of_ble_eq_true (by kernel_rfl)) (Nat.le_of_ble_eq_true (by kernel_rfl))
      refine dep_while hS hA5' hp hx hlt (d + 2).toNat (d + 1) _ _ _ s2 (by omega) (by omega) D2 fun dt' sz' tk' s3 D3 => ?_
      have hl : (tagT ts).length ≤ sizeLine := by
        have := big_line
        unfold tagT
        rw [List.length_map]; omega
      have hb := fnd_ge (x.cps.toList.take j) (d + 2).toNat
      refine run_to (laws_none (S := SQ prog P b1 b2) (lv := 5) (finP (model prog w) A R, fun e s' => R (.error e) s') hS hA5) hS _ _ [0, 1, 2] (tDFp 0 prog P b1 b2 C k0 k1 k2 k3 x xt L d dt sz tk r q (tagT ts) ts.length j n hl hr hg fr _ dt' _ _ _ _ _ sz' tk') rfl
        (fun fr => ⟨fun _ h => (nomatch h), fun s4 D4 q c' => wpAny_pure ⟨q, ?_⟩⟩) D3
      have et : tagT ts ++ [.int (fnd (x.cps.toList.take j) (d + 2).toNat) dt'] = tagT (ts ++ [(fnd (x.cps.toList.take j) (d + 2).toNat, dt')]) := by
        unfold tagT; rw [List.map_append]; rfl
      have el : ts.length + 1 = (ts ++ [(fnd (x.cps.toList.take j) (d + 2).toNat, dt')]).length := by simp
      rw [et, el] at D4
      refine dep_for hS hA hp hx n (j + 1) _ _ _ _ _ _ _ s4 (by omega) (by omega) (by omega) (by rw [← el]; omega) D4 fun k3' d' dt'' q' ts' sz'' tk'' s5 e5 D5 => h _ _ _ _ ts' _ _ _ ?_ D5
      rw [e5, List.map_append, List.append_assoc]
      rfl
    · rw [hc] at hcl
      have e : dlx x.cps.toList (n + 1) j d = dlx x.cps.toList n (j + 1) d := by
        rw [dlx, if_neg (by rw [hcl', hcl]; decide)]
      rw [e] at h
      refine code_again (tDFc 0 prog P b1 b2 C k0 k1 k2 k3 x xt L d dt sz tk r q (tagT ts) ts.length j n hr (hget.trans hcl)) hS hA5 rfl D fun fr s1 D1 => ?_
      rw [hsub] at D1
      exact dep_for hS hA hp hx n (j + 1) _ _ _ _ _ _ _ s1 (by omega) hd (by omega) (by omega) D1 h
end
end Zd
namespace Zd
open PySem PySem.Spec PySem.Calls PyProof.Rows PySem.W PySem.W.X
theorem tDr (lv : Nat) (prog : Program) (P : Params) (b1 b2 : Bool) (C k0 k1 k2 k3 : Nat) (x : Str) (xt L : Nat) (d : Int) (dt sz tk : Nat) (q : Option (Int × Nat)) (X : Obj) (z k : Nat) (hn : (x.length : Int) = ((14 : Nat) : Int)) (fr fr2 : Nat → Fv) (u0 u1 u2 : Nat) :
    let o := run (stQ P b1 b2) (SQ prog P b1 b2) (lv + 6) 50 [.d 0] fr2 (body240 C) [] ((gDb lv prog P b1 b2 C u0 x xt u1 u2 14 hn fr).ck (.ok .next)) [.o C (frD P k0 k1 k2 k3 x xt L d dt q), .o L X] z k []
    (o.sel [1], o.cs.map Prod.fst) = (.ret (.ok (.ret (.ref L))) [.o L X] z k [], o.cs.map Prod.snd) := by
  cases q <;> cases b2 <;> kernel_rfl
theorem means_retL {prog : Program} {P : Params} {b1 b2 : Bool} {w : World} {A : Around} {W : List (Bool × Nat)} {s₀ : Shared} {lv : Nat} {led led1 : Led} {sz tk sz1 tk1 n : Nat} {F : Post} {c : Code} {t : Sem Fin} {r : Value} {js : List Nat} {hs : List (H (stQ P b1 b2) (SQ prog P b1 b2))} {s : Shared} (hS : w.params = pq P b1 b2) (hA : Room lv A)
    (e : ∀ fr, ((run (stQ P b1 b2) (SQ prog P b1 b2) lv n hs fr c [] t led sz tk []).sel js, (run (stQ P b1 b2) (SQ prog P b1 b2) lv n hs fr c [] t led sz tk []).cs.map Prod.fst) = (.ret (.ok (.ret r)) led1 sz1 tk1 [], (run (stQ P b1 b2) (SQ prog P b1 b2) lv n hs fr c [] t led sz tk []).cs.map Prod.snd))
    (hj : incr js = true) (D : Rep (stQ P b1 b2) W s₀ led sz tk s) (h : ∀ s', Rep (stQ P b1 b2) W s₀ led1 sz1 tk1 s' → F.1 (.done (.ret r)) s') : Means (model prog w) A F c [] t s :=
  run_to (S := SQ prog P b1 b2) (laws_none F hS hA) hS n hs js e hj (fun fr => ⟨fun _ h => (nomatch h), fun s' D' c' => wpAny_pure (h s' D')⟩) D
noncomputable def inst240 (ds : List Int) (cs : List (Tm × Tm)) : Inst := { lv := 7, cs, pre := [], upd := fun _ _ _ => [], res := fun _ _ f => .ok (.ret (.ref (f.n 2))), new := fun _ _ f => [.o (f.n 2) (seqO (tagL ds 3 f.n) ds.length)] }
section
variable {prog : Program} {P : Params} {b1 b2 : Bool}
theorem triple240 (x : Str) (xt : Nat) (hp : par x) (hx : x.length = 14) (cs : List (Tm × Tm)) : Triple (stQ P b1 b2) (SQ prog P b1 b2) (code240 (.str x xt)) (inst240 (dlx x.cps.toList 14 0 (-1)) cs) := by
  intro w hS A s sz tk g l hA hst hpre hnd hlow hb hsz htk
  refine wp_of_code ?_
  have D := rep_start (led := []) hst (fun _ h => (nomatch h)) List.nodup_nil (fun _ h => (nomatch h)) hb hsz htk
  have hn : (x.length : Int) = ((14 : Nat) : Int) := by rw [hx]
  refine def_call (lv := 7) (call240 7 prog P b1 b2 (.str x xt) sz tk) hS hA rfl rfl rfl D fun s1 D1 => ?_
  refine code_of_wp (S := SQ prog P b1 b2) ?_
  have hA7 : Room 7 A := hA
  refine run_to (laws_none (S := SQ prog P b1 b2) (lv := 7) (finP (model prog w) A (After (inst240 (dlx x.cps.toList 14 0 (-1)) cs) sz tk s), fun e s' => After (inst240 (dlx x.cps.toList 14 0 (-1)) cs) sz tk s (.error e) s') hS hA) hS _ _ [0, 1, 3] (tDb 1 prog P b1 b2 sz tk xt (sz + 1) (tk + 1) x hn) rfl
    (fun fr => ⟨fun _ h => (nomatch h), fun s2 D2 => ?_⟩) D1
  refine means_call ?_
  have hA6 : Room 6 (A.under (body240 sz)) := room_under hA7 (by show 1 + 0 + 0 + 0 ≤ 50; decide) (by show 3 * 1 ≤ 150; decide)
  refine dep_for (ts := []) hS hA6 hp (by omega) 14 0 _ _ _ _ _ _ s2 (by omega) (by omega) (by omega) (Nat.le_refl _) D2 fun k3' d' dt' q' ts' sz' tk' s3 e3 D3 => ?_
  refine means_retL (lv := 7) hS hA (tDr 1 prog P b1 b2 sz _ _ _ _ x xt _ d' dt' 0 0 q' _ sz' tk' hn fr · tk (sz + 1) (tk + 1)) rfl D3 fun s4 D4 => ?_
  have e3' : ts'.map Prod.fst = dlx x.cps.toList 14 0 (-1) := e3
  let f : Fv := { Fv.z with n := fun k => match k with | 0 => sz' | 1 => tk' | 2 => sz + 1 | k + 3 => ((ts'[k]?).map Prod.snd).getD 0 }
  have et : tagL (dlx x.cps.toList 14 0 (-1)) 3 f.n = tagT ts' := by
    rw [← e3']
    exact tag_eq f.n ts' 3 fun i => by rw [Nat.add_comm]
  have el : (dlx x.cps.toList 14 0 (-1)).length = ts'.length := by rw [← e3', List.length_map]
  refine rep_end (i := inst240 (dlx x.cps.toList 14 0 (-1)) cs) f D4 rfl rfl rfl ?_ (fun _ _ h => (nomatch h))
  show _ = [] ++ [Cell.o (sz + 1) (seqO (tagL _ 3 f.n) _)]
  rw [et, el]
  rfl
noncomputable def c240 (x0 : Str) (ds : List Int) (hp : par x0) (hx : x0.length = 14) (hd : dlx x0.cps.toList 14 0 (-1) = ds) : Ctr (stQ P b1 b2) (SQ prog P b1 b2) :=
  ctrDef 240 (fun | [.str x t] => some (inst240 ds [(.s x, .s x0)]) | _ => none) fun args i hi hcs => by
    split at hi
    · cases hi
      obtain ⟨e, _⟩ := okS hcs
      subst e hd
      exact ⟨fun _ _ _ => rfl, triple240 _ _ hp hx _⟩
    · cases hi
end
end Zd
namespace Zd
open PySem PySem.Spec PySem.Calls PyProof.Rows PySem.W PySem.W.X
noncomputable def ltr (i : Nat) : Str := ⟨#[97 + i]⟩
noncomputable def entS (P : Params) (n : Str) (t : Nat) (v : Value) : DictEntry := ⟨hsh P n, .str n t, v⟩
/-- the dict of the first k letters -/
structure Vs where
  t : Nat → Nat
  v : Nat → Int
  u : Nat → Nat
noncomputable def dctE (P : Params) (V : Vs) : Nat → Nat → List DictEntry
  | 0, _ => []
  | k + 1, i => entS P (ltr i) (V.t i) (.int (V.v i) (V.u i)) :: dctE P V k (i + 1)
noncomputable def dctO (P : Params) (k : Nat) (V : Vs) : Obj := ⟨.type "dict", none, .dict (dctE P V k 0).toArray k, #[]⟩
noncomputable def sumTo (v : Nat → Int) : Nat → Int
  | 0 => 0
  | k + 1 => sumTo v k + v k
noncomputable def rept {α : Type} (l : List α) : Nat → List α
  | 0 => []
  | k + 1 => l ++ rept l k
noncomputable def Out.gsz : Out → Nat
  | .ret _ _ sz _ _ => sz
  | .again _ _ sz _ _ => sz
  | .at _ _ _ _ sz _ _ => sz
  | _ => 0
noncomputable def Out.gtk : Out → Nat
  | .ret _ _ _ tk _ => tk
  | .again _ _ _ tk _ => tk
  | .at _ _ _ _ _ tk _ => tk
  | _ => 0
noncomputable def Out.rtk : Out → Nat
  | .ret (.ok (.ret (.int _ u))) _ _ _ _ => u
  | .ret (.ok (.ret (.str _ u))) _ _ _ _ => u
  | _ => 0
section
variable (lv : Nat) (prog : Program) (P : Params) (b1 b2 : Bool) (D : Nat) (X : Obj) (sz tk : Nat) (V : Vs)
theorem call228' (fr : Nat → Fv) :
    let o := run (stQ P b1 b2) (SQ prog P b1 b2) lv 40 [.s 228, .s 227, .d 1, .d 1] fr (code228 (.ref D)) [] (denZ (code228 (.ref D))) [.o D X] sz tk []
    (o.sel [0, 1], o.cs.map Prod.fst) = (.at (code228 (.ref D)) [] (entered (body228 sz)) [.o D X, .o sz (frm [ent P "callers" tk (.ref D)])] (sz + 1) (tk + 1) [], o.cs.map Prod.snd) := by
  kernel_rfl
noncomputable def gCnt (k : Nat) (C t0 : Nat) (fr : Nat → Fv) : Out := run (stQ P b1 b2) (SQ prog P b1 b2) (lv + 1) 2000
  ([.d 1, .d 1, .d 1, .d 0, .d 0, .d 0, .d 0, .n, .d 0, .d 0, .d 2, .d 2, .n, .d 2, .d 2, .d 0, .d 0, .d 3, .n] ++
   rept [.d 3, .n, .d 3, .d 3, .d 3, .d 0, .d 0, .d 3, .d 3, .d 3, .d 3, .d 3, .d 3, .d 1, .d 1, .d 1, .d 1, .n, .d 1, .d 1] k ++ [.d 3, .n, .d 3, .d 3, .d 3, .d 0, .d 0, .d 3, .d 3, .d 3, .d 5, .d 1])
  fr (body228 C) [] (denZ (body228 C)) [.o (D + 277) (dctO P k V), .o C (frm [ent P "callers" t0 (.ref (D + 277))])] sz tk []
theorem tCnt (k : Nat) (hk : k < 8) (C t0 : Nat) (fr : Nat → Fv) :
    let o := gCnt lv prog P b1 b2 D sz tk V k C t0 fr
    (o.sel [0], o.cs.map Prod.fst) = (.ret (.ok (.ret (.int (sumTo V.v k) o.rtk))) [.o (D + 277) (dctO P k V)] o.gsz o.gtk [], o.cs.map Prod.snd) := by
  cases b2
  · match k, hk with
    | 0, _ => kernel_rfl
    | 1, _ => kernel_rfl
    | 2, _ => kernel_rfl
    | 3, _ => kernel_rfl
    | 4, _ => kernel_rfl
    | 5, _ => kernel_rfl
    | 6, _ => kernel_rfl
    | 7, _ => kernel_rfl
    | k + 8, h => exact absurd h (by omega)
  · match k, hk with
    | 0, _ => kernel_rfl
    | 1, _ => kernel_rfl
    | 2, _ => kernel_rfl
    | 3, _ => kernel_rfl
    | 4, _ => kernel_rfl
    | 5, _ => kernel_rfl
    | 6, _ => kernel_rfl
    | 7, _ => kernel_rfl
    | k + 8, h => exact absurd h (by omega)
end
noncomputable def inst228 (P : Params) (D k : Nat) (V : Vs) (cs : List (Tm × Tm)) : Inst := { lv := 2, cs, pre := [.o D (dctO P k V)], upd := fun _ _ _ => [.o D (dctO P k V)], res := fun _ _ f => .ok (.ret (.int (sumTo V.v k) (f.n 2))), new := fun _ _ _ => [] }
section
variable {prog : Program} {P : Params} {b1 b2 : Bool}
theorem triple228 (D k : Nat) (V : Vs) (hk : k < 8) (cs : List (Tm × Tm)) : Triple (stQ P b1 b2) (SQ prog P b1 b2) (code228 (.ref D)) (inst228 P D k V cs) := by
  intro w hS A s sz tk g l hA hst hpre hnd hlow hb hsz htk
  refine wp_of_code ?_
  have hD : 277 ≤ D := hlow _ (.head _)
  obtain ⟨D', rfl⟩ : ∃ D', D = D' + 277 := ⟨D - 277, by omega⟩
  have D0 := rep_start (led := [.o (D' + 277) (dctO P k V)]) hst hpre hnd hlow hb hsz htk
  refine def_call (lv := 2) (call228' 2 prog P b1 b2 (D' + 277) (dctO P k V) sz tk) hS hA rfl rfl rfl D0 fun s1 D1 => ?_
  refine code_ret (tCnt 1 prog P b1 b2 D' (sz + 1) (tk + 1) V k hk sz tk) hS (lv := 2) hA rfl D1 fun fr s2 D2 => ?_
  exact rep_end (i := inst228 P (D' + 277) k V cs) { Fv.z with n := fun j => match j with | 0 => _ | 1 => _ | _ => _ } D2 rfl rfl rfl (by rfl) (fun _ h => (nomatch h))
noncomputable def c228 (D0 k : Nat) (V : Vs) (hk : k < 8) : Ctr (stQ P b1 b2) (SQ prog P b1 b2) :=
  ctrDef 228 (fun | [.ref a] => some (inst228 P D0 k V [(.a a, .a D0)]) | _ => none) fun args i hi hcs => by
    split at hi
    · cases hi
      obtain ⟨e, _⟩ := okA hcs
      subst e
      exact ⟨fun _ _ _ => rfl, triple228 _ _ _ hk _⟩
    · cases hi
end
end Zd
namespace Zd
open PySem PySem.Spec PySem.Calls PyProof.Rows PySem.W PySem.W.X
noncomputable def for221a : PySem.Expr × List Stmt × List Stmt := forOf ((partsOf (topStmt 14)).2.1[1]?)
noncomputable def for221b : PySem.Expr × List Stmt × List Stmt := forOf ((partsOf (topStmt 14)).2.1[2]?)
noncomputable def codeAa (C it : Nat) : Code := .forLoop for221a.1 (.ref it) for221a.2.1 for221a.2.2 (env221 C)
noncomputable def codeAb (C it : Nat) : Code := .forLoop for221b.1 (.ref it) for221b.2.1 for221b.2.2 (env221 C)
noncomputable def restAa (C it tup : Nat) : Sem Fin := restZ for221a.1 (.ref it) for221a.2.1 for221a.2.2 (env221 C) (.ref tup)
noncomputable def tailAa (C it tup : Nat) : Sem Fin := tailZ for221a.1 (.ref it) for221a.2.1 for221a.2.2 (env221 C) (.ref tup)
noncomputable def restAb (C it tup : Nat) : Sem Fin := restZ for221b.1 (.ref it) for221b.2.1 for221b.2.2 (env221 C) (.ref tup)
noncomputable def tailAb (C it tup : Nat) : Sem Fin := tailZ for221b.1 (.ref it) for221b.2.1 for221b.2.2 (env221 C) (.ref tup)
/-- the dict of one letter -/
noncomputable def dct1 (P : Params) (j t : Nat) (v : Int) (u : Nat) : Obj := ⟨.type "dict", none, .dict [entS P (ltr j) t (.int v u)].toArray 1, #[]⟩
noncomputable def itO (own : Value) (D i k : Nat) (lk lv : Value) : Obj := ⟨.type "dict_itemiterator", none, .fields #[own, .bool false, .ref (D + 277), .int ((i + 1 : Nat) : Int) 0, .int (k : Int) 0, .int (k : Int) 0, lk, lv], #[]⟩
noncomputable def itA (own : Value) (D i : Nat) (V : Vs) (k : Nat) : Obj := itO own D i k (.str (ltr i) (V.t i)) (.int (V.v i) (V.u i))
noncomputable def frA (P : Params) (D E N k0 k1 k2 k3 k4 : Nat) (q : Option (Value × Value)) : Obj :=
  frm ([ent P "target" k0 (.ref (D + 277)), ent P "source" k1 (.ref (E + 277)), ent P "new_callers" k2 (.ref N)] ++ (match q with | some v => [ent P "func" k3 v.1, ent P "caller" k4 v.2] | none => []))
noncomputable def tupV (V : Vs) (i : Nat) : Obj := tupO [.str (ltr i) (V.t i), .int (V.v i) (V.u i)]
section
variable (lv : Nat) (prog : Program) (P : Params) (b1 b2 : Bool) (D E C k0 k1 : Nat) (sz tk : Nat) (V : Vs) (k j t : Nat) (v : Int) (u : Nat)
theorem call221' (X Y : Obj) (fr : Nat → Fv) :
    let o := run (stQ P b1 b2) (SQ prog P b1 b2) lv 40 [.s 221, .s 220, .d 2, .d 2, .d 2, .d 2] fr (code221 (.ref D) (.ref E)) [] (denZ (code221 (.ref D) (.ref E))) [.o D X, .o E Y] sz tk []
    (o.sel [0, 1, 2], o.cs.map Prod.fst) = (.at (code221 (.ref D) (.ref E)) [] (entered (body221 sz)) [.o D X, .o E Y, .o sz (frm [ent P "target" tk (.ref D), ent P "source" (tk + 1) (.ref E)])] (sz + 1) (tk + 2) [], o.cs.map Prod.snd) := by
  kernel_rfl
noncomputable abbrev hNx (stat : Nat → Option Obj) (S : Setting) (a it : Nat) : List (H stat S) := [.d it, .n, .d it, .d it, .d it, .d a, .d a, .d it, .d it, .d it]
noncomputable abbrev hIt (P : Params) (prog : Program) (b1 b2 : Bool) (a it : Nat) : List (H (stQ P b1 b2) (SQ prog P b1 b2)) := hNx _ _ a it ++ rept [.d it] 14
noncomputable def gAa0 (fr : Nat → Fv) : Out := run (stQ P b1 b2) (SQ prog P b1 b2) (lv + 1) 300
  ([.d 2, .d 2, .d 2, .d 0, .d 0, .d 0, .d 0, .n, .d 0, .d 0, .d 4, .d 4, .n, .d 4, .d 4, .d 0, .d 0, .d 5, .n] ++ hIt P prog b1 b2 0 5)
  fr (body221 C) [] (denZ (body221 C)) [.o (D + 277) (dctO P k V), .o (E + 277) (dct1 P j t v u), .o C (frm [ent P "target" k0 (.ref (D + 277)), ent P "source" k1 (.ref (E + 277))])] sz tk []
theorem tAa0 (h0 : 0 < k) (hk : k < 8) (fr : Nat → Fv) :
    let o := gAa0 lv prog P b1 b2 D E C k0 k1 sz tk V k j t v u fr
    (o.sel [0, 1, 2, 3, 5, 6], o.cs.map Prod.fst) = (.at (codeAa C (sz + 2)) o.frs (restAa C (sz + 2) (sz + 3)) [.o (D + 277) (dctO P k V), .o (E + 277) (dct1 P j t v u), .o C (frA P D E sz k0 k1 tk 0 0 none), .o sz (dctO P 0 V), .o (sz + 2) (itA (rawInt ((sz + 3 : Nat) : Int)) D 0 V k), .o (sz + 3) (tupV V 0)] (sz + 4) (tk + 1) [], o.cs.map Prod.snd) := by
  cases b2
  · match k, h0, hk with
    | 1, _, _ => kernel_rfl
    | 2, _, _ => kernel_rfl
    | 3, _, _ => kernel_rfl
    | 4, _, _ => kernel_rfl
    | 5, _, _ => kernel_rfl
    | 6, _, _ => kernel_rfl
    | 7, _, _ => kernel_rfl
    | 0, h, _ => exact absurd h (by omega)
    | k + 8, _, h => exact absurd h (by omega)
  · match k, h0, hk with
    | 1, _, _ => kernel_rfl
    | 2, _, _ => kernel_rfl
    | 3, _, _ => kernel_rfl
    | 4, _, _ => kernel_rfl
    | 5, _, _ => kernel_rfl
    | 6, _, _ => kernel_rfl
    | 7, _, _ => kernel_rfl
    | 0, h, _ => exact absurd h (by omega)
    | k + 8, _, h => exact absurd h (by omega)
end
end Zd
namespace Zd
open PySem PySem.Spec PySem.Calls PyProof.Rows PySem.W PySem.W.X
section
variable (lv : Nat) (prog : Program) (P : Params) (b1 b2 : Bool) (D E C N it tup k0 k1 k2 k3 k4 : Nat) (q : Option (Value × Value)) (sz tk : Nat) (V : Vs) (k i j t : Nat) (v : Int) (u : Nat) (X : Fr)
noncomputable abbrev hTl (P : Params) (prog : Program) (b1 b2 : Bool) (tup : Nat) : List (H (stQ P b1 b2) (SQ prog P b1 b2)) :=
  [.d tup, .d tup, .d tup, .n, .d tup, .d (tup + 1), .d (tup + 1), .n, .d (tup + 1), .d (tup + 1), .d (tup + 1), .d tup, .d (tup + 1), .d (tup + 1), .d (tup + 1), .n, .d (tup + 1), .d (tup + 1), .d (tup + 1), .d tup, .d (tup + 1), .d (tup + 1), .d (tup + 1), .n, .d (tup + 1), .d (tup + 1), .d (tup + 1), .d tup, .d (tup + 1), .d (tup + 1), .d (tup + 3)]
noncomputable abbrev hSt (P : Params) (prog : Program) (b1 b2 : Bool) : List (H (stQ P b1 b2) (SQ prog P b1 b2)) := [.d 2, .d 2, .d 2, .d 2, .d 2, .d 2, .d 2, .d 3, .d 3, .n, .d 3, .d 3, .n, .d 3, .d 3, .d 3, .d 3]
noncomputable abbrev ledA (P : Params) (D E C N it tup k0 k1 k2 k3 k4 : Nat) (q : Option (Value × Value)) (V : Vs) (k i : Nat) (own : Value) (j t : Nat) (v : Int) (u : Nat) : Led := [.o (D + 277) (dctO P k V), .o (E + 277) (dct1 P j t v u), .o C (frA P D E N k0 k1 k2 k3 k4 q), .o N (dctO P i V), .o it (itA own D i V k), .o tup (tupV V i)]
noncomputable def gAa (fr : Nat → Fv) : Out := run (stQ P b1 b2) (SQ prog P b1 b2) (lv + 1) 300
  (hTl P prog b1 b2 5 ++ hSt P prog b1 b2 ++ hIt P prog b1 b2 0 4) fr (codeAa C it) [X] (tailAa C it tup) (ledA P D E C (N + 277) it tup k0 k1 k2 k3 k4 q V k i .none j t v u) sz tk []
noncomputable def kq' (q : Option (Value × Value)) (a b : Nat) : Nat := match q with | none => a | some _ => b
theorem tAaN (hi : i + 1 < k) (hk : k < 8) (fr : Nat → Fv) :
    let o := gAa lv prog P b1 b2 D E C N it tup k0 k1 k2 k3 k4 none sz tk V k i j t v u X fr
    (o.sel [0, 1, 2, 3, 4, 9], o.cs.map Prod.fst) = (.at (codeAa C it) [X] (restAa C it (sz + 3)) (ledA P D E C (N + 277) it (sz + 3) k0 k1 k2 tk (tk + 1) (some (.str (ltr i) (V.t i), .int (V.v i) (V.u i))) V k (i + 1) (rawInt ((sz + 3 : Nat) : Int)) j t v u) (sz + 4) o.gtk [], o.cs.map Prod.snd) := by
  cases b2
  · match k, i, hi, hk with
    | 2, 0, _, _ => kernel_rfl
    | 3, 0, _, _ => kernel_rfl
    | 3, 1, _, _ => kernel_rfl
    | 4, 0, _, _ => kernel_rfl
    | 4, 1, _, _ => kernel_rfl
    | 4, 2, _, _ => kernel_rfl
    | 5, 0, _, _ => kernel_rfl
    | 5, 1, _, _ => kernel_rfl
    | 5, 2, _, _ => kernel_rfl
    | 5, 3, _, _ => kernel_rfl
    | 6, 0, _, _ => kernel_rfl
    | 6, 1, _, _ => kernel_rfl
    | 6, 2, _, _ => kernel_rfl
    | 6, 3, _, _ => kernel_rfl
    | 6, 4, _, _ => kernel_rfl
    | 7, 0, _, _ => kernel_rfl
    | 7, 1, _, _ => kernel_rfl
    | 7, 2, _, _ => kernel_rfl
    | 7, 3, _, _ => kernel_rfl
    | 7, 4, _, _ => kernel_rfl
    | 7, 5, _, _ => kernel_rfl
    | 0, i, h, _ => exact absurd h (by omega)
    | 1, i, h, _ => exact absurd h (by omega)
    | 2, i + 1, h, _ => exact absurd h (by omega)
    | 3, i + 2, h, _ => exact absurd h (by omega)
    | 4, i + 3, h, _ => exact absurd h (by omega)
    | 5, i + 4, h, _ => exact absurd h (by omega)
    | 6, i + 5, h, _ => exact absurd h (by omega)
    | 7, i + 6, h, _ => exact absurd h (by omega)
    | k + 8, i, _, h => exact absurd h (by omega)
  · match k, i, hi, hk with
    | 2, 0, _, _ => kernel_rfl
    | 3, 0, _, _ => kernel_rfl
    | 3, 1, _, _ => kernel_rfl
    | 4, 0, _, _ => kernel_rfl
    | 4, 1, _, _ => kernel_rfl
    | 4, 2, _, _ => kernel_rfl
    | 5, 0, _, _ => kernel_rfl
    | 5, 1, _, _ => kernel_rfl
    | 5, 2, _, _ => kernel_rfl
    | 5, 3, _, _ => kernel_rfl
    | 6, 0, _, _ => kernel_rfl
    | 6, 1, _, _ => kernel_rfl
    | 6, 2, _, _ => kernel_rfl
    | 6, 3, _, _ => kernel_rfl
    | 6, 4, _, _ => kernel_rfl
    | 7, 0, _, _ => kernel_rfl
    | 7, 1, _, _ => kernel_rfl
    | 7, 2, _, _ => kernel_rfl
    | 7, 3, _, _ => kernel_rfl
    | 7, 4, _, _ => kernel_rfl
    | 7, 5, _, _ => kernel_rfl
    | 0, i, h, _ => exact absurd h (by omega)
    | 1, i, h, _ => exact absurd h (by omega)
    | 2, i + 1, h, _ => exact absurd h (by omega)
    | 3, i + 2, h, _ => exact absurd h (by omega)
    | 4, i + 3, h, _ => exact absurd h (by omega)
    | 5, i + 4, h, _ => exact absurd h (by omega)
    | 6, i + 5, h, _ => exact absurd h (by omega)
    | 7, i + 6, h, _ => exact absurd h (by omega)
    | k + 8, i, _, h => exact absurd h (by omega)
theorem tAaS (q' : Value × Value) (hi : i + 1 < k) (hk : k < 8) (fr : Nat → Fv) :
    let o := gAa lv prog P b1 b2 D E C N it tup k0 k1 k2 k3 k4 (some q') sz tk V k i j t v u X fr
    (o.sel [0, 1, 2, 3, 4, 9], o.cs.map Prod.fst) = (.at (codeAa C it) [X] (restAa C it (sz + 3)) (ledA P D E C (N + 277) it (sz + 3) k0 k1 k2 k3 k4 (some (.str (ltr i) (V.t i), .int (V.v i) (V.u i))) V k (i + 1) (rawInt ((sz + 3 : Nat) : Int)) j t v u) (sz + 4) o.gtk [], o.cs.map Prod.snd) := by
  cases b2
  · match k, i, hi, hk with
    | 2, 0, _, _ => kernel_rfl
    | 3, 0, _, _ => kernel_rfl
    | 3, 1, _, _ => kernel_rfl
    | 4, 0, _, _ => kernel_rfl
    | 4, 1, _, _ => kernel_rfl
    | 4, 2, _, _ => kernel_rfl
    | 5, 0, _, _ => kernel_rfl
    | 5, 1, _, _ => kernel_rfl
    | 5, 2, _, _ => kernel_rfl
    | 5, 3, _, _ => kernel_rfl
    | 6, 0, _, _ => kernel_rfl
    | 6, 1, _, _ => kernel_rfl
    | 6, 2, _, _ => kernel_rfl
    | 6, 3, _, _ => kernel_rfl
    | 6, 4, _, _ => kernel_rfl
    | 7, 0, _, _ => kernel_rfl
    | 7, 1, _, _ => kernel_rfl
    | 7, 2, _, _ => kernel_rfl
    | 7, 3, _, _ => kernel_rfl
    | 7, 4, _, _ => kernel_rfl
    | 7, 5, _, _ => kernel_rfl
    | 0, i, h, _ => exact absurd h (by omega)
    | 1, i, h, _ => exact absurd h (by omega)
    | 2, i + 1, h, _ => exact absurd h (by omega)
    | 3, i + 2, h, _ => exact absurd h (by omega)
    | 4, i + 3, h, _ => exact absurd h (by omega)
    | 5, i + 4, h, _ => exact absurd h (by omega)
    | 6, i + 5, h, _ => exact absurd h (by omega)
    | 7, i + 6, h, _ => exact absurd h (by omega)
    | k + 8, i, _, h => exact absurd h (by omega)
  · match k, i, hi, hk with
    | 2, 0, _, _ => kernel_rfl
    | 3, 0, _, _ => kernel_rfl
    | 3, 1, _, _ => kernel_rfl
    | 4, 0, _, _ => kernel_rfl
    | 4, 1, _, _ => kernel_rfl
    | 4, 2, _, _ => kernel_rfl
    | 5, 0, _, _ => kernel_rfl
    | 5, 1, _, _ => kernel_rfl
    | 5, 2, _, _ => kernel_rfl
    | 5, 3, _, _ => kernel_rfl
    | 6, 0, _, _ => kernel_rfl
    | 6, 1, _, _ => kernel_rfl
    | 6, 2, _, _ => kernel_rfl
    | 6, 3, _, _ => kernel_rfl
    | 6, 4, _, _ => kernel_rfl
    | 7, 0, _, _ => kernel_rfl
    | 7, 1, _, _ => kernel_rfl
    | 7, 2, _, _ => kernel_rfl
    | 7, 3, _, _ => kernel_rfl
    | 7, 4, _, _ => kernel_rfl
    | 7, 5, _, _ => kernel_rfl
    | 0, i, h, _ => exact absurd h (by omega)
    | 1, i, h, _ => exact absurd h (by omega)
    | 2, i + 1, h, _ => exact absurd h (by omega)
    | 3, i + 2, h, _ => exact absurd h (by omega)
    | 4, i + 3, h, _ => exact absurd h (by omega)
    | 5, i + 4, h, _ => exact absurd h (by omega)
    | 6, i + 5, h, _ => exact absurd h (by omega)
    | 7, i + 6, h, _ => exact absurd h (by omega)
    | k + 8, i, _, h => exact absurd h (by omega)
end
end Zd
namespace Zd
open PySem PySem.Spec PySem.Calls PyProof.Rows PySem.W PySem.W.X
noncomputable def Out.xf : Out → Fr
  | .at _ (x :: _) _ _ _ _ _ => x
  | _ => ⟨.expr (.Constant .none 0 ⟨0, 0, 0, 0⟩) default, fun _ => .raise .none, false, [], ⟨0, 0, 0, 0⟩⟩
noncomputable def V0 : Vs := ⟨fun _ => 0, fun _ => 0, fun _ => 0⟩
/-- what the body does behind the first loop -/
noncomputable def KA (prog : Program) (P : Params) (b1 b2 : Bool) (C : Nat) : Result → Sem Fin := (gAa0 0 prog P b1 b2 0 0 C 0 0 0 0 V0 1 0 0 0 0 (fun _ => Fv.z)).xf.k
noncomputable def XA (prog : Program) (P : Params) (b1 b2 : Bool) (C : Nat) (g : Bool) (l : List Value) (p : Pos) : Fr := ⟨body221 C, KA prog P b1 b2 C, g, l, p⟩
section
variable (lv : Nat) (prog : Program) (P : Params) (b1 b2 : Bool) (D E C N it tup k0 k1 k2 k3 k4 : Nat) (q' : Value × Value) (sz tk : Nat) (V : Vs) (k i j t : Nat) (v : Int) (u : Nat) (xg : Bool) (xl : List Value) (xp : Pos)
theorem xAa0 (h0 : 0 < k) (hk : k < 8) (fr : Nat → Fv) :
    let o := gAa0 lv prog P b1 b2 D E C k0 k1 sz tk V k j t v u fr
    o.frs = [XA prog P b1 b2 C o.xf.g o.xf.l o.xf.p] := by
  cases b2
  · match k, h0, hk with
    | 1, _, _ => kernel_rfl
    | 2, _, _ => kernel_rfl
    | 3, _, _ => kernel_rfl
    | 4, _, _ => kernel_rfl
    | 5, _, _ => kernel_rfl
    | 6, _, _ => kernel_rfl
    | 7, _, _ => kernel_rfl
    | 0, h, _ => exact absurd h (by omega)
    | k + 8, _, h => exact absurd h (by omega)
  · match k, h0, hk with
    | 1, _, _ => kernel_rfl
    | 2, _, _ => kernel_rfl
    | 3, _, _ => kernel_rfl
    | 4, _, _ => kernel_rfl
    | 5, _, _ => kernel_rfl
    | 6, _, _ => kernel_rfl
    | 7, _, _ => kernel_rfl
    | 0, h, _ => exact absurd h (by omega)
    | k + 8, _, h => exact absurd h (by omega)
noncomputable abbrev hSec (P : Params) (prog : Program) (b1 b2 : Bool) (it n : Nat) : List (H (stQ P b1 b2) (SQ prog P b1 b2)) :=
  [.d it, .n, .d it, .d it, .d it, .d 0, .d 0, .d it, .d it, .d it, .d (n + 1), .d 2, .d 1, .d 1, .d 1, .d 1, .n, .d 1, .d 1, .d (n + 2), .d (n + 2), .n, .d (n + 2), .d (n + 2), .d 1, .d 1, .d (n + 3), .n] ++ hIt P prog b1 b2 1 (n + 3)
noncomputable abbrev ledB (P : Params) (D E C N it tup k0 k1 k2 k3 k4 : Nat) (q : Option (Value × Value)) (V : Vs) (k : Nat) (own : Value) (j t : Nat) (v : Int) (u : Nat) : Led := [.o (D + 277) (dctO P k V), .o (E + 277) (dct1 P j t v u), .o C (frA P D E N k0 k1 k2 k3 k4 q), .o N (dctO P k V), .o it (itO own E 0 1 (.str (ltr j) t) (.int v u)), .o tup (tupO [.str (ltr j) t, .int v u])]
/-- the first loop's last turn, and on to the second loop -/
noncomputable def gAz (q : Option (Value × Value)) (fr : Nat → Fv) : Out := run (stQ P b1 b2) (SQ prog P b1 b2) (lv + 1) 400
  (hTl P prog b1 b2 5 ++ hSt P prog b1 b2 ++ hSec P prog b1 b2 4 9) fr (codeAa C it) [XA prog P b1 b2 C xg xl xp] (tailAa C it tup) (ledA P D E C (N + 277) it tup k0 k1 k2 k3 k4 q V k (k - 1) .none j t v u) sz tk []
noncomputable def gAy (fr : Nat → Fv) : Out := run (stQ P b1 b2) (SQ prog P b1 b2) (lv + 1) 400
  ([.d 2, .d 2, .d 2, .d 0, .d 0, .d 0, .d 0, .n, .d 0, .d 0, .d 4, .d 4, .n, .d 4, .d 4, .d 0, .d 0, .d 5, .n] ++ hSec P prog b1 b2 5 6)
  fr (body221 C) [] (denZ (body221 C)) [.o (D + 277) (dctO P 0 V), .o (E + 277) (dct1 P j t v u), .o C (frm [ent P "target" k0 (.ref (D + 277)), ent P "source" k1 (.ref (E + 277))])] sz tk []
noncomputable def KB (prog : Program) (P : Params) (b1 b2 : Bool) (C : Nat) : Result → Sem Fin := (gAy 0 prog P b1 b2 0 0 C 0 0 0 0 V0 0 0 0 0 (fun _ => Fv.z)).xf.k
noncomputable def XB (prog : Program) (P : Params) (b1 b2 : Bool) (C : Nat) (g : Bool) (l : List Value) (p : Pos) : Fr := ⟨body221 C, KB prog P b1 b2 C, g, l, p⟩
theorem tAy (hj : j < 7) (fr : Nat → Fv) :
    let o := gAy lv prog P b1 b2 D E C k0 k1 sz tk V j t v u fr
    (o.sel [0, 1, 2, 3, 9, 10], o.cs.map Prod.fst) = (.at (codeAb C (sz + 6)) [XB prog P b1 b2 C o.xf.g o.xf.l o.xf.p] (restAb C (sz + 6) (sz + 7)) (ledB P D E C sz (sz + 6) (sz + 7) k0 k1 tk 0 0 none V 0 (rawInt ((sz + 7 : Nat) : Int)) j t v u) (sz + 8) o.gtk [], o.cs.map Prod.snd) := by
  cases b2 <;> kernel_rfl
theorem tAzN (h0 : 0 < k) (hk : k < 8) (fr : Nat → Fv) :
    let o := gAz lv prog P b1 b2 D E C N it tup k0 k1 k2 k3 k4 sz tk V k j t v u xg xl xp none fr
    (o.sel [0, 1, 2, 3, 12, 13], o.cs.map Prod.fst) = (.at (codeAb C (sz + 6)) [XB prog P b1 b2 C o.xf.g o.xf.l o.xf.p] (restAb C (sz + 6) (sz + 7)) (ledB P D E C (N + 277) (sz + 6) (sz + 7) k0 k1 k2 tk (tk + 1) (some (.str (ltr (k - 1)) (V.t (k - 1)), .int (V.v (k - 1)) (V.u (k - 1)))) V k (rawInt ((sz + 7 : Nat) : Int)) j t v u) (sz + 8) o.gtk [], o.cs.map Prod.snd) := by
  cases b2
  · match k, h0, hk with
    | 1, _, _ => kernel_rfl
    | 2, _, _ => kernel_rfl
    | 3, _, _ => kernel_rfl
    | 4, _, _ => kernel_rfl
    | 5, _, _ => kernel_rfl
    | 6, _, _ => kernel_rfl
    | 7, _, _ => kernel_rfl
    | 0, h, _ => exact absurd h (by omega)
    | k + 8, _, h => exact absurd h (by omega)
  · match k, h0, hk with
    | 1, _, _ => kernel_rfl
    | 2, _, _ => kernel_rfl
    | 3, _, _ => kernel_rfl
    | 4, _, _ => kernel_rfl
    | 5, _, _ => kernel_rfl
    | 6, _, _ => kernel_rfl
    | 7, _, _ => kernel_rfl
    | 0, h, _ => exact absurd h (by omega)
    | k + 8, _, h => exact absurd h (by omega)
theorem tAzS (h0 : 0 < k) (hk : k < 8) (fr : Nat → Fv) :
    let o := gAz lv prog P b1 b2 D E C N it tup k0 k1 k2 k3 k4 sz tk V k j t v u xg xl xp (some q') fr
    (o.sel [0, 1, 2, 3, 12, 13], o.cs.map Prod.fst) = (.at (codeAb C (sz + 6)) [XB prog P b1 b2 C o.xf.g o.xf.l o.xf.p] (restAb C (sz + 6) (sz + 7)) (ledB P D E C (N + 277) (sz + 6) (sz + 7) k0 k1 k2 k3 k4 (some (.str (ltr (k - 1)) (V.t (k - 1)), .int (V.v (k - 1)) (V.u (k - 1)))) V k (rawInt ((sz + 7 : Nat) : Int)) j t v u) (sz + 8) o.gtk [], o.cs.map Prod.snd) := by
  cases b2
  · match k, h0, hk with
    | 1, _, _ => kernel_rfl
    | 2, _, _ => kernel_rfl
    | 3, _, _ => kernel_rfl
    | 4, _, _ => kernel_rfl
    | 5, _, _ => kernel_rfl
    | 6, _, _ => kernel_rfl
    | 7, _, _ => kernel_rfl
    | 0, h, _ => exact absurd h (by omega)
    | k + 8, _, h => exact absurd h (by omega)
  · match k, h0, hk with
    | 1, _, _ => kernel_rfl
    | 2, _, _ => kernel_rfl
    | 3, _, _ => kernel_rfl
    | 4, _, _ => kernel_rfl
    | 5, _, _ => kernel_rfl
    | 6, _, _ => kernel_rfl
    | 7, _, _ => kernel_rfl
    | 0, h, _ => exact absurd h (by omega)
    | k + 8, _, h => exact absurd h (by omega)
end
end Zd
namespace Zd
open PySem PySem.Spec PySem.Calls PyProof.Rows PySem.W PySem.W.X
noncomputable def dicO (es : List DictEntry) (m : Nat) : Obj := ⟨.type "dict", none, .dict es.toArray m, #[]⟩
theorem hsh_eq {w : World} {P : Params} {b1 b2 : Bool} (h : w.params = pq P b1 b2) (n : Str) : hashStr w n = hsh P n := by
  unfold hashStr hsh
  rw [h, ← ZFast.ze12210062019545310541]
  show (if n.cps.isEmpty = true then 0 else reduceHash (P.strHash n.cps)) = X.condFn Int n.cps.isEmpty 0 (reduceHash (P.strHash n.cps))
  cases n.cps.isEmpty <;> rfl
noncomputable def KeysP (P : Params) (es : List DictEntry) : Prop := ∀ e ∈ es, ∃ n t, e.key = .str n t ∧ e.hash = hsh P n
theorem KeysP.of {prog : Program} {w : World} {P : Params} {b1 b2 : Bool} (h : w.params = pq P b1 b2) {es : List DictEntry} (k : KeysP P es) : KeysOf (strKind prog w) es.toArray := fun e he => by
  obtain ⟨n, t, h1, h2⟩ := k e (by simpa using he)
  refine ⟨n, ?_, ?_⟩
  · rw [h1]
    show (n == n) = true
    exact beq_self_eq_true n
  · rw [h2]
    exact (hsh_eq h n).symm
theorem MapP {prog : Program} {w : World} {P : Params} {b1 b2 : Bool} (h : w.params = pq P b1 b2) {s : Shared} {a : Addr} {es : List DictEntry} {m : Nat} (ho : s.heap.get? a = some (dicO es m)) (k : KeysP P es) :
    s.heap.MapOf (strKind prog w) a (fun x => findBy Value.isStrOf es.toArray x) := ⟨_, es.toArray, m, ho, ⟨rfl, rfl, rfl⟩, rfl, k.of h, fun _ => rfl⟩
section
variable {prog : Program} {P : Params} {b1 b2 : Bool}
noncomputable def instHas (a : Addr) (es : List DictEntry) (m : Nat) (v : Value) (cs : List (Tm × Tm)) : Inst := { lv := 0, cs, pre := [.o a (dicO es m)], upd := fun _ _ _ => [.o a (dicO es m)], res := fun _ _ _ => .ok (.ret v), new := fun _ _ _ => [], nsz := fun sz _ => sz, ntk := fun tk _ => tk + 1 }
theorem has_after {a : Addr} {es : List DictEntry} {m : Nat} {v : Value} {cs : List (Tm × Tm)} {s : Shared} (hp : ∀ y ∈ (instHas a es m v cs).pre, y.holds s) : After (instHas a es m v cs) s.heap.objs.size s.toks s (.ok (.ret v)) { s with toks := s.toks + 1 } :=
  ⟨Fv.z, rfl, rfl, rfl, fun y hy => by
    have := hp y hy
    rw [List.mem_singleton.mp hy] at this ⊢
    exact this, fun _ h => (nomatch h), List.nodup_nil, (kept_toks s _).wide (fun _ h => (nomatch h))⟩
theorem has_triple (a : Addr) (es : List DictEntry) (m : Nat) (x : Str) (t : Nat) (b : Bool) (hk : KeysP P es) (hf : (findBy Value.isStrOf es.toArray x).isSome = b) (cs : List (Tm × Tm)) :
    Triple (stQ P b1 b2) (SQ prog P b1 b2) (.call (.builtin "dict.__contains__") ⟨[.ref a, .str x t], []⟩) (instHas a es m (.bool b) cs) := by
  intro w hS A s sz tk g gl hA hst hpre hnd hlow hb hsz htk
  have ho : s.heap.get? a = some (dicO es m) := hpre _ (.head _)
  have hlo : 277 ≤ a := hlow _ (.head _)
  have hd : (a == sysModules) = false := beq_eq_false_iff_ne.mpr (fun e => absurd hlo (by rw [e]; decide))
  refine wpAny_mono (wp_of_call (E' := fun _ _ => False) (Q := fun v s' => After (instHas a es m (.bool b) cs) sz tk s (.ok (.ret v)) s') (E := fun _ _ => False) ?_) (fun r s' q => ?_) fun _ _ h => h
  · subst hsz htk
    refine call_meetsIn F.slot_dict_contains ⟨_, ho, rfl⟩ F.entry_dict_contains (F.args_dict_contains_2 _ _) (meets_dict_contains (strKind _ _) a (k := x) (beq_self_eq_true x) hd) ⟨_, MapP hS ho hk, ?_⟩
    rw [hf]
    exact has_after hpre
  · cases r with
    | error e => cases q
    | ok f =>
      cases f with
      | ret v => exact q
      | _ => cases q
theorem get_triple (a : Addr) (es : List DictEntry) (m : Nat) (x : Str) (t : Nat) (v : Value) (hk : KeysP P es) (hf : findBy Value.isStrOf es.toArray x = some v) (cs : List (Tm × Tm)) :
    Triple (stQ P b1 b2) (SQ prog P b1 b2) (.call (.builtin "dict.__getitem__") ⟨[.ref a, .str x t], []⟩) (instHas a es m v cs) := by
  intro w hS A s sz tk g gl hA hst hpre hnd hlow hb hsz htk
  have ho : s.heap.get? a = some (dicO es m) := hpre _ (.head _)
  refine wpAny_mono (wp_of_call (E' := fun _ _ => False) (Q := fun v' s' => After (instHas a es m v cs) sz tk s (.ok (.ret v')) s') (E := fun _ _ => False) ?_) (fun r s' q => ?_) fun _ _ h => h
  · subst hsz htk
    exact call_meetsIn F.slot_dict_getitem ⟨_, ho, rfl⟩ F.entry_dict_getitem (F.args_dict_getitem_2 _ _) (meets_dict_getitem (strKind _ _) a (k := x) (beq_self_eq_true x)) ⟨_, v, MapP hS ho hk, hf, has_after hpre⟩
  · cases r with
    | error e => cases q
    | ok f =>
      cases f with
      | ret v => exact q
      | _ => cases q
noncomputable def modE (es : List DictEntry) (i : Nat) (v : Value) : List DictEntry := es.modify i fun e => { e with val := v }
noncomputable def instPut (a : Addr) (es : List DictEntry) (m i : Nat) (v : Value) (cs : List (Tm × Tm)) : Inst := { lv := 0, cs, pre := [.o a (dicO es m)], upd := fun _ _ _ => [.o a (dicO (modE es i v) m)], res := fun _ _ _ => .ok (.ret .none), new := fun _ _ _ => [], nsz := fun sz _ => sz, ntk := fun tk _ => tk + 1 }
theorem put_triple (a : Addr) (es : List DictEntry) (m : Nat) (x : Str) (t : Nat) (v : Value) (i : Nat) (hk : KeysP P es) (hf : es.toArray.findIdx? (fun e => Value.isStrOf x e.key) = some i) (cs : List (Tm × Tm)) :
    Triple (stQ P b1 b2) (SQ prog P b1 b2) (.call (.builtin "dict.__setitem__") ⟨[.ref a, .str x t, v], []⟩) (instPut a es m i v cs) := by
  intro w hS A s sz tk g gl hA hst hpre hnd hlow hb hsz htk
  have ho : s.heap.get? a = some (dicO es m) := hpre _ (.head _)
  refine wpAny_mono (wp_of_call (E' := fun _ _ => False) (Q := fun v' s' => After (instPut a es m i v cs) sz tk s (.ok (.ret v')) s') (E := fun _ _ => False) ?_) (fun r s' q => ?_) fun _ _ h => h
  · subst hsz htk
    refine wpAny_call_entry F.slot_dict_setitem ⟨_, ho, rfl⟩ F.entry_dict_setitem ?_ (F.args_dict_setitem_3 _ _ _)
    show wpAny _ _ (Builtin.Dict.notOrdered "__setitem__" ⟨[.ref a, .str x t, v], []⟩ >>= _) _ _ s
    refine wpAny_bind (wpAny_notOrdered_dict ⟨_, ho, rfl⟩ ?_)
    show wpAny _ _ (dictSet a (.str x t) v >>= _) _ _ s
    refine wpAny_bind ?_
    unfold dictSet
    try with_reducible refine wpAny_holding ?_
    refine wpAny_bind (wpAny_pyHash_str ?_)
    unfold dictSetHashed
    try with_reducible refine wpAny_holding ?_
    refine wpAny_bind (wpAny_dictFind_of (knd := strKind _ w) (s := { s with toks := s.toks + 1 }) (k := x) (beq_self_eq_true x) ho rfl (hk.of hS) ?_)
    show _
    rw [show (es.toArray.findIdx? fun e => (strKind (SQ prog P b1 b2).program w).is x e.key) = some i from hf]
    refine wpAny_bind (wpAny_rule (wpAny_bind (wpAny_updateDict (s := { s with toks := s.toks + 1 }) ho rfl (wpAny_point (wpAny_pure ⟨.none, rfl, ?_⟩)))))
    refine ⟨Fv.z, rfl, (Heap.SameBut.update ..).1, rfl, ?_, fun _ h => (nomatch h), List.nodup_nil, kept_update s _⟩
    intro y hy
    rw [List.mem_singleton.mp hy]
    refine (Heap.get?_update_self (Obj.mapDict (·.modify i fun e => { e with val := v })) ho rfl).trans ?_
    simp [Obj.mapDict, dicO, modE]
  · cases r with
    | error e => cases q
    | ok f =>
      cases f with
      | ret v => exact q
      | _ => cases q
/-- a contract of a built-in of a dict and a text -/
noncomputable def ctrD (id : String) (a0 : Addr) (x0 : Str) (i : List Value → List (Tm × Tm) → Option Inst) (hi : ∀ l cs j, i l cs = some j → j.cs = cs)
    (h : ∀ t l cs j, i l cs = some j → (∀ sz tk f, j.pre.map Cell.key = (j.upd sz tk f).map Cell.key) ∧ Triple (stQ P b1 b2) (SQ prog P b1 b2) (.call (.builtin id) ⟨.ref a0 :: .str x0 t :: l, []⟩) j) : Ctr (stQ P b1 b2) (SQ prog P b1 b2) where
  f
    | .call (.builtin id') ⟨args, kw⟩ => match kw with
      | [] => match eqS id' id with
        | true => match args with
          | .ref a :: .str x t :: l => i l [(.a a, .a a0), (.s x, .s x0)]
          | _ => none
        | false => none
      | _ :: _ => none
    | _ => none
  sound c j hj hcs := by
    split at hj
    · split at hj
      · split at hj
        · rename_i e
          split at hj
          · rw [hi _ _ _ hj] at hcs
            obtain ⟨e1, hcs⟩ := okA hcs
            obtain ⟨e2, _⟩ := okS hcs
            subst e1 e2
            rw [eqS_eq e]
            exact h _ _ _ _ hj
          · cases hj
        · cases hj
      · cases hj
    · cases hj
noncomputable def cHas (a : Addr) (es : List DictEntry) (m : Nat) (x : Str) (b : Bool) (hk : KeysP P es) (hf : (findBy Value.isStrOf es.toArray x).isSome = b) : Ctr (stQ P b1 b2) (SQ prog P b1 b2) :=
  ctrD "dict.__contains__" a x (fun l cs => match l with | [] => some (instHas a es m (.bool b) cs) | _ :: _ => none) (fun l cs j h => by cases l <;> cases h; rfl) fun t l cs j h => by
    cases l <;> cases h
    exact ⟨fun _ _ _ => rfl, has_triple a es m x t b hk hf cs⟩
noncomputable def cGet (a : Addr) (es : List DictEntry) (m : Nat) (x : Str) (v : Value) (hk : KeysP P es) (hf : findBy Value.isStrOf es.toArray x = some v) : Ctr (stQ P b1 b2) (SQ prog P b1 b2) :=
  ctrD "dict.__getitem__" a x (fun l cs => match l with | [] => some (instHas a es m v cs) | _ :: _ => none) (fun l cs j h => by cases l <;> cases h; rfl) fun t l cs j h => by
    cases l <;> cases h
    exact ⟨fun _ _ _ => rfl, get_triple a es m x t v hk hf cs⟩
noncomputable def cPut (a : Addr) (es : List DictEntry) (m : Nat) (x : Str) (i : Nat) (hk : KeysP P es) (hf : es.toArray.findIdx? (fun e => Value.isStrOf x e.key) = some i) : Ctr (stQ P b1 b2) (SQ prog P b1 b2) :=
  ctrD "dict.__setitem__" a x (fun l cs => match l with | [v] => some (instPut a es m i v cs) | _ => none) (fun l cs j h => by
      match l with
      | [v] => cases h; rfl
      | [] => cases h
      | _ :: _ :: _ => cases h) fun t l cs j h => by
    match l with
    | [v] => cases h; exact ⟨fun _ _ _ => rfl, put_triple a es m x t v i hk hf cs⟩
    | [] => cases h
    | _ :: _ :: _ => cases h
end
end Zd
namespace Zd
open PySem PySem.Spec PySem.Calls PyProof.Rows PySem.W PySem.W.X
noncomputable def Vs.set (V : Vs) (i t : Nat) (v : Int) (u : Nat) : Vs := ⟨fun n => match Nat.beq n i with | true => t | false => V.t n, fun n => match Nat.beq n i with | true => v | false => V.v n, fun n => match Nat.beq n i with | true => u | false => V.u n⟩
section
variable (lv : Nat) (prog : Program) (P : Params) (b1 b2 : Bool) (D E C N it tup k0 k1 k2 k3 k4 : Nat) (q : Option (Value × Value)) (q' : Value × Value) (sz tk : Nat) (V : Vs) (k i j t : Nat) (v : Int) (u : Nat) (xg : Bool) (xl : List Value) (xp : Pos)
noncomputable abbrev hEnd (P : Params) (prog : Program) (b1 b2 : Bool) : List (H (stQ P b1 b2) (SQ prog P b1 b2)) := [.d 4, .n, .d 4, .d 4, .d 4, .d 1, .d 1, .d 4, .d 4, .d 4, .d 10, .d 2]
noncomputable def gAf (q : Option (Value × Value)) (hs : List (H (stQ P b1 b2) (SQ prog P b1 b2))) (fr : Nat → Fv) : Out := run (stQ P b1 b2) (SQ prog P b1 b2) (lv + 1) 400
  (hTl P prog b1 b2 5 ++ hs ++ hEnd P prog b1 b2) fr (codeAb C it) [XB prog P b1 b2 C xg xl xp] (tailAb C it tup) (ledB P D E C (N + 277) it tup k0 k1 k2 k3 k4 q V k .none j t v u) sz tk []
noncomputable abbrev hAbs (P : Params) (prog : Program) (b1 b2 : Bool) : List (H (stQ P b1 b2) (SQ prog P b1 b2)) := [.d 2, .d 2, .d 2, .d 2, .d 2, .d 2, .d 3, .d 3, .n, .d 3, .n, .d 3, .d 2, .d 2, .d 2, .d 3, .d 3, .n, .d 3, .d 3, .n, .d 3, .d 3, .d 3, .d 3]
noncomputable abbrev hPre (N : Nat) (V : Vs) (k j : Nat) (ve : Value) (hK : KeysP P (dctE P V k 0)) (h1 : (findBy Value.isStrOf (dctE P V k 0).toArray (ltr j)).isSome = true) (h2 : findBy Value.isStrOf (dctE P V k 0).toArray (ltr j) = some ve) (h3 : (dctE P V k 0).toArray.findIdx? (fun e => Value.isStrOf (ltr j) e.key) = some j) : List (H (stQ P b1 b2) (SQ prog P b1 b2)) := [.d 2, .d 2, .d 2, .d 2, .d 2, .d 2, .d 3, .d 3, .o (cHas (N + 277) (dctE P V k 0) k (ltr j) true hK h1) [3], .s 3, .s 0, .d 2, .s 3, .s 0, .n, .n, .n, .d 2, .d 2, .d 3, .d 3, .o (cGet (N + 277) (dctE P V k 0) k (ltr j) ve hK h2) [3], .d 2, .n, .d 3, .d 3, .o (cPut (N + 277) (dctE P V k 0) k (ltr j) j hK h3) [3]]
noncomputable def Out.utk (j : Nat) : Out → Nat
  | .ret _ (_ :: _ :: _ :: .o _ x :: _) _ _ _ => match x.data with
    | .dict es _ => match es.toList[j]? with
      | some e => match e.val with
        | .int _ u => u
        | _ => 0
      | none => 0
    | _ => 0
  | _ => 0
theorem tAab0 (hk : k = 0) (fr : Nat → Fv) :
    let o := gAf lv prog P b1 b2 D E C N it tup k0 k1 k2 k3 k4 sz tk V 0 0 t v u xg xl xp none (hAbs P prog b1 b2) fr
    (o.sel [0, 1, 3], o.cs.map Prod.fst) = (.ret (.ok (.ret (.ref (N + 277)))) [.o (D + 277) (dctO P 0 V), .o (E + 277) (dct1 P 0 t v u), .o (N + 277) (dctO P 1 (V.set 0 t v u))] o.gsz o.gtk [], o.cs.map Prod.snd) := by
  cases b2 <;> kernel_rfl
theorem tAab (hk : k < 7) (fr : Nat → Fv) :
    let o := gAf lv prog P b1 b2 D E C N it tup k0 k1 k2 k3 k4 sz tk V k k t v u xg xl xp (some q') (hAbs P prog b1 b2) fr
    (o.sel [0, 1, 3], o.cs.map Prod.fst) = (.ret (.ok (.ret (.ref (N + 277)))) [.o (D + 277) (dctO P k V), .o (E + 277) (dct1 P k t v u), .o (N + 277) (dctO P (k + 1) (V.set k t v u))] o.gsz o.gtk [], o.cs.map Prod.snd) := by
  cases b2
  · match k, hk with
    | 0, _ => kernel_rfl
    | 1, _ => kernel_rfl
    | 2, _ => kernel_rfl
    | 3, _ => kernel_rfl
    | 4, _ => kernel_rfl
    | 5, _ => kernel_rfl
    | 6, _ => kernel_rfl
    | k + 7, h => exact absurd h (by omega)
  · match k, hk with
    | 0, _ => kernel_rfl
    | 1, _ => kernel_rfl
    | 2, _ => kernel_rfl
    | 3, _ => kernel_rfl
    | 4, _ => kernel_rfl
    | 5, _ => kernel_rfl
    | 6, _ => kernel_rfl
    | k + 7, h => exact absurd h (by omega)
theorem tApr (hK : KeysP P (dctE P V k 0)) (h1 : (findBy Value.isStrOf (dctE P V k 0).toArray (ltr j)).isSome = true) (h2 : findBy Value.isStrOf (dctE P V k 0).toArray (ltr j) = some (.int (V.v j) (V.u j))) (h3 : (dctE P V k 0).toArray.findIdx? (fun e => Value.isStrOf (ltr j) e.key) = some j) (hj : j < k) (hk : k < 8) (fr : Nat → Fv) :
    let o := gAf lv prog P b1 b2 D E C N it tup k0 k1 k2 k3 k4 sz tk V k j t v u xg xl xp (some q') (hPre prog P b1 b2 N V k j _ hK h1 h2 h3) fr
    (o.sel [0, 1, 3], o.cs.map Prod.fst) = (.ret (.ok (.ret (.ref (N + 277)))) [.o (D + 277) (dctO P k V), .o (E + 277) (dct1 P j t v u), .o (N + 277) (dctO P k (V.set j (V.t j) (V.v j + v) (o.utk j)))] o.gsz o.gtk [], o.cs.map Prod.snd) := by
  cases b2
  · match k, j, hj, hk with
    | 1, 0, _, _ => kernel_rfl
    | 2, 0, _, _ => kernel_rfl
    | 2, 1, _, _ => kernel_rfl
    | 3, 0, _, _ => kernel_rfl
    | 3, 1, _, _ => kernel_rfl
    | 3, 2, _, _ => kernel_rfl
    | 4, 0, _, _ => kernel_rfl
    | 4, 1, _, _ => kernel_rfl
    | 4, 2, _, _ => kernel_rfl
    | 4, 3, _, _ => kernel_rfl
    | 5, 0, _, _ => kernel_rfl
    | 5, 1, _, _ => kernel_rfl
    | 5, 2, _, _ => kernel_rfl
    | 5, 3, _, _ => kernel_rfl
    | 5, 4, _, _ => kernel_rfl
    | 6, 0, _, _ => kernel_rfl
    | 6, 1, _, _ => kernel_rfl
    | 6, 2, _, _ => kernel_rfl
    | 6, 3, _, _ => kernel_rfl
    | 6, 4, _, _ => kernel_rfl
    | 6, 5, _, _ => kernel_rfl
    | 7, 0, _, _ => kernel_rfl
    | 7, 1, _, _ => kernel_rfl
    | 7, 2, _, _ => kernel_rfl
    | 7, 3, _, _ => kernel_rfl
    | 7, 4, _, _ => kernel_rfl
    | 7, 5, _, _ => kernel_rfl
    | 7, 6, _, _ => kernel_rfl
    | 0, i, h, _ => exact absurd h (by omega)
    | 1, i + 1, h, _ => exact absurd h (by omega)
    | 2, i + 2, h, _ => exact absurd h (by omega)
    | 3, i + 3, h, _ => exact absurd h (by omega)
    | 4, i + 4, h, _ => exact absurd h (by omega)
    | 5, i + 5, h, _ => exact absurd h (by omega)
    | 6, i + 6, h, _ => exact absurd h (by omega)
    | 7, i + 7, h, _ => exact absurd h (by omega)
    | k + 8, i, _, h => exact absurd h (by omega)
  · match k, j, hj, hk with
    | 1, 0, _, _ => kernel_rfl
    | 2, 0, _, _ => kernel_rfl
    | 2, 1, _, _ => kernel_rfl
    | 3, 0, _, _ => kernel_rfl
    | 3, 1, _, _ => kernel_rfl
    | 3, 2, _, _ => kernel_rfl
    | 4, 0, _, _ => kernel_rfl
    | 4, 1, _, _ => kernel_rfl
    | 4, 2, _, _ => kernel_rfl
    | 4, 3, _, _ => kernel_rfl
    | 5, 0, _, _ => kernel_rfl
    | 5, 1, _, _ => kernel_rfl
    | 5, 2, _, _ => kernel_rfl
    | 5, 3, _, _ => kernel_rfl
    | 5, 4, _, _ => kernel_rfl
    | 6, 0, _, _ => kernel_rfl
    | 6, 1, _, _ => kernel_rfl
    | 6, 2, _, _ => kernel_rfl
    | 6, 3, _, _ => kernel_rfl
    | 6, 4, _, _ => kernel_rfl
    | 6, 5, _, _ => kernel_rfl
    | 7, 0, _, _ => kernel_rfl
    | 7, 1, _, _ => kernel_rfl
    | 7, 2, _, _ => kernel_rfl
    | 7, 3, _, _ => kernel_rfl
    | 7, 4, _, _ => kernel_rfl
    | 7, 5, _, _ => kernel_rfl
    | 7, 6, _, _ => kernel_rfl
    | 0, i, h, _ => exact absurd h (by omega)
    | 1, i + 1, h, _ => exact absurd h (by omega)
    | 2, i + 2, h, _ => exact absurd h (by omega)
    | 3, i + 3, h, _ => exact absurd h (by omega)
    | 4, i + 4, h, _ => exact absurd h (by omega)
    | 5, i + 5, h, _ => exact absurd h (by omega)
    | 6, i + 6, h, _ => exact absurd h (by omega)
    | 7, i + 7, h, _ => exact absurd h (by omega)
    | k + 8, i, _, h => exact absurd h (by omega)
end
end Zd
namespace Zd
open PySem PySem.Spec PySem.Calls PyProof.Rows PySem.W PySem.W.X
theorem keysP_dct (P : Params) (V : Vs) : ∀ k i, KeysP P (dctE P V k i)
  | 0, _ => fun e he => (nomatch he)
  | k + 1, i => fun e he => by
    rcases List.mem_cons.mp he with rfl | he
    · exact ⟨_, _, rfl, rfl⟩
    · exact keysP_dct P V k (i + 1) e he
theorem find_lt (P : Params) (V : Vs) : ∀ (k i j : Nat), i ≤ j → j < i + k → (dctE P V k i).find? (fun e => Value.isStrOf (ltr j) e.key) = some (entS P (ltr j) (V.t j) (.int (V.v j) (V.u j))) ∧ (dctE P V k i).findIdx? (fun e => Value.isStrOf (ltr j) e.key) = some (j - i)
  | 0, i, j, h1, h2 => by omega
  | k + 1, i, j, h1, h2 => by
    by_cases h : i = j
    · subst h
      have e : Value.isStrOf (ltr i) (entS P (ltr i) (V.t i) (.int (V.v i) (V.u i))).key = true := beq_self_eq_true (ltr i)
      rw [dctE, List.find?_cons, e, List.findIdx?_cons, e, Nat.sub_self]
      exact ⟨rfl, rfl⟩
    · have e : Value.isStrOf (ltr j) (entS P (ltr i) (V.t i) (.int (V.v i) (V.u i))).key = false := by
        show (ltr i == ltr j) = false
        refine beq_eq_false_iff_ne.mpr fun q => h ?_
        have : (#[97 + i] : Array Nat) = #[97 + j] := Str.mk.inj q
        have : 97 + i = 97 + j := by simpa using this
        omega
      have ih := find_lt P V k (i + 1) j (by omega) (by omega)
      rw [dctE, List.find?_cons, e, List.findIdx?_cons, e, ih.1, ih.2]
      refine ⟨rfl, ?_⟩
      show some (j - (i + 1) + 1) = some (j - i)
      congr 1
      omega
theorem find_by (P : Params) (V : Vs) (k j : Nat) (h : j < k) : findBy Value.isStrOf (dctE P V k 0).toArray (ltr j) = some (.int (V.v j) (V.u j)) := by
  unfold findBy
  rw [List.find?_toArray, (find_lt P V k 0 j (Nat.zero_le _) (by omega)).1]
  rfl
theorem find_idx (P : Params) (V : Vs) (k j : Nat) (h : j < k) : (dctE P V k 0).toArray.findIdx? (fun e => Value.isStrOf (ltr j) e.key) = some j := by
  rw [List.findIdx?_toArray, (find_lt P V k 0 j (Nat.zero_le _) (by omega)).2]
  rfl
noncomputable def addk (k j : Nat) : Nat := match Nat.blt j k with | true => k | false => k + 1
noncomputable def addv (V : Vs) (k j : Nat) (v : Int) : Nat → Int := fun n => match Nat.beq n j with | true => (match Nat.blt j k with | true => V.v j + v | false => v) | false => V.v n
noncomputable def addO (P : Params) (V : Vs) (k j : Nat) (v : Int) (t u : Nat → Nat) : Obj := dctO P (addk k j) ⟨t, addv V k j v, u⟩
section
variable {prog : Program} {P : Params} {b1 b2 : Bool} {w : World} {A : Around} {W : List (Bool × Nat)} {s₀ : Shared} {F : Post} {D E C N k0 k1 k2 : Nat} {V : Vs} {k j t : Nat} {v : Int} {u : Nat}
noncomputable def contA : List String := ["enumerate", "zip", "dict_itemiterator", "dict_reverseitemiterator", "odict_iterator", "itertools.zip_longest", "itertools.pairwise"]
theorem add_second (hS : w.params = pq P b1 b2) (hA : Room 2 A) (hk : k < 8) (hj : j ≤ k) (hkj : addk k j < 8) {it tup k3 k4 : Nat} (q : Option (Value × Value)) (hq : (q = none ∧ k = 0) ∨ ∃ q', q = some q') (xg : Bool) (xl : List Value) (xp : Pos) {sz tk : Nat} {s : Shared}
    (D1 : Rep (stQ P b1 b2) W s₀ (ledB P D E C (N + 277) it tup k0 k1 k2 k3 k4 q V k (rawInt ((tup : Nat) : Int)) j t v u) sz tk s)
    (h : ∀ T U sz' tk' s', Rep (stQ P b1 b2) W s₀ [.o (D + 277) (dctO P k V), .o (E + 277) (dct1 P j t v u), .o (N + 277) (addO P V k j v T U)] sz' tk' s' → F.1 (.done (.ret (.ref (N + 277)))) s') :
    Means (model prog w) A F (codeAb C it) [XB prog P b1 b2 C xg xl xp] (restAb C it tup) s := by
  refine owned_step (laws_none (S := SQ prog P b1 b2) (lv := 2) F hS hA) 4 rfl D1 rfl (by kernel_rfl) rfl (Nat.succ_pos _) fun s2 D2 => ?_
  by_cases hlt : j < k
  · rcases hq with ⟨_, e⟩ | ⟨q', rfl⟩
    · omega
    · refine run_to (S := SQ prog P b1 b2) (laws_none F hS hA) hS _ _ [0, 1, 3] (tApr 1 prog P b1 b2 D E C N it tup k0 k1 k2 k3 k4 q' sz tk V k j t v u xg xl xp (keysP_dct P V k 0) (by rw [find_by P V k j hlt]; rfl) (find_by P V k j hlt) (find_idx P V k j hlt) hlt hk) rfl
        (fun fr => ⟨fun _ h => (nomatch h), fun s3 D3 c' => wpAny_pure ?_⟩) D2
      have e : Nat.blt j k = true := by rw [Nat.blt_eq]; exact hlt
      generalize Out.utk j _ = U0 at D3
      have eO : dctO P k (V.set j (V.t j) (V.v j + v) U0) = addO P V k j v (V.set j (V.t j) (V.v j + v) U0).t (V.set j (V.t j) (V.v j + v) U0).u := by
        unfold addO addk addv
        rw [e]
        rfl
      rw [eO] at D3
      exact h _ _ _ _ s3 D3
  · have hjk : j = k := by omega
    subst hjk
    have e : Nat.blt j j = false := by
      cases h : Nat.blt j j with
      | false => rfl
      | true => rw [Nat.blt_eq] at h; omega
    rw [addk, e] at hkj
    have hk7 : j < 7 := by
      have : j + 1 < 8 := hkj
      omega
    rcases hq with ⟨rfl, rfl⟩ | ⟨q', rfl⟩
    · refine run_to (S := SQ prog P b1 b2) (laws_none F hS hA) hS _ _ [0, 1, 3] (tAab0 1 prog P b1 b2 D E C N it tup k0 k1 k2 k3 k4 sz tk V 0 t v u xg xl xp rfl) rfl
        (fun fr => ⟨fun _ h => (nomatch h), fun s3 D3 c' => wpAny_pure ?_⟩) D2
      have eO : dctO P 1 (V.set 0 t v u) = addO P V 0 0 v (V.set 0 t v u).t (V.set 0 t v u).u := rfl
      rw [eO] at D3
      exact h _ _ _ _ s3 D3
    · refine run_to (S := SQ prog P b1 b2) (laws_none F hS hA) hS _ _ [0, 1, 3] (tAab 1 prog P b1 b2 D E C N it tup k0 k1 k2 k3 k4 q' sz tk V j t v u xg xl xp hk7) rfl
        (fun fr => ⟨fun _ h => (nomatch h), fun s3 D3 c' => wpAny_pure ?_⟩) D2
      have eO : dctO P (j + 1) (V.set j t v u) = addO P V j j v (V.set j t v u).t (V.set j t v u).u := by
        unfold addO addk addv
        rw [e]
        rfl
      rw [eO] at D3
      exact h _ _ _ _ s3 D3
end
end Zd
namespace Zd
open PySem PySem.Spec PySem.Calls PyProof.Rows PySem.W PySem.W.X
section
variable {prog : Program} {P : Params} {b1 b2 : Bool} {w : World} {A : Around} {W : List (Bool × Nat)} {s₀ : Shared} {F : Post} {D E C N k0 k1 k2 : Nat} {V : Vs} {k j t : Nat} {v : Int} {u : Nat}
theorem add_first (hS : w.params = pq P b1 b2) (hA : Room 2 A) (hk : k < 8) (hj : j ≤ k) (hkj : addk k j < 8)
    (h : ∀ T U sz' tk' s', Rep (stQ P b1 b2) W s₀ [.o (D + 277) (dctO P k V), .o (E + 277) (dct1 P j t v u), .o (N + 277) (addO P V k j v T U)] sz' tk' s' → F.1 (.done (.ret (.ref (N + 277)))) s') :
    ∀ (n i it tup k3 k4 : Nat) (q : Option (Value × Value)) (xg : Bool) (xl : List Value) (xp : Pos) (sz tk : Nat) (s : Shared), i + n + 1 = k →
    Rep (stQ P b1 b2) W s₀ (ledA P D E C (N + 277) it tup k0 k1 k2 k3 k4 q V k i (rawInt ((tup : Nat) : Int)) j t v u) sz tk s →
    Means (model prog w) A F (codeAa C it) [XA prog P b1 b2 C xg xl xp] (restAa C it tup) s
  | 0, i, it, tup, k3, k4, q, xg, xl, xp, sz, tk, s, hn, D1 => by
    refine owned_step (laws_none (S := SQ prog P b1 b2) (lv := 2) F hS hA) 4 rfl D1 rfl (by kernel_rfl) rfl (Nat.succ_pos _) fun s2 D2 => ?_
    obtain rfl : i = k - 1 := by omega
    cases q with
    | none =>
      refine run_to (S := SQ prog P b1 b2) (laws_none F hS hA) hS _ _ [0, 1, 2, 3, 12, 13] (tAzN 1 prog P b1 b2 D E C N it tup k0 k1 k2 k3 k4 sz tk V k j t v u xg xl xp (by omega) hk) rfl
        (fun fr => ⟨fun _ h => (nomatch h), fun s3 D3 => ?_⟩) D2
      exact add_second hS hA hk hj hkj _ (.inr ⟨_, rfl⟩) _ _ _ D3 h
    | some q' =>
      refine run_to (S := SQ prog P b1 b2) (laws_none F hS hA) hS _ _ [0, 1, 2, 3, 12, 13] (tAzS 1 prog P b1 b2 D E C N it tup k0 k1 k2 k3 k4 q' sz tk V k j t v u xg xl xp (by omega) hk) rfl
        (fun fr => ⟨fun _ h => (nomatch h), fun s3 D3 => ?_⟩) D2
      exact add_second hS hA hk hj hkj _ (.inr ⟨_, rfl⟩) _ _ _ D3 h
  | n + 1, i, it, tup, k3, k4, q, xg, xl, xp, sz, tk, s, hn, D1 => by
    refine owned_step (laws_none (S := SQ prog P b1 b2) (lv := 2) F hS hA) 4 rfl D1 rfl (by kernel_rfl) rfl (Nat.succ_pos _) fun s2 D2 => ?_
    cases q with
    | none =>
      refine run_to (S := SQ prog P b1 b2) (laws_none F hS hA) hS _ _ [0, 1, 2, 3, 4, 9] (tAaN 1 prog P b1 b2 D E C N it tup k0 k1 k2 k3 k4 sz tk V k i j t v u (XA prog P b1 b2 C xg xl xp) (by omega) hk) rfl
        (fun fr => ⟨fun _ h => (nomatch h), fun s3 D3 => ?_⟩) D2
      exact add_first hS hA hk hj hkj h n (i + 1) _ _ _ _ _ _ _ _ _ _ s3 (by omega) D3
    | some q' =>
      refine run_to (S := SQ prog P b1 b2) (laws_none F hS hA) hS _ _ [0, 1, 2, 3, 4, 9] (tAaS 1 prog P b1 b2 D E C N it tup k0 k1 k2 k3 k4 sz tk V k i j t v u (XA prog P b1 b2 C xg xl xp) q' (by omega) hk) rfl
        (fun fr => ⟨fun _ h => (nomatch h), fun s3 D3 => ?_⟩) D2
      exact add_first hS hA hk hj hkj h n (i + 1) _ _ _ _ _ _ _ _ _ _ s3 (by omega) D3
end
/-- how the new dict's numbers are told by an open stream -/
noncomputable def Tn (f : Nat → Nat) (i : Nat) : Nat := f (2 * i + 3)
noncomputable def Un (f : Nat → Nat) (i : Nat) : Nat := f (2 * i + 4)
noncomputable def inst221 (P : Params) (D E k : Nat) (V : Vs) (j t : Nat) (v : Int) (u : Nat) (cs : List (Tm × Tm)) : Inst := { lv := 3, cs, pre := [.o D (dctO P k V), .o E (dct1 P j t v u)], upd := fun _ _ _ => [.o D (dctO P k V), .o E (dct1 P j t v u)], res := fun _ _ f => .ok (.ret (.ref (f.n 2))), new := fun _ _ f => [.o (f.n 2) (addO P V k j v (Tn f.n) (Un f.n))] }
noncomputable def mkF (sz tk N : Nat) (T U : Nat → Nat) : Nat → Nat
  | 0 => sz
  | 1 => tk
  | 2 => N
  | n + 3 => match n % 2 with | 0 => T (n / 2) | _ => U (n / 2)
theorem Tn_mk (sz tk N : Nat) (T U : Nat → Nat) : Tn (mkF sz tk N T U) = T := by
  funext i
  show (match (2 * i) % 2 with | 0 => T (2 * i / 2) | _ => U (2 * i / 2)) = T i
  rw [Nat.mul_mod_right, Nat.mul_div_cancel_left _ (by decide)]
  rfl
theorem Un_mk (sz tk N : Nat) (T U : Nat → Nat) : Un (mkF sz tk N T U) = U := by
  funext i
  show (match (2 * i + 1) % 2 with | 0 => T ((2 * i + 1) / 2) | _ => U ((2 * i + 1) / 2)) = U i
  rw [show (2 * i + 1) % 2 = 1 by omega, show (2 * i + 1) / 2 = i by omega]
  rfl
section
variable {prog : Program} {P : Params} {b1 b2 : Bool}
theorem triple221 (D E k : Nat) (V : Vs) (j t : Nat) (v : Int) (u : Nat) (hk : k < 8) (hj : j ≤ k) (hkj : addk k j < 8) (cs : List (Tm × Tm)) : Triple (stQ P b1 b2) (SQ prog P b1 b2) (code221 (.ref D) (.ref E)) (inst221 P D E k V j t v u cs) := by
  intro w hS A s sz tk g l hA hst hpre hnd hlow hb hsz htk
  refine wp_of_code ?_
  have hD : 277 ≤ D := hlow _ (.head _)
  obtain ⟨D', rfl⟩ : ∃ D', D = D' + 277 := ⟨D - 277, by omega⟩
  have hE : 277 ≤ E := hlow _ (.tail _ (.head _))
  obtain ⟨E', rfl⟩ : ∃ E', E = E' + 277 := ⟨E - 277, by omega⟩
  have D0 := rep_start (led := [.o (D' + 277) (dctO P k V), .o (E' + 277) (dct1 P j t v u)]) hst hpre hnd hlow hb hsz htk
  have hb' : 277 ≤ sz := hb
  refine def_call (lv := 3) (call221' 3 prog P b1 b2 (D' + 277) (E' + 277) sz tk (dctO P k V) (dct1 P j t v u)) hS hA rfl rfl rfl D0 fun s1 D1 => ?_
  obtain ⟨N, hN⟩ : ∃ N, sz + 1 = N + 277 := ⟨sz + 1 - 277, by omega⟩
  rw [hN] at D1
  refine code_of_wp (S := SQ prog P b1 b2) ?_
  have hA2 : Room 2 A := ⟨hA.1, by have : A.depth + 50 * 3 ≤ 900 := hA.2.1; omega, by have : A.units + 150 * 3 ≤ 9000 := hA.2.2; omega⟩
  have fin : ∀ T U sz' tk' s', Rep (stQ P b1 b2) ([.o (D' + 277) (dctO P k V), .o (E' + 277) (dct1 P j t v u)].map Cell.key) s [.o (D' + 277) (dctO P k V), .o (E' + 277) (dct1 P j t v u), .o (N + 277) (addO P V k j v T U)] sz' tk' s' → After (inst221 P (D' + 277) (E' + 277) k V j t v u cs) sz tk s (.ok (.ret (.ref (N + 277)))) s' := fun T U sz' tk' s' D' => by
    refine rep_end (i := inst221 P _ _ k V j t v u cs) { Fv.z with n := mkF sz' tk' (N + 277) T U } D' rfl rfl rfl ?_ ?_
    · show _ = [Cell.o _ _, Cell.o _ _] ++ [Cell.o (N + 277) (addO P V k j v (Tn (mkF sz' tk' (N + 277) T U)) (Un (mkF sz' tk' (N + 277) T U)))]
      rw [Tn_mk, Un_mk]
      rfl
    · intro x hx hm
      have nd := D'.nd
      have hx' : x = (true, N + 277) := List.mem_singleton.mp hx
      subst hx'
      have := (List.nodup_append (l₁ := [(true, _), (true, _)]) (l₂ := [(true, N + 277)])).mp nd
      exact this.2.2 _ hm _ (.head _) rfl
  by_cases h0 : 0 < k
  · refine run_to (S := SQ prog P b1 b2) (laws_none (lv := 2) (finP (model prog w) A (After (inst221 P (D' + 277) (E' + 277) k V j t v u cs) sz tk s), fun e s' => After (inst221 P (D' + 277) (E' + 277) k V j t v u cs) sz tk s (.error e) s') hS hA2) hS _ _ [0, 1, 2, 3, 5, 6]
      (tAa0 1 prog P b1 b2 D' E' sz tk (tk + 1) (N + 277) (tk + 2) V k j t v u h0 hk) rfl (fun fr => ⟨fun _ h => (nomatch h), fun s3 D3 => ?_⟩) D1
    rw [xAa0 1 prog P b1 b2 D' E' sz tk (tk + 1) (N + 277) (tk + 2) V k j t v u h0 hk fr]
    exact add_first hS hA2 hk hj hkj fin (k - 1) 0 _ _ _ _ _ _ _ _ _ _ s3 (by omega) D3
  · obtain rfl : k = 0 := by omega
    obtain rfl : j = 0 := by omega
    refine run_to (S := SQ prog P b1 b2) (laws_none (lv := 2) (finP (model prog w) A (After (inst221 P (D' + 277) (E' + 277) 0 V 0 t v u cs) sz tk s), fun e s' => After (inst221 P (D' + 277) (E' + 277) 0 V 0 t v u cs) sz tk s (.error e) s') hS hA2) hS _ _ [0, 1, 2, 3, 9, 10]
      (tAy 1 prog P b1 b2 D' E' sz tk (tk + 1) (N + 277) (tk + 2) V 0 t v u (by decide)) rfl (fun fr => ⟨fun _ h => (nomatch h), fun s3 D3 => ?_⟩) D1
    exact add_second hS hA2 hk hj hkj none (.inl ⟨rfl, rfl⟩) _ _ _ D3 fin
noncomputable def c221 (D E k : Nat) (V : Vs) (j t : Nat) (v : Int) (u : Nat) (hk : k < 8) (hj : j ≤ k) (hkj : addk k j < 8) : Ctr (stQ P b1 b2) (SQ prog P b1 b2) :=
  ctrDef 221 (fun | [.ref a, .ref b] => some (inst221 P D E k V j t v u [(.a a, .a D), (.a b, .a E)]) | _ => none) fun args i hi hcs => by
    split at hi
    · cases hi
      obtain ⟨e, hcs⟩ := okA hcs
      obtain ⟨e2, _⟩ := okA hcs
      subst e e2
      exact ⟨fun _ _ _ => rfl, triple221 _ _ _ _ _ _ _ _ hk hj hkj _⟩
    · cases hi
end
end Zd
namespace Zd
open PySem PySem.Spec PySem.Calls PyProof.Rows PySem.W PySem.W.X
structure Bk where
  v : Nat → Int
  u : Nat → Nat
noncomputable def bookO (B : Bk) (D : Nat) : Obj := tupO [.int (B.v 0) (B.u 0), .int (B.v 1) (B.u 1), .int (B.v 2) (B.u 2), .int (B.v 3) (B.u 3), .ref D]
section
variable (lv : Nat) (prog : Program) (P : Params) (b1 b2 : Bool) (D E T S C k0 k1 : Nat) (sz tk : Nat) (V : Vs) (k j t : Nat) (v : Int) (u : Nat) (B G : Bk)
theorem call214' (X0 X1 X2 X3 : Obj) (fr : Nat → Fv) :
    let o := run (stQ P b1 b2) (SQ prog P b1 b2) lv 40 [.s 214, .s 213, .d 4, .d 4, .d 4, .d 4] fr (code214 (.ref T) (.ref S)) [] (denZ (code214 (.ref T) (.ref S))) [.o D X0, .o E X1, .o T X2, .o S X3] sz tk []
    (o.sel [0, 1, 2, 3, 4], o.cs.map Prod.fst) = (.at (code214 (.ref T) (.ref S)) [] (entered (body214 sz)) [.o D X0, .o E X1, .o T X2, .o S X3, .o sz (frm [ent P "target" tk (.ref T), ent P "source" (tk + 1) (.ref S)])] (sz + 1) (tk + 2) [], o.cs.map Prod.snd) := by
  kernel_rfl
noncomputable abbrev hUn (P : Params) (prog : Program) (b1 b2 : Bool) (a it : Nat) : List (H (stQ P b1 b2) (SQ prog P b1 b2)) :=
  [.d a, .d a, .d a, .n, .d a, .d it, .d it] ++ rept [.n, .d it, .d it, .d it, .d a, .d it, .d it, .d it] 5 ++ [.n, .d it, .d it, .d it, .d a, .d it, .d it, .d (it + 2)]
noncomputable def gSum (hk : k < 8) (hj : j ≤ k) (hkj : addk k j < 8) (fr : Nat → Fv) : Out := run (stQ P b1 b2) (SQ prog P b1 b2) (lv + 4) 500
  ([.d 4] ++ hUn P prog b1 b2 3 5 ++ rept [.d 4] 11 ++ hUn P prog b1 b2 2 8 ++ rept [.d 4] 12 ++ [.n, .d 4, .d 4, .n, .d 4, .d 4, .n, .d 4, .d 4, .n, .s 3, .d 4, .d 4, .s 221, .o (c221 D E k V j t v u hk hj hkj) [0, 1]])
  fr (body214 C) [] (denZ (body214 C)) [.o D (dctO P k V), .o E (dct1 P j t v u), .o T (bookO B D), .o S (bookO G E), .o C (frm [ent P "target" k0 (.ref T), ent P "source" k1 (.ref S)])] sz tk []
noncomputable def Out.btk (i : Nat) : Out → Nat
  | .ret _ led _ _ _ => match (led[12]? : Option Cell) with
    | some (Cell.o _ x) => match x.data with
      | .seq vs _ => match vs.toList[i]? with
        | some (.int _ u) => u
        | _ => 0
      | _ => 0
    | _ => 0
  | _ => 0
noncomputable def sumB (B G : Bk) : Nat → Int := fun i => G.v i + B.v i
theorem tSum (hk : k < 8) (hj : j ≤ k) (hkj : addk k j < 8) (fr : Nat → Fv) :
    let o := gSum lv prog P b1 b2 D E T S C k0 k1 sz tk V k j t v u B G hk hj hkj fr
    (o.sel [0, 1, 2, 3, 11, 12], o.cs.map Prod.fst) = (.ret (.ok (.ret (.ref ((fr 18).n 0)))) [.o D (dctO P k V), .o E (dct1 P j t v u), .o T (bookO B D), .o S (bookO G E), .o ((fr 18).n 2) (addO P V k j v (Tn (fr 18).n) (Un (fr 18).n)), .o ((fr 18).n 0) (bookO ⟨sumB B G, fun i => o.btk i⟩ ((fr 18).n 2))] ((fr 18).n 0 + 1) o.gtk [], o.cs.map Prod.snd) := by
  cases b2 <;> kernel_rfl
end
end Zd
namespace Zd
open PySem PySem.Spec PySem.Calls PyProof.Rows PySem.W PySem.W.X
/-- an open stream: 2 the new dict, 3 the new book, 4.. the book's tokens, 8.. the dict's -/
noncomputable def inst214 (P : Params) (D E T S k : Nat) (V : Vs) (j t : Nat) (v : Int) (u : Nat) (B G : Bk) (cs : List (Tm × Tm)) : Inst := { lv := 4, cs, pre := [.o D (dctO P k V), .o E (dct1 P j t v u), .o T (bookO B D), .o S (bookO G E)], upd := fun _ _ _ => [.o D (dctO P k V), .o E (dct1 P j t v u), .o T (bookO B D), .o S (bookO G E)], res := fun _ _ f => .ok (.ret (.ref (f.n 3))), new := fun _ _ f => [.o (f.n 2) (addO P V k j v (Tn (fun i => f.n (i + 8))) (Un (fun i => f.n (i + 8)))), .o (f.n 3) (bookO ⟨sumB B G, fun i => f.n (i + 4)⟩ (f.n 2))] }
section
variable {prog : Program} {P : Params} {b1 b2 : Bool}
theorem triple214 (D E T S k : Nat) (V : Vs) (j t : Nat) (v : Int) (u : Nat) (B G : Bk) (hk : k < 8) (hj : j ≤ k) (hkj : addk k j < 8) (cs : List (Tm × Tm)) : Triple (stQ P b1 b2) (SQ prog P b1 b2) (code214 (.ref T) (.ref S)) (inst214 P D E T S k V j t v u B G cs) := by
  intro w hS A s sz tk g l hA hst hpre hnd hlow hb hsz htk
  refine wp_of_code ?_
  have D0 := rep_start (led := [.o D (dctO P k V), .o E (dct1 P j t v u), .o T (bookO B D), .o S (bookO G E)]) hst hpre hnd hlow hb hsz htk
  refine def_call (lv := 4) (call214' 4 prog P b1 b2 D E T S sz tk (dctO P k V) (dct1 P j t v u) (bookO B D) (bookO G E)) hS hA rfl rfl rfl D0 fun s1 D1 => ?_
  refine code_ret (lv := 4) (tSum 0 prog P b1 b2 D E T S sz tk (tk + 1) (sz + 1) (tk + 2) V k j t v u B G hk hj hkj) hS hA rfl D1 fun fr s2 D2 => ?_
  generalize hB : (fun i => Out.btk i (gSum 0 prog P b1 b2 D E T S sz tk (tk + 1) (sz + 1) (tk + 2) V k j t v u B G hk hj hkj fr)) = U at D2
  generalize (gSum 0 prog P b1 b2 D E T S sz tk (tk + 1) (sz + 1) (tk + 2) V k j t v u B G hk hj hkj fr).gtk = tk2 at D2
  refine rep_end (i := inst214 P D E T S k V j t v u B G cs) { Fv.z with n := fun n => match n with | 0 => (fr 18).n 0 + 1 | 1 => tk2 | 2 => (fr 18).n 2 | 3 => (fr 18).n 0 | 4 => U 0 | 5 => U 1 | 6 => U 2 | 7 => U 3 | i + 8 => (fr 18).n i } D2 rfl rfl rfl rfl ?_
  intro x hx hm
  have nd := D2.nd
  have := (List.nodup_append (l₁ := [(true, _), (true, _), (true, _), (true, _)]) (l₂ := [(true, (fr 18).n 2), (true, (fr 18).n 0)])).mp nd
  exact this.2.2 _ hm _ hx rfl
noncomputable def c214 (D E T S k : Nat) (V : Vs) (j t : Nat) (v : Int) (u : Nat) (B G : Bk) (hk : k < 8) (hj : j ≤ k) (hkj : addk k j < 8) : Ctr (stQ P b1 b2) (SQ prog P b1 b2) :=
  ctrDef 214 (fun | [.ref a, .ref b] => some (inst214 P D E T S k V j t v u B G [(.a a, .a T), (.a b, .a S)]) | _ => none) fun args i hi hcs => by
    split at hi
    · cases hi
      obtain ⟨e, hcs⟩ := okA hcs
      obtain ⟨e2, _⟩ := okA hcs
      subst e e2
      exact ⟨fun _ _ _ => rfl, triple214 _ _ _ _ _ _ _ _ _ _ _ _ hk hj hkj _⟩
    · cases hi
end
end Zd
namespace Zd
open PySem PySem.Spec PySem.Calls PyProof.Rows PySem.W PySem.W.X
/-- the letters: small from 0, great from 8 -/
noncomputable def hdr (i : Nat) : Str := ⟨#[match Nat.blt i 8 with | true => 97 + i | false => 57 + i]⟩
noncomputable def brk (i : Nat) : Str := ⟨#[40 + i]⟩
section
variable (lv : Nat) (prog : Program) (P : Params) (b1 b2 : Bool) (fr : Nat → Fv) (sv : Value) (x : Str) (xt : Nat) (nm : Bool) (C k0 k1 k2 sz tk : Nat)
noncomputable abbrev code83 (sv v : Value) (nm : Bool) : Code := .call (.ref 83) ⟨[sv, v], [("name", .bool nm)]⟩
noncomputable def body83 (C : Nat) : Code := .func (partsOf (clsStmt 7 1)).2.1 (envD (clsStmt 7 1) "Headers._convert_string_type.<locals>." 83 82 C)
theorem call83 (fr : Nat → Fv) :
    let o := run (stQ P b1 b2) (SQ prog P b1 b2) lv 40 [.s 83, .s 82, .d 0, .d 0, .d 0, .d 0, .d 0, .d 0] fr (code83 sv (.str x xt) nm) [] (denZ (code83 sv (.str x xt) nm)) [] sz tk []
    (o.sel [0], o.cs.map Prod.fst) = (.at (code83 sv (.str x xt) nm) [] (entered (body83 sz)) [.o sz (frm [ent P "self" tk sv, ent P "value" (tk + 1) (.str x xt), ent P "name" (tk + 2) (.bool nm)])] (sz + 1) (tk + 3) [], o.cs.map Prod.snd) := by
  kernel_rfl
noncomputable def gB83 (p q : Nat) (fr : Nat → Fv) : Out := run (stQ P b1 b2) (SQ prog P b1 b2) lv 80
  [.s 3, .s 0, .d 0, .n, .s 3, .s 0, .d 0, .s 3, .d 0, .d 0, .d 0, .s p, .s p, .s p, .s p, .d 0, .n, .s p, .s p, .s q, .d 0]
  fr (body83 C) [] (denZ (body83 C)) [.o C (frm [ent P "self" k0 sv, ent P "value" k1 (.str x xt), ent P "name" k2 (.bool nm)])] sz tk []
theorem tB83n (i : Nat) (hi : i < 16) (fr : Nat → Fv) :
    let o := gB83 lv prog P b1 b2 sv (hdr i) xt true C k0 k1 k2 sz tk 48 47 fr
    (o.sel [], o.cs.map Prod.fst) = (.ret (.ok (.ret (.str (hdr i) xt))) [] sz (tk + 1) [], o.cs.map Prod.snd) := by
  cases b2
  · match i, hi with
    | 0, _ => kernel_rfl
    | 1, _ => kernel_rfl
    | 2, _ => kernel_rfl
    | 3, _ => kernel_rfl
    | 4, _ => kernel_rfl
    | 5, _ => kernel_rfl
    | 6, _ => kernel_rfl
    | 7, _ => kernel_rfl
    | 8, _ => kernel_rfl
    | 9, _ => kernel_rfl
    | 10, _ => kernel_rfl
    | 11, _ => kernel_rfl
    | 12, _ => kernel_rfl
    | 13, _ => kernel_rfl
    | 14, _ => kernel_rfl
    | 15, _ => kernel_rfl
    | i + 16, h => exact absurd h (by omega)
  · match i, hi with
    | 0, _ => kernel_rfl
    | 1, _ => kernel_rfl
    | 2, _ => kernel_rfl
    | 3, _ => kernel_rfl
    | 4, _ => kernel_rfl
    | 5, _ => kernel_rfl
    | 6, _ => kernel_rfl
    | 7, _ => kernel_rfl
    | 8, _ => kernel_rfl
    | 9, _ => kernel_rfl
    | 10, _ => kernel_rfl
    | 11, _ => kernel_rfl
    | 12, _ => kernel_rfl
    | 13, _ => kernel_rfl
    | 14, _ => kernel_rfl
    | 15, _ => kernel_rfl
    | i + 16, h => exact absurd h (by omega)
theorem tB83v (i : Nat) (hi : i < 2) (fr : Nat → Fv) :
    let o := gB83 lv prog P b1 b2 sv (brk i) xt false C k0 k1 k2 sz tk 53 52 fr
    (o.sel [], o.cs.map Prod.fst) = (.ret (.ok (.ret (.str (brk i) xt))) [] sz (tk + 1) [], o.cs.map Prod.snd) := by
  cases b2
  · match i, hi with
    | 0, _ => kernel_rfl
    | 1, _ => kernel_rfl
    | i + 2, h => exact absurd h (by omega)
  · match i, hi with
    | 0, _ => kernel_rfl
    | 1, _ => kernel_rfl
    | i + 2, h => exact absurd h (by omega)
end
end Zd
namespace Zd
open PySem PySem.Spec PySem.Calls PyProof.Rows PySem.W PySem.W.X
/-- the texts that go through _convert_string_type in the law -/
noncomputable def conv (x : Str) (nm : Bool) : Prop := (nm = true ∧ ∃ i, i < 16 ∧ x = hdr i) ∨ (nm = false ∧ ∃ i, i < 2 ∧ x = brk i)
noncomputable def inst83 (x : Str) (t : Nat) (cs : List (Tm × Tm)) : Inst := { lv := 1, cs, pre := [], upd := fun _ _ _ => [], res := fun _ _ _ => .ok (.ret (.str x t)), new := fun _ _ _ => [] }
section
variable {prog : Program} {P : Params} {b1 b2 : Bool}
theorem triple83 (sv : Value) (x : Str) (xt : Nat) (nm : Bool) (hx : conv x nm) (cs : List (Tm × Tm)) : Triple (stQ P b1 b2) (SQ prog P b1 b2) (code83 sv (.str x xt) nm) (inst83 x xt cs) := by
  intro w hS A s sz tk g l hA hst hpre hnd hlow hb hsz htk
  refine wp_of_code ?_
  have D := rep_start (led := []) hst (fun _ h => (nomatch h)) List.nodup_nil (fun _ h => (nomatch h)) hb hsz htk
  refine def_call (lv := 1) (call83 1 prog P b1 b2 sv x xt nm sz tk) hS hA rfl rfl rfl D fun s1 D1 => ?_
  rcases hx with ⟨rfl, i, hi, rfl⟩ | ⟨rfl, i, hi, rfl⟩
  · refine code_ret (lv := 1) (tB83n 1 prog P b1 b2 sv xt sz tk (tk + 1) (tk + 2) (sz + 1) (tk + 3) i hi) hS hA rfl D1 fun fr s2 D2 => ?_
    exact rep_end (i := inst83 _ _ cs) { Fv.z with n := fun k => match k with | 0 => sz + 1 | _ => tk + 3 + 1 } D2 rfl rfl rfl rfl (fun _ h => (nomatch h))
  · refine code_ret (lv := 1) (tB83v 1 prog P b1 b2 sv xt sz tk (tk + 1) (tk + 2) (sz + 1) (tk + 3) i hi) hS hA rfl D1 fun fr s2 D2 => ?_
    exact rep_end (i := inst83 _ _ cs) { Fv.z with n := fun k => match k with | 0 => sz + 1 | _ => tk + 3 + 1 } D2 rfl rfl rfl rfl (fun _ h => (nomatch h))
theorem okV {a b : Value} {l : List (Tm × Tm)} (h : ∀ p ∈ (Tm.v a, Tm.v b) :: l, Tm.ok p) : a = b ∧ ∀ p ∈ l, Tm.ok p := ⟨Tm.v.inj (h _ (.head _)), fun p hp => h p (.tail _ hp)⟩
noncomputable def c83 (x0 : Str) (nm0 : Bool) (hx : conv x0 nm0) : Ctr (stQ P b1 b2) (SQ prog P b1 b2) where
  f
    | .call (.ref a') ⟨args, kw⟩ => match Nat.beq a' 83 with
      | true => match args with
        | [_, .str x t] => match kw with
          | [(kn, kv)] => some (inst83 x t [(.s x, .s x0), (.s kn, .s "name"), (.v kv, .v (.bool nm0))])
          | _ => none
        | _ => none
      | false => none
    | _ => none
  sound c j hj hcs := by
    split at hj
    · split at hj
      · rename_i e
        split at hj
        · split at hj
          · cases hj
            obtain ⟨e1, hcs⟩ := okS hcs
            obtain ⟨e2, hcs⟩ := okS hcs
            obtain ⟨e3, _⟩ := okV hcs
            rw [Nat.eq_of_beq_eq_true e, e1, e2, e3]
            exact ⟨fun _ _ _ => rfl, triple83 _ _ _ _ hx _⟩
          · cases hj
        · cases hj
      · cases hj
    · cases hj
end
end Zd
namespace Zd
open PySem PySem.Spec PySem.Calls PyProof.Rows PySem.W PySem.W.X
noncomputable def pageO (Dd : Nat) : Obj := ⟨.ref 182, some Dd, .plain, #[]⟩
noncomputable def pdO (P : Params) (t L : Nat) : Obj := ⟨.type "dict", none, .dict #[entS P "_headers" t (.ref L)] 1, #[]⟩
section
variable (lv : Nat) (prog : Program) (P : Params) (b1 b2 : Bool) (Dd I C L k0 k1 k2 t : Nat) (sz tk : Nat)
noncomputable def env76 (sz : Nat) : Env := envD (clsStmt 7 0) "Headers.__init__.<locals>." 76 75 sz
noncomputable def body76 (sz : Nat) : Code := .func (partsOf (clsStmt 7 0)).2.1 (env76 sz)
theorem call76 (X0 X1 : Obj) (fr : Nat → Fv) :
    let o := run (stQ P b1 b2) (SQ prog P b1 b2) lv 40 [.s 76, .s 75, .s 69, .d 2, .d 2, .d 2, .d 2] fr (.call (.ref 76) ⟨[.ref I], []⟩) [] (denZ (.call (.ref 76) ⟨[.ref I], []⟩)) [.o Dd X0, .o I X1] sz tk []
    (o.sel [0, 1, 2], o.cs.map Prod.fst) = (.at (.call (.ref 76) ⟨[.ref I], []⟩) [] (entered (body76 sz)) [.o Dd X0, .o I X1, .o sz (frm [ent P "self" tk (.ref I), ent P "headers" (tk + 1) .none])] (sz + 1) (tk + 2) [], o.cs.map Prod.snd) := by
  kernel_rfl
noncomputable def g76 (fr : Nat → Fv) : Out := run (stQ P b1 b2) (SQ prog P b1 b2) lv 300
  [.d 2, .d 2, .d 2, .s 3, .s 0, .d 2, .n, .d 3, .s 3, .s 0, .d 2, .d 2, .d 1, .s 182, .s 182, .s 181, .n, .d 1, .s 182, .d 1, .s 182, .d 1, .s 182, .s 182, .s 181, .d 1, .s 182, .d 0, .d 0, .d 0, .d 2, .d 3, .d 3, .n, .d 3, .d 4, .n, .d 4, .n, .d 4, .d 4, .d 4, .d 3, .d 4, .d 4, .d 6]
  fr (body76 C) [] (denZ (body76 C)) [.o (Dd + 277) (dicO [] 0), .o (I + 277) (pageO (Dd + 277)), .o C (frm [ent P "self" k0 (.ref (I + 277)), ent P "headers" k1 .none])] sz tk []
theorem t76 (fr : Nat → Fv) :
    let o := g76 lv prog P b1 b2 Dd I C k0 k1 sz tk fr
    (o.sel [0, 1, 3], o.cs.map Prod.fst) = (.ret (.ok (.ret .none)) [.o (Dd + 277) (pdO P (tk + 2) sz), .o (I + 277) (pageO (Dd + 277)), .o sz (seqO [] 0)] (sz + 4) (tk + 3) [], o.cs.map Prod.snd) := by
  cases b2 <;> kernel_rfl
end
noncomputable def inst76 (P : Params) (Dd I : Nat) (cs : List (Tm × Tm)) : Inst := { lv := 1, cs, pre := [.o Dd (dicO [] 0), .o I (pageO Dd)], upd := fun _ _ f => [.o Dd (pdO P (f.n 3) (f.n 2)), .o I (pageO Dd)], res := fun _ _ _ => .ok (.ret .none), new := fun _ _ f => [.o (f.n 2) (seqO [] 0)] }
section
variable {prog : Program} {P : Params} {b1 b2 : Bool}
theorem triple76 (Dd I : Nat) (cs : List (Tm × Tm)) : Triple (stQ P b1 b2) (SQ prog P b1 b2) (.call (.ref 76) ⟨[.ref I], []⟩) (inst76 P Dd I cs) := by
  intro w hS A s sz tk g l hA hst hpre hnd hlow hb hsz htk
  refine wp_of_code ?_
  have hD : 277 ≤ Dd := hlow _ (.head _)
  obtain ⟨Dd', rfl⟩ : ∃ D', Dd = D' + 277 := ⟨Dd - 277, by omega⟩
  have hI : 277 ≤ I := hlow _ (.tail _ (.head _))
  obtain ⟨I', rfl⟩ : ∃ E', I = E' + 277 := ⟨I - 277, by omega⟩
  have D0 := rep_start (led := [.o (Dd' + 277) (dicO [] 0), .o (I' + 277) (pageO (Dd' + 277))]) hst hpre hnd hlow hb hsz htk
  refine def_call (lv := 1) (call76 1 prog P b1 b2 (Dd' + 277) (I' + 277) sz tk (dicO [] 0) (pageO (Dd' + 277))) hS hA rfl rfl rfl D0 fun s1 D1 => ?_
  refine code_ret (lv := 1) (t76 1 prog P b1 b2 Dd' I' sz tk (tk + 1) (sz + 1) (tk + 2)) hS hA rfl D1 fun fr s2 D2 => ?_
  refine rep_end (i := inst76 P (Dd' + 277) (I' + 277) cs) { Fv.z with n := fun n => match n with | 0 => sz + 1 + 4 | 1 => tk + 2 + 3 | 2 => sz + 1 | _ => tk + 2 + 2 } D2 rfl rfl rfl rfl ?_
  intro x hx hm
  have nd := D2.nd
  have := (List.nodup_append (l₁ := [(true, _), (true, _)]) (l₂ := [(true, sz + 1)])).mp nd
  exact this.2.2 _ hm _ hx rfl
noncomputable def c76 (Dd I : Nat) : Ctr (stQ P b1 b2) (SQ prog P b1 b2) :=
  ctrDef 76 (fun | [.ref a] => some (inst76 P Dd I [(.a a, .a I)]) | _ => none) fun args i hi hcs => by
    split at hi
    · cases hi
      obtain ⟨e, _⟩ := okA hcs
      subst e
      exact ⟨fun _ _ _ => rfl, triple76 _ _ _⟩
    · cases hi
end
end Zd
namespace Zd
open PySem PySem.Spec PySem.Calls PyProof.Rows PySem.W PySem.W.X
section
variable (lv : Nat) (prog : Program) (P : Params) (b1 b2 : Bool) (Dd I C L k0 k1 k2 k3 t : Nat) (sz tk : Nat) (vs : List Value) (m : Nat) (x y : Str) (xt yt : Nat)
noncomputable def env179 (sz : Nat) : Env := envD (clsStmt 7 16) "Headers.add_header.<locals>." 179 178 sz
noncomputable def body179 (sz : Nat) : Code := .func (partsOf (clsStmt 7 16)).2.1 (env179 sz)
theorem call179 (X0 X1 X2 : Obj) (fr : Nat → Fv) :
    let o := run (stQ P b1 b2) (SQ prog P b1 b2) lv 60 [.s 179, .s 178, .d 4, .d 4, .d 4, .d 4, .d 4, .d 4, .d 4, .d 4] fr (.call (.ref 179) ⟨[.ref I, .str x xt, .str y yt], []⟩) [] (denZ (.call (.ref 179) ⟨[.ref I, .str x xt, .str y yt], []⟩)) [.o Dd X0, .o I X1, .o L X2] sz tk []
    (o.sel [0, 1, 2, 3, 4], o.cs.map Prod.fst) = (.at (.call (.ref 179) ⟨[.ref I, .str x xt, .str y yt], []⟩) [] (entered (body179 (sz + 1))) [.o Dd X0, .o I X1, .o L X2, .o sz (dicO [] 0), .o (sz + 1) (frm [ent P "self" tk (.ref I), ent P "_name" (tk + 1) (.str x xt), ent P "_value" (tk + 2) (.str y yt), ent P "_params" (tk + 3) (.ref sz)])] (sz + 2) (tk + 4) [], o.cs.map Prod.snd) := by
  kernel_rfl
noncomputable def g179 (hx : conv x true) (hy : conv y false) (hl : vs.length ≤ sizeLine) (fr : Nat → Fv) : Out := run (stQ P b1 b2) (SQ prog P b1 b2) (lv + 2) 500
  ([.d 4, .d 4, .d 4, .d 4, .d 1, .s 182, .s 182, .s 181, .d 1, .s 182, .s 182, .s 181, .d 1, .s 182, .s 182, .s 181, .s 83, .d 1, .d 0, .d 4, .s 83, .o (c83 y false hy) [], .d 4, .d 4, .d 4, .d 5, .d 5, .d 5, .d 5, .d 4, .n, .d 5, .d 5, .d 5, .d 5, .d 4, .d 3, .d 3, .d 3, .d 3, .n, .d 3, .d 3, .d 6, .d 6, .n, .d 6, .d 6, .d 3, .d 3, .d 7, .n, .d 7, .n, .d 7, .d 7, .d 7, .d 3, .d 3, .d 7, .d 7, .d 7, .d 9] ++
   [.d 4, .d 1, .s 182, .s 182, .s 181, .n, .d 1, .s 182, .s 182, .s 181, .d 1, .d 1, .s 182, .d 0, .d 2, .d 2, .d 2, .d 2, .d 4, .d 1, .s 182, .s 182, .s 181, .d 1, .s 182, .s 182, .s 181, .d 1, .s 182, .s 182, .s 181, .s 83, .d 1, .d 0, .d 4, .s 83, .o (c83 x true hx) [], .d 4, .n, .d 5, .d 5, .o (cAppend (L + 277) vs m hl) [2]])
  fr (body179 C) [] (denZ (body179 C)) [.o (Dd + 277) (pdO P t (L + 277)), .o (I + 277) (pageO (Dd + 277)), .o (L + 277) (seqO vs m), .o (sz + 277) (dicO [] 0), .o C (frm [ent P "self" k0 (.ref (I + 277)), ent P "_name" k1 (.str x xt), ent P "_value" k2 (.str y yt), ent P "_params" k3 (.ref (sz + 277))])] (sz + 279) tk []
theorem t179 (i : Nat) (hi : i < 16) (j : Nat) (hj : j < 2) (hx : conv (hdr i) true) (hy : conv (brk j) false) (hl : vs.length ≤ sizeLine) (fr : Nat → Fv) :
    let o := g179 lv prog P b1 b2 Dd I C L k0 k1 k2 k3 t sz tk vs m (hdr i) (brk j) xt yt hx hy hl fr
    (o.sel [0, 1, 2, 10], o.cs.map Prod.fst) = (.ret (.ok (.ret .none)) [.o (Dd + 277) (pdO P t (L + 277)), .o (I + 277) (pageO (Dd + 277)), .o (L + 277) (seqO (vs ++ [.ref ((fr 7).n 0)]) (m + 1)), .o ((fr 7).n 0) (tupO [.str (hdr i) xt, .str (brk j) yt])] ((fr 7).n 0 + 1) o.gtk [], o.cs.map Prod.snd) := by
  cases b2 <;> kernel_rfl
end
end Zd
namespace Zd
open PySem PySem.Spec PySem.Calls PyProof.Rows PySem.W PySem.W.X
noncomputable def inst179 (P : Params) (Dd I L t : Nat) (vs : List Value) (m : Nat) (v w : Value) (cs : List (Tm × Tm)) : Inst := { lv := 2, cs, pre := [.o Dd (pdO P t L), .o I (pageO Dd), .o L (seqO vs m)], upd := fun _ _ f => [.o Dd (pdO P t L), .o I (pageO Dd), .o L (seqO (vs ++ [.ref (f.n 2)]) (m + 1))], res := fun _ _ _ => .ok (.ret .none), new := fun _ _ f => [.o (f.n 2) (tupO [v, w])] }
section
variable {prog : Program} {P : Params} {b1 b2 : Bool}
theorem triple179 (Dd I L t : Nat) (vs : List Value) (m i j xt yt : Nat) (hi : i < 16) (hj : j < 2) (hl : vs.length ≤ sizeLine) (cs : List (Tm × Tm)) : Triple (stQ P b1 b2) (SQ prog P b1 b2) (.call (.ref 179) ⟨[.ref I, .str (hdr i) xt, .str (brk j) yt], []⟩) (inst179 P Dd I L t vs m (.str (hdr i) xt) (.str (brk j) yt) cs) := by
  intro w hS A s sz tk g l hA hst hpre hnd hlow hb hsz htk
  refine wp_of_code ?_
  have hD : 277 ≤ Dd := hlow _ (.head _)
  obtain ⟨Dd', rfl⟩ : ∃ D', Dd = D' + 277 := ⟨Dd - 277, by omega⟩
  have hI : 277 ≤ I := hlow _ (.tail _ (.head _))
  obtain ⟨I', rfl⟩ : ∃ E', I = E' + 277 := ⟨I - 277, by omega⟩
  have hL : 277 ≤ L := hlow _ (.tail _ (.tail _ (.head _)))
  obtain ⟨L', rfl⟩ : ∃ E', L = E' + 277 := ⟨L - 277, by omega⟩
  have hb' : 277 ≤ sz := hb
  obtain ⟨z, rfl⟩ : ∃ z, sz = z + 277 := ⟨sz - 277, by omega⟩
  have D0 := rep_start (led := [.o (Dd' + 277) (pdO P t (L' + 277)), .o (I' + 277) (pageO (Dd' + 277)), .o (L' + 277) (seqO vs m)]) hst hpre hnd hlow hb hsz htk
  refine def_call (lv := 2) (call179 2 prog P b1 b2 (Dd' + 277) (I' + 277) (L' + 277) (z + 277) tk (hdr i) (brk j) xt yt _ _ _) hS hA rfl rfl rfl D0 fun s1 D1 => ?_
  refine code_ret (lv := 2) (t179 0 prog P b1 b2 Dd' I' _ L' tk (tk + 1) (tk + 2) (tk + 3) t z (tk + 4) vs m xt yt i hi j hj (.inl ⟨rfl, i, hi, rfl⟩) (.inr ⟨rfl, j, hj, rfl⟩) hl) hS hA rfl D1 fun fr s2 D2 => ?_
  refine rep_end (i := inst179 P (Dd' + 277) (I' + 277) (L' + 277) t vs m _ _ cs) { Fv.z with n := fun n => match n with | 0 => (fr 7).n 0 + 1 | 1 => _ | _ => (fr 7).n 0 } D2 rfl rfl rfl rfl ?_
  intro x hx hm
  have nd := D2.nd
  have := (List.nodup_append (l₁ := [(true, _), (true, _), (true, _)]) (l₂ := [(true, (fr 7).n 0)])).mp nd
  exact this.2.2 _ hm _ hx rfl
noncomputable def c179 (Dd I L t : Nat) (vs : List Value) (m i j : Nat) (hi : i < 16) (hj : j < 2) (hl : vs.length ≤ sizeLine) : Ctr (stQ P b1 b2) (SQ prog P b1 b2) :=
  ctrDef 179 (fun | [.ref a, .str x xt, .str y yt] => some (inst179 P Dd I L t vs m (.str (hdr i) xt) (.str (brk j) yt) [(.a a, .a I), (.s x, .s (hdr i)), (.s y, .s (brk j))]) | _ => none) fun args i' hi' hcs => by
    split at hi'
    · cases hi'
      obtain ⟨e, hcs⟩ := okA hcs
      obtain ⟨e2, hcs⟩ := okS hcs
      obtain ⟨e3, _⟩ := okS hcs
      subst e e2 e3
      exact ⟨fun _ _ _ => rfl, triple179 _ _ _ _ _ _ _ _ _ _ hi hj hl _⟩
    · cases hi'
end
end Zd
namespace Zd
open PySem PySem.Spec PySem.Calls PyProof.Rows PySem.W PySem.W.X
theorem Cell.fresh_key {s : Shared} {x y : Cell} (h : x.key = y.key) (hx : x.fresh s) : y.fresh s := by
  cases x <;> cases y <;> simp [Cell.key] at h
  · subst h; exact hx
  · subst h; exact hx
theorem Cell.not_fresh {s : Shared} : ∀ {x : Cell}, x.holds s → ¬ x.fresh s
  | .o a x, h, f => absurd (Heap.lt_size h) (Nat.not_lt.mpr f)
  | .g n x, h, f => by
    have : n < s.gens.size := (Array.getElem?_eq_some_iff.mp h).1
    exact absurd this (Nat.not_lt.mpr f)
theorem Cell.fresh_mono {W : List (Bool × Nat)} {s s' : Shared} (K : Kept W s s') : ∀ {x : Cell}, x.fresh s' → x.fresh s
  | .o _ _, h => Nat.le_trans K.mono h
  | .g _ _, h => Nat.le_trans K.gmono h
/-- a part of the ledger alone -/
theorem Rep.start {stat : Nat → Option Obj} {W : List (Bool × Nat)} {s₀ s : Shared} {led rest : Led} {sz tk : Nat} (D : Rep stat W s₀ (led ++ rest) sz tk s) : Rep stat (led.map Cell.key) s led sz tk s := by
  have nd := D.nd
  rw [List.map_append] at nd
  exact rep_start D.stat (fun x hx => D.cells x (List.mem_append_left _ hx)) (List.nodup_append.mp nd).1 (fun x hx => D.low x (List.mem_append_left _ hx)) D.base D.size D.toks
theorem Rep.frame {stat : Nat → Option Obj} {W : List (Bool × Nat)} {s₀ s s' : Shared} {led rest led' : Led} {sz tk sz' tk' : Nat} (D : Rep stat W s₀ (led ++ rest) sz tk s) (D' : Rep stat (led.map Cell.key) s led' sz' tk' s') :
    Rep stat W s₀ (led' ++ rest) sz' tk' s' := by
  have nd := D.nd
  rw [List.map_append] at nd
  obtain ⟨n1, n2, n3⟩ := List.nodup_append.mp nd
  have orgK : ∀ k ∈ led.map Cell.key, k ∈ W ∨ ∀ x : Cell, x.key = k → x.fresh s₀ := fun k hk => by
    obtain ⟨y, hy, rfl⟩ := List.mem_map.mp hk
    rcases D.org y (List.mem_append_left _ hy) with h | h
    · exact .inl h
    · exact .inr fun x e => Cell.fresh_key e.symm h
  refine ⟨D'.size, D'.toks, D'.stat, ?_, ?_, ?_, D'.base, ?_, ?_⟩
  · intro x hx
    rcases List.mem_append.mp hx with h | h
    · exact D'.cells x h
    · exact Cell.inKept D'.kept (D.cells x (List.mem_append_right _ h)) fun q => n3 _ q _ (List.mem_map_of_mem h) rfl
  · rw [List.map_append]
    refine List.nodup_append.mpr ⟨D'.nd, n2, ?_⟩
    intro a ha b hb e
    obtain ⟨x, hx, rfl⟩ := List.mem_map.mp ha
    obtain ⟨y, hy, rfl⟩ := List.mem_map.mp hb
    rcases D'.org x hx with h | h
    · exact n3 _ h _ hb e
    · exact Cell.not_fresh (D.cells y (List.mem_append_right _ hy)) (Cell.fresh_key e h)
  · intro x hx
    rcases List.mem_append.mp hx with h | h
    · exact D'.low x h
    · exact D.low x (List.mem_append_right _ h)
  · intro x hx
    rcases List.mem_append.mp hx with h | h
    · rcases D'.org x h with q | q
      · rcases orgK _ q with r | r
        · exact .inl r
        · exact .inr (r x rfl)
      · exact .inr (Cell.fresh_mono D.kept q)
    · exact D.org x (List.mem_append_right _ h)
  · refine ⟨Nat.le_trans D.kept.mono D'.kept.mono, fun b o hb e => ?_, Nat.le_trans D.kept.gmono D'.kept.gmono, fun b o hb e => ?_, D'.kept.drawn.trans D.kept.drawn, D'.kept.os.trans D.kept.os, fun h => D'.kept.bare (D.kept.bare h)⟩
    · refine D'.kept.keep b o (fun q => ?_) (D.kept.keep b o hb e)
      rcases orgK _ q with r | r
      · exact hb r
      · exact Cell.not_fresh (x := .o b o) e (r (.o b o) rfl)
    · refine D'.kept.gkeep b o (fun q => ?_) (D.kept.gkeep b o hb e)
      rcases orgK _ q with r | r
      · exact hb r
      · exact Cell.not_fresh (x := .g b o) e (r (.g b o) rfl)
end Zd
namespace Zd
open PySem PySem.Spec PySem.Calls PyProof.Rows PySem.W PySem.W.X
noncomputable def liO (l i : Nat) : Obj := ⟨.type "list_iterator", none, .fields #[.ref l, .int (i : Int) 0], #[]⟩
noncomputable def liE (i : Nat) : Obj := ⟨.type "list_iterator", none, .fields #[.none, .int (i : Int) 0], #[]⟩
section
variable {stat : Nat → Option Obj} {S : Setting}
noncomputable def instLI (it l : Addr) (vs : List Value) (m i : Nat) (x : Value) (cs : List (Tm × Tm)) : Inst := { lv := 0, cs, pre := [.o it (liO l i), .o l (seqO vs m)], upd := fun _ _ _ => [.o it (liO l (i + 1)), .o l (seqO vs m)], res := fun _ _ _ => .ok (.ret x), new := fun _ _ _ => [], nsz := fun sz _ => sz, ntk := fun tk _ => tk }
noncomputable def instLE (it l : Addr) (vs : List Value) (m i : Nat) (cs : List (Tm × Tm)) : Inst := { lv := 0, cs, pre := [.o it (liO l i), .o l (seqO vs m)], upd := fun _ _ _ => [.o it (liE i), .o l (seqO vs m)], res := fun sz _ _ => .error (.ref (sz + 1)), new := fun sz _ _ => [.o (sz + 1) (excO sz)], nsz := fun sz _ => sz + 2, ntk := fun tk _ => tk }
theorem li_item (it l : Addr) (vs : List Value) (m i : Nat) (x : Value) (cs : List (Tm × Tm)) (hx : vs[i]? = some x) : Triple stat S (.call (.builtin "list_iterator.__next__") ⟨[.ref it], []⟩) (instLI it l vs m i x cs) := by
  intro w hS A s sz tk g gl hA hst hpre hnd hlow hb hsz htk
  have ho : s.heap.get? it = some (liO l i) := hpre _ (.head _)
  have hol : s.heap.get? l = some (seqO vs m) := hpre _ (.tail _ (.head _))
  have hne : l ≠ it := fun e => by
    have := (List.nodup_cons.mp hnd).1
    exact this (by rw [e]; exact .head _)
  have hT : s.TypeIs (.ref it) "list_iterator" := ⟨_, ho, rfl⟩
  refine wpAny_mono (wp_of_call (E' := fun _ _ => False) (Q := fun v s' => After (instLI it l vs m i x cs) sz tk s (.ok (.ret v)) s') (E := fun _ _ => False) ?_) (fun r s' q => ?_) fun _ _ h => h
  · refine wpAny_call_entry slot_listiter_next hT entry_listiter_next ?_ (args_listiter_next _)
    show wpAny _ _ (field (.ref it) 0 >>= _) _ _ s
    refine wpAny_bind (wpAny_field ho rfl (x := .ref l) rfl ?_)
    show wpAny _ _ (if (Value.ref l == Value.none) = true then _ else _) _ _ s
    rw [if_neg (show ¬ ((Value.ref l == Value.none) = true) from Bool.false_ne_true)]
    show wpAny _ _ (field (.ref it) 1 >>= _) _ _ s
    refine wpAny_bind (wpAny_field ho rfl (x := .int i 0) rfl ?_)
    show wpAny _ _ (seqItems? (.ref l) >>= _) _ _ s
    refine wpAny_bind (wpAny_seqItems hol rfl ?_)
    have hx' : (⟨vs⟩ : Array Value)[i]? = some x := by simpa using hx
    simp only [Int.toNat_natCast, hx']
    refine wpAny_bind (wpAny_setField ho rfl (by simp) (wpAny_pure ⟨x, rfl, ?_⟩))
    subst hsz htk
    refine ⟨Fv.z, rfl, (Heap.SameBut.update ..).1, rfl, ?_, fun _ h => (nomatch h), List.nodup_nil, (kept_update s _).wide (fun k hk => by rw [List.mem_singleton.mp hk]; exact .head _)⟩
    intro y hy
    rcases List.mem_cons.mp hy with rfl | hy
    · exact Heap.get?_update_self _ ho rfl
    · rw [List.mem_singleton.mp hy]
      exact ((Heap.SameBut.update ..).2 l hne).trans hol
  · cases r with
    | error e => cases q
    | ok f =>
      cases f with
      | ret v => exact q
      | _ => cases q
theorem li_end (it l : Addr) (vs : List Value) (m i : Nat) (cs : List (Tm × Tm)) (hx : vs[i]? = none) : Triple stat S (.call (.builtin "list_iterator.__next__") ⟨[.ref it], []⟩) (instLE it l vs m i cs) := by
  intro w hS A s sz tk g gl hA hst hpre hnd hlow hb hsz htk
  have ho : s.heap.get? it = some (liO l i) := hpre _ (.head _)
  have hol : s.heap.get? l = some (seqO vs m) := hpre _ (.tail _ (.head _))
  have hne : l ≠ it := fun e => by
    have := (List.nodup_cons.mp hnd).1
    exact this (by rw [e]; exact .head _)
  have hT : s.TypeIs (.ref it) "list_iterator" := ⟨_, ho, rfl⟩
  refine wpAny_mono (wp_of_call (E' := fun _ _ => False) (Q := fun _ _ => False) (E := fun e s' => After (instLE it l vs m i cs) sz tk s (.error e) s') ?_) (fun r s' q => ?_) fun _ _ h => h
  · refine wpAny_call_entry slot_listiter_next hT entry_listiter_next ?_ (args_listiter_next _)
    show wpAny _ _ (field (.ref it) 0 >>= _) _ _ s
    refine wpAny_bind (wpAny_field ho rfl (x := .ref l) rfl ?_)
    show wpAny _ _ (if (Value.ref l == Value.none) = true then _ else _) _ _ s
    rw [if_neg (show ¬ ((Value.ref l == Value.none) = true) from Bool.false_ne_true)]
    show wpAny _ _ (field (.ref it) 1 >>= _) _ _ s
    refine wpAny_bind (wpAny_field ho rfl (x := .int i 0) rfl ?_)
    show wpAny _ _ (seqItems? (.ref l) >>= _) _ _ s
    refine wpAny_bind (wpAny_seqItems hol rfl ?_)
    have hx' : (⟨vs⟩ : Array Value)[i]? = none := by simpa using hx
    simp only [Int.toNat_natCast, hx']
    refine wpAny_bind (wpAny_rule (wpAny_bind (wpAny_setField ho rfl (by simp) ?_)))
    show wpAny _ _ (newExc (.type "StopIteration") [] >>= _) _ _ _
    refine wpAny_bind ?_
    simp only [newExc, newTuple]
    refine wpAny_bind (wpAny_newObj_type ?_ (by size_fits))
    refine wpAny_bind (m := firstArgMember _ _) (wpAny_of_eq (a := Value.none) (by first | rfl | (simp only [firstArgMember]; rfl)) ?_)
    refine wpAny_newObj_type ?_ (by size_fits)
    simp only [raiseNew]
    refine wpAny_bind (wpAny_handled ?_)
    rw [show A.in1.handled = none from hA.1]
    refine wpAny_bind (wpAny_pure (wpAny_throw ?_))
    subst hsz htk
    have e1 : (s.heap.update it (Obj.mapFields (·.setIfInBounds 0 .none))).objs.size = s.heap.objs.size := (Heap.SameBut.update ..).1
    have hu : (s.heap.update it (Obj.mapFields (·.setIfInBounds 0 .none))).get? it = some (liE i) := Heap.get?_update_self _ ho rfl
    have hv : (s.heap.update it (Obj.mapFields (·.setIfInBounds 0 .none))).get? l = some (seqO vs m) := ((Heap.SameBut.update ..).2 l hne).trans hol
    refine ⟨Fv.z, ?_, ?_, rfl, ?_, ?_, List.nodup_cons.mpr ⟨by simp, List.nodup_nil⟩, ?_⟩
    · show Except.error _ = Except.error _
      rw [Heap.size_push]
      exact congrArg (fun n => Except.error (Value.ref (n + 1))) e1
    · show ((Heap.push (Heap.push _ _) _).objs.size) = _
      rw [Heap.size_push, Heap.size_push]
      exact congrArg (· + 2) e1
    · intro y hy
      rcases List.mem_cons.mp hy with rfl | hy
      · exact Heap.get?_push_of_some _ (Heap.get?_push_of_some _ hu)
      · rw [List.mem_singleton.mp hy]
        exact Heap.get?_push_of_some _ (Heap.get?_push_of_some _ hv)
    · intro y hy
      rw [List.mem_singleton.mp hy]
      refine ⟨?_, Nat.le_succ _⟩
      show Heap.get? (Heap.push (Heap.push _ _) _) (s.heap.objs.size + 1) = some (excO s.heap.objs.size)
      have := Heap.get?_push_size (Heap.push (s.heap.update it (Obj.mapFields (·.setIfInBounds 0 .none))) { cls := .type "tuple", data := .seq #[] 0 }) (o := excO s.heap.objs.size) rfl
      rw [Heap.size_push, e1] at this
      rw [← this]
      have e2 : excO s.heap.objs.size = excO (s.heap.update it (Obj.mapFields (·.setIfInBounds 0 .none))).objs.size := by rw [e1]
      rw [e2]
      rfl
    · have k1 := (kept_update (a := it) (f := Obj.mapFields (·.setIfInBounds 0 .none)) s s.toks).wide (W' := ([Cell.o it (liO l i), .o l (seqO vs m)] : Led).map Cell.key) (fun k hk => by rw [List.mem_singleton.mp hk]; exact .head _)
      exact k1.trans (((kept_push _ _).wide (fun _ h => (nomatch h))).trans ((kept_push _ _).wide (fun _ h => (nomatch h))))
  · cases r with
    | error e => exact q
    | ok f =>
      cases f with
      | ret v => cases q
      | _ => cases q
noncomputable def cLI (it l : Addr) (vs : List Value) (m i : Nat) (x : Value) (hx : vs[i]? = some x) : Ctr stat S :=
  ctrB1 "list_iterator.__next__" it (instLI it l vs m i x) (fun _ => rfl) fun cs => ⟨fun _ _ _ => rfl, li_item it l vs m i x cs hx⟩
noncomputable def cLE (it l : Addr) (vs : List Value) (m i : Nat) (hx : vs[i]? = none) : Ctr stat S :=
  ctrB1 "list_iterator.__next__" it (instLE it l vs m i) (fun _ => rfl) fun cs => ⟨fun _ _ _ => rfl, li_end it l vs m i cs hx⟩
end
end Zd
namespace Zd
open PySem PySem.Spec PySem.Calls PyProof.Rows PySem.W PySem.W.X
section
variable (lv : Nat) (prog : Program) (P : Params) (b1 b2 : Bool) (Dd I C L k0 t : Nat) (sz tk : Nat) (vs : List Value) (m : Nat) (i xt : Nat)
theorem call121' (X0 X1 X2 : Obj) (v : Value) (fr : Nat → Fv) :
    let o := run (stQ P b1 b2) (SQ prog P b1 b2) lv 40 [.s 121, .s 120, .d 3, .d 3, .d 4, .d 4] fr (code121 (.ref I) v) [] (denZ (code121 (.ref I) v)) [.o Dd X0, .o I X1, .o L X2] sz tk []
    (o.sel [0, 1, 2, 3, 4], o.cs.map Prod.fst) = (.at (code121 (.ref I) v) [] (entered (body121 sz)) [.o Dd X0, .o I X1, .o L X2, .o sz (frm [ent P "self" tk (.ref I)]), .o (sz + 1) (celO (some v))] (sz + 2) (tk + 1) [], o.cs.map Prod.snd) := by
  kernel_rfl
noncomputable def g121 (hx : conv (hdr i) true) (fr : Nat → Fv) : Out := run (stQ P b1 b2) (SQ prog P b1 b2) (lv + 2) 500
  [.d 3, .d 1, .s 182, .s 182, .s 181, .d 1, .s 182, .s 182, .s 181, .d 1, .s 182, .s 182, .s 181, .s 83, .d 1, .d 0, .d 4, .n, .s 83, .o (c83 (hdr i) true hx) [], .d 4, .d 4, .d 3, .d 1, .s 182, .s 182, .s 181, .n, .d 1, .s 182, .s 182, .s 181, .d 1, .d 1, .s 182, .d 0, .d 2, .d 2, .n, .d 2, .d 5]
  fr (body121 C) [] (denZ (body121 C)) [.o (Dd + 277) (pdO P t (L + 277)), .o (I + 277) (pageO (Dd + 277)), .o (L + 277) (seqO vs m), .o C (frm [ent P "self" k0 (.ref (I + 277))]), .o (C + 1) (celO (some (.str (hdr i) xt)))] sz tk []
end
end Zd
namespace Zd
open PySem PySem.Spec PySem.Calls PyProof.Rows PySem.W PySem.W.X
noncomputable def retE : Option Stmt → PySem.Expr
  | some (.Return (some e) _) => e
  | _ => .Constant .none 0 ⟨0, 0, 0, 0⟩
noncomputable def scOf : PySem.Expr → Scope
  | .ListComp _ _ s _ => s
  | _ => default
noncomputable def cellS (s : Scope) : Scope := { s with names := s.names.map fun (n, k) => match k with | .free => (n, .cell) | k => (n, k) }
noncomputable def lc121 : PySem.Expr := retE ((partsOf (clsStmt 7 7)).2.1[1]?)
noncomputable def cenv121 (C N : Nat) : Env := { scope := cellS (scOf lc121), locals := N, globals := 3, cells := [("name", C + 1)], qual := "Headers.get_all.<locals>.", func := none, code := .ref 120, frame := some C, builtins := 0 }
noncomputable def codeGS (C N it acc : Nat) : Code := .compStart lc121 0 (.ref it) (.ref acc) (cenv121 C N)
noncomputable def codeGL (C N it acc : Nat) : Code := .compLoop lc121 0 (.ref it) (.ref acc) (cenv121 C N)
noncomputable def Out.cg : Out → Bool
  | .at _ _ (.call _ _ g _ _) _ _ _ _ => g
  | _ => false
/-- the comprehension's namespace -/
noncomputable def nsO (P : Params) (q : Option (Nat × Value)) (n : Str) : Obj := match q with
  | none => dicO [] 0
  | some (t, v) => dicO [entS P n t v] 1
section
variable (lv : Nat) (prog : Program) (P : Params) (b1 b2 : Bool) (Dd I C L k0 t : Nat) (sz tk : Nat) (vs : List Value) (m : Nat) (i xt : Nat)
noncomputable abbrev ledGA (P : Params) (Dd I C L k0 t : Nat) (vs : List Value) (m : Nat) (nm : Value) (Z : Nat) (itO : Obj) (acc ns : Obj) : Led := [.o (Dd + 277) (pdO P t (L + 277)), .o (I + 277) (pageO (Dd + 277)), .o (L + 277) (seqO vs m), .o C (frm [ent P "self" k0 (.ref (I + 277))]), .o (C + 1) (celO (some nm)), .o Z itO, .o (Z + 1) acc, .o (Z + 2) ns]
theorem t121a (hi : i < 8) (hx : conv (hdr i) true) (fr : Nat → Fv) :
    let o := g121 lv prog P b1 b2 Dd I C L k0 t sz tk vs m i xt hx fr
    (o.sel [0, 1, 2, 3, 4, 5, 6, 7], o.cs.map Prod.fst) = (.at (body121 C) [] (.call (codeGS C ((fr 1).n 0 + 2) ((fr 1).n 0) ((fr 1).n 0 + 1)) none o.cg o.cl o.ck) (ledGA P Dd I C L k0 t vs m (.str (hdr i) tk) ((fr 1).n 0) (liO (L + 277) 0) (seqO [] 0) (dicO [] 0)) ((fr 1).n 0 + 3) ((fr 1).n 1 + 1) [], o.cs.map Prod.snd) := by
  match i, hi with
  | 0, _ => cases b2 <;> kernel_rfl
  | 1, _ => cases b2 <;> kernel_rfl
  | 2, _ => cases b2 <;> kernel_rfl
  | 3, _ => cases b2 <;> kernel_rfl
  | 4, _ => cases b2 <;> kernel_rfl
  | 5, _ => cases b2 <;> kernel_rfl
  | 6, _ => cases b2 <;> kernel_rfl
  | 7, _ => cases b2 <;> kernel_rfl
  | i + 8, h => exact absurd h (by omega)
end
end Zd
namespace Zd
open PySem PySem.Spec PySem.Calls PyProof.Rows PySem.W PySem.W.X
open Builtin Builtin.Str
/-- a text, its token open -/
noncomputable def stl (l : List Nat) : Str := ⟨l.toArray⟩
noncomputable def instT (z : Str) (cs : List (Tm × Tm)) : Inst := { lv := 0, cs, pre := [], upd := fun _ _ _ => [], res := fun _ _ f => .ok (.ret (.str z (f.n 2))), new := fun _ _ _ => [], nsz := fun sz _ => sz }
noncomputable def Mk.text (z : Str) : Mk → Prop
  | .str x => x = z
  | .val (.str x _) => x = z
  | _ => False
section
variable {stat : Nat → Option Obj} {S : Setting}
theorem text_triple {id : String} {args : List Value} {z : Str} {m : Mk} {cs : List (Tm × Tm)} (hz : m.text z) (hm : m.small)
    (h : ∀ (prog : Program) (w : World) (A : Around) (Q : Value → Shared → Prop) (E : Value → Shared → Prop) (s : Shared), m.made.post Q s → wpAny (model prog w) A (call (.builtin id) args) Q E s) :
    Triple stat S (.call (.builtin id) ⟨args, []⟩) (instT z cs) := by
  intro w hS A s sz tk g l hA hst hpre h1 h2 hb hsz htk
  refine wpAny_mono (pure_triple (cs := []) h hm w hS A s sz tk g l (by cases m <;> exact hA) hst (by cases m <;> exact fun _ h => (nomatch h)) (by cases m <;> exact h1) (by cases m <;> exact fun _ h => (nomatch h)) hb hsz htk) (fun r s' q => ?_) fun _ _ h => h
  obtain ⟨f, rfl, e1, e2, -, -, -, K⟩ := q
  cases m with
  | str x =>
    have hz' : x = z := hz
    subst hz'
    exact ⟨{ Fv.z with n := fun k => match k with | 1 => tk + 1 | _ => tk }, rfl, e1, e2, fun _ h => (nomatch h), fun _ h => (nomatch h), List.nodup_nil, K⟩
  | int i => exact hz.elim
  | val v =>
    cases v with
    | str x t =>
      have hz' : x = z := hz
      subst hz'
      exact ⟨{ Fv.z with n := fun k => match k with | 1 => tk | _ => t }, rfl, e1, e2, fun _ h => (nomatch h), fun _ h => (nomatch h), List.nodup_nil, K⟩
    | _ => exact hz.elim
noncomputable def ctrText (id : String) (g : List Value → Option (List (Tm × Tm) × Str))
    (h : ∀ args cs z, g args = some (cs, z) → (∀ p ∈ cs, Tm.ok p) → ∃ m : Mk, m.text z ∧ m.small ∧ ∀ (prog : Program) (w : World) (A : Around) (Q : Value → Shared → Prop) (E : Value → Shared → Prop) (s : Shared), m.made.post Q s → wpAny (model prog w) A (call (.builtin id) args) Q E s) : Ctr stat S where
  f
    | .call (.builtin id') ⟨args, kw⟩ => match kw with
      | [] => match eqS id' id with
        | true => match g args with
          | some (cs, z) => some (instT z cs)
          | none => none
        | false => none
      | _ :: _ => none
    | _ => none
  sound c i hi hcs := by
    split at hi
    · split at hi
      · split at hi
        · rename_i e
          split at hi
          · rename_i cs z hg
            cases hi
            rw [eqS_eq e]
            obtain ⟨m, h1, h2, h3⟩ := h _ _ _ hg hcs
            exact ⟨fun _ _ _ => rfl, text_triple h1 h2 h3⟩
          · cases hi
        · cases hi
      · cases hi
    · cases hi
noncomputable def cLower (x0 y0 : Str) (h : placed x0 (fun i _ => Unicode.lowerAt x0.cps i) = y0.cps) (hl : y0.length ≤ sizeLine) : Ctr stat S :=
  ctrText "str.lower" (fun | [.str x _] => some ([(.s x, .s x0)], y0) | _ => none) fun args cs z hg hcs => by
    split at hg
    · cases hg
      obtain ⟨e1, _⟩ := okS hcs
      subst e1
      refine ⟨.str y0, rfl, hl, fun prog w A Q E s hq => call_gives F.slot_str_lower rfl F.entry_str_lower (F.args_str_lower_1 _) (gives_str_lower _ _ ?_) ?_⟩
      · rw [h]
        exact decide_eq_false (Nat.not_lt.mpr hl)
      · rw [h]; exact hq
    · cases hg
noncomputable def cUpper (x0 y0 : Str) (h : placed x0 (fun _ c => Unicode.upperOf c) = y0.cps) (hl : y0.length ≤ sizeLine) : Ctr stat S :=
  ctrText "str.upper" (fun | [.str x _] => some ([(.s x, .s x0)], y0) | _ => none) fun args cs z hg hcs => by
    split at hg
    · cases hg
      obtain ⟨e1, _⟩ := okS hcs
      subst e1
      refine ⟨.str y0, rfl, hl, fun prog w A Q E s hq => call_gives F.slot_str_upper rfl F.entry_str_upper (F.args_str_upper_1 _) (gives_str_upper _ _ ?_) ?_⟩
      · rw [h]
        exact decide_eq_false (Nat.not_lt.mpr hl)
      · rw [h]; exact hq
    · cases hg
end
end Zd
namespace Zd
open PySem PySem.Spec PySem.Calls PyProof.Rows PySem.W PySem.W.X
open Builtin Builtin.Str
section
variable (lv : Nat) (prog : Program) (P : Params) (b1 b2 : Bool) (L C Z : Nat) (sz tk : Nat) (vs : List Value) (m : Nat) (rs : List Value) (mr : Nat) (nm x y : Str) (nt xt yt a i : Nat) (q : Option (Nat × Value)) (v w : Value)
noncomputable abbrev ledGT (P : Params) (L C Z : Nat) (vs : List Value) (m i : Nat) (nm : Str) (nt : Nat) (rs : List Value) (mr : Nat) (q : Option (Nat × Value)) (v w : Value) (a : Nat) : Led := [.o Z (liO L i), .o L (seqO vs m), .o (C + 1) (celO (some (.str nm nt))), .o (Z + 1) (seqO rs mr), .o (Z + 2) (nsO P q "kv"), .o a (tupO [v, w])]
noncomputable def qTok (q : Option (Nat × Value)) (t : Nat) : Nat := match q with | none => t | some (t', _) => t'
/-- compStart: on to the loop -/
noncomputable def gGS (hs : List (H (stQ P b1 b2) (SQ prog P b1 b2))) (fr : Nat → Fv) : Out := run (stQ P b1 b2) (SQ prog P b1 b2) (lv + 2) 100 hs fr (codeGS C (Z + 2) Z (Z + 1)) [] (denZ (codeGS C (Z + 2) Z (Z + 1))) [.o Z (liO L 0), .o L (seqO vs m), .o (C + 1) (celO (some (.str nm nt))), .o (Z + 1) (seqO rs mr), .o (Z + 2) (nsO P q "kv")] sz tk []
theorem tGSf (fr : Nat → Fv) :
    let o := gGS lv prog P false b2 L C Z sz tk vs m rs mr nm nt q [.d 0, .d 0, .n, .d 0, .d 0] fr
    (o.sel [0, 1, 2, 3, 4], o.cs.map Prod.fst) = (.again (codeGL C (Z + 2) Z (Z + 1)) [.o Z (liO L 0), .o L (seqO vs m), .o (C + 1) (celO (some (.str nm nt))), .o (Z + 1) (seqO rs mr), .o (Z + 2) (nsO P q "kv")] sz tk [], o.cs.map Prod.snd) := by
  cases b2 <;> kernel_rfl
theorem tGSt (fr : Nat → Fv) :
    let o := gGS lv prog P true b2 L C Z sz tk vs m rs mr nm nt q [] fr
    (o.sel [0, 1, 2, 3, 4], o.cs.map Prod.fst) = (.again (codeGL C (Z + 2) Z (Z + 1)) [.o Z (liO L 0), .o L (seqO vs m), .o (C + 1) (celO (some (.str nm nt))), .o (Z + 1) (seqO rs mr), .o (Z + 2) (nsO P q "kv")] sz tk [], o.cs.map Prod.snd) := by
  cases b2 <;> kernel_rfl
noncomputable def gGL (x' : Str) (hx : vs[i]? = some (.ref a)) (h1 : placed x (fun i _ => Unicode.lowerAt x.cps i) = x'.cps) (h2 : x'.length ≤ sizeLine) (b : Bool) (h3 : (x'.cps.toList == nm.cps.toList) = b) (hs : List (H (stQ P b1 b2) (SQ prog P b1 b2))) (fr : Nat → Fv) : Out := run (stQ P b1 b2) (SQ prog P b1 b2) (lv + 2) 300
  ([.d 0, .o (cLI Z L vs m i (.ref a) hx) [0, 1], .d 4, .d 4, .d 4, .d 5, .d 5, .d 5, .n, .d 5, .d 5, .o (cLower x x' h1 h2) [], .d 2, .o (cStrEq x' nm b h3) []] ++ hs)
  fr (codeGL C (Z + 2) Z (Z + 1)) [] (denZ (codeGL C (Z + 2) Z (Z + 1))) (ledGT P L C Z vs m i nm nt rs mr q (.str x xt) w a) sz tk []
theorem tGLn (x' : Str) (hx : vs[i]? = some (.ref a)) (h1 : placed x (fun i _ => Unicode.lowerAt x.cps i) = x'.cps) (h2 : x'.length ≤ sizeLine) (h3 : (x'.cps.toList == nm.cps.toList) = false) (fr : Nat → Fv) :
    let o := gGL lv prog P b1 b2 L C Z sz tk vs m rs mr nm x nt xt a i q w x' hx h1 h2 false h3 [] fr
    (o.sel [0, 1, 2, 3, 4, 5], o.cs.map Prod.fst) = (.again (codeGL C (Z + 2) Z (Z + 1)) (ledGT P L C Z vs m (i + 1) nm nt rs mr (some (qTok q tk, .ref a)) (.str x xt) w a) sz o.gtk [], o.cs.map Prod.snd) := by
  rcases q with _ | ⟨t', v'⟩ <;> cases b2 <;> kernel_rfl
theorem tGLy (x' : Str) (hx : vs[i]? = some (.ref a)) (h1 : placed x (fun i _ => Unicode.lowerAt x.cps i) = x'.cps) (h2 : x'.length ≤ sizeLine) (h3 : (x'.cps.toList == nm.cps.toList) = true) (hl : rs.length ≤ sizeLine) (fr : Nat → Fv) :
    let o := gGL lv prog P b1 b2 L C Z sz tk vs m rs mr nm x nt xt a i q w x' hx h1 h2 true h3 [.d 4, .d 5, .d 5, .d 5, .n, .d 5, .d 5, .o (cAppend (Z + 1) rs mr hl) [3]] fr
    (o.sel [0, 1, 2, 3, 4, 5], o.cs.map Prod.fst) = (.again (codeGL C (Z + 2) Z (Z + 1)) (ledGT P L C Z vs m (i + 1) nm nt (rs ++ [w]) (mr + 1) (some (qTok q tk, .ref a)) (.str x xt) w a) sz o.gtk [], o.cs.map Prod.snd) := by
  rcases q with _ | ⟨t', v'⟩ <;> cases b2 <;> kernel_rfl
theorem tGLe (hx : vs[i]? = none) (fr : Nat → Fv) :
    let o := run (stQ P b1 b2) (SQ prog P b1 b2) (lv + 2) 300 [.d 0, .o (cLE Z L vs m i hx) [0, 1], .d 5] fr (codeGL C (Z + 2) Z (Z + 1)) [] (denZ (codeGL C (Z + 2) Z (Z + 1))) [.o Z (liO L i), .o L (seqO vs m), .o (C + 1) (celO (some (.str nm nt))), .o (Z + 1) (seqO rs mr), .o (Z + 2) (nsO P q "kv")] sz tk []
    (o.sel [0, 1, 2, 3, 4], o.cs.map Prod.fst) = (.ret (.ok .next) [.o Z (liE i), .o L (seqO vs m), .o (C + 1) (celO (some (.str nm nt))), .o (Z + 1) (seqO rs mr), .o (Z + 2) (nsO P q "kv")] (sz + 2) tk [], o.cs.map Prod.snd) := by
  cases b2 <;> kernel_rfl
end
end Zd
namespace Zd
open PySem PySem.Spec PySem.Calls PyProof.Rows PySem.W PySem.W.X
open Builtin Builtin.Str
theorem Rep.perm {stat : Nat → Option Obj} {W : List (Bool × Nat)} {s₀ s : Shared} {led led' : Led} {sz tk : Nat} (D : Rep stat W s₀ led sz tk s) (h : led.Perm led') : Rep stat W s₀ led' sz tk s :=
  D.sub (fun x hx => h.mem_iff.mpr hx) ((h.map Cell.key).nodup_iff.mp D.nd)
section
variable {prog : Program} {P : Params} {b1 b2 : Bool} {lv : Nat} {w : World} {A : Around} {W : List (Bool × Nat)} {s₀ s : Shared} {led rest : Led} {sz tk : Nat}
theorem code_againF {c : Code} {n : Nat} {hs : List (H (stQ P b1 b2) (SQ prog P b1 b2))} {js : List Nat} {R : Result → Shared → Prop} {c2 : (Nat → Fv) → Code} {led1 : (Nat → Fv) → Led} {sz1 tk1 : (Nat → Fv) → Nat}
    (e : ∀ fr, ((run (stQ P b1 b2) (SQ prog P b1 b2) lv n hs fr c [] (denZ c) led sz tk []).sel js, (run (stQ P b1 b2) (SQ prog P b1 b2) lv n hs fr c [] (denZ c) led sz tk []).cs.map Prod.fst) =
      (.again (c2 fr) (led1 fr) (sz1 fr) (tk1 fr) [], (run (stQ P b1 b2) (SQ prog P b1 b2) lv n hs fr c [] (denZ c) led sz tk []).cs.map Prod.snd))
    (hP : w.params = pq P b1 b2) (hA : Room lv A) (hj : incr js = true) (D : Rep (stQ P b1 b2) W s₀ (led ++ rest) sz tk s)
    (h : ∀ fr s', Rep (stQ P b1 b2) W s₀ (led1 fr ++ rest) (sz1 fr) (tk1 fr) s' → codeAny (model prog w) A (c2 fr) R s') : codeAny (model prog w) A c R s :=
  code_again e hP hA hj D.start fun fr s' D' => h fr s' (D.frame D')
theorem code_retF {c : Code} {n : Nat} {hs : List (H (stQ P b1 b2) (SQ prog P b1 b2))} {js : List Nat} {R : Result → Shared → Prop} {r : (Nat → Fv) → Result} {led1 : (Nat → Fv) → Led} {sz1 tk1 : (Nat → Fv) → Nat}
    (e : ∀ fr, ((run (stQ P b1 b2) (SQ prog P b1 b2) lv n hs fr c [] (denZ c) led sz tk []).sel js, (run (stQ P b1 b2) (SQ prog P b1 b2) lv n hs fr c [] (denZ c) led sz tk []).cs.map Prod.fst) =
      (.ret (r fr) (led1 fr) (sz1 fr) (tk1 fr) [], (run (stQ P b1 b2) (SQ prog P b1 b2) lv n hs fr c [] (denZ c) led sz tk []).cs.map Prod.snd))
    (hP : w.params = pq P b1 b2) (hA : Room lv A) (hj : incr js = true) (D : Rep (stQ P b1 b2) W s₀ (led ++ rest) sz tk s)
    (h : ∀ fr s', Rep (stQ P b1 b2) W s₀ (led1 fr ++ rest) (sz1 fr) (tk1 fr) s' → R (r fr) s') : codeAny (model prog w) A c R s :=
  code_ret e hP hA hj D.start fun fr s' D' => h fr s' (D.frame D')
end
noncomputable abbrev ledG5 (P : Params) (L C Z : Nat) (vs : List Value) (m : Nat) (itO : Obj) (nm : Str) (nt : Nat) (rs : List Value) (q : Option (Nat × Value)) : Led := [.o Z itO, .o L (seqO vs m), .o (C + 1) (celO (some (.str nm nt))), .o (Z + 1) (seqO rs rs.length), .o (Z + 2) (nsO P q "kv")]
structure Hd where
  a : Nat
  i : Nat
  j : Nat
  xt : Nat
  yt : Nat
noncomputable def tcell (h : Hd) : Cell := .o h.a (tupO [.str (hdr h.i) h.xt, .str (brk h.j) h.yt])
noncomputable def hrefs (hs : List Hd) : List Value := hs.map fun h => .ref h.a
/-- what get_all picks -/
noncomputable def hsel (i0 : Nat) (hs : List Hd) : List Value := (hs.filter fun h => h.i % 8 == i0).map fun h => .str (brk h.j) h.yt
noncomputable def Hd.ok (h : Hd) : Prop := h.i < 16 ∧ h.j < 2
theorem low_hdr : ∀ i, i < 16 → placed (hdr i) (fun k _ => Unicode.lowerAt (hdr i).cps k) = (hdr (i % 8)).cps := by decide +kernel
theorem eq_hdr : ∀ i, i < 8 → ∀ j, j < 8 → ((hdr i).cps.toList == (hdr j).cps.toList) = (i == j) := by decide +kernel
theorem one_line : 1 ≤ sizeLine := by decide
section
variable {prog : Program} {P : Params} {b1 b2 : Bool} {w : World} {A : Around} {W : List (Bool × Nat)} {s₀ : Shared} {R : Result → Shared → Prop} {L C Z m nt i0 : Nat}
theorem ga_loop (hS : w.params = pq P b1 b2) (hA : Room 2 A) (hi0 : i0 < 8) {hs : List Hd} (hok : ∀ h ∈ hs, h.ok) (hbig : hs.length ≤ 100) : ∀ (n i : Nat) (q : Option (Nat × Value)) (rs : List Value) (sz tk : Nat) (s : Shared), i + n = hs.length → rs.length ≤ i →
    Rep (stQ P b1 b2) W s₀ ([.o Z (liO L i), .o L (seqO (hrefs hs) m), .o (C + 1) (celO (some (.str (hdr i0) nt))), .o (Z + 1) (seqO rs rs.length), .o (Z + 2) (nsO P q "kv")] ++ hs.map tcell) sz tk s →
    (∀ q' sz' tk' s', Rep (stQ P b1 b2) W s₀ ([.o Z (liE hs.length), .o L (seqO (hrefs hs) m), .o (C + 1) (celO (some (.str (hdr i0) nt))), .o (Z + 1) (seqO (rs ++ hsel i0 (hs.drop i)) (rs ++ hsel i0 (hs.drop i)).length), .o (Z + 2) (nsO P q' "kv")] ++ hs.map tcell) sz' tk' s' → R (.ok .next) s') →
    codeAny (model prog w) A (codeGL C (Z + 2) Z (Z + 1)) R s
  | 0, i, q, rs, sz, tk, s, hn, hr, D, E => by
    have hi : i = hs.length := by omega
    subst hi
    have hx : (hrefs hs)[hs.length]? = none := by rw [List.getElem?_eq_none_iff]; simp [hrefs]
    rw [List.drop_length, show hsel i0 ([] : List Hd) = [] from rfl, List.append_nil] at E
    exact code_retF (tGLe 0 prog P b1 b2 L C Z sz tk (hrefs hs) m rs rs.length (hdr i0) nt hs.length q hx) hS hA rfl D fun fr s' D' => E _ _ _ _ D'
  | n + 1, i, q, rs, sz, tk, s, hn, hr, D, E => by
    have hlt : i < hs.length := by omega
    obtain ⟨h, eh⟩ : ∃ h, hs[i]? = some h := ⟨_, List.getElem?_eq_getElem hlt⟩
    have hm : h ∈ hs := List.mem_of_getElem? eh
    obtain ⟨ho1, ho2⟩ := hok h hm
    have hx : (hrefs hs)[i]? = some (.ref h.a) := by simp [hrefs, eh]
    have hd : hs.drop i = h :: hs.drop (i + 1) := by
      rw [List.drop_eq_getElem_cons hlt]
      congr 1
      have := List.getElem?_eq_getElem hlt
      rw [eh] at this
      exact (Option.some.inj this).symm
    have hperm : (hs.map tcell).Perm ([tcell h] ++ (hs.take i ++ hs.drop (i + 1)).map tcell) := by
      have : hs.Perm (h :: (hs.take i ++ hs.drop (i + 1))) := by
        conv => lhs; rw [← List.take_append_drop i hs, hd]
        exact List.perm_middle
      exact this.map tcell
    have D1 := D.perm (List.Perm.append_left _ hperm)
    rw [← List.append_assoc] at D1
    rw [hd] at E
    have hl : rs.length ≤ sizeLine := by have := big_line; omega
    cases hb : (h.i % 8 == i0) with
    | false =>
      have e : hsel i0 (h :: hs.drop (i + 1)) = hsel i0 (hs.drop (i + 1)) := by simp [hsel, hb]
      rw [e] at E
      refine code_againF (tGLn 0 prog P b1 b2 L C Z sz tk (hrefs hs) m rs rs.length (hdr i0) (hdr h.i) nt h.xt h.a i q (.str (brk h.j) h.yt) (hdr (h.i % 8)) hx (low_hdr _ ho1) one_line (by rw [eq_hdr _ (Nat.mod_lt _ (by decide)) _ hi0]; exact hb)) hS hA rfl D1 fun fr s' D' => ?_
      have D2 := Rep.perm (led := ledG5 P L C Z (hrefs hs) m (liO L (i + 1)) (hdr i0) nt rs (some (qTok q tk, .ref h.a)) ++ ([tcell h] ++ _)) D' (List.Perm.append_left _ hperm.symm)
      exact ga_loop hS hA hi0 hok hbig n (i + 1) _ rs _ _ s' (by omega) (by omega) D2 E
    | true =>
      have e : rs ++ hsel i0 (h :: hs.drop (i + 1)) = (rs ++ [.str (brk h.j) h.yt]) ++ hsel i0 (hs.drop (i + 1)) := by simp [hsel, hb]
      rw [e] at E
      refine code_againF (tGLy 0 prog P b1 b2 L C Z sz tk (hrefs hs) m rs rs.length (hdr i0) (hdr h.i) nt h.xt h.a i q (.str (brk h.j) h.yt) (hdr (h.i % 8)) hx (low_hdr _ ho1) one_line (by rw [eq_hdr _ (Nat.mod_lt _ (by decide)) _ hi0]; exact hb) hl) hS hA rfl D1 fun fr s' D' => ?_
      have el : rs.length + 1 = (rs ++ [Value.str (brk h.j) h.yt]).length := by simp
      rw [el] at D'
      have D2 := Rep.perm (led := ledG5 P L C Z (hrefs hs) m (liO L (i + 1)) (hdr i0) nt (rs ++ [.str (brk h.j) h.yt]) (some (qTok q tk, .ref h.a)) ++ ([tcell h] ++ _)) D' (List.Perm.append_left _ hperm.symm)
      exact ga_loop hS hA hi0 hok hbig n (i + 1) _ (rs ++ [.str (brk h.j) h.yt]) _ _ s' (by omega) (by simp; omega) D2 E
end
end Zd
namespace Zd
open PySem PySem.Spec PySem.Calls PyProof.Rows PySem.W PySem.W.X
open Builtin Builtin.Str
section
variable (lv : Nat) (prog : Program) (P : Params) (b1 b2 : Bool) (Dd I C L k0 t : Nat) (sz tk : Nat) (vs : List Value) (m : Nat) (i xt : Nat) (Z : Nat)
theorem t121z (hi : i < 8) (hx : conv (hdr i) true) (fr fr2 : Nat → Fv) (nm : Str) (nt n z k : Nat) (rs : List Value) (q : Option (Nat × Value)) :
    let o := run (stQ P b1 b2) (SQ prog P b1 b2) (lv + 2) 100 (match q with | none => [.d 7] | some _ => [.d 7, .d 7, .d 7]) fr2 (body121 C) [] ((g121 lv prog P b1 b2 Dd I C L k0 t sz tk vs m i xt hx fr).ck (.ok .next)) (ledGA P Dd I C L k0 t vs m (.str nm nt) ((fr 1).n 0) (liE n) (seqO rs rs.length) (nsO P q "kv")) z k []
    (o.sel [0, 1, 2, 6], o.cs.map Prod.fst) = (.ret (.ok (.ret (.ref ((fr 1).n 0 + 1)))) [.o (Dd + 277) (pdO P t (L + 277)), .o (I + 277) (pageO (Dd + 277)), .o (L + 277) (seqO vs m), .o ((fr 1).n 0 + 1) (seqO rs rs.length)] z k [], o.cs.map Prod.snd) := by
  rcases q with _ | ⟨t', v'⟩ <;> match i, hi with
  | 0, _ => cases b2 <;> kernel_rfl
  | 1, _ => cases b2 <;> kernel_rfl
  | 2, _ => cases b2 <;> kernel_rfl
  | 3, _ => cases b2 <;> kernel_rfl
  | 4, _ => cases b2 <;> kernel_rfl
  | 5, _ => cases b2 <;> kernel_rfl
  | 6, _ => cases b2 <;> kernel_rfl
  | 7, _ => cases b2 <;> kernel_rfl
  | i + 8, h => exact absurd h (by omega)
end
theorem Rep.pickA {stat : Nat → Option Obj} {W : List (Bool × Nat)} {s₀ s : Shared} {led led' rest : Led} {sz tk : Nat} (D : Rep stat W s₀ (led ++ rest) sz tk s) (js : List Nat) (h : pick led js = some led') (hj : js.Nodup := by decide) : Rep stat W s₀ (led' ++ rest) sz tk s := by
  have nd := D.nd
  rw [List.map_append] at nd
  obtain ⟨n1, n2, n3⟩ := List.nodup_append.mp nd
  have hm : ∀ x ∈ led', x ∈ led := fun x hx => by
    obtain ⟨j, _, ej⟩ := pick_mem h x hx
    exact List.mem_of_getElem? ej
  refine D.sub (fun x hx => ?_) ?_
  · rcases List.mem_append.mp hx with h | h
    · exact List.mem_append_left _ (hm x h)
    · exact List.mem_append_right _ h
  · rw [List.map_append]
    refine List.nodup_append.mpr ⟨pick_nodup n1 hj h, n2, fun a ha b hb => ?_⟩
    obtain ⟨x, hx, rfl⟩ := List.mem_map.mp ha
    exact n3 _ (List.mem_map_of_mem (hm x hx)) b hb
noncomputable abbrev ledG3 (P : Params) (Dd I C L k0 t : Nat) : Led := [.o (Dd + 277) (pdO P t (L + 277)), .o (I + 277) (pageO (Dd + 277)), .o C (frm [ent P "self" k0 (.ref (I + 277))])]
noncomputable def inst121 (P : Params) (Dd I L t : Nat) (hs : List Hd) (m i0 : Nat) (cs : List (Tm × Tm)) : Inst := { lv := 3, cs, pre := [.o Dd (pdO P t L), .o I (pageO Dd), .o L (seqO (hrefs hs) m)] ++ hs.map tcell, upd := fun _ _ _ => [.o Dd (pdO P t L), .o I (pageO Dd), .o L (seqO (hrefs hs) m)] ++ hs.map tcell, res := fun _ _ f => .ok (.ret (.ref (f.n 2))), new := fun _ _ f => [.o (f.n 2) (seqO (hsel i0 hs) (hsel i0 hs).length)] }
section
variable {prog : Program} {P : Params} {b1 b2 : Bool}
theorem triple121 (Dd I L t : Nat) (hs : List Hd) (m i0 xt : Nat) (hi0 : i0 < 8) (hok : ∀ h ∈ hs, h.ok) (hbig : hs.length ≤ 100) (cs : List (Tm × Tm)) : Triple (stQ P b1 b2) (SQ prog P b1 b2) (code121 (.ref I) (.str (hdr i0) xt)) (inst121 P Dd I L t hs m i0 cs) := by
  intro w hS A s sz tk g l hA hst hpre hnd hlow hb hsz htk
  refine wp_of_code ?_
  have hD : 277 ≤ Dd := hlow _ (.head _)
  obtain ⟨Dd', rfl⟩ : ∃ D', Dd = D' + 277 := ⟨Dd - 277, by omega⟩
  have hI : 277 ≤ I := hlow _ (.tail _ (.head _))
  obtain ⟨I', rfl⟩ : ∃ E', I = E' + 277 := ⟨I - 277, by omega⟩
  have hL : 277 ≤ L := hlow _ (.tail _ (.tail _ (.head _)))
  obtain ⟨L', rfl⟩ : ∃ E', L = E' + 277 := ⟨L - 277, by omega⟩
  have D0 := rep_start hst hpre hnd hlow hb hsz htk
  have hx : conv (hdr i0) true := .inl ⟨rfl, i0, by omega, rfl⟩
  have hA3 : Room 3 A := hA
  refine def_call (lv := 3) (call121' 3 prog P b1 b2 (Dd' + 277) (I' + 277) (L' + 277) sz tk _ _ _ (.str (hdr i0) xt)) hS hA rfl rfl rfl (D0.start (led := [.o (Dd' + 277) (pdO P t (L' + 277)), .o (I' + 277) (pageO (Dd' + 277)), .o (L' + 277) (seqO (hrefs hs) m)])) fun s1 D1' => ?_
  have D1 := D0.frame D1'
  refine code_of_wp (S := SQ prog P b1 b2) ?_
  refine run_to (S := SQ prog P b1 b2) (laws_none (S := SQ prog P b1 b2) (lv := 3) (finP (model prog w) A (After (inst121 P (Dd' + 277) (I' + 277) (L' + 277) t hs m i0 cs) sz tk s), fun e s' => After (inst121 P (Dd' + 277) (I' + 277) (L' + 277) t hs m i0 cs) sz tk s (.error e) s') hS hA3) hS _ _ [0, 1, 2, 3, 4, 5, 6, 7]
    (t121a 1 prog P b1 b2 Dd' I' sz L' tk t (sz + 2) (tk + 1) (hrefs hs) m i0 xt hi0 hx) rfl (fun fr => ⟨fun _ h => (nomatch h), fun s2 D2' => ?_⟩) D1.start
  have D2 := D1.frame D2'
  refine means_call ?_
  have hA2 : Room 2 (A.under (body121 sz)) := room_under hA3 (Nat.le_of_ble_eq_true (by kernel_rfl)) (Nat.le_of_ble_eq_true (by kernel_rfl))
  generalize hZ : (fr 1).n 0 = Z at D2
  have D3 := (D2.pickA [5, 2, 4, 6, 7, 0, 1, 3] rfl).perm (led' := (ledG5 P (L' + 277) sz Z (hrefs hs) m (liO (L' + 277) 0) (hdr i0) (tk + 1) [] none ++ hs.map tcell) ++ ledG3 P Dd' I' sz L' tk t) (by
    rw [List.append_assoc]
    exact List.Perm.append_left (ledG5 P (L' + 277) sz Z (hrefs hs) m (liO (L' + 277) 0) (hdr i0) (tk + 1) [] none) (List.perm_append_comm (l₁ := ledG3 P Dd' I' sz L' tk t)))
  have key : ∀ {sz3 tk3 : Nat} {s3 : Shared}, Rep (stQ P b1 b2) ((ledG5 P (L' + 277) sz Z (hrefs hs) m (liO (L' + 277) 0) (hdr i0) (tk + 1) [] none ++ hs.map tcell).map Cell.key) s2 (ledG5 P (L' + 277) sz Z (hrefs hs) m (liO (L' + 277) 0) (hdr i0) (tk + 1) [] none ++ hs.map tcell) sz3 tk3 s3 → codeAny (model prog w) (A.under (body121 sz)) (codeGL sz (Z + 2) Z (Z + 1)) (fun r s' => Means (model prog w) A (finP (model prog w) A (After (inst121 P (Dd' + 277) (I' + 277) (L' + 277) t hs m i0 cs) (sz) tk s), fun e s' => After (inst121 P (Dd' + 277) (I' + 277) (L' + 277) t hs m i0 cs) sz tk s (.error e) s') (body121 sz) [] ((g121 1 prog P b1 b2 Dd' I' sz L' tk t (sz + 2) (tk + 1) (hrefs hs) m i0 xt hx fr).ck r) s') s3 := fun D4 => by
    refine ga_loop hS hA2 hi0 hok hbig hs.length 0 none [] _ _ _ (by omega) (Nat.zero_le _) D4 fun q' sz' tk' s5 D5 => ?_
    have D6 := D3.frame D5
    rw [List.nil_append, List.drop_zero] at D6
    have D7 := (D6.perm (led' := ledG3 P Dd' I' sz L' tk t ++ (ledG5 P (L' + 277) sz Z (hrefs hs) m (liE hs.length) (hdr i0) (tk + 1) (hsel i0 hs) q' ++ hs.map tcell)) List.perm_append_comm)
    rw [← List.append_assoc] at D7
    have D8 := D7.pickA [0, 1, 4, 2, 5, 3, 6, 7] rfl
    subst hZ
    refine run_to (S := SQ prog P b1 b2) (laws_none (S := SQ prog P b1 b2) (lv := 3) (finP (model prog w) A (After (inst121 P (Dd' + 277) (I' + 277) (L' + 277) t hs m i0 cs) sz tk s), fun e s' => After (inst121 P (Dd' + 277) (I' + 277) (L' + 277) t hs m i0 cs) sz tk s (.error e) s') hS hA3) hS _ _ [0, 1, 2, 6]
      (t121z 1 prog P b1 b2 Dd' I' sz L' tk t (sz + 2) (tk + 1) (hrefs hs) m i0 xt hi0 hx fr · (hdr i0) (tk + 1) hs.length sz' tk' (hsel i0 hs) q') rfl (fun fr2 => ⟨fun _ h => (nomatch h), fun s6 D9' c' => wpAny_pure ?_⟩) D8.start
    have D9 := D8.frame D9'
    refine rep_end (i := inst121 P (Dd' + 277) (I' + 277) (L' + 277) t hs m i0 cs) { Fv.z with n := fun n => match n with | 0 => sz' | 1 => tk' | _ => (fr 1).n 0 + 1 } (D9.perm (led' := ([.o (Dd' + 277) (pdO P t (L' + 277)), .o (I' + 277) (pageO (Dd' + 277)), .o (L' + 277) (seqO (hrefs hs) m)] ++ hs.map tcell) ++ [.o ((fr 1).n 0 + 1) (seqO (hsel i0 hs) (hsel i0 hs).length)]) ?_) rfl rfl rfl rfl ?_
    · rw [List.append_assoc]
      exact List.Perm.append_left [_, _, _] (List.perm_append_comm (l₁ := [_]))
    · intro x hx' hm
      have nd := D9.nd
      have hx2 : x = (true, (fr 1).n 0 + 1) := List.mem_singleton.mp hx'
      subst hx2
      have nd2 := (((List.perm_append_comm (l₁ := [Cell.o ((fr 1).n 0 + 1) (seqO (hsel i0 hs) (hsel i0 hs).length)])).append_left [_, _, _]).map Cell.key).nodup_iff.mp nd
      rw [← List.append_assoc, List.map_append] at nd2
      exact (List.nodup_append.mp nd2).2.2 _ hm _ (.head _) rfl
  cases b1 with
  | false => exact code_againF (rest := hs.map tcell) (lv := 2) (tGSf 0 prog P b2 (L' + 277) sz Z _ _ (hrefs hs) m [] 0 (hdr i0) (tk + 1) none) hS hA2 rfl D3.start fun fr s' D' => key D'
  | true => exact code_againF (rest := hs.map tcell) (lv := 2) (tGSt 0 prog P b2 (L' + 277) sz Z _ _ (hrefs hs) m [] 0 (hdr i0) (tk + 1) none) hS hA2 rfl D3.start fun fr s' D' => key D'
noncomputable def c121 (Dd I L t : Nat) (hs : List Hd) (m i0 : Nat) (hi0 : i0 < 8) (hok : ∀ h ∈ hs, h.ok) (hbig : hs.length ≤ 100) : Ctr (stQ P b1 b2) (SQ prog P b1 b2) :=
  ctrDef 121 (fun | [.ref a, .str x xt] => some (inst121 P Dd I L t hs m i0 [(.a a, .a I), (.s x, .s (hdr i0))]) | _ => none) fun args i hi hcs => by
    split at hi
    · cases hi
      obtain ⟨e, hcs⟩ := okA hcs
      obtain ⟨e2, _⟩ := okS hcs
      subst e e2
      exact ⟨fun _ _ _ => rfl, triple121 _ _ _ _ _ _ _ _ hi0 hok hbig _⟩
    · cases hi
end
end Zd
namespace Zd
open PySem PySem.Spec PySem.Calls PyProof.Rows PySem.W PySem.W.X
open Builtin Builtin.Str
section
variable {stat : Nat → Option Obj} {S : Setting}
noncomputable def cItemT (x0 : Str) (i0 : Int) (z : Str) (c : Nat) (hr : (decide (i0 < -(2 ^ 63 : Int)) || decide (i0 ≥ 2 ^ 63)) = false) (h : (seqIndex? i0 x0.length).bind (x0.cps[·]?) = some c) (hz : (⟨#[c]⟩ : Str) = z) : Ctr stat S :=
  ctrText "str.__getitem__" (fun | [.str x _, .int i _] => some ([(.s x, .s x0), (.i i, .i i0)], z) | _ => none) fun args cs z' hg hcs => by
    split at hg
    · cases hg
      obtain ⟨e1, hcs⟩ := okS hcs
      obtain ⟨e2, _⟩ := okI hcs
      subst e1 e2 hz
      exact ⟨.str ⟨#[c]⟩, rfl, one_line, fun prog w A Q E s hq => call_gives F.slot_str_getitem rfl F.entry_str_getitem (F.args_str_getitem_2 _ _) (gives_str_getitem _ _ _ _ _ hr h) hq⟩
    · cases hg
noncomputable def cMod (x0 y0 z : Int) (hy : (y0 == 0) = false) (hz : x0.fmod y0 = z) : Ctr stat S :=
  ctrPure "int.__mod__" (fun | [.int x _, .int y _] => some ([(.i x, .i x0), (.i y, .i y0)], .int z) | _ => none) fun args cs m hg hcs => by
    split at hg
    · cases hg
      obtain ⟨e1, hcs⟩ := okI hcs
      obtain ⟨e2, _⟩ := okI hcs
      subst e1 e2 hz
      exact ⟨trivial, fun prog w A Q E s hq => call_gives F.slot_int_mod rfl F.entry_int_mod (F.args_int_mod_2 _ _) (AutoIntG6.int___mod___int_int_1 _ _ _ _ (by rw [hy]; decide)) hq⟩
    · cases hg
end
/-- seven ints -/
noncomputable def dvs (d t : Nat → Nat) : List Value := [.int (d 0 : Nat) (t 0), .int (d 1 : Nat) (t 1), .int (d 2 : Nat) (t 2), .int (d 3 : Nat) (t 3), .int (d 4 : Nat) (t 4), .int (d 5 : Nat) (t 5), .int (d 6 : Nat) (t 6)]
noncomputable def abc8 : Str := "abcdefgh"
theorem item8 : ∀ d : Nat, d < 8 → (seqIndex? (d : Int) abc8.length).bind (abc8.cps[·]?) = some (97 + d) := by decide +kernel
theorem item8z : ∀ d : Nat, d < 8 → (⟨#[97 + d]⟩ : Str) = hdr d := by decide +kernel
theorem upp8 : ∀ d : Nat, d < 8 → placed (hdr d) (fun _ c => Unicode.upperOf c) = (hdr (d + 8)).cps := by decide +kernel
theorem long_small {d : Nat} (h : d < 100) : (decide ((d : Int) < -(2 ^ 63 : Int)) || decide ((d : Int) ≥ 2 ^ 63)) = false := by
  rw [decide_eq_false (by omega), decide_eq_false (by omega)]; rfl
theorem fmod2 (k : Nat) : ((k : Int).fmod 2) = ((k % 2 : Nat) : Int) := by
  rw [Int.fmod_eq_emod_of_nonneg _ (by decide)]; omega
noncomputable def for245 : PySem.Expr × List Stmt × List Stmt := forOf ((partsOf (topStmt 19)).2.1[2]?)
noncomputable def codeSF (C r : Nat) : Code := .forLoop for245.1 (.ref r) for245.2.1 for245.2.2 (env245 C)
noncomputable def frS (P : Params) (k0 k1 k2 k3 k4 : Nat) (X lt : Nat) (q : Option (Value × Value × Value)) : Obj :=
  frm ([ent P "depths" k0 (.ref X), ent P "letters" k1 (.str abc8 lt)] ++ (match q with | some (a, b, c) => [ent P "k" k2 a, ent P "own" k3 b, ent P "later" k4 c] | none => []))
noncomputable abbrev ledS (P : Params) (X C Dd I L r k0 k1 k2 k3 k4 lt t k : Nat) (d u : Nat → Nat) (vs : List Value) (m : Nat) (q : Option (Value × Value × Value)) : Led := [.o X (seqO (dvs d u) 7), .o C (frS P k0 k1 k2 k3 k4 X lt q), .o (C + 1) (celO (some (.ref I))), .o Dd (pdO P t L), .o I (pageO Dd), .o L (seqO vs m), .o r (riO k ((7 - k : Nat) : Int))]
/-- the header's letter: great at every second pair -/
noncomputable def up (k i : Nat) : Nat := match k with | 1 => i + 8 | 3 => i + 8 | 5 => i + 8 | _ => i
noncomputable def tok2 (o : Obj) : Nat × Nat := match o.data with
  | .seq vs _ => match vs.toList with
    | [.str _ a, .str _ b] => (a, b)
    | _ => (0, 0)
  | _ => (0, 0)
noncomputable def Out.tup2 (j : Nat) : Out → Nat × Nat
  | .at _ _ _ led _ _ _ => match (led[j]? : Option Cell) with
    | some (.o _ x) => tok2 x
    | _ => (0, 0)
  | .again _ led _ _ _ => match (led[j]? : Option Cell) with
    | some (.o _ x) => tok2 x
    | _ => (0, 0)
  | _ => (0, 0)
noncomputable def Out.adr (j : Nat) : Out → Nat
  | .at _ _ _ led _ _ _ => match (led[j]? : Option Cell) with
    | some (.o a _) => a
    | _ => 0
  | .again _ led _ _ _ => match (led[j]? : Option Cell) with
    | some (.o a _) => a
    | _ => 0
  | .ret _ led _ _ _ => match (led[j]? : Option Cell) with
    | some (.o a _) => a
    | _ => 0
  | _ => 0
section
variable (lv : Nat) (prog : Program) (P : Params) (b1 b2 : Bool) (X C Dd I L r k0 k1 k2 k3 k4 lt t k : Nat) (d u : Nat → Nat) (vs : List Value) (m : Nat) (sz tk : Nat) (q : Option (Value × Value × Value))
noncomputable abbrev hMeth (stat : Nat → Option Obj) (S : Setting) : List (H stat S) := [.d 2, .d 4, .s 182, .s 182, .s 181, .d 4, .s 182, .s 182, .s 181, .d 4, .s 182, .s 182, .s 181, .s 179, .d 4, .d 3, .d 1, .s 179]
noncomputable def hUp (prog : Program) (P : Params) (b1 b2 : Bool) (k i : Nat) (hi : i + 1 < 8) : List (H (stQ P b1 b2) (SQ prog P b1 b2)) := match k with
  | 1 | 3 | 5 => [.d 1, .o (cUpper (hdr i) (hdr (i + 8)) (upp8 _ (Nat.lt_of_succ_lt hi)) one_line) [], .d 1, .d 1, .d 1, .o (cUpper (hdr (i + 1)) (hdr (i + 1 + 8)) (upp8 _ hi) one_line) [], .d 1, .d 1]
  | _ => []
noncomputable def gSF (i j : Nat) (hi : i + 1 < 8) (hj : j < 16) (hl : vs.length ≤ sizeLine) (fr : Nat → Fv) : Out := run (stQ P b1 b2) (SQ prog P b1 b2) (lv + 3) 400
  ([.d 6, .n, .d 6, .d 6, .d 6, .d 6, .d 6, .d 6, .d 6, .d 6, .d 1, .d 1, .d 1, .d 1, .d 1, .d 0, .d 0, .d 0, .n, .d 0, .d 0, .o (cItemT abc8 i (hdr i) (97 + i) (long_small (by omega)) (item8 _ (Nat.lt_of_succ_lt hi)) (item8z _ (Nat.lt_of_succ_lt hi))) [],
    .d 1, .d 1, .d 1, .d 1, .d 1, .d 0, .d 0, .d 0, .n, .d 0, .d 0, .n, .o (cItemT abc8 ((i + 1 : Nat) : Int) (hdr (i + 1)) (97 + (i + 1)) (long_small (by omega)) (item8 _ hi) (item8z _ hi)) [], .d 1, .d 1, .d 1, .o (cMod k 2 ((k % 2 : Nat) : Int) rfl (fmod2 k)) [], .n] ++ hUp prog P b1 b2 k i hi ++
   hMeth _ _ ++ [.o (c179 (Dd + 277) (I + 277) (L + 277) t vs m j 0 hj (by decide) hl) [3, 4, 5]] ++ hMeth _ _)
  fr (codeSF C r) [] (denZ (codeSF C r)) (ledS P X C (Dd + 277) (I + 277) (L + 277) r k0 k1 k2 k3 k4 lt t k d u vs m q) sz tk []
noncomputable def Out.ttk : Out → Nat × Nat × Nat × Nat × Nat × Nat
  | .at _ _ _ (_ :: .o _ x :: _) _ _ _ => match x.data with
    | .dict es _ => match es.toList with
      | [_, _, a, b, c] => match a.key, b.key, c.key, a.val, b.val, c.val with
        | .str _ p, .str _ q, .str _ r, .int _ s, .str _ t, .str _ u => (p, q, r, s, t, u)
        | _, _, _, _, _, _ => (0, 0, 0, 0, 0, 0)
      | _ => (0, 0, 0, 0, 0, 0)
    | _ => (0, 0, 0, 0, 0, 0)
  | _ => (0, 0, 0, 0, 0, 0)
noncomputable def Out.arT : Out → Nat
  | .at _ _ (.call (.call _ ⟨[_, _, .str _ t], _⟩) ..) _ _ _ _ => t
  | _ => 0
theorem tSF (hk : k < 7) (hi : d k + 1 < 8) (hj : up k (d k) < 16) (hl : vs.length ≤ sizeLine) (fr : Nat → Fv) :
    let o := gSF lv prog P b1 b2 X C Dd I L r k0 k1 k2 k3 k4 lt t k d u vs m sz tk q (d k) (up k (d k)) hi hj hl fr
    (o.sel [0, 1, 2, 3, 4, 5, 6, 7], o.cs.map Prod.fst) = (.at (codeSF C r) [] (.call (.call (.ref 179) ⟨[.ref (I + 277), .str (hdr (up k (d k + 1))) o.ttk.2.2.2.2.2, .str (brk 1) o.arT], []⟩) none o.cg o.cl o.ck) (ledS P X C (Dd + 277) (I + 277) (L + 277) r k0 k1 o.ttk.1 o.ttk.2.1 o.ttk.2.2.1 lt t (k + 1) d u (vs ++ [.ref (o.adr 7)]) (m + 1) (some (.int (k : Int) o.ttk.2.2.2.1, .str (hdr (up k (d k))) o.ttk.2.2.2.2.1, .str (hdr (up k (d k + 1))) o.ttk.2.2.2.2.2)) ++ [.o (o.adr 7) (tupO [.str (hdr (up k (d k))) (o.tup2 7).1, .str (brk 0) (o.tup2 7).2])]) o.gsz o.gtk [], o.cs.map Prod.snd) := by
  rcases q with _ | ⟨qa, qb, qc⟩ <;> match k, hk with
  | 0, _ => cases b2 <;> kernel_rfl
  | 1, _ => cases b2 <;> kernel_rfl
  | 2, _ => cases b2 <;> kernel_rfl
  | 3, _ => cases b2 <;> kernel_rfl
  | 4, _ => cases b2 <;> kernel_rfl
  | 5, _ => cases b2 <;> kernel_rfl
  | 6, _ => cases b2 <;> kernel_rfl
  | k + 7, h => exact absurd h (by omega)
noncomputable def hS2 (prog : Program) (P : Params) (b1 b2 : Bool) (Dd I L t : Nat) (vs : List Value) (m j : Nat) (hj : j < 16) (hl : vs.length ≤ sizeLine) : List (H (stQ P b1 b2) (SQ prog P b1 b2)) := [.o (c179 (Dd + 277) (I + 277) (L + 277) t vs m j 1 hj (by decide) hl) [3, 4, 5]]
theorem tSG (hk : k < 7) (hi : d k + 1 < 8) (hj : up k (d k) < 16) (hl : vs.length ≤ sizeLine) (fr : Nat → Fv) (k0' k1' k2' k3' k4' lt' t' j xt yt : Nat) (u' : Nat → Nat) (vs' : List Value) (m' : Nat) (hj' : j < 16) (hl' : vs'.length ≤ sizeLine) (qa qb qc : Value) (r' : Nat) (z y : Nat) (fr2 : Nat → Fv) :
    let o := run (stQ P b1 b2) (SQ prog P b1 b2) (lv + 3) 400 (hS2 prog P b1 b2 Dd I L t' vs' m' j hj' hl') fr2 (codeSF C r) [] (.call (.call (.ref 179) ⟨[.ref (I + 277), .str (hdr j) xt, .str (brk 1) yt], []⟩) none (gSF lv prog P b1 b2 X C Dd I L r k0 k1 k2 k3 k4 lt t k d u vs m sz tk q (d k) (up k (d k)) hi hj hl fr).cg (gSF lv prog P b1 b2 X C Dd I L r k0 k1 k2 k3 k4 lt t k d u vs m sz tk q (d k) (up k (d k)) hi hj hl fr).cl (gSF lv prog P b1 b2 X C Dd I L r k0 k1 k2 k3 k4 lt t k d u vs m sz tk q (d k) (up k (d k)) hi hj hl fr).ck)
      (ledS P X C (Dd + 277) (I + 277) (L + 277) r k0' k1' k2' k3' k4' lt' t' (k + 1) d u' vs' m' (some (qa, qb, qc))) z y []
    (o.sel [0, 1, 2, 3, 4, 5, 6, 7], o.cs.map Prod.fst) = (.again (codeSF C r) (ledS P X C (Dd + 277) (I + 277) (L + 277) r k0' k1' k2' k3' k4' lt' t' (k + 1) d u' (vs' ++ [.ref ((fr2 0).n 2)]) (m' + 1) (some (qa, qb, qc)) ++ [.o ((fr2 0).n 2) (tupO [.str (hdr j) xt, .str (brk 1) yt])]) ((fr2 0).n 0) ((fr2 0).n 1) [], o.cs.map Prod.snd) := by
  rcases q with _ | ⟨qa, qb, qc⟩ <;> match k, hk with
  | 0, _ => cases b2 <;> kernel_rfl
  | 1, _ => cases b2 <;> kernel_rfl
  | 2, _ => cases b2 <;> kernel_rfl
  | 3, _ => cases b2 <;> kernel_rfl
  | 4, _ => cases b2 <;> kernel_rfl
  | 5, _ => cases b2 <;> kernel_rfl
  | 6, _ => cases b2 <;> kernel_rfl
  | k + 7, h => exact absurd h (by omega)
end
end Zd
namespace Zd
open PySem PySem.Spec PySem.Calls PyProof.Rows PySem.W PySem.W.X
open Builtin Builtin.Str
section
variable (lv : Nat) (prog : Program) (P : Params) (b1 b2 : Bool) (X C k0 : Nat) (d u : Nat → Nat) (sz tk : Nat)
noncomputable def gSb (fr : Nat → Fv) : Out := run (stQ P b1 b2) (SQ prog P b1 b2) (lv + 3) 600
  ([.d 1, .d 1, .s 3, .s 182, .s 182, .n, .s 182, .s 182, .s 182, .s 182, .s 182, .s 182, .n, .s 182, .s 182, .s 182, .s 182, .s 182, .s 182, .s 182, .s 182, .s 182, .s 182, .s 182, .s 182, .s 182, .s 182, .s 182, .d 4, .s 182, .d 4, .s 182, .s 182, .s 181, .s 76, .o (c76 (sz + 277) (sz + 278)) [3, 4],
    .d 2, .d 2, .s 3, .s 0, .s 3, .s 0, .d 1, .n, .d 0, .n, .d 0, .d 0, .n, .n, .d 6, .d 6, .n, .d 6, .d 6, .d 6, .d 6, .n, .d 6, .d 6, .d 6, .d 6, .d 7])
  fr (body245 C) [] (denZ (body245 C)) [.o X (seqO (dvs d u) 7), .o C (frm [ent P "depths" k0 (.ref X)]), .o (C + 1) (celO none)] (sz + 277) tk []
theorem tSb (fr : Nat → Fv) :
    let o := gSb lv prog P b1 b2 X C k0 d u sz tk fr
    (o.sel [0, 1, 2, 3, 4, 5, 7], o.cs.map Prod.fst) = (.at (body245 C) [] (.call (codeSF C (o.adr 7)) none o.cg o.cl o.ck) (ledS P X C (sz + 277) (sz + 278) (o.adr 5) (o.adr 7) k0 (tk + 1) 0 0 0 tk ((fr 2).n 3) 0 d u [] 0 none) o.gsz o.gtk [], o.cs.map Prod.snd) := by
  cases b2 <;> kernel_rfl
end
end Zd
namespace Zd
open PySem PySem.Spec PySem.Calls PyProof.Rows PySem.W PySem.W.X
open Builtin Builtin.Str
/-- a contract's end, as a state -/
theorem rep_after {stat : Nat → Option Obj} {i : Inst} {sz tk : Nat} {s s' : Shared} {f : Fv} (hst : Stat stat s) (hlow : ∀ x ∈ i.pre, x.low) (hnd : (i.pre.map Cell.key).Nodup) (hb : N0 ≤ sz) (hsz : s.heap.objs.size = sz) (hpre : ∀ x ∈ i.pre, x.holds s)
    (hk : i.pre.map Cell.key = (i.upd sz tk f).map Cell.key) (h1 : s'.heap.objs.size = i.nsz sz f) (h2 : s'.toks = i.ntk tk f) (h3 : ∀ x ∈ i.upd sz tk f, x.holds s') (h4 : ∀ x ∈ i.new sz tk f, x.holds s' ∧ x.fresh s) (h5 : ((i.new sz tk f).map Cell.key).Nodup) (K : Kept (i.pre.map Cell.key) s s') :
    Rep stat (i.pre.map Cell.key) s (i.upd sz tk f ++ i.new sz tk f) (i.nsz sz f) (i.ntk tk f) s' := by
  have hmem : ∀ x ∈ i.upd sz tk f, ∃ y ∈ i.pre, y.key = x.key := fun x hx => by
    have : x.key ∈ i.pre.map Cell.key := by rw [hk]; exact List.mem_map_of_mem hx
    obtain ⟨y, hy, e⟩ := List.mem_map.mp this
    exact ⟨y, hy, e⟩
  refine ⟨h1, h2, fun a o e => ⟨(hst a o e).1, ?_⟩, ?_, ?_, ?_, ?_, ?_, K⟩
  · refine K.keep a o (fun hm => ?_) (hst a o e).2
    obtain ⟨x, hx, ex⟩ := List.mem_map.mp hm
    have hl := hlow x hx
    have hlt := (hst a o e).1
    cases x with
    | o b z =>
      have h2 : b = a := (Prod.mk.inj ex).2
      exact absurd (show N0 ≤ b from hl) (Nat.not_le_of_lt (h2 ▸ hlt))
    | g n z => cases (Prod.mk.inj ex).1
  · intro x hx
    rcases List.mem_append.mp hx with hx | hx
    · exact h3 x hx
    · exact (h4 x hx).1
  · rw [List.map_append, ← hk, List.nodup_append]
    refine ⟨hnd, h5, ?_⟩
    intro k hk' k' hk'' e
    obtain ⟨x, hx, ex⟩ := List.mem_map.mp hk'
    obtain ⟨y, hy, ey⟩ := List.mem_map.mp hk''
    exact holds_old (hpre x hx) (Zd.fresh_key (by rw [ex, ey, e]) (h4 y hy).2)
  · intro x hx
    rcases List.mem_append.mp hx with hx | hx
    · obtain ⟨y, hy, e⟩ := hmem x hx
      exact low_key e (hlow y hy)
    · have hf := (h4 x hx).2
      cases x with
      | o a z =>
        have h : s.heap.objs.size ≤ a := hf
        show N0 ≤ a
        omega
      | g n z => trivial
  · have := K.mono
    omega
  · intro x hx
    rcases List.mem_append.mp hx with hx | hx
    · obtain ⟨y, hy, e⟩ := hmem x hx
      exact .inl (e ▸ List.mem_map_of_mem hy)
    · exact .inr (h4 x hx).2
section
variable {prog : Program} {P : Params} {b1 b2 : Bool} {lv : Nat} {w : World} {A : Around} {W : List (Bool × Nat)} {s₀ s : Shared} {rest : Led} {sz tk : Nat}
/-- a call by a contract, by hand -/
theorem means_over {F : Post} {c c' : Code} {g : Bool} {l : List Value} {k : Result → Sem Fin} {i : Inst} (T : Triple (stQ P b1 b2) (SQ prog P b1 b2) c' i) (hS : w.params = pq P b1 b2) (hA : Room lv A) (hlv : i.lv < lv) (hw : c.weight ≤ 50) (hu : c.cUnits ≤ 150) (hk : ∀ sz tk f, i.pre.map Cell.key = (i.upd sz tk f).map Cell.key)
    (D : Rep (stQ P b1 b2) W s₀ (i.pre ++ rest) sz tk s) (h : ∀ f s', Rep (stQ P b1 b2) W s₀ ((i.upd sz tk f ++ i.new sz tk f) ++ rest) (i.nsz sz f) (i.ntk tk f) s' → Means (model prog w) A F c [] (k (i.res sz tk f)) s') : Means (model prog w) A F c [] (.call c' none g l k) s := by
  have D0 := D.start
  refine (laws_none (S := SQ prog P b1 b2) F hS hA).over (i := i.lv) (R' := After i sz tk s) hw hu hlv (fun A hA => T w hS A s sz tk g l hA D0.stat D0.cells D0.nd D0.low D0.base D0.size D0.toks) ?_
  rintro r s' ⟨f, rfl, h1, h2, h3, h4, h5, K⟩
  exact h f s' (D.frame (rep_after D0.stat D0.low D0.nd D0.base D0.size D0.cells (hk _ _ _) h1 h2 h3 h4 h5 K))
end
noncomputable def txv (l : List (List Nat × Nat)) : List Value := l.map fun p => .str (stl p.1) p.2
theorem stl_app (a b : List Nat) : stl a ++ stl b = stl (a ++ b) := by
  refine Str.ext' ?_
  show a.toArray ++ b.toArray = (a ++ b).toArray
  simp
theorem join_stl : ∀ l : List (List Nat), Str.join "" (l.map stl) = stl l.flatten
  | [] => rfl
  | [a] => by simp [Str.join]
  | a :: b :: l => by
    have ih := join_stl (b :: l)
    show stl a ++ ("" : Str) ++ Str.join "" ((b :: l).map stl) = _
    rw [ih]
    have e : ("" : Str) = stl [] := rfl
    rw [e, stl_app, stl_app]
    simp
theorem fold_len : ∀ (l : List (List Nat)) (n : Nat), (l.map stl).foldl (· + ·.length + ("" : Str).length) n = n + l.flatten.length
  | [], n => by simp
  | a :: l, n => by
    rw [List.map_cons, List.foldl_cons, fold_len l]
    have : (stl a).length = a.length := by simp [stl, Str.length]
    rw [this]
    have e : ("" : Str).length = 0 := rfl
    rw [e, List.flatten_cons, List.length_append]
    omega
noncomputable def instJ (a : Addr) (l : List (List Nat × Nat)) (m : Nat) (z : Str) (cs : List (Tm × Tm)) : Inst := { lv := 0, cs, pre := [.o a (seqO (txv l) m)], upd := fun _ _ _ => [.o a (seqO (txv l) m)], res := fun _ _ f => .ok (.ret (.str z (f.n 2))), new := fun _ _ _ => [], nsz := fun sz _ => sz }
section
variable {stat : Nat → Option Obj} {S : Setting}
theorem join_triple (t : Nat) (a : Addr) (l : List (List Nat × Nat)) (m : Nat) (z : List Nat) (hz : (l.map (·.1)).flatten = z) (hl : z.length ≤ 1000) (cs : List (Tm × Tm)) :
    Triple stat S (.call (.builtin "str.join") ⟨[.str "" t, .ref a], []⟩) (instJ a l m (stl z) cs) := by
  intro w hS A s sz tk g gl hA hst hpre hnd hlow hb hsz htk
  have ho : s.heap.get? a = some (seqO (txv l) m) := hpre _ (.head _)
  refine wpAny_mono (wp_of_call (E' := fun _ _ => False) (Q := fun v s' => After (instJ a l m (stl z) cs) sz tk s (.ok (.ret v)) s') (E := fun _ _ => False) ?_) (fun r s' q => ?_) fun _ _ h => h
  · have hv : strValues (l.map fun p => (stl p.1, p.2)) = txv l := by unfold strValues txv; rw [List.map_map]; rfl
    have ht : (l.map fun p => (stl p.1, p.2)).map (·.1) = (l.map (·.1)).map stl := by rw [List.map_map, List.map_map]; rfl
    refine SC.join (D := a) (l := l.map fun p => (stl p.1, p.2)) ⟨_, ho, rfl, m, by rw [hv]; rfl⟩ ht ?_ fun t' k => ?_
    · have hs : ((l.map (·.1)).map stl).toArray.foldl (· + ·.length + ("" : Str).length) 0 = z.length := by
        rw [List.foldl_toArray, fold_len, hz, Nat.zero_add]
      show (!tooLong _) = true
      unfold tooLong
      have := big_line
      rw [hs, decide_eq_false (by omega)]; rfl
    · have e : Txt.join "" ((l.map (·.1)).map stl) = stl z := by
        show glued "" _ = _
        rw [StrLaws.glued_eq_join, join_stl, hz]
      rw [e]
      subst hsz htk
      refine ⟨{ Fv.z with n := fun n => match n with | 1 => k | _ => t' }, rfl, rfl, rfl, fun y hy => ?_, fun _ h => (nomatch h), List.nodup_nil, (kept_toks s _).wide (fun _ h => (nomatch h))⟩
      have := hpre y hy
      rw [List.mem_singleton.mp hy] at this ⊢
      exact this
  · cases r with
    | error e => cases q
    | ok f =>
      cases f with
      | ret v => exact q
      | _ => cases q
/-- «''.join(l)» of a list of texts -/
noncomputable def cJoin (l : List (List Nat × Nat)) (m : Nat) (z : List Nat) (hz : (l.map (·.1)).flatten = z) (hl : z.length ≤ 1000) : Ctr stat S where
  f
    | .call (.builtin id') ⟨args, kw⟩ => match kw with
      | [] => match eqS id' "str.join" with
        | true => match args with
          | [.str x t, .ref a] => some (instJ a l m (stl z) [(.s x, .s "")])
          | _ => none
        | false => none
      | _ :: _ => none
    | _ => none
  sound c j hj hcs := by
    split at hj
    · split at hj
      · split at hj
        · rename_i e
          split at hj
          · cases hj
            obtain ⟨e1, _⟩ := okS hcs
            rw [eqS_eq e, e1]
            exact ⟨fun _ _ _ => rfl, join_triple _ _ _ _ _ hz hl _⟩
          · cases hj
        · cases hj
      · cases hj
    · cases hj
end
end Zd
namespace Zd
open PySem PySem.Spec PySem.Calls PyProof.Rows PySem.W PySem.W.X
open Builtin Builtin.Str
noncomputable def arg0 : PySem.Expr → PySem.Expr
  | .Call _ (a :: _) _ _ => a
  | e => e
noncomputable def lc245 : PySem.Expr := arg0 (retE ((partsOf (topStmt 19)).2.1[3]?))
noncomputable def cenv245 (C N : Nat) : Env := { scope := cellS (scOf lc245), locals := N, globals := 3, cells := [("page", C + 1)], qual := "_law_second.<locals>.", func := none, code := .ref 244, frame := some C, builtins := 0 }
noncomputable def codeLS (C N it acc : Nat) : Code := .compStart lc245 0 (.ref it) (.ref acc) (cenv245 C N)
noncomputable def codeLL (C N it acc : Nat) : Code := .compLoop lc245 0 (.ref it) (.ref acc) (cenv245 C N)
noncomputable abbrev ledL (P : Params) (C Z Dd I L t : Nat) (itO : Obj) (rs : List Value) (q : Option (Nat × Value)) : Led := [.o Z itO, .o (C + 1) (celO (some (.ref (I + 277)))), .o (Dd + 277) (pdO P t (L + 277)), .o (I + 277) (pageO (Dd + 277)), .o (Z + 1) (seqO rs rs.length), .o (Z + 2) (nsO P q "letter")]
noncomputable def Out.arT1 : Out → Nat
  | .at _ _ (.call (.call _ ⟨[_, .str _ t], _⟩) ..) _ _ _ _ => t
  | _ => 0
section
variable (lv : Nat) (prog : Program) (P : Params) (b1 b2 : Bool) (C Z Dd I L t lt j c : Nat) (rs : List Value) (sz tk : Nat) (q : Option (Nat × Value))
noncomputable def gLS (hs : List (H (stQ P b1 b2) (SQ prog P b1 b2))) (fr : Nat → Fv) : Out := run (stQ P b1 b2) (SQ prog P b1 b2) (lv + 3) 100 hs fr (codeLS C (Z + 2) Z (Z + 1)) [] (denZ (codeLS C (Z + 2) Z (Z + 1))) (ledL P C Z Dd I L t (siO abc8 lt 0) [] none) sz tk []
theorem tLSf (fr : Nat → Fv) :
    let o := gLS lv prog P false b2 C Z Dd I L t lt sz tk [.d 0, .d 0, .n, .d 0, .d 0] fr
    (o.sel [0, 1, 2, 3, 4, 5], o.cs.map Prod.fst) = (.again (codeLL C (Z + 2) Z (Z + 1)) (ledL P C Z Dd I L t (siO abc8 lt 0) [] none) sz tk [], o.cs.map Prod.snd) := by
  cases b2 <;> kernel_rfl
theorem tLSt (fr : Nat → Fv) :
    let o := gLS lv prog P true b2 C Z Dd I L t lt sz tk [] fr
    (o.sel [0, 1, 2, 3, 4, 5], o.cs.map Prod.fst) = (.again (codeLL C (Z + 2) Z (Z + 1)) (ledL P C Z Dd I L t (siO abc8 lt 0) [] none) sz tk [], o.cs.map Prod.snd) := by
  cases b2 <;> kernel_rfl
noncomputable def gLL (hx : abc8.cps[j]? = some c) (fr : Nat → Fv) : Out := run (stQ P b1 b2) (SQ prog P b1 b2) (lv + 3) 300
  [.d 0, .o (cSI Z abc8 lt j c hx) [0], .d 5, .d 5, .d 1, .d 3, .s 182, .s 182, .s 181, .d 3, .s 182, .s 182, .s 181, .d 3, .s 182, .s 182, .s 181, .s 121, .d 3, .d 2, .d 5, .s 121]
  fr (codeLL C (Z + 2) Z (Z + 1)) [] (denZ (codeLL C (Z + 2) Z (Z + 1))) (ledL P C Z Dd I L t (siO abc8 lt j) rs q) sz tk []
theorem tLL (hx : abc8.cps[j]? = some c) (fr : Nat → Fv) :
    let o := gLL lv prog P b1 b2 C Z Dd I L t lt j c rs sz tk q hx fr
    (o.sel [0, 1, 2, 3, 4, 5], o.cs.map Prod.fst) = (.at (codeLL C (Z + 2) Z (Z + 1)) [] (.call (code121 (.ref (I + 277)) (.str (chr1 c) o.arT1)) none o.cg o.cl o.ck) (ledL P C Z Dd I L t (siO abc8 lt (j + 1)) rs (some (qTok q (tk + 1), .str (chr1 c) o.arT1))) sz o.gtk [], o.cs.map Prod.snd) := by
  rcases q with _ | ⟨t', v'⟩ <;> cases b2 <;> kernel_rfl
theorem tLM (hx : abc8.cps[j]? = some c) (fr : Nat → Fv) (a j' y z : Nat) (q' : Option (Nat × Value)) (rs' : List Value) (l : List (List Nat × Nat)) (m : Nat) (tx : List Nat) (h1 : (l.map (·.1)).flatten = tx) (h2 : tx.length ≤ 1000) (hl : rs'.length ≤ sizeLine) (fr2 : Nat → Fv) :
    let o := run (stQ P b1 b2) (SQ prog P b1 b2) (lv + 3) 300 [.o (cJoin l m tx h1 h2) [6], .o (cAppend (Z + 1) rs' rs'.length hl) [4]] fr2 (codeLL C (Z + 2) Z (Z + 1)) [] ((gLL lv prog P b1 b2 C Z Dd I L t lt j c rs sz tk q hx fr).ck (.ok (.ret (.ref a)))) (ledL P C Z Dd I L t (siO abc8 lt j') rs' q' ++ [.o a (seqO (txv l) m)]) z y []
    (o.sel [0, 1, 2, 3, 4, 5], o.cs.map Prod.fst) = (.again (codeLL C (Z + 2) Z (Z + 1)) [.o Z (siO abc8 lt j'), .o (C + 1) (celO (some (.ref (I + 277)))), .o (Dd + 277) (pdO P t (L + 277)), .o (I + 277) (pageO (Dd + 277)), .o (Z + 1) (seqO (rs' ++ [.str (stl tx) ((fr2 0).n 2)]) (rs'.length + 1)), .o (Z + 2) (nsO P q' "letter")] z ((fr2 0).n 1) [], o.cs.map Prod.snd) := by
  rcases q with _ | ⟨t', v'⟩ <;> cases b2 <;> kernel_rfl
theorem tLE (hx : abc8.cps[j]? = none) (fr : Nat → Fv) :
    let o := run (stQ P b1 b2) (SQ prog P b1 b2) (lv + 3) 300 [.d 0, .o (cSE Z abc8 lt j hx) [0], .d 6] fr (codeLL C (Z + 2) Z (Z + 1)) [] (denZ (codeLL C (Z + 2) Z (Z + 1))) (ledL P C Z Dd I L t (siO abc8 lt j) rs q) sz tk []
    (o.sel [4, 5], o.cs.map Prod.fst) = (.ret (.ok .next) [.o (Z + 1) (seqO rs rs.length), .o (Z + 2) (nsO P q "letter")] o.gsz o.gtk [], o.cs.map Prod.snd) := by
  cases b2 <;> kernel_rfl
end
end Zd
namespace Zd
open PySem PySem.Spec PySem.Calls PyProof.Rows PySem.W PySem.W.X
open Builtin Builtin.Str
section
variable (lv : Nat) (prog : Program) (P : Params) (b1 b2 : Bool) (X C k0 : Nat) (d u : Nat → Nat) (sz tk : Nat) (Dd I L r k1 k2 k3 k4 lt t : Nat) (vs : List Value) (m : Nat) (q : Option (Value × Value × Value))
theorem tSE (fr : Nat → Fv) :
    let o := run (stQ P b1 b2) (SQ prog P b1 b2) (lv + 3) 100 [.d 6, .n, .d 6, .d 6, .d 6, .d 6, .d 8] fr (codeSF C r) [] (denZ (codeSF C r)) (ledS P X C (Dd + 277) (I + 277) (L + 277) r k0 k1 k2 k3 k4 lt t 7 d u vs m q) sz tk []
    (o.sel [0, 1, 2, 3, 4, 5, 6], o.cs.map Prod.fst) = (.again (.block for245.2.2 (env245 C)) (ledS P X C (Dd + 277) (I + 277) (L + 277) r k0 k1 k2 k3 k4 lt t 7 d u vs m q) (sz + 2) tk [], o.cs.map Prod.snd) := by
  cases b2 <;> kernel_rfl
theorem tSBl (l : Led) (fr : Nat → Fv) :
    let o := run (stQ P b1 b2) (SQ prog P b1 b2) (lv + 3) 20 [] fr (.block for245.2.2 (env245 C)) [] (denZ (.block for245.2.2 (env245 C))) l sz tk []
    (o.sel [0, 1, 2, 3, 4, 5, 6], o.cs.map Prod.fst) = (Out.sel [0, 1, 2, 3, 4, 5, 6] (.ret (.ok .next) l sz tk []), o.cs.map Prod.snd) := by
  kernel_rfl
noncomputable def gSc (fr : Nat → Fv) (X' : Nat) (k0' sz' tk' : Nat) (hs : List (H (stQ P b1 b2) (SQ prog P b1 b2))) (z y : Nat) (fr2 : Nat → Fv) : Out :=
  run (stQ P b1 b2) (SQ prog P b1 b2) (lv + 3) 100 hs fr2 (body245 C) [] ((gSb lv prog P b1 b2 X' C k0' d u sz' tk' fr).ck (.ok .next)) (ledS P X C (Dd + 277) (I + 277) (L + 277) r k0 k1 k2 k3 k4 lt t 7 d u vs m q) z y []
theorem tSc (qa qb qc : Value) (fr : Nat → Fv) (X' : Nat) (k0' sz' tk' : Nat) (z y : Nat) (fr2 : Nat → Fv) :
    let o := gSc lv prog P b1 b2 X C k0 d u Dd I L r k1 k2 k3 k4 lt t vs m (some (qa, qb, qc)) fr X' k0' sz' tk' [.d 1, .n, .d 7] z y fr2
    (o.sel [0, 1, 2, 3, 4, 5, 7, 8, 9], o.cs.map Prod.fst) = (.at (body245 C) [] (.call (codeLS C (z + 2) z (z + 1)) none o.cg o.cl o.ck) [.o X (seqO (dvs d u) 7), .o C (frS P k0 k1 k2 k3 k4 X lt (some (qa, qb, qc))), .o (C + 1) (celO (some (.ref (I + 277)))), .o (Dd + 277) (pdO P t (L + 277)), .o (I + 277) (pageO (Dd + 277)), .o (L + 277) (seqO vs m), .o z (siO abc8 lt 0), .o (z + 1) (seqO [] 0), .o (z + 2) (dicO [] 0)] (z + 3) (y + 1) [], o.cs.map Prod.snd) := by
  cases b2 <;> kernel_rfl
theorem tSz (qa qb qc : Value) (fr : Nat → Fv) (X' : Nat) (k0' sz' tk' : Nat) (z y : Nat) (fr2 : Nat → Fv) (l : List (List Nat × Nat)) (ml : Nat) (tx : List Nat) (h1 : (l.map (·.1)).flatten = tx) (h2 : tx.length ≤ 1000) (qn : Nat × Value) (z' y' : Nat) (fr3 : Nat → Fv) :
    let o := run (stQ P b1 b2) (SQ prog P b1 b2) (lv + 3) 100 [.d 2, .d 2, .d 2, .o (cJoin l ml tx h1 h2) [1]] fr3 (body245 C) [] ((gSc lv prog P b1 b2 X C k0 d u Dd I L r k1 k2 k3 k4 lt t vs m (some (qa, qb, qc)) fr X' k0' sz' tk' [.d 1, .n, .d 7] z y fr2).ck (.ok .next)) [.o X (seqO (dvs d u) 7), .o (z + 1) (seqO (txv l) ml), .o (z + 2) (nsO P (some qn) "letter")] z' y' []
    (o.sel [0], o.cs.map Prod.fst) = (.ret (.ok (.ret (.str (stl tx) ((fr3 0).n 2)))) [.o X (seqO (dvs d u) 7)] o.gsz o.gtk [], o.cs.map Prod.snd) := by
  cases b2 <;> kernel_rfl
end
end Zd
namespace Zd
open PySem PySem.Spec PySem.Calls PyProof.Rows PySem.W PySem.W.X
open Builtin Builtin.Str
noncomputable def hpat (d : Nat → Nat) : Nat → List (Nat × Nat)
  | 0 => []
  | k + 1 => hpat d k ++ [(up k (d k), 0), (up k (d k + 1), 1)]
noncomputable def hij (hs : List Hd) : List (Nat × Nat) := hs.map fun h => (h.i, h.j)
theorem up_lt (k i : Nat) (h : i < 8) : up k i < 16 := by
  unfold up; split <;> omega
theorem room_le {n m : Nat} {A : Around} (h : Room m A) (hn : n ≤ m) : Room n A := ⟨h.1, by have := h.2.1; omega, by have := h.2.2; omega⟩
theorem hpat_len (d : Nat → Nat) : ∀ k, (hpat d k).length = 2 * k
  | 0 => rfl
  | k + 1 => by
    have := hpat_len d k
    simp [hpat, this]; omega
section
variable {prog : Program} {P : Params} {b1 b2 : Bool} {w : World} {A : Around} {W : List (Bool × Nat)} {s₀ : Shared} {R : Result → Shared → Prop} {X C Dd I L r k0 k1 lt t : Nat} {d u : Nat → Nat}
theorem sec_loop (hS : w.params = pq P b1 b2) (hA : Room 3 A) (hd : ∀ k, k < 7 → d k + 1 < 8) : ∀ (n k : Nat) (hs : List Hd) (k2 k3 k4 : Nat) (q : Option (Value × Value × Value)) (sz tk : Nat) (s : Shared), k + n = 7 → hij hs = hpat d k → (k ≠ 0 → ∃ a b c, q = some (a, b, c)) →
    Rep (stQ P b1 b2) W s₀ (ledS P X C (Dd + 277) (I + 277) (L + 277) r k0 k1 k2 k3 k4 lt t k d u (hrefs hs) hs.length q ++ hs.map tcell) sz tk s →
    (∀ hs' k2' k3' k4' qa qb qc sz' tk' s', hij hs' = hpat d 7 → Rep (stQ P b1 b2) W s₀ (ledS P X C (Dd + 277) (I + 277) (L + 277) r k0 k1 k2' k3' k4' lt t 7 d u (hrefs hs') hs'.length (some (qa, qb, qc)) ++ hs'.map tcell) sz' tk' s' → R (.ok .next) s') →
    codeAny (model prog w) A (codeSF C r) R s
  | 0, k, hs, k2, k3, k4, q, sz, tk, s, hn, hh, hq, D, E => by
    obtain rfl : k = 7 := by omega
    obtain ⟨a, b, c, rfl⟩ := hq (by decide)
    refine code_againF (tSE 0 prog P b1 b2 X C k0 d u sz tk Dd I L r k1 k2 k3 k4 lt t (hrefs hs) hs.length (some (a, b, c))) hS hA rfl D fun fr s1 D1 => ?_
    exact code_retF (tSBl 0 prog P b1 b2 C _ _ _) hS hA rfl D1 fun fr s2 D2 => E _ _ _ _ _ _ _ _ _ _ hh D2
  | n + 1, k, hs, k2, k3, k4, q, sz, tk, s, hn, hh, hq, D, E => by
    have hk : k < 7 := by omega
    have hi := hd k hk
    have hj := up_lt k (d k) (by omega)
    have hj' := up_lt k (d k + 1) hi
    have hlen : hs.length = 2 * k := by
      have := congrArg List.length hh
      rw [hpat_len] at this
      simpa [hij] using this
    have hl : (hrefs hs).length ≤ sizeLine := by
      have := big_line
      simp [hrefs]; omega
    refine code_of_wp (S := SQ prog P b1 b2) ?_
    refine run_to (S := SQ prog P b1 b2) (laws_none (S := SQ prog P b1 b2) (lv := 3) (finP (model prog w) A R, fun e s' => R (.error e) s') hS hA) hS _ _ [0, 1, 2, 3, 4, 5, 6, 7]
      (tSF 0 prog P b1 b2 X C Dd I L r k0 k1 k2 k3 k4 lt t k d u (hrefs hs) hs.length sz tk q hk hi hj hl) rfl (fun fr => ⟨fun _ h => (nomatch h), fun s2 D2' => ?_⟩) D.start
    have D2 := D.frame D2'
    rw [List.append_assoc] at D2
    have hl' : ∀ v, (hrefs hs ++ [v]).length ≤ sizeLine := fun v => by
      have := big_line
      simp [hrefs]; omega
    refine run_to (S := SQ prog P b1 b2) (laws_none (S := SQ prog P b1 b2) (lv := 3) (finP (model prog w) A R, fun e s' => R (.error e) s') hS hA) hS _ _ [0, 1, 2, 3, 4, 5, 6, 7]
      (tSG 0 prog P b1 b2 X C Dd I L r k0 k1 k2 k3 k4 lt t k d u (hrefs hs) hs.length sz tk q hk hi hj hl fr _ _ _ _ _ _ _ _ _ _ _ _ _ hj' (hl' _) _ _ _ r _ _) rfl (fun fr2 => ⟨fun _ h => (nomatch h), fun s3 D3' q' c' => wpAny_pure ⟨q', ?_⟩⟩) D2.start
    have D3 := D2.frame D3'
    generalize Out.adr 7 _ = a at D3
    generalize Out.tup2 7 _ = p at D3
    generalize Out.arT _ = yt at D3
    generalize (fr2 0).n 2 = a' at D3
    generalize Out.ttk _ = T at D3
    have e1 : hrefs hs ++ [.ref a] ++ [.ref a'] = hrefs (hs ++ [⟨a, up k (d k), 0, p.1, p.2⟩, ⟨a', up k (d k + 1), 1, T.2.2.2.2.2, yt⟩]) := by simp [hrefs]
    have e2 : hs.length + 1 + 1 = (hs ++ [(⟨a, up k (d k), 0, p.1, p.2⟩ : Hd), ⟨a', up k (d k + 1), 1, T.2.2.2.2.2, yt⟩]).length := by simp
    rw [e1, e2] at D3
    have D4 := D3.perm (led' := ledS P X C (Dd + 277) (I + 277) (L + 277) r k0 k1 T.1 T.2.1 T.2.2.1 lt t (k + 1) d u (hrefs (hs ++ [⟨a, up k (d k), 0, p.1, p.2⟩, ⟨a', up k (d k + 1), 1, T.2.2.2.2.2, yt⟩])) (hs ++ [(⟨a, up k (d k), 0, p.1, p.2⟩ : Hd), ⟨a', up k (d k + 1), 1, T.2.2.2.2.2, yt⟩]).length (some (.int (k : Int) T.2.2.2.1, .str (hdr (up k (d k))) T.2.2.2.2.1, .str (hdr (up k (d k + 1))) T.2.2.2.2.2)) ++ (hs ++ [(⟨a, up k (d k), 0, p.1, p.2⟩ : Hd), ⟨a', up k (d k + 1), 1, T.2.2.2.2.2, yt⟩]).map tcell) (by
      rw [List.append_assoc, List.map_append]
      refine List.Perm.append_left _ ?_
      show ([_, _] ++ hs.map tcell).Perm (hs.map tcell ++ [_, _])
      exact ((List.Perm.swap _ _ _).append_right _).trans List.perm_append_comm)
    refine sec_loop hS hA hd n (k + 1) _ _ _ _ _ _ _ s3 (by omega) ?_ (fun _ => ⟨_, _, _, rfl⟩) D4 E
    show hij (hs ++ _) = hpat d k ++ _
    rw [← hh]
    simp [hij]
end
end Zd
namespace Zd
open PySem PySem.Spec PySem.Calls PyProof.Rows PySem.W PySem.W.X
open Builtin Builtin.Str
theorem abc_at : ∀ j : Nat, j < 8 → abc8.cps[j]? = some (97 + j) := by decide +kernel
theorem abc_end : abc8.cps[8]? = none := by decide +kernel
/-- the text that get_all of a letter tells -/
noncomputable def let1 (i0 : Nat) (ps : List (Nat × Nat)) : List Nat := (ps.filter fun p => p.1 % 8 == i0).map fun p => 40 + p.2
noncomputable def lets (ps : List (Nat × Nat)) : Nat → List Nat
  | 0 => []
  | j + 1 => lets ps j ++ let1 j ps
noncomputable def secL (d : Nat → Nat) : List Nat := lets (hpat d 7) 8
noncomputable def hselT (i0 : Nat) (hs : List Hd) : List (List Nat × Nat) := (hs.filter fun h => h.i % 8 == i0).map fun h => ([40 + h.j], h.yt)
theorem hsel_txv (i0 : Nat) (hs : List Hd) : hsel i0 hs = txv (hselT i0 hs) := by
  simp [hsel, hselT, txv, brk, stl]
theorem hselT_flat (i0 : Nat) : ∀ hs : List Hd, ((hselT i0 hs).map (·.1)).flatten = let1 i0 (hij hs)
  | [] => rfl
  | h :: hs => by
    have ih := hselT_flat i0 hs
    cases hb : (h.i % 8 == i0) with
    | true =>
      have e1 : hselT i0 (h :: hs) = ([40 + h.j], h.yt) :: hselT i0 hs := by simp [hselT, hb]
      have e2 : let1 i0 (hij (h :: hs)) = (40 + h.j) :: let1 i0 (hij hs) := by simp [let1, hij, hb]
      rw [e1, e2, List.map_cons, List.flatten_cons, ih]; rfl
    | false =>
      have e1 : hselT i0 (h :: hs) = hselT i0 hs := by simp [hselT, hb]
      have e2 : let1 i0 (hij (h :: hs)) = let1 i0 (hij hs) := by simp [let1, hij, hb]
      rw [e1, e2, ih]
theorem let1_len (i0 : Nat) (ps : List (Nat × Nat)) : (let1 i0 ps).length ≤ ps.length := by
  unfold let1
  rw [List.length_map]
  exact List.length_filter_le ..
theorem lets_len (ps : List (Nat × Nat)) : ∀ j, (lets ps j).length ≤ j * ps.length
  | 0 => Nat.zero_le _
  | j + 1 => by
    have h1 := lets_len ps j
    have h2 := let1_len j ps
    rw [lets, List.length_append, Nat.succ_mul]
    omega
section
variable {prog : Program} {P : Params} {b1 b2 : Bool} {w : World} {A : Around} {W : List (Bool × Nat)} {s₀ : Shared} {R : Result → Shared → Prop} {C Z Dd I L lt t : Nat} {hs : List Hd}
theorem com_loop (hS : w.params = pq P b1 b2) (hA : Room 4 A) (hok : ∀ h ∈ hs, h.ok) (hlen : hs.length = 14) : ∀ (n j : Nat) (l : List (List Nat × Nat)) (q : Option (Nat × Value)) (sz tk : Nat) (s : Shared), j + n = 8 → l.length = j → (l.map (·.1)).flatten = lets (hij hs) j → (j ≠ 0 → ∃ p, q = some p) →
    Rep (stQ P b1 b2) W s₀ (ledL P C Z Dd I L t (siO abc8 lt j) (txv l) q ++ ([.o (L + 277) (seqO (hrefs hs) hs.length)] ++ hs.map tcell)) sz tk s →
    (∀ l' qn sz' tk' s', (l'.map (·.1)).flatten = lets (hij hs) 8 → Rep (stQ P b1 b2) W s₀ ([.o (Z + 1) (seqO (txv l') (txv l').length), .o (Z + 2) (nsO P (some qn) "letter")] ++ ([.o (L + 277) (seqO (hrefs hs) hs.length)] ++ hs.map tcell)) sz' tk' s' → R (.ok .next) s') →
    codeAny (model prog w) A (codeLL C (Z + 2) Z (Z + 1)) R s
  | 0, j, l, q, sz, tk, s, hn, hl, hf, hq, D, E => by
    obtain rfl : j = 8 := by omega
    obtain ⟨p, rfl⟩ := hq (by decide)
    exact code_retF (tLE 1 prog P b1 b2 C Z Dd I L t lt 8 (txv l) sz tk (some p) abc_end) hS hA rfl D fun fr s' D' => E _ _ _ _ _ hf D'
  | n + 1, j, l, q, sz, tk, s, hn, hl, hf, hq, D, E => by
    have hj : j < 8 := by omega
    refine code_of_wp (S := SQ prog P b1 b2) ?_
    refine run_to (S := SQ prog P b1 b2) (laws_none (S := SQ prog P b1 b2) (lv := 4) (finP (model prog w) A R, fun e s' => R (.error e) s') hS hA) hS _ _ [0, 1, 2, 3, 4, 5]
      (tLL 1 prog P b1 b2 C Z Dd I L t lt j (97 + j) (txv l) sz tk q (abc_at j hj)) rfl (fun fr => ⟨fun _ h => (nomatch h), fun s2 D2' => ?_⟩) D.start
    have D2 := D.frame D2'
    rw [← List.append_assoc] at D2
    have D3 := (D2.pickA [2, 3, 6, 0, 1, 4, 5] rfl).perm (led' := ([.o (Dd + 277) (pdO P t (L + 277)), .o (I + 277) (pageO (Dd + 277)), .o (L + 277) (seqO (hrefs hs) hs.length)] ++ hs.map tcell) ++ [_, _, _, _]) (by
      show List.Perm ([_, _, _] ++ ([_, _, _, _] ++ hs.map tcell)) _
      rw [List.append_assoc]
      exact List.Perm.append_left [_, _, _] List.perm_append_comm)
    have ec : chr1 (97 + j) = hdr j := item8z j hj
    rw [ec]
    refine means_over (lv := 4) (triple121 (prog := prog) (b1 := b1) (b2 := b2) (P := P) (Dd + 277) (I + 277) (L + 277) t hs hs.length j _ hj hok (by omega) []) hS hA (show 3 < 4 by decide) (Nat.le_of_ble_eq_true (by kernel_rfl)) (Nat.le_of_ble_eq_true (by kernel_rfl)) (fun _ _ _ => rfl) D3 fun f s3 D4' => ?_
    have D4 := Rep.perm (led' := ([.o (Dd + 277) (pdO P t (L + 277)), .o (I + 277) (pageO (Dd + 277)), .o (L + 277) (seqO (hrefs hs) hs.length), .o (f.n 2) (seqO (hsel j hs) (hsel j hs).length), _, _, _, _] : Led) ++ hs.map tcell) D4' (by
      show List.Perm ((([_, _, _] ++ hs.map tcell) ++ [_]) ++ [_, _, _, _]) ([_, _, _] ++ ([_, _, _, _, _] ++ hs.map tcell))
      rw [List.append_assoc, List.append_assoc]
      exact List.Perm.append_left [_, _, _] List.perm_append_comm)
    have D5 := D4.pickA [4, 5, 0, 1, 6, 7, 3, 2] rfl
    rw [hsel_txv] at D5
    generalize Out.arT1 _ = T at D5 ⊢
    have D6 : Rep (stQ P b1 b2) W s₀ ((ledL P C Z Dd I L t (siO abc8 lt (j + 1)) (txv l) (some (qTok q (tk + 1), .str (chr1 (97 + j)) T)) ++ [.o (f.n 2) (seqO (txv (hselT j hs)) (txv (hselT j hs)).length)]) ++ ([.o (L + 277) (seqO (hrefs hs) hs.length)] ++ hs.map tcell)) _ _ s3 := D5
    have hb := big_line
    have h1 := let1_len j (hij hs)
    have h2 : (hij hs).length = 14 := by simp [hij, hlen]
    refine run_to (S := SQ prog P b1 b2) (laws_none (S := SQ prog P b1 b2) (lv := 4) (finP (model prog w) A R, fun e s' => R (.error e) s') hS hA) hS _ _ [0, 1, 2, 3, 4, 5]
      (tLM 1 prog P b1 b2 C Z Dd I L t lt j (97 + j) (txv l) sz tk q (abc_at j hj) fr (f.n 2) (j + 1) _ _ _ (txv l) (hselT j hs) _ _ (hselT_flat j hs) (by omega) (by simp [txv]; omega)) rfl (fun fr2 => ⟨fun _ h => (nomatch h), fun s4 D7' q' c' => wpAny_pure ⟨q', ?_⟩⟩) D6.start
    have D7 := D6.frame D7'
    generalize (fr2 0).n 2 = T2 at D7
    have e1 : txv l ++ [.str (stl (let1 j (hij hs))) T2] = txv (l ++ [(let1 j (hij hs), T2)]) := by simp [txv]
    have e2 : (txv l).length + 1 = (txv (l ++ [(let1 j (hij hs), T2)])).length := by simp [txv]
    rw [e1, e2] at D7
    refine com_loop hS hA hok hlen n (j + 1) (l ++ [(let1 j (hij hs), T2)]) _ _ _ s4 (by omega) (by simp [hl]) ?_ (fun _ => ⟨_, rfl⟩) D7 E
    rw [List.map_append, List.flatten_append, hf, lets]
    simp
end
end Zd
namespace Zd
open PySem PySem.Spec PySem.Calls PyProof.Rows PySem.W PySem.W.X
open Builtin Builtin.Str
theorem Rep.left {stat : Nat → Option Obj} {W : List (Bool × Nat)} {s₀ s : Shared} {led rest : Led} {sz tk : Nat} (D : Rep stat W s₀ (led ++ rest) sz tk s) : Rep stat W s₀ led sz tk s :=
  D.sub (fun _ hx => List.mem_append_left _ hx) (by
    have nd := D.nd
    rw [List.map_append] at nd
    exact (List.nodup_append.mp nd).1)
theorem Rep.nil {stat : Nat → Option Obj} {W : List (Bool × Nat)} {s₀ s : Shared} {led : Led} {sz tk : Nat} (D : Rep stat W s₀ led sz tk s) : Rep stat W s₀ (led ++ []) sz tk s := by
  rw [List.append_nil]; exact D
theorem hpat_ok {d : Nat → Nat} (hd : ∀ k, k < 7 → d k + 1 < 8) : ∀ k, k ≤ 7 → ∀ p ∈ hpat d k, p.1 < 16 ∧ p.2 < 2
  | 0, _, p, h => by cases h
  | k + 1, hk, p, h => by
    have := hd k (by omega)
    rcases List.mem_append.mp h with h | h
    · exact hpat_ok hd k (by omega) p h
    · have h1 := up_lt k (d k) (by omega)
      have h2 := up_lt k (d k + 1) this
      rcases List.mem_cons.mp h with rfl | h
      · exact ⟨h1, Nat.zero_lt_two⟩
      · rw [List.mem_singleton.mp h]
        exact ⟨h2, Nat.one_lt_two⟩
noncomputable def inst245 (X : Nat) (d u : Nat → Nat) (z : List Nat) (cs : List (Tm × Tm)) : Inst := { lv := 5, cs, pre := [.o X (seqO (dvs d u) 7)], upd := fun _ _ _ => [.o X (seqO (dvs d u) 7)], res := fun _ _ f => .ok (.ret (.str (stl z) (f.n 2))), new := fun _ _ _ => [] }
section
variable {prog : Program} {P : Params} {b1 b2 : Bool}
theorem triple245 (X : Nat) (d u : Nat → Nat) (hd : ∀ k, k < 7 → d k + 1 < 8) (cs : List (Tm × Tm)) : Triple (stQ P b1 b2) (SQ prog P b1 b2) (code245 (.ref X)) (inst245 X d u (secL d) cs) := by
  intro w hS A s sz tk g l hA hst hpre hnd hlow hb hsz htk
  refine wp_of_code ?_
  have hA5 : Room 5 A := hA
  have D0 := rep_start (led := [.o X (seqO (dvs d u) 7)]) hst hpre hnd hlow hb hsz htk
  have hb' : 277 ≤ sz := hb
  refine def_call (lv := 5) (call245 5 prog P b1 b2 (.ref X) sz tk) hS hA5 rfl rfl rfl (Rep.start (led := []) D0) fun s1 D1' => ?_
  have D1 := (Rep.frame (led := []) D0 D1').perm (led' := [.o X (seqO (dvs d u) 7), .o sz (frm [ent P "depths" tk (.ref X)]), .o (sz + 1) (celO none)]) (List.perm_append_comm (l₁ := [_, _]))
  obtain ⟨z, hz⟩ : ∃ z, sz + 2 = z + 277 := ⟨sz + 2 - 277, by omega⟩
  rw [hz] at D1
  generalize hF : (⟨finP (model prog w) A (After (inst245 X d u (secL d) cs) sz tk s), fun e s' => After (inst245 X d u (secL d) cs) sz tk s (.error e) s'⟩ : Post) = F
  refine code_of_wp (S := SQ prog P b1 b2) ?_
  show wpAny _ _ _ (Prod.fst (⟨finP (model prog w) A (After (inst245 X d u (secL d) cs) sz tk s), fun e s' => After (inst245 X d u (secL d) cs) sz tk s (.error e) s'⟩ : Post)) (Prod.snd (⟨finP (model prog w) A (After (inst245 X d u (secL d) cs) sz tk s), fun e s' => After (inst245 X d u (secL d) cs) sz tk s (.error e) s'⟩ : Post)) _
  rw [hF]
  refine run_to (S := SQ prog P b1 b2) (laws_none (S := SQ prog P b1 b2) (lv := 5) F hS hA5) hS _ _ [0, 1, 2, 3, 4, 5, 7]
    (tSb 2 prog P b1 b2 X sz tk d u z (tk + 1)) rfl (fun fr => ⟨fun _ h => (nomatch h), fun s2 D2 => ?_⟩) D1
  have hL : 277 ≤ Out.adr 5 (gSb 2 prog P b1 b2 X sz tk d u z (tk + 1) fr) := D2.low _ (.tail _ (.tail _ (.tail _ (.tail _ (.tail _ (.head _))))))
  obtain ⟨L, eL⟩ : ∃ L, Out.adr 5 (gSb 2 prog P b1 b2 X sz tk d u z (tk + 1) fr) = L + 277 := ⟨_ - 277, (Nat.sub_add_cancel hL).symm⟩
  rw [eL, show z + 278 = (z + 1) + 277 by omega] at D2
  refine means_call ?_
  have hA4 : Room 4 (A.under (body245 sz)) := room_under hA5 (Nat.le_of_ble_eq_true (by kernel_rfl)) (Nat.le_of_ble_eq_true (by kernel_rfl))
  have D3 := D2.nil
  refine sec_loop hS (room_le hA4 (by decide)) hd 7 0 [] _ _ _ none _ _ s2 rfl rfl (fun h => absurd rfl h) D3 fun hs k2 k3 k4 qa qb qc sz4 tk4 s4 hh D4 => ?_
  refine run_to (S := SQ prog P b1 b2) (laws_none (S := SQ prog P b1 b2) (lv := 5) F hS hA5) hS _ _ [0, 1, 2, 3, 4, 5, 7, 8, 9]
    (tSc 2 prog P b1 b2 X sz tk d u z (z + 1) L _ _ _ _ _ _ _ _ _ qa qb qc fr X tk z (tk + 1) sz4 tk4) rfl (fun fr2 => ⟨fun _ h => (nomatch h), fun s5 D5' => ?_⟩) D4.start
  have D5 := D4.frame D5'
  refine means_call ?_
  have hlen : hs.length = 14 := by
    have := congrArg List.length hh
    rw [hpat_len] at this
    simpa [hij] using this
  have hok : ∀ h ∈ hs, h.ok := fun h hm => by
    have : (h.i, h.j) ∈ hij hs := List.mem_map_of_mem hm
    rw [hh] at this
    exact hpat_ok hd 7 (Nat.le_refl _) _ this
  have D6 := (D5.pickA [6, 2, 3, 4, 7, 8, 5, 0, 1] rfl).perm (led' := (ledL P sz sz4 z (z + 1) L ((fr 2).n 3) (siO abc8 (tk + 1) 0) [] none ++ (([.o (L + 277) (seqO (hrefs hs) hs.length)] : Led) ++ hs.map tcell)) ++ [.o X (seqO (dvs d u) 7), .o sz (frS P tk (tk + 1 + 1) k2 k3 k4 X (tk + 1) (some (qa, qb, qc)))]) (by
    show List.Perm ([_, _, _, _, _, _] ++ ([_] ++ ([_, _] ++ hs.map tcell))) (([_, _, _, _, _, _] ++ ([_] ++ hs.map tcell)) ++ [_, _])
    rw [List.append_assoc, List.append_assoc]
    exact List.Perm.append_left [_, _, _, _, _, _] (List.Perm.append_left [_] List.perm_append_comm))
  have key : ∀ {sz6 tk6 : Nat} {s6 : Shared}, Rep (stQ P b1 b2) ((ledL P sz sz4 z (z + 1) L ((fr 2).n 3) (siO abc8 (tk + 1) 0) [] none ++ (([.o (L + 277) (seqO (hrefs hs) hs.length)] : Led) ++ hs.map tcell)).map Cell.key) s5 (ledL P sz sz4 z (z + 1) L ((fr 2).n 3) (siO abc8 (tk + 1) 0) [] none ++ (([.o (L + 277) (seqO (hrefs hs) hs.length)] : Led) ++ hs.map tcell)) sz6 tk6 s6 →
      codeAny (model prog w) (A.under (body245 sz)) (codeLL sz (sz4 + 2) sz4 (sz4 + 1)) (fun r s' => Means (model prog w) A F (body245 sz) [] ((gSc 2 prog P b1 b2 X sz tk d u z (z + 1) L (Out.adr 7 (gSb 2 prog P b1 b2 X sz tk d u z (tk + 1) fr)) (tk + 1 + 1) k2 k3 k4 (tk + 1) ((fr 2).n 3) (hrefs hs) hs.length (some (qa, qb, qc)) fr X tk z (tk + 1) [.d 1, .n, .d 7] sz4 tk4 fr2).ck r) s') s6 := fun D7 => by
    refine com_loop (hs := hs) hS hA4 hok hlen 8 0 [] none _ _ _ rfl rfl rfl (fun h => absurd rfl h) D7 fun l' qn sz8 tk8 s8 hf D8' => ?_
    have D8 := D6.frame D8'
    have D9 := (D8.perm (led' := ([.o (sz4 + 1) (seqO (txv l') (txv l').length), .o (sz4 + 2) (nsO P (some qn) "letter"), .o X (seqO (dvs d u) 7), _] : Led) ++ ([_] ++ hs.map tcell)) (by
      show List.Perm (([_, _] ++ ([_] ++ hs.map tcell)) ++ [_, _]) ([_, _] ++ ([_, _] ++ ([_] ++ hs.map tcell)))
      rw [List.append_assoc]
      exact List.Perm.append_left [_, _] List.perm_append_comm)).pickA [2, 0, 1] rfl
    have hL8 := lets_len (hij hs) 8
    have h2 : (hij hs).length = 14 := by simp [hij, hlen]
    refine run_to (S := SQ prog P b1 b2) (laws_none (S := SQ prog P b1 b2) (lv := 5) F hS hA5) hS _ _ [0]
      (tSz 2 prog P b1 b2 X sz tk d u z (z + 1) L _ _ _ _ _ _ _ _ _ qa qb qc fr X tk z (tk + 1) sz4 tk4 fr2 l' _ _ hf (by omega) qn sz8 tk8) rfl (fun fr3 => ⟨fun _ h => (nomatch h), fun s9 D9' c' => wpAny_pure ?_⟩) D9.left
    rw [← hF]
    have hh' : lets (hij hs) 8 = secL d := by rw [hh]; rfl
    rw [hh']
    exact rep_end (i := inst245 X d u (secL d) cs) { Fv.z with n := fun n => match n with | 0 => _ | 1 => _ | _ => (fr3 0).n 2 } D9' rfl rfl rfl rfl (fun _ h => (nomatch h))
  cases b1 with
  | false => exact code_againF (lv := 4) (tLSf 1 prog P b2 sz sz4 z (z + 1) L _ (tk + 1) _ _) hS hA4 rfl D6.start fun fr s' D' => key D'
  | true => exact code_againF (lv := 4) (tLSt 1 prog P b2 sz sz4 z (z + 1) L _ (tk + 1) _ _) hS hA4 rfl D6.start fun fr s' D' => key D'
noncomputable def c245 (X0 : Nat) (d u : Nat → Nat) (z : List Nat) (hd : ∀ k, k < 7 → d k + 1 < 8) (hz : secL d = z) : Ctr (stQ P b1 b2) (SQ prog P b1 b2) :=
  ctrDef 245 (fun | [.ref a] => some (inst245 X0 d u z [(.a a, .a X0)]) | _ => none) fun args i hi hcs => by
    split at hi
    · cases hi
      obtain ⟨e, _⟩ := okA hcs
      subst e hz
      exact ⟨fun _ _ _ => rfl, triple245 _ _ _ hd _⟩
    · cases hi
end
end Zd
namespace Zd
open PySem PySem.Spec PySem.Calls PyProof.Rows PySem.W PySem.W.X
open Builtin Builtin.Str
section
variable {stat : Nat → Option Obj} {S : Setting}
/-- a contract of a built-in call, its arguments told by a pick -/
noncomputable def ctrB (id : String) (g : List Value → Option Inst)
    (h : ∀ args i, g args = some i → (∀ p ∈ i.cs, Tm.ok p) → (∀ sz tk f, i.pre.map Cell.key = (i.upd sz tk f).map Cell.key) ∧ Triple stat S (.call (.builtin id) ⟨args, []⟩) i) : Ctr stat S where
  f
    | .call (.builtin id') ⟨args, kw⟩ => match kw with
      | [] => match eqS id' id with
        | true => g args
        | false => none
      | _ :: _ => none
    | _ => none
  sound c j hj hcs := by
    split at hj
    · split at hj
      · split at hj
        · rename_i e
          rw [eqS_eq e]
          exact h _ _ hj hcs
        · cases hj
      · cases hj
    · cases hj
/-- from a call's end to a contract's end -/
theorem after_of_call {c : Code} {i : Inst} {prog : Program} {w : World} {A : Around} {f : Value} {args : List Value} {s : Shared} {sz tk : Nat} {g : Bool} {l : List Value} (hsz : s.heap.objs.size = sz) (htk : s.toks = tk)
    (h : wpAny (model prog w) A (call f args) (fun v s' => After i s.heap.objs.size s.toks s (.ok (.ret v)) s') (fun _ _ => False) s) :
    wpAny (model prog w) A (.call (.call f ⟨args, []⟩) none g l .pure) (After i sz tk s) (fun _ _ => False) s := by
  subst hsz htk
  refine wpAny_mono (wp_of_call (E' := fun _ _ => False) h) (fun r s' q => ?_) fun _ _ h => h
  cases r with
  | error e => cases q
  | ok f =>
    cases f with
    | ret v => exact q
    | _ => cases q
noncomputable def instLen (a : Addr) (vs : List Value) (m : Nat) (n : Int) (cs : List (Tm × Tm)) : Inst := { lv := 0, cs, pre := [.o a (seqO vs m)], upd := fun _ _ _ => [.o a (seqO vs m)], res := fun _ tk _ => .ok (.ret (.int n (tk + 1))), new := fun _ _ _ => [], nsz := fun sz _ => sz, ntk := fun tk _ => tk + 2 }
theorem len_triple (a : Addr) (vs : List Value) (m : Nat) (n : Int) (hn : (vs.length : Int) = n) (hl : vs.length ≤ 1000) (cs : List (Tm × Tm)) : Triple stat S (.call (.builtin "len") ⟨[.ref a], []⟩) (instLen a vs m n cs) := by
  intro w hS A s sz tk g gl hA hst hpre hnd hlow hb hsz htk
  have ho : s.heap.get? a = some (seqO vs m) := hpre _ (.head _)
  refine after_of_call (c := .call (.builtin "len") ⟨[.ref a], []⟩) hsz htk ?_
  refine PySem.Calls.call_len_list (items := ⟨vs⟩) ⟨_, ho, rfl, _, rfl⟩ (by show ((vs.length : Nat) : Int) < 2 ^ 63; omega) ?_
  subst hn
  refine ⟨Fv.z, rfl, rfl, rfl, fun y hy => ?_, fun _ h => (nomatch h), List.nodup_nil, (kept_toks s _).wide (fun _ h => (nomatch h))⟩
  have := hpre y hy
  rw [List.mem_singleton.mp hy] at this ⊢
  exact this
/-- «len(l)» -/
noncomputable def cLen (vs : List Value) (m : Nat) (n : Int) (hn : (vs.length : Int) = n) (hl : vs.length ≤ 1000) : Ctr stat S :=
  ctrB "len" (fun | [.ref a] => some (instLen a vs m n []) | _ => none) fun args i hi _ => by
    split at hi
    · cases hi
      exact ⟨fun _ _ _ => rfl, len_triple _ _ _ _ hn hl _⟩
    · cases hi
noncomputable def slO3 (l u k : Value) : Obj := ⟨.type "slice", none, .fields #[l, u, k], #[]⟩
noncomputable def instLs (a b : Addr) (vs : List Value) (m : Nat) (l u k : Value) (ws : List Value) (cs : List (Tm × Tm)) : Inst := { lv := 0, cs, pre := [.o a (seqO vs m), .o b (slO3 l u k)], upd := fun _ _ _ => [.o a (seqO vs m), .o b (slO3 l u k)], res := fun sz _ _ => .ok (.ret (.ref sz)), new := fun sz _ _ => [.o sz (seqO ws 0)], nsz := fun sz _ => sz + 1, ntk := fun tk _ => tk }
theorem ls_triple (a b : Addr) (vs : List Value) (m : Nat) (l u k : Value) (ws : List Value) (lo hi st : Option Int) (pl : IsPart l lo) (pu : IsPart u hi) (pk : IsPart k st) (h0 : st ≠ some 0) (hw : (slicePick ⟨vs⟩ lo hi st).toList = ws) (hl : vs.length ≤ 1000) (cs : List (Tm × Tm)) :
    Triple stat S (.call (.builtin "list.__getitem__") ⟨[.ref a, .ref b], []⟩) (instLs a b vs m l u k ws cs) := by
  intro w hS A s sz tk g gl hA hst hpre hnd hlow hb hsz htk
  have ho : s.heap.get? a = some (seqO vs m) := hpre _ (.head _)
  have hos : s.heap.get? b = some (slO3 l u k) := hpre _ (.tail _ (.head _))
  have hTs : s.TypeIs (.ref b) "slice" := ⟨_, hos, rfl⟩
  refine after_of_call (c := .call (.builtin "list.__getitem__") ⟨[.ref a, .ref b], []⟩) hsz htk ?_
  refine wpAny_call_entry slot_list_getitem ⟨_, ho, rfl⟩ entry_list_getitem ?_ (args_list_getitem _ _)
  show wpAny _ _ (Builtin.List.listSubscript? (.ref b) >>= _) _ _ s
  refine wpAny_bind ?_
  unfold Builtin.List.listSubscript?
  refine wpAny_bind (wpAny_specialOf hTs slice_no_index ?_)
  simp only [Option.isNone_none, if_true]
  refine wpAny_pure ?_
  show wpAny _ _ (typeOf (.ref b) >>= _) _ _ s
  refine wpAny_bind (wpAny_typeOf hTs ?_)
  rw [if_neg (by decide), listSliceParts_eq]
  have hstep : ¬ ((rawPart st == rawInt 0) = true) := by
    cases st with
    | none => exact Bool.false_ne_true
    | some c =>
      intro hh
      have : c = 0 := by simpa [rawPart, rawInt] using hh
      exact h0 (by rw [this])
  refine wpAny_bind (wpAny_bind (wpAny_field hos (vs := #[l, u, k]) rfl (x := k) rfl (wpAny_bind (wpAny_listPart pk ?_))))
  rw [if_neg hstep]
  refine wpAny_bind (wpAny_field hos (vs := #[l, u, k]) rfl (x := l) rfl (wpAny_bind (wpAny_listPart pl ?_)))
  refine wpAny_bind (wpAny_field hos (vs := #[l, u, k]) rfl (x := u) rfl (wpAny_bind (wpAny_listPart pu (wpAny_pure ?_))))
  refine wpAny_bind (m := Builtin.List.listItems (.ref a)) ?_
  unfold Builtin.List.listItems
  refine wpAny_bind (wpAny_seqItems ho rfl (wpAny_pure ?_))
  refine wpAny_bind (wpAny_of_eq (sliceIndices_raw lo hi st _ h0) ?_)
  have hb2 := big_line
  refine wpAny_bind (wpAny_newObj_type (wpAny_pure ⟨_, rfl, ?_⟩) (Nat.le_trans (slicePick_size_le ⟨vs⟩ lo hi st) (by show vs.length ≤ _; omega)))
  refine ⟨Fv.z, rfl, Heap.size_push .., rfl, fun y hy => ?_, fun y hy => ?_, List.nodup_cons.mpr ⟨by simp, List.nodup_nil⟩, (kept_push s _).wide (fun _ h => (nomatch h))⟩
  · rcases List.mem_cons.mp hy with rfl | hy
    · exact Heap.get?_push_of_some _ ho
    · rw [List.mem_singleton.mp hy]; exact Heap.get?_push_of_some _ hos
  · rw [List.mem_singleton.mp hy]
    refine ⟨?_, Nat.le_refl _⟩
    show Heap.get? _ _ = some (seqO ws 0)
    rw [← hw]
    exact Heap.get?_push_size _ rfl
/-- «l[a:b]», «l[a:b:c]» -/
noncomputable def cLs (vs : List Value) (m : Nat) (l u k : Value) (ws : List Value) (lo hi st : Option Int) (pl : IsPart l lo) (pu : IsPart u hi) (pk : IsPart k st) (h0 : st ≠ some 0) (hw : (slicePick ⟨vs⟩ lo hi st).toList = ws) (hl : vs.length ≤ 1000) : Ctr stat S :=
  ctrB "list.__getitem__" (fun | [.ref a, .ref b] => some (instLs a b vs m l u k ws []) | _ => none) fun args i hi _ => by
    split at hi
    · cases hi
      exact ⟨fun _ _ _ => rfl, ls_triple _ _ _ _ _ _ _ _ _ _ _ pl pu pk h0 hw hl _⟩
    · cases hi
end
end Zd
namespace Zd
open PySem PySem.Spec PySem.Calls PyProof.Rows PySem.W PySem.W.X
open Builtin Builtin.Str
noncomputable def sumI (l : List (Int × Nat)) : Int := (l.map (·.1)).sum
noncomputable def smallI (l : List (Int × Nat)) : Prop := ∀ p ∈ l, 0 ≤ p.1 ∧ p.1 ≤ 1000
theorem sumI_bd : ∀ {l : List (Int × Nat)}, smallI l → 0 ≤ sumI l ∧ sumI l ≤ 1000 * l.length
  | [], _ => ⟨Int.le_refl _, Int.le_refl _⟩
  | p :: l, h => by
    have h1 := h p (.head _)
    have h2 := sumI_bd (l := l) fun q hq => h q (.tail _ hq)
    have e : sumI (p :: l) = p.1 + sumI l := by simp [sumI]
    rw [e, List.length_cons]
    omega
theorem sumI_snoc (l : List (Int × Nat)) (p : Int × Nat) : sumI (l ++ [p]) = sumI l + p.1 := by
  simp [sumI]
section
variable {prog : Program} {w : World} {A : Around} {R : Result → Shared → Prop}
theorem sum_walk (hh : A.handled = none) {I L m : Nat} (ts : List (Int × Nat)) (hsm : smallI ts) (hlen : ts.length ≤ 1000) (hIL : L < I) : ∀ (k i : Nat) (s : Shared) (t c : Nat), ts.length - i = k → i ≤ ts.length → s.heap.IsListIter I L i → s.heap.get? L = some (seqO (tagT ts) m) →
    s.heap.get? (I + 1) = some ⟨.type "list", none, .seq #[.int (sumI (ts.take i)) t] c, #[]⟩ → s.heap.objs.size = I + 2 →
    (∀ s' t', Kept [(true, I), (true, I + 1)] s s' → R (.ok (.ret (.int (sumI ts) t'))) s') →
    codeAny (model prog w) A (.builtin "sum.loop" ⟨[.ref I, .ref (I + 1), rawInt 0, rawInt 0], []⟩) R s := by
  intro k
  induction k with
  | zero =>
    intro i s t c hk hi hit hL hS hz hR
    refine codeAny_builtin F.entry_sum_loop ?_
    rw [Around.under_plainId F.plain_sum_loop _]
    show wpAny _ A.in1 (seqItems? (.ref (I + 1)) >>= _) _ _ s
    refine wpAny_bind (wpAny_seqItems hS rfl ?_)
    show wpAny _ A.in1 (tryCatch (pyNext (.ref I)) _ >>= _) _ _ s
    have hIsL : s.heap.IsList L (⟨tagT ts⟩ : Array Value) := ⟨_, hL, rfl, m, rfl⟩
    have hSI : I + 1 ≠ I := Nat.succ_ne_self I
    cases hx : ts[i]? with
    | none =>
      have hx' : (⟨tagT ts⟩ : Array Value)[i]? = none := by simp [tagT, hx]
      have hii : i = ts.length := by
        have := List.getElem?_eq_none_iff.mp hx
        omega
      subst hii
      refine wpAny_bind (wpAny_tryCatch (wpAny_pyNext_list_end (A := A.in1) hh hit hIsL hx' fun h' he => ?_))
      rw [List.take_length]
      refine wpAny_pure (hR _ t ⟨?_, fun b o hb e => he b o (fun q => hb (q ▸ .head _)) e, Nat.le_refl _, fun _ _ _ h => h, rfl, rfl, id⟩)
      have : I + 1 < h'.objs.size := Heap.lt_size (he (I + 1) _ hSI hS)
      have hz2 : s.heap.objs.size = I + 2 := hz
      show s.heap.objs.size ≤ h'.objs.size
      omega
    | some p =>
      have hlt : i < ts.length := (List.getElem?_eq_some_iff.mp hx).1
      omega
  | succ k ih =>
    intro i s t c hk hi hit hL hS hz hR
    refine codeAny_builtin F.entry_sum_loop ?_
    rw [Around.under_plainId F.plain_sum_loop _]
    show wpAny _ A.in1 (seqItems? (.ref (I + 1)) >>= _) _ _ s
    refine wpAny_bind (wpAny_seqItems hS rfl ?_)
    show wpAny _ A.in1 (tryCatch (pyNext (.ref I)) _ >>= _) _ _ s
    have hIsL : s.heap.IsList L (⟨tagT ts⟩ : Array Value) := ⟨_, hL, rfl, m, rfl⟩
    have hSI : I + 1 ≠ I := Nat.succ_ne_self I
    cases hx : ts[i]? with
    | none =>
      have hx' : (⟨tagT ts⟩ : Array Value)[i]? = none := by simp [tagT, hx]
      have hii : i = ts.length := by
        have := List.getElem?_eq_none_iff.mp hx
        omega
      subst hii
      refine wpAny_bind (wpAny_tryCatch (wpAny_pyNext_list_end (A := A.in1) hh hit hIsL hx' fun h' he => ?_))
      rw [List.take_length]
      refine wpAny_pure (hR _ t ⟨?_, fun b o hb e => he b o (fun q => hb (q ▸ .head _)) e, Nat.le_refl _, fun _ _ _ h => h, rfl, rfl, id⟩)
      have : I + 1 < h'.objs.size := Heap.lt_size (he (I + 1) _ hSI hS)
      have hz2 : s.heap.objs.size = I + 2 := hz
      show s.heap.objs.size ≤ h'.objs.size
      omega
    | some p =>
      have hlt : i < ts.length := (List.getElem?_eq_some_iff.mp hx).1
      have hx' : (⟨tagT ts⟩ : Array Value)[i]? = some (.int p.1 p.2) := by simp [tagT, hx]
      refine wpAny_bind (wpAny_tryCatch (wpAny_pyNext_list_item (A := A.in1) hit hIsL hx' fun h' hit' hsb => ?_))
      have hS' : h'.get? (I + 1) = some _ := (hsb.2 (I + 1) hSI).trans hS
      have hL' : h'.get? L = some _ := (hsb.2 L (Nat.ne_of_lt hIL)).trans hL
      have hm := hsm p (List.mem_of_getElem? hx)
      have hb1 := sumI_bd (l := ts.take i) fun q hq => hsm q (List.mem_of_mem_take hq)
      have hb2 : (ts.take i).length ≤ ts.length := by rw [List.length_take]; omega
      have hc : ((decide (-(2 ^ 63) ≤ p.1) && decide (p.1 < 2 ^ 63)) && (decide (-(2 ^ 63) ≤ sumI (ts.take i) + p.1) && decide (sumI (ts.take i) + p.1 < 2 ^ 63))) = true := by
        simp only [Bool.and_eq_true, decide_eq_true_eq]
        refine ⟨⟨?_, ?_⟩, ?_, ?_⟩ <;> omega
      show wpAny _ A.in1 (if (_ : Bool) = true then (mkInt (sumI (ts.take i) + p.1) >>= _) else _) _ _ _
      split
      · refine wpAny_bind (wpAny_mkInt ?_)
        show wpAny _ A.in1 (updateSeq (I + 1) (fun _ => #[.int (sumI (ts.take i) + p.1) s.toks]) >>= _) _ _ _
        refine wpAny_bind ?_
        have htk : sumI (ts.take i) + p.1 = sumI (ts.take (i + 1)) := by
          rw [List.take_add_one, hx]
          exact (sumI_snoc _ p).symm
        have hsb2 : Heap.SameBut (I + 1) h' (h'.update (I + 1) (Obj.mapSeq fun _ => #[.int (sumI (ts.take i) + p.1) s.toks])) := Heap.SameBut.update ..
        refine wpAny_updateSeq hS' rfl (wpAny_pure ⟨plainId_quiet F.plain_sum_loop _, ?_⟩)
        refine ih (i + 1) _ s.toks c (by omega) hlt ?_ ?_ ?_ ?_ fun s' t' K => hR s' t' ?_
        · obtain ⟨o, ho, r⟩ := hit'
          exact ⟨o, (hsb2.2 I (Ne.symm hSI)).trans ho, r⟩
        · exact (hsb2.2 L (Nat.ne_of_lt (Nat.lt_succ_of_lt hIL))).trans hL'
        · rw [← htk]
          exact Heap.get?_update_self (Obj.mapSeq fun _ => #[Value.int (sumI (ts.take i) + p.1) s.toks]) hS' rfl
        · show (h'.update (I + 1) (Obj.mapSeq fun _ => #[Value.int (sumI (ts.take i) + p.1) s.toks])).objs.size = I + 2
          rw [hsb2.1, hsb.1]; exact hz
        · refine Kept.trans (b := { s with heap := h'.update (I + 1) (Obj.mapSeq fun _ => #[Value.int (sumI (ts.take i) + p.1) s.toks]), toks := s.toks + 1 }) ⟨?_, fun b o hb e => ?_, Nat.le_refl _, fun _ _ _ h => h, rfl, rfl, id⟩ K
          · show s.heap.objs.size ≤ (h'.update (I + 1) (Obj.mapSeq fun _ => #[Value.int (sumI (ts.take i) + p.1) s.toks])).objs.size
            rw [hsb2.1, hsb.1]; exact Nat.le_refl _
          · exact (hsb2.2 b fun q => hb (q ▸ .tail _ (.head _))).trans ((hsb.2 b fun q => hb (q ▸ .head _)).trans e)
      · rename_i hneg
        exact absurd hc hneg
end
noncomputable def instSum (a : Addr) (ts : List (Int × Nat)) (m : Nat) (n : Int) (cs : List (Tm × Tm)) : Inst := { lv := 0, cs, pre := [.o a (seqO (tagT ts) m)], upd := fun _ _ _ => [.o a (seqO (tagT ts) m)], res := fun _ _ f => .ok (.ret (.int n (f.n 2))), new := fun _ _ _ => [] }
section
variable {stat : Nat → Option Obj} {S : Setting}
theorem sum_triple (a : Addr) (ts : List (Int × Nat)) (m : Nat) (hsm : smallI ts) (hlen : ts.length ≤ 1000) (cs : List (Tm × Tm)) : Triple stat S (.call (.builtin "sum") ⟨[.ref a], []⟩) (instSum a ts m (sumI ts) cs) := by
  intro w hS A s sz tk g gl hA hst hpre hnd hlow hb hsz htk
  have ho : s.heap.get? a = some (seqO (tagT ts) m) := hpre _ (.head _)
  refine after_of_call (c := .call (.builtin "sum") ⟨[.ref a], []⟩) hsz htk ?_
  refine call_function_tree F.kind_sum F.plain_sum F.entry_sum (F.args_sum1 _) ?_
  unfold Builtin.«sum»
  simp only [List.length_cons, List.length_nil]
  rw [if_neg (by decide)]
  refine wpAny_bind (wpAny_of_eq (show Builtin.Builtins.bindParams "sum" ["start"] 0 { } = pure [none] from rfl) ?_)
  refine wpAny_bind (wpAny_pyIter_list (items := ⟨tagT ts⟩) ⟨_, ho, rfl, m, rfl⟩ ?_)
  refine wpAny_bind (wpAny_mkInt ?_)
  refine wpAny_bind (wpAny_pure ?_)
  simp only [List.forIn_cons, List.forIn_nil]
  refine wpAny_bind (wpAny_bind (wpAny_bind (wpAny_isInstance (T := "int") (b := false) (typeIs_int _ _ _) PySem.sub_int_str ?_)))
  simp only [Bool.false_eq_true, if_false]
  refine wpAny_pure (wpAny_bind (wpAny_bind (wpAny_isInstance (T := "int") (b := false) (typeIs_int _ _ _) PySem.sub_int_bytes ?_)))
  simp only [Bool.false_eq_true, if_false]
  refine wpAny_pure (wpAny_bind (wpAny_bind (wpAny_isInstance (T := "int") (b := false) (typeIs_int _ _ _) PySem.sub_int_bytearray ?_)))
  simp only [Bool.false_eq_true, if_false]
  refine wpAny_pure (wpAny_pure ?_)
  refine wpAny_bind (wpAny_newObj_type ?_)
  have hlt : a < s.heap.objs.size := Heap.lt_size ho
  have hz : (s.heap.push { cls := .type "list_iterator", data := .fields #[.ref a, .int 0 0] }).objs.size = s.heap.objs.size + 1 := Heap.size_push ..
  refine wpAny_pure ⟨plainId_quiet F.plain_sum_loop _, ?_⟩
  have key : ∀ (s2 : Shared) (t c : Nat), s2.heap = (s.heap.push { cls := .type "list_iterator", data := .fields #[.ref a, .int 0 0] }).push ⟨.type "list", none, .seq #[.int 0 t] c, #[]⟩ → s2.gens = s.gens → s2.drawn = s.drawn → s2.os = s.os →
      codeAny (model S.program w) A (.builtin "sum.loop" ⟨[.ref s.heap.objs.size, .ref (s.heap.objs.size + 1), rawInt 0, rawInt 0], []⟩) (fun r s' => match r with | .ok (.ret v) => After (instSum a ts m (sumI ts) cs) s.heap.objs.size s.toks s (.ok (.ret v)) s' | .ok _ => False | .error e => False) s2 := fun s2 t c e1 e2 e3 e4 => by
    have hI : s2.heap.get? s.heap.objs.size = some ⟨.type "list_iterator", none, .fields #[.ref a, .int 0 0], #[]⟩ := by
      rw [e1]; exact Heap.get?_push_of_some _ (Heap.get?_push_size _ rfl)
    have hA2 : s2.heap.get? a = some (seqO (tagT ts) m) := by
      rw [e1]; exact Heap.get?_push_of_some _ (Heap.get?_push_of_some _ ho)
    refine sum_walk (A := A) (I := s.heap.objs.size) (L := a) (m := m) hA.1 ts hsm hlen hlt ts.length 0 s2 t c rfl (Nat.zero_le _) ⟨_, hI, rfl, rfl⟩ hA2 ?_ ?_ fun s' t' K => ?_
    · rw [e1]
      have := Heap.get?_push_size (s.heap.push { cls := .type "list_iterator", data := .fields #[.ref a, .int 0 0] }) (o := ⟨.type "list", none, .seq #[.int 0 t] c, #[]⟩) rfl
      rw [hz] at this
      exact this
    · rw [e1, Heap.size_push, hz]
    · have K0 : Kept [(true, s.heap.objs.size), (true, s.heap.objs.size + 1)] s s2 := ⟨by rw [e1, Heap.size_push, hz]; omega, fun b o _ e => by rw [e1]; exact Heap.get?_push_of_some _ (Heap.get?_push_of_some _ e), by rw [e2]; exact Nat.le_refl _, fun _ _ _ e => by rw [e2]; exact e, e3, e4, fun h => by rw [e2]; exact h⟩
      have K1 := K0.trans K
      have hne1 : ∀ b, b < s.heap.objs.size → (true, b) ∉ [(true, s.heap.objs.size), (true, s.heap.objs.size + 1)] := fun b hb hm => by
        rcases List.mem_cons.mp hm with h | h
        · have := (Prod.mk.inj h).2; omega
        · have := (Prod.mk.inj (List.mem_singleton.mp h)).2; omega
      refine ⟨{ Fv.z with n := fun n => match n with | 0 => s'.heap.objs.size | 1 => s'.toks | _ => t' }, rfl, rfl, rfl, fun y hy => ?_, fun _ h => (nomatch h), List.nodup_nil, ⟨K1.mono, fun b o _ e => K1.keep b o (hne1 b (Heap.lt_size e)) e, K1.gmono, fun n x _ e => K1.gkeep n x (fun hm => ?_) e, K1.drawn, K1.os, K1.bare⟩⟩
      · rw [List.mem_singleton.mp hy]
        exact K1.keep a _ (hne1 a hlt) ho
      · rcases List.mem_cons.mp hm with h | h
        · cases (Prod.mk.inj h).1
        · cases (Prod.mk.inj (List.mem_singleton.mp h)).1
  have k2 := key { s with heap := (s.heap.push { cls := .type "list_iterator", data := .fields #[.ref a, .int 0 0] }).push ⟨.type "list", none, .seq #[.int 0 s.toks] 0, #[]⟩, toks := s.toks + 1 } s.toks 0 rfl rfl rfl rfl
  rw [← hz] at k2
  exact k2
/-- «sum(l)» of small ints -/
noncomputable def cSum (ts : List (Int × Nat)) (m : Nat) (n : Int) (hn : sumI ts = n) (hsm : smallI ts) (hlen : ts.length ≤ 1000) : Ctr stat S :=
  ctrB "sum" (fun | [.ref a] => some (instSum a ts m n []) | _ => none) fun args i hi _ => by
    split at hi
    · cases hi
      subst hn
      exact ⟨fun _ _ _ => rfl, sum_triple _ _ _ hsm hlen _⟩
    · cases hi
end
end Zd
namespace Zd
open PySem PySem.Spec PySem.Calls PyProof.Rows PySem.W PySem.W.X
open Builtin Builtin.Str
noncomputable def valE : Option Stmt → PySem.Expr
  | some (.Assign _ v _) => v
  | _ => .Constant .none 0 ⟨0, 0, 0, 0⟩
noncomputable def for257 : PySem.Expr × List Stmt × List Stmt := forOf ((partsOf (topStmt 21)).2.1[1]?)
noncomputable def codePF (C r : Nat) : Code := .forLoop for257.1 (.ref r) for257.2.1 for257.2.2 (env257 C)
noncomputable def lc257 : PySem.Expr := arg0 (valE (for257.2.1[1]?))
noncomputable def cenv257 (C N : Nat) : Env := { scope := cellS (scOf lc257), locals := N, globals := 3, cells := [("deep", C + 1)], qual := "_law_book_of_pairs.<locals>.", func := none, code := .ref 256, frame := some C, builtins := 0 }
noncomputable def codePS (C N it acc : Nat) : Code := .compStart lc257 0 (.ref it) (.ref acc) (cenv257 C N)
noncomputable def codePL (C N it acc : Nat) : Code := .compLoop lc257 0 (.ref it) (.ref acc) (cenv257 C N)
noncomputable abbrev ledP5 (P : Params) (C Z Ls : Nat) (itO : Obj) (vs : List Value) (m : Nat) (dp : Int) (dt : Nat) (rs : List Value) (q : Option (Nat × Value)) : Led := [.o Z itO, .o Ls (seqO vs m), .o (C + 1) (celO (some (.int dp dt))), .o (Z + 1) (seqO rs rs.length), .o (Z + 2) (nsO P q "d")]
section
variable (lv : Nat) (prog : Program) (P : Params) (b1 b2 : Bool) (C Z Ls m i : Nat) (vs : List Value) (dp : Int) (dt : Nat) (rs : List Value) (sz tk : Nat) (q : Option (Nat × Value)) (x : Int) (xt : Nat)
noncomputable def gPS (hs : List (H (stQ P b1 b2) (SQ prog P b1 b2))) (fr : Nat → Fv) : Out := run (stQ P b1 b2) (SQ prog P b1 b2) (lv + 1) 100 hs fr (codePS C (Z + 2) Z (Z + 1)) [] (denZ (codePS C (Z + 2) Z (Z + 1))) (ledP5 P C Z Ls (liO Ls 0) vs m dp dt [] none) sz tk []
theorem tPSf (fr : Nat → Fv) :
    let o := gPS lv prog P false b2 C Z Ls m vs dp dt sz tk [.d 0, .d 0, .n, .d 0, .d 0] fr
    (o.sel [0, 1, 2, 3, 4], o.cs.map Prod.fst) = (.again (codePL C (Z + 2) Z (Z + 1)) (ledP5 P C Z Ls (liO Ls 0) vs m dp dt [] none) sz tk [], o.cs.map Prod.snd) := by
  cases b2 <;> kernel_rfl
theorem tPSt (fr : Nat → Fv) :
    let o := gPS lv prog P true b2 C Z Ls m vs dp dt sz tk [] fr
    (o.sel [0, 1, 2, 3, 4], o.cs.map Prod.fst) = (.again (codePL C (Z + 2) Z (Z + 1)) (ledP5 P C Z Ls (liO Ls 0) vs m dp dt [] none) sz tk [], o.cs.map Prod.snd) := by
  cases b2 <;> kernel_rfl
noncomputable def gPL (hx : vs[i]? = some (.int x xt)) (b : Bool) (h : (x == dp) = b) (hs : List (H (stQ P b1 b2) (SQ prog P b1 b2))) (fr : Nat → Fv) : Out := run (stQ P b1 b2) (SQ prog P b1 b2) (lv + 1) 300
  ([.d 0, .o (cLI Z Ls vs m i (.int x xt) hx) [0, 1], .d 4, .d 4, .d 4, .d 2, .o (cIntEq x dp b h) []] ++ hs)
  fr (codePL C (Z + 2) Z (Z + 1)) [] (denZ (codePL C (Z + 2) Z (Z + 1))) (ledP5 P C Z Ls (liO Ls i) vs m dp dt rs q) sz tk []
noncomputable abbrev ledP5' (P : Params) (C Z Ls : Nat) (itO : Obj) (vs : List Value) (m : Nat) (dp : Int) (dt : Nat) (rs : List Value) (n : Nat) (q : Option (Nat × Value)) : Led := [.o Z itO, .o Ls (seqO vs m), .o (C + 1) (celO (some (.int dp dt))), .o (Z + 1) (seqO rs n), .o (Z + 2) (nsO P q "d")]
theorem tPL1 (hx : vs[i]? = some (.int x xt)) (h : (x == dp) = true) (hl : rs.length ≤ sizeLine) (fr : Nat → Fv) :
    let o := gPL lv prog P b1 b2 C Z Ls m i vs dp dt rs sz tk q x xt hx true h [.d 4, .o (cAppend (Z + 1) rs rs.length hl) [3]] fr
    (o.sel [0, 1, 2, 3, 4], o.cs.map Prod.fst) = (.again (codePL C (Z + 2) Z (Z + 1)) (ledP5' P C Z Ls (liO Ls (i + 1)) vs m dp dt (rs ++ [.int x xt]) (rs.length + 1) (some (qTok q tk, .int x xt))) sz o.gtk [], o.cs.map Prod.snd) := by
  rcases q with _ | ⟨t', v'⟩ <;> cases b2 <;> kernel_rfl
theorem tPL2 (hx : vs[i]? = some (.int x xt)) (h : (x == dp) = false) (h2 : (x == dp + 1) = true) (hl : rs.length ≤ sizeLine) (fr : Nat → Fv) :
    let o := gPL lv prog P b1 b2 C Z Ls m i vs dp dt rs sz tk q x xt hx false h [.d 4, .d 2, .n, .o (cIntEq x (dp + 1) true h2) [], .d 4, .o (cAppend (Z + 1) rs rs.length hl) [3]] fr
    (o.sel [0, 1, 2, 3, 4], o.cs.map Prod.fst) = (.again (codePL C (Z + 2) Z (Z + 1)) (ledP5' P C Z Ls (liO Ls (i + 1)) vs m dp dt (rs ++ [.int x xt]) (rs.length + 1) (some (qTok q tk, .int x xt))) sz o.gtk [], o.cs.map Prod.snd) := by
  rcases q with _ | ⟨t', v'⟩ <;> cases b2 <;> kernel_rfl
theorem tPL3 (hx : vs[i]? = some (.int x xt)) (h : (x == dp) = false) (h2 : (x == dp + 1) = false) (fr : Nat → Fv) :
    let o := gPL lv prog P b1 b2 C Z Ls m i vs dp dt rs sz tk q x xt hx false h [.d 4, .d 2, .n, .o (cIntEq x (dp + 1) false h2) []] fr
    (o.sel [0, 1, 2, 3, 4], o.cs.map Prod.fst) = (.again (codePL C (Z + 2) Z (Z + 1)) (ledP5' P C Z Ls (liO Ls (i + 1)) vs m dp dt rs rs.length (some (qTok q tk, .int x xt))) sz o.gtk [], o.cs.map Prod.snd) := by
  rcases q with _ | ⟨t', v'⟩ <;> cases b2 <;> kernel_rfl
theorem tPLe (hx : vs[i]? = none) (fr : Nat → Fv) :
    let o := run (stQ P b1 b2) (SQ prog P b1 b2) (lv + 1) 300 [.d 0, .o (cLE Z Ls vs m i hx) [0, 1], .d 5] fr (codePL C (Z + 2) Z (Z + 1)) [] (denZ (codePL C (Z + 2) Z (Z + 1))) (ledP5 P C Z Ls (liO Ls i) vs m dp dt rs q) sz tk []
    (o.sel [2, 3, 4], o.cs.map Prod.fst) = (.ret (.ok .next) [.o (C + 1) (celO (some (.int dp dt))), .o (Z + 1) (seqO rs rs.length), .o (Z + 2) (nsO P q "d")] (sz + 2) tk [], o.cs.map Prod.snd) := by
  cases b2 <;> kernel_rfl
end
end Zd
namespace Zd
open PySem PySem.Spec PySem.Calls PyProof.Rows PySem.W PySem.W.X
open Builtin Builtin.Str
noncomputable def abc7 : Str := "abcdefg"
theorem item7 : ∀ d : Nat, d < 7 → (seqIndex? (d : Int) abc7.length).bind (abc7.cps[·]?) = some (97 + d) := by decide +kernel
noncomputable def frP (P : Params) (k0 k1 k2 k3 : Nat) (X T : Nat) (q : Option (Value × Value)) : Obj :=
  frm ([ent P "depths" k0 (.ref X), ent P "book" k1 (.ref T)] ++ (match q with | some (a, b) => [ent P "k" k2 a, ent P "met" k3 b] | none => []))
noncomputable def frPk (P : Params) (k0 k1 k2 k3 : Nat) (X T : Nat) (a : Value) (q : Option (Value × Value)) : Obj :=
  frm ([ent P "depths" k0 (.ref X), ent P "book" k1 (.ref T), ent P "k" k2 a] ++ (match q with | some (_, b) => [ent P "met" k3 b] | none => []))
noncomputable def qTokP (q : Option (Value × Value)) (a b : Nat) : Nat := match q with | none => a | some _ => b
noncomputable abbrev ledP (P : Params) (X C D T r k0 k1 k2 k3 k nl : Nat) (d u : Nat → Nat) (V : Vs) (B : Bk) (cv : Option Value) (q : Option (Value × Value)) : Led := [.o X (seqO (dvs d u) 7), .o C (frP P k0 k1 k2 k3 X T q), .o (C + 1) (celO cv), .o D (dctO P nl V), .o T (bookO B D), .o r (riO k ((7 - k : Nat) : Int))]
section
variable (lv : Nat) (prog : Program) (P : Params) (b1 b2 : Bool) (X C D T r k0 k1 k2 k3 k nl : Nat) (d u : Nat → Nat) (V : Vs) (B : Bk) (cv : Option Value) (q : Option (Value × Value)) (sz tk : Nat)
noncomputable def gPF (fr : Nat → Fv) : Out := run (stQ P b1 b2) (SQ prog P b1 b2) (lv + 5) 400
  [.d 5, .n, .d 5, .d 5, .d 5, .d 5, .d 5, .d 5, .d 5, .d 5, .d 1, .d 1, .d 1, .d 1, .d 0, .d 0, .d 0, .n, .d 0, .d 0, .d 2, .d 2, .s 3, .s 0, .d 1, .d 1, .d 0, .d 0, .d 0, .n, .d 0, .d 6, .d 6, .d 6, .d 6, .d 6, .d 0, .d 7, .d 7, .n, .d 7, .d 8]
  fr (codePF C r) [] (denZ (codePF C r)) (ledP P X C D T r k0 k1 k2 k3 k nl d u V B cv q) sz tk []
theorem tPF (hk : k < 7) (fr : Nat → Fv) :
    let o := gPF lv prog P b1 b2 X C D T r k0 k1 k2 k3 k nl d u V B cv q sz tk fr
    (o.sel [0, 1, 2, 3, 4, 5, 7, 8, 9, 10], o.cs.map Prod.fst) = (.at (codePF C r) [] (.call (codePS C (sz + 4) (sz + 2) (sz + 3)) none o.cg o.cl o.ck) [.o X (seqO (dvs d u) 7), .o C (frPk P k0 k1 (qTokP q (tk + 1) k2) k3 X T (.int (k : Int) tk) q), .o (C + 1) (celO (some (.int (d k : Nat) (u k)))), .o D (dctO P nl V), .o T (bookO B D), .o r (riO (k + 1) ((7 - (k + 1) : Nat) : Int)), .o (sz + 1) (seqO ((dvs d u).take k) 0), .o (sz + 2) (liO (sz + 1) 0), .o (sz + 3) (seqO [] 0), .o (sz + 4) (dicO [] 0)] (sz + 5) o.gtk [], o.cs.map Prod.snd) := by
  rcases q with _ | ⟨qa, qb⟩ <;> match k, hk with
  | 0, _ => cases b2 <;> kernel_rfl
  | 1, _ => cases b2 <;> kernel_rfl
  | 2, _ => cases b2 <;> kernel_rfl
  | 3, _ => cases b2 <;> kernel_rfl
  | 4, _ => cases b2 <;> kernel_rfl
  | 5, _ => cases b2 <;> kernel_rfl
  | 6, _ => cases b2 <;> kernel_rfl
  | k + 7, h => exact absurd h (by omega)
end
end Zd
namespace Zd
open PySem PySem.Spec PySem.Calls PyProof.Rows PySem.W PySem.W.X
open Builtin Builtin.Str
/-- the cells of a contract in another order -/
theorem Triple.perm {stat : Nat → Option Obj} {S : Setting} {c : Code} {i i' : Inst} (T : Triple stat S c i) (h1 : i'.lv = i.lv) (h2 : i'.pre.Perm i.pre) (h3 : ∀ sz tk f, (i'.upd sz tk f).Perm (i.upd sz tk f)) (h4 : i'.res = i.res) (h5 : i'.new = i.new) (h6 : i'.nsz = i.nsz) (h7 : i'.ntk = i.ntk) : Triple stat S c i' := by
  intro w hS A s sz tk g l hA hst hpre hnd hlow hb hsz htk
  refine wpAny_mono (T w hS A s sz tk g l (h1 ▸ hA) hst (fun x hx => hpre x (h2.mem_iff.mpr hx)) (((h2.map Cell.key).nodup_iff).mp hnd) (fun x hx => hlow x (h2.mem_iff.mpr hx)) hb hsz htk) (fun r s' q => ?_) fun _ _ h => h
  obtain ⟨f, e1, e2, e3, e4, e5, e6, K⟩ := q
  refine ⟨f, by rw [h4]; exact e1, by rw [h6]; exact e2, by rw [h7]; exact e3, fun x hx => e4 x ((h3 _ _ _).mem_iff.mp hx), by rw [h5]; exact e5, by rw [h5]; exact e6, K.wide fun k hk => ((h2.map Cell.key).mem_iff).mpr hk⟩
noncomputable def inst214' (P : Params) (D E T S k : Nat) (V : Vs) (j t : Nat) (v : Int) (u : Nat) (B G : Bk) (cs : List (Tm × Tm)) : Inst := { inst214 P D E T S k V j t v u B G cs with pre := [.o D (dctO P k V), .o T (bookO B D), .o E (dct1 P j t v u), .o S (bookO G E)], upd := fun _ _ _ => [.o D (dctO P k V), .o T (bookO B D), .o E (dct1 P j t v u), .o S (bookO G E)] }
section
variable {prog : Program} {P : Params} {b1 b2 : Bool}
noncomputable def c214' (D E T S k : Nat) (V : Vs) (j t : Nat) (v : Int) (u : Nat) (B G : Bk) (hk : k < 8) (hj : j ≤ k) (hkj : addk k j < 8) : Ctr (stQ P b1 b2) (SQ prog P b1 b2) :=
  ctrDef 214 (fun | [.ref a, .ref b] => some (inst214' P D E T S k V j t v u B G [(.a a, .a T), (.a b, .a S)]) | _ => none) fun args i hi hcs => by
    split at hi
    · cases hi
      obtain ⟨e, hcs⟩ := okA hcs
      obtain ⟨e2, _⟩ := okA hcs
      subst e e2
      exact ⟨fun _ _ _ => rfl, (triple214 _ _ _ _ _ _ _ _ _ _ _ _ hk hj hkj []).perm rfl (List.Perm.cons _ (List.Perm.swap _ _ _)) (fun _ _ _ => List.Perm.cons _ (List.Perm.swap _ _ _)) rfl rfl rfl rfl⟩
    · cases hi
end
noncomputable def bk4 (a b c d : Int) (t0 t1 t2 t3 : Nat) : Bk := ⟨fun n => match n with | 0 => a | 1 => b | 2 => c | _ => d, fun n => match n with | 0 => t0 | 1 => t1 | 2 => t2 | _ => t3⟩
section
variable (lv : Nat) (prog : Program) (P : Params) (b1 b2 : Bool) (X C D T r k0 k1 k2 k3 k nl : Nat) (d u : Nat → Nat) (V : Vs) (B : Bk) (cv : Option Value) (q : Option (Value × Value)) (sz tk : Nat)
noncomputable def gPG (fr : Nat → Fv) (k2' : Nat) (ka : Value) (dd : Nat) (hd : dd < 7) (du : Nat) (rO : Obj) (rs : List Value) (n : Int) (hn : (rs.length : Int) = n) (hl : rs.length ≤ 1000) (qn : Option (Nat × Value)) (hk' : nl < 8) (hj' : dd ≤ nl) (hkj' : addk nl dd < 8) (z y : Nat) (fr2 : Nat → Fv) : Out := run (stQ P b1 b2) (SQ prog P b1 b2) (lv + 5) 400
  ((match qn with | none => [.d 7] | some _ => [.d 7, .d 7, .d 7]) ++ [.o (cLen rs rs.length n hn hl) [6], .d 1, .d 1, .s 3, .d 1, .d 2, .d 1, .d 2, .o (cStrItem abc7 dd (97 + dd) (long_small (by omega)) (item7 _ hd)) [], .n, .d 8, .d 8, .d 8, .d 8, .s 214,
    .o (c214' D z T (z + 1) nl V dd (y + 6) 1 (y + 7) B (bk4 1 1 (dd : Nat) n (y + 3) (y + 4) du (y + 1)) hk' hj' hkj') [3, 4, 8, 9], .d 1, .d 1])
  fr2 (codePF C r) [] ((gPF lv prog P b1 b2 X C D T r k0 k1 k2 k3 k nl d u V B cv q sz tk fr).ck (.ok .next)) [.o X (seqO (dvs d u) 7), .o C (frPk P k0 k1 k2' k3 X T ka q), .o (C + 1) (celO (some (.int (dd : Nat) du))), .o D (dctO P nl V), .o T (bookO B D), .o r rO, .o (sz + 3) (seqO rs rs.length), .o (sz + 4) (nsO P qn "d")] z y []
noncomputable def Out.k3t : Out → Nat
  | .again _ (_ :: .o _ x :: _) _ _ _ => match x.data with
    | .dict es _ => match es.toList with
      | [_, _, _, b] => match b.key with
        | .str _ p => p
        | _ => 0
      | _ => 0
    | _ => 0
  | _ => 0
theorem tPG (hk : k < 7) (fr : Nat → Fv) (k2' : Nat) (ka : Value) (dd : Nat) (hd : dd < 7) (du : Nat) (rO : Obj) (rs : List Value) (n : Int) (hn : (rs.length : Int) = n) (hl : rs.length ≤ 1000) (qn : Option (Nat × Value)) (hk' : nl < 8) (hj' : dd ≤ nl) (hkj' : addk nl dd < 8) (z y : Nat) (fr2 : Nat → Fv) :
    let o := gPG lv prog P b1 b2 X C D T r k0 k1 k2 k3 k nl d u V B cv q sz tk fr k2' ka dd hd du rO rs n hn hl qn hk' hj' hkj' z y fr2
    (o.sel [0, 1, 2, 5, 10, 11], o.cs.map Prod.fst) = (.again (codePF C r) [.o X (seqO (dvs d u) 7), .o C (frP P k0 k1 k2' o.k3t X ((fr2 3).n 3) (some (ka, .int n (y + 1)))), .o (C + 1) (celO (some (.int (dd : Nat) du))), .o r rO, .o ((fr2 3).n 2) (addO P V nl dd 1 (Tn (fun i => (fr2 3).n (i + 8))) (Un (fun i => (fr2 3).n (i + 8)))), .o ((fr2 3).n 3) (bookO ⟨sumB B (bk4 1 1 (dd : Nat) n (y + 3) (y + 4) du (y + 1)), fun i => (fr2 3).n (i + 4)⟩ ((fr2 3).n 2))] o.gsz o.gtk [], o.cs.map Prod.snd) := by
  rcases qn with _ | ⟨qn1, qn2⟩ <;> rcases q with _ | ⟨qa, qb⟩ <;> match k, hk with
  | 0, _ => cases b2 <;> kernel_rfl
  | 1, _ => cases b2 <;> kernel_rfl
  | 2, _ => cases b2 <;> kernel_rfl
  | 3, _ => cases b2 <;> kernel_rfl
  | 4, _ => cases b2 <;> kernel_rfl
  | 5, _ => cases b2 <;> kernel_rfl
  | 6, _ => cases b2 <;> kernel_rfl
  | k + 7, h => exact absurd h (by omega)
end
end Zd
namespace Zd
open PySem PySem.Spec PySem.Calls PyProof.Rows PySem.W PySem.W.X
open Builtin Builtin.Str
theorem Rep.pick0 {stat : Nat → Option Obj} {W : List (Bool × Nat)} {s₀ s : Shared} {led led' : Led} {sz tk : Nat} (D : Rep stat W s₀ led sz tk s) (js : List Nat) (h : pick led js = some led') (hj : js.Nodup := by decide) : Rep stat W s₀ led' sz tk s :=
  D.sub (fun x hx => by
    obtain ⟨j, _, ej⟩ := pick_mem h x hx
    exact List.mem_of_getElem? ej) (pick_nodup D.nd hj h)
noncomputable def dts (d u : Nat → Nat) : List (Int × Nat) := [((d 0 : Nat), u 0), ((d 1 : Nat), u 1), ((d 2 : Nat), u 2), ((d 3 : Nat), u 3), ((d 4 : Nat), u 4), ((d 5 : Nat), u 5), ((d 6 : Nat), u 6)]
theorem dvs_take (d u : Nat → Nat) (k : Nat) : (dvs d u).take k = tagT ((dts d u).take k) := by
  unfold tagT
  rw [List.map_take]
  rfl
noncomputable def near (dp : Int) (p : Int × Nat) : Bool := p.1 == dp || p.1 == dp + 1
section
variable {prog : Program} {P : Params} {b1 b2 : Bool} {w : World} {A : Around} {W : List (Bool × Nat)} {s₀ : Shared} {R : Result → Shared → Prop} {C Z Ls m dt : Nat} {dp : Int}
theorem pairs_comp (hS : w.params = pq P b1 b2) (hA : Room 1 A) {ts : List (Int × Nat)} (hbig : ts.length ≤ 1000) : ∀ (n i : Nat) (rl : List (Int × Nat)) (q : Option (Nat × Value)) (sz tk : Nat) (s : Shared), i + n = ts.length → rl.length ≤ i →
    Rep (stQ P b1 b2) W s₀ (ledP5 P C Z Ls (liO Ls i) (tagT ts) m dp dt (tagT rl) q) sz tk s →
    (∀ q' sz' tk' s', Rep (stQ P b1 b2) W s₀ [.o (C + 1) (celO (some (.int dp dt))), .o (Z + 1) (seqO (tagT (rl ++ (ts.drop i).filter (near dp))) (tagT (rl ++ (ts.drop i).filter (near dp))).length), .o (Z + 2) (nsO P q' "d")] sz' tk' s' → R (.ok .next) s') →
    codeAny (model prog w) A (codePL C (Z + 2) Z (Z + 1)) R s
  | 0, i, rl, q, sz, tk, s, hn, hr, D, E => by
    have hi : i = ts.length := by omega
    subst hi
    have hx : (tagT ts)[ts.length]? = none := by rw [List.getElem?_eq_none_iff]; simp [tagT]
    rw [List.drop_length, List.filter_nil, List.append_nil] at E
    exact code_ret (tPLe 0 prog P b1 b2 C Z Ls m ts.length (tagT ts) dp dt (tagT rl) sz tk q hx) hS hA rfl D fun fr s' D' => E _ _ _ _ D'
  | n + 1, i, rl, q, sz, tk, s, hn, hr, D, E => by
    have hlt : i < ts.length := by omega
    obtain ⟨p, ep⟩ : ∃ p, ts[i]? = some p := ⟨_, List.getElem?_eq_getElem hlt⟩
    have hx : (tagT ts)[i]? = some (.int p.1 p.2) := by simp [tagT, ep]
    have hd : ts.drop i = p :: ts.drop (i + 1) := by
      rw [List.drop_eq_getElem_cons hlt]
      congr 1
      have := List.getElem?_eq_getElem hlt
      rw [ep] at this
      exact (Option.some.inj this).symm
    rw [hd] at E
    have hl : (tagT rl).length ≤ sizeLine := by have := big_line; simp [tagT]; omega
    have e1 : tagT rl ++ [.int p.1 p.2] = tagT (rl ++ [p]) := by simp [tagT]
    have e2 : (tagT rl).length + 1 = (tagT (rl ++ [p])).length := by simp [tagT]
    have e3 : near dp p = true → rl ++ (p :: ts.drop (i + 1)).filter (near dp) = (rl ++ [p]) ++ (ts.drop (i + 1)).filter (near dp) := fun h => by
      rw [List.filter_cons_of_pos h]; simp
    cases h1 : (p.1 == dp) with
    | true =>
      rw [e3 (by unfold near; rw [h1]; rfl)] at E
      refine code_again (tPL1 0 prog P b1 b2 C Z Ls m i (tagT ts) dp dt (tagT rl) sz tk q p.1 p.2 hx h1 hl) hS hA rfl D fun fr s1 D1 => ?_
      rw [e1, e2] at D1
      exact pairs_comp hS hA hbig n (i + 1) _ _ _ _ s1 (by omega) (by simp; omega) D1 E
    | false =>
      cases h2 : (p.1 == dp + 1) with
      | true =>
        rw [e3 (by unfold near; rw [h1, h2]; rfl)] at E
        refine code_again (tPL2 0 prog P b1 b2 C Z Ls m i (tagT ts) dp dt (tagT rl) sz tk q p.1 p.2 hx h1 h2 hl) hS hA rfl D fun fr s1 D1 => ?_
        rw [e1, e2] at D1
        exact pairs_comp hS hA hbig n (i + 1) _ _ _ _ s1 (by omega) (by simp; omega) D1 E
      | false =>
        have e4 : (p :: ts.drop (i + 1)).filter (near dp) = (ts.drop (i + 1)).filter (near dp) := List.filter_cons_of_neg (by unfold near; rw [h1, h2]; decide)
        rw [e4] at E
        refine code_again (tPL3 0 prog P b1 b2 C Z Ls m i (tagT ts) dp dt (tagT rl) sz tk q p.1 p.2 hx h1 h2) hS hA rfl D fun fr s1 D1 => ?_
        exact pairs_comp hS hA hbig n (i + 1) _ _ _ _ s1 (by omega) (by omega) D1 E
end
section
variable (lv : Nat) (prog : Program) (P : Params) (b1 b2 : Bool) (X C D T r k0 k1 k2 k3 k nl : Nat) (d u : Nat → Nat) (V : Vs) (B : Bk) (cv : Option Value) (q : Option (Value × Value)) (sz tk : Nat)
noncomputable def gPb (fr : Nat → Fv) : Out := run (stQ P b1 b2) (SQ prog P b1 b2) (lv + 5) 600
  [.d 1, .d 1, .s 3, .s 0, .s 3, .s 0, .d 1, .n, .d 0, .n, .d 0, .d 0, .n, .n, .d 5, .d 5, .n, .d 5, .d 5, .d 5, .d 5, .n, .d 5, .d 5, .d 5, .d 5, .d 6]
  fr (body257 C) [] (denZ (body257 C)) [.o X (seqO (dvs d u) 7), .o C (frm [ent P "depths" k0 (.ref X)]), .o (C + 1) (celO none)] sz tk []
theorem tPb (fr : Nat → Fv) :
    let o := gPb lv prog P b1 b2 X C k0 d u sz tk fr
    (o.sel [0, 1, 2, 3, 4, 6], o.cs.map Prod.fst) = (.at (body257 C) [] (.call (codePF C (sz + 3)) none o.cg o.cl o.ck) (ledP P X C sz (sz + 1) (sz + 3) k0 (tk + 4) 0 0 0 0 d u V0 (bk4 0 0 0 0 tk (tk + 1) (tk + 2) (tk + 3)) none none) (sz + 4) o.gtk [], o.cs.map Prod.snd) := by
  cases b2 <;> kernel_rfl
theorem tPE (fr : Nat → Fv) :
    let o := run (stQ P b1 b2) (SQ prog P b1 b2) (lv + 5) 100 [.d 5, .n, .d 5, .d 5, .d 5, .d 5, .d 7] fr (codePF C r) [] (denZ (codePF C r)) (ledP P X C D T r k0 k1 k2 k3 7 nl d u V B cv q) sz tk []
    (o.sel [0, 1, 3, 4], o.cs.map Prod.fst) = (.again (.block for257.2.2 (env257 C)) [.o X (seqO (dvs d u) 7), .o C (frP P k0 k1 k2 k3 X T q), .o D (dctO P nl V), .o T (bookO B D)] (sz + 2) tk [], o.cs.map Prod.snd) := by
  cases b2 <;> kernel_rfl
theorem tPBl (l : Led) (fr : Nat → Fv) :
    let o := run (stQ P b1 b2) (SQ prog P b1 b2) (lv + 5) 20 [] fr (.block for257.2.2 (env257 C)) [] (denZ (.block for257.2.2 (env257 C))) l sz tk []
    (o.sel [0, 1, 2, 3], o.cs.map Prod.fst) = (Out.sel [0, 1, 2, 3] (.ret (.ok .next) l sz tk []), o.cs.map Prod.snd) := by
  kernel_rfl
theorem tPz (X' k0' sz' tk' : Nat) (fr : Nat → Fv) (qa : Value × Value) (fr2 : Nat → Fv) :
    let o := run (stQ P b1 b2) (SQ prog P b1 b2) (lv + 5) 60 [.d 1] fr2 (body257 C) [] ((gPb lv prog P b1 b2 X' C k0' d u sz' tk' fr).ck (.ok .next)) [.o X (seqO (dvs d u) 7), .o C (frP P k0 k1 k2 k3 X T (some qa)), .o D (dctO P nl V), .o T (bookO B D)] sz tk []
    (o.sel [0, 2, 3], o.cs.map Prod.fst) = (.ret (.ok (.ret (.ref T))) [.o X (seqO (dvs d u) 7), .o D (dctO P nl V), .o T (bookO B D)] sz tk [], o.cs.map Prod.snd) := by
  cases b2 <;> kernel_rfl
end
end Zd
namespace Zd
open PySem PySem.Spec PySem.Calls PyProof.Rows PySem.W PySem.W.X
open Builtin Builtin.Str
/-- letters met by the first k numbers -/
noncomputable def nlP (j : Nat → Nat) : Nat → Nat
  | 0 => 0
  | k + 1 => addk (nlP j k) (j k)
/-- the dict's numbers -/
noncomputable def vP (j : Nat → Nat) (v : Nat → Int) : Nat → Nat → Int
  | 0 => V0.v
  | k + 1 => addv ⟨fun _ => 0, vP j v k, fun _ => 0⟩ (nlP j k) (j k) (v k)
noncomputable def dl (d : Nat → Nat) : List Nat := [d 0, d 1, d 2, d 3, d 4, d 5, d 6]
noncomputable def metP (d : Nat → Nat) (k : Nat) : Nat := (((dl d).take k).filter fun x => x == d k || x == d k + 1).length
noncomputable def bP (d : Nat → Nat) : Nat → Nat → Int
  | 0 => fun n => match n with | 0 => 0 | 1 => 0 | 2 => 0 | _ => 0
  | k + 1 => fun i => (match i with | 0 => 1 | 1 => 1 | 2 => ((d k : Nat) : Int) | _ => ((metP d k : Nat) : Int)) + bP d k i
theorem addv_v (V V' : Vs) (h : V.v = V'.v) (k j : Nat) (v : Int) : addv V k j v = addv V' k j v := by
  unfold addv; rw [h]
theorem metP_eq (d u : Nat → Nat) (k : Nat) : ((tagT (((dts d u).take k).filter (near (d k : Nat)))).length : Int) = ((metP d k : Nat) : Int) := by
  have e : (dl d).take k = ((dts d u).take k).map fun p => p.1.toNat := by
    rw [List.map_take]; rfl
  have hn : ∀ p ∈ (dts d u).take k, ∃ n : Nat, p.1 = n := fun p hp => by
    have := List.mem_of_mem_take hp
    simp only [dts, List.mem_cons, List.not_mem_nil, or_false] at this
    rcases this with rfl | rfl | rfl | rfl | rfl | rfl | rfl <;> exact ⟨_, rfl⟩
  unfold metP tagT
  rw [e, List.length_map, List.filter_map, List.length_map]
  congr 1
  congr 1
  refine List.filter_congr fun p hp => ?_
  obtain ⟨n, en⟩ := hn p hp
  show (p.1 == _ || p.1 == _) = (p.1.toNat == _ || p.1.toNat == _)
  rw [en]
  have a1 : ((n : Int) == ((d k : Nat) : Int)) = (n == d k) := by
    rw [Bool.eq_iff_iff, beq_iff_eq, beq_iff_eq]; omega
  have a2 : ((n : Int) == ((d k : Nat) : Int) + 1) = (n == d k + 1) := by
    rw [Bool.eq_iff_iff, beq_iff_eq, beq_iff_eq]; omega
  rw [a1, a2]; rfl
structure PairsH (d : Nat → Nat) : Prop where
  lt : ∀ k, k < 7 → d k < 7
  le : ∀ k, k < 7 → d k ≤ nlP d k
  nl : ∀ k, k ≤ 7 → nlP d k < 8
section
variable {prog : Program} {P : Params} {b1 b2 : Bool} {w : World} {A : Around} {W : List (Bool × Nat)} {s₀ : Shared} {R : Result → Shared → Prop} {X C r k0 : Nat} {d u : Nat → Nat}
theorem pairs_loop (hS : w.params = pq P b1 b2) (hA : Room 5 A) (hd : PairsH d) : ∀ (n k k1 k2 k3 D T : Nat) (V : Vs) (B : Bk) (cv : Option Value) (q : Option (Value × Value)) (sz tk : Nat) (s : Shared), k + n = 7 → (k ≠ 0 → ∃ a, q = some a) → V.v = vP d (fun _ => 1) k → B.v = bP d k →
    Rep (stQ P b1 b2) W s₀ (ledP P X C D T r k0 k1 k2 k3 k (nlP d k) d u V B cv q) sz tk s →
    (∀ k1' k2' k3' D' T' V' B' qa sz' tk' s', V'.v = vP d (fun _ => 1) 7 → B'.v = bP d 7 → Rep (stQ P b1 b2) W s₀ [.o X (seqO (dvs d u) 7), .o C (frP P k0 k1' k2' k3' X T' (some qa)), .o D' (dctO P (nlP d 7) V'), .o T' (bookO B' D')] sz' tk' s' → R (.ok .next) s') →
    codeAny (model prog w) A (codePF C r) R s
  | 0, k, k1, k2, k3, D, T, V, B, cv, q, sz, tk, s, hn, hq, hV, hB, D0, E => by
    obtain rfl : k = 7 := by omega
    obtain ⟨qa, rfl⟩ := hq (by decide)
    refine code_again (tPE 0 prog P b1 b2 X C D T r k0 k1 k2 k3 (nlP d 7) d u V B cv (some qa) sz tk) hS hA rfl D0 fun fr s1 D1 => ?_
    exact code_ret (tPBl 0 prog P b1 b2 C _ _ _) hS hA rfl D1 fun fr s2 D2 => E _ _ _ _ _ _ _ _ _ _ _ hV hB D2
  | n + 1, k, k1, k2, k3, D, T, V, B, cv, q, sz, tk, s, hn, hq, hV, hB, D0, E => by
    have hk : k < 7 := by omega
    refine code_of_wp (S := SQ prog P b1 b2) ?_
    refine run_to (S := SQ prog P b1 b2) (laws_none (S := SQ prog P b1 b2) (lv := 5) (finP (model prog w) A R, fun e s' => R (.error e) s') hS hA) hS _ _ [0, 1, 2, 3, 4, 5, 7, 8, 9, 10]
      (tPF 0 prog P b1 b2 X C D T r k0 k1 k2 k3 k (nlP d k) d u V B cv q sz tk hk) rfl (fun fr => ⟨fun _ h => (nomatch h), fun s2 D2 => ?_⟩) D0
    refine means_call ?_
    have hA1 : Room 1 (A.under (codePF C r)) := room_under (room_le hA (by decide)) (Nat.le_of_ble_eq_true (by kernel_rfl)) (Nat.le_of_ble_eq_true (by kernel_rfl))
    rw [dvs_take] at D2
    have D3 := D2.pick0 (led' := ledP5 P C (sz + 2) (sz + 1) (liO (sz + 1) 0) (tagT ((dts d u).take k)) 0 (d k : Nat) (u k) [] none ++ [_, _, _, _, _]) [7, 6, 2, 8, 9, 0, 1, 3, 4, 5] rfl
    have hbig : ((dts d u).take k).length ≤ 1000 := by
      rw [List.length_take]
      have : (dts d u).length = 7 := rfl
      omega
    have key : ∀ {sz6 tk6 : Nat} {s6 : Shared}, Rep (stQ P b1 b2) ((ledP5 P C (sz + 2) (sz + 1) (liO (sz + 1) 0) (tagT ((dts d u).take k)) 0 (d k : Nat) (u k) [] none).map Cell.key) s2 (ledP5 P C (sz + 2) (sz + 1) (liO (sz + 1) 0) (tagT ((dts d u).take k)) 0 (d k : Nat) (u k) [] none) sz6 tk6 s6 →
        codeAny (model prog w) (A.under (codePF C r)) (codePL C (sz + 4) (sz + 2) (sz + 3)) (fun res s' => Means (model prog w) A (finP (model prog w) A R, fun e s' => R (.error e) s') (codePF C r) [] ((gPF 0 prog P b1 b2 X C D T r k0 k1 k2 k3 k (nlP d k) d u V B cv q sz tk fr).ck res) s') s6 := fun D4 => by
      refine pairs_comp hS hA1 hbig ((dts d u).take k).length 0 [] none _ _ _ (by omega) (Nat.le_refl _) D4 fun q' sz7 tk7 s7 D5' => ?_
      have D5 := (D3.frame D5').pick0 (led' := [_, _, _, _, _, _, _, _]) [3, 4, 0, 5, 6, 7, 1, 2] rfl
      have hlen : ((dts d u).take k).filter (near (d k : Nat)) = ([] : List (Int × Nat)) ++ ((((dts d u).take k).drop 0).filter (near (d k : Nat))) := rfl
      rw [← hlen] at D5
      have hl : (tagT (((dts d u).take k).filter (near (d k : Nat)))).length ≤ 1000 := by
        have := List.length_filter_le (near (d k : Nat)) ((dts d u).take k)
        simp only [tagT, List.length_map]
        omega
      have hnl := hd.nl (k + 1) (by omega)
      refine run_to (S := SQ prog P b1 b2) (laws_none (S := SQ prog P b1 b2) (lv := 5) (finP (model prog w) A R, fun e s' => R (.error e) s') hS hA) hS _ _ [0, 1, 2, 5, 10, 11]
        (tPG 0 prog P b1 b2 X C D T r k0 k1 k2 k3 k (nlP d k) d u V B cv q sz tk hk fr _ _ (d k) (hd.lt k hk) (u k) _ _ ((metP d k : Nat) : Int) (metP_eq d u k) hl q' (hd.nl k (by omega)) (hd.le k hk) hnl sz7 tk7) rfl (fun fr2 => ⟨fun _ h => (nomatch h), fun s8 D8 qt c' => wpAny_pure ⟨qt, ?_⟩⟩) D5
      have D9 := D8.pick0 (led' := [_, _, _, _, _, _]) [0, 1, 2, 4, 5, 3] rfl
      refine pairs_loop hS hA hd n (k + 1) _ _ _ _ _ _ _ _ _ _ _ s8 (by omega) (fun _ => ⟨_, rfl⟩) ?_ ?_ D9 E
      · exact addv_v _ _ hV _ _ _
      · show sumB B _ = bP d (k + 1)
        funext i
        show (bk4 1 1 _ _ _ _ _ _).v i + B.v i = _
        rw [hB]; rfl
    cases b1 with
    | false => exact code_againF (lv := 1) (tPSf 0 prog P b2 C (sz + 2) (sz + 1) 0 _ _ _ _ _) hS hA1 rfl D3.start.nil fun fr s' D' => key (Rep.left D')
    | true => exact code_againF (lv := 1) (tPSt 0 prog P b2 C (sz + 2) (sz + 1) 0 _ _ _ _ _) hS hA1 rfl D3.start.nil fun fr s' D' => key (Rep.left D')
end
end Zd
namespace Zd
open PySem PySem.Spec PySem.Calls PyProof.Rows PySem.W PySem.W.X
open Builtin Builtin.Str
/-- a book made by a call: 2 its dict, 3 the book, 4.. its tokens, 8.. the dict's -/
noncomputable def newBook (P : Params) (nl : Nat) (v : Nat → Int) (b : Nat → Int) (f : Fv) : Led := [.o (f.n 2) (dctO P nl ⟨Tn (fun i => f.n (i + 8)), v, Un (fun i => f.n (i + 8))⟩), .o (f.n 3) (bookO ⟨b, fun i => f.n (i + 4)⟩ (f.n 2))]
noncomputable def fvBook (sz tk D T : Nat) (V : Vs) (B : Bk) : Fv := { Fv.z with n := fun n => match n with | 0 => sz | 1 => tk | 2 => D | 3 => T | 4 => B.u 0 | 5 => B.u 1 | 6 => B.u 2 | 7 => B.u 3 | i + 8 => mkF 0 0 0 V.t V.u i }
theorem newBook_mk (P : Params) (nl sz tk D T : Nat) (V : Vs) (B : Bk) : newBook P nl V.v B.v (fvBook sz tk D T V B) = [.o D (dctO P nl V), .o T (bookO B D)] := by
  show [Cell.o D (dctO P nl ⟨Tn (mkF 0 0 0 V.t V.u), V.v, Un (mkF 0 0 0 V.t V.u)⟩), Cell.o T (bookO B D)] = _
  rw [Tn_mk, Un_mk]
noncomputable def inst257 (P : Params) (X : Nat) (d u : Nat → Nat) (nl : Nat) (v b : Nat → Int) (cs : List (Tm × Tm)) : Inst := { lv := 6, cs, pre := [.o X (seqO (dvs d u) 7)], upd := fun _ _ _ => [.o X (seqO (dvs d u) 7)], res := fun _ _ f => .ok (.ret (.ref (f.n 3))), new := fun _ _ f => newBook P nl v b f }
section
variable {prog : Program} {P : Params} {b1 b2 : Bool}
theorem triple257 (X : Nat) (d u : Nat → Nat) (hd : PairsH d) (cs : List (Tm × Tm)) : Triple (stQ P b1 b2) (SQ prog P b1 b2) (code257 (.ref X)) (inst257 P X d u (nlP d 7) (vP d (fun _ => 1) 7) (bP d 7) cs) := by
  intro w hS A s sz tk g l hA hst hpre hnd hlow hb hsz htk
  refine wp_of_code ?_
  have hA6 : Room 6 A := hA
  have D0 := rep_start (led := [.o X (seqO (dvs d u) 7)]) hst hpre hnd hlow hb hsz htk
  refine def_call (lv := 6) (call257 6 prog P b1 b2 (.ref X) sz tk) hS hA6 rfl rfl rfl (Rep.start (led := []) D0) fun s1 D1' => ?_
  have D1 := (Rep.frame (led := []) D0 D1').perm (led' := [.o X (seqO (dvs d u) 7), .o sz (frm [ent P "depths" tk (.ref X)]), .o (sz + 1) (celO none)]) (List.perm_append_comm (l₁ := [_, _]))
  have fin : ∀ D' T' V' B' sz' tk' s', V'.v = vP d (fun _ => 1) 7 → B'.v = bP d 7 → Rep (stQ P b1 b2) (([.o X (seqO (dvs d u) 7)] : Led).map Cell.key) s [.o X (seqO (dvs d u) 7), .o D' (dctO P (nlP d 7) V'), .o T' (bookO B' D')] sz' tk' s' → After (inst257 P X d u (nlP d 7) (vP d (fun _ => 1) 7) (bP d 7) cs) sz tk s (.ok (.ret (.ref T'))) s' := fun D' T' V' B' sz' tk' s' hV hB D9 => by
    refine rep_end (i := inst257 P X d u (nlP d 7) (vP d (fun _ => 1) 7) (bP d 7) cs) (fvBook sz' tk' D' T' V' B') D9 rfl rfl rfl ?_ ?_
    · show _ = [Cell.o X _] ++ newBook P (nlP d 7) (vP d (fun _ => 1) 7) (bP d 7) (fvBook sz' tk' D' T' V' B')
      rw [← hV, ← hB, newBook_mk]; rfl
    · show ∀ k ∈ (newBook P (nlP d 7) (vP d (fun _ => 1) 7) (bP d 7) (fvBook sz' tk' D' T' V' B')).map Cell.key, _
      rw [← hV, ← hB, newBook_mk]
      intro x hx hm
      have nd := D9.nd
      have := (List.nodup_append (l₁ := [(true, _)]) (l₂ := [(true, D'), (true, T')])).mp nd
      exact this.2.2 _ hm _ hx rfl
  generalize After (inst257 P X d u (nlP d 7) (vP d (fun _ => 1) 7) (bP d 7) cs) sz tk s = R at fin ⊢
  refine code_of_wp (S := SQ prog P b1 b2) ?_
  refine run_to (S := SQ prog P b1 b2) (laws_none (S := SQ prog P b1 b2) (lv := 6) (finP (model prog w) A R, fun e s' => R (.error e) s') hS hA6) hS _ _ [0, 1, 2, 3, 4, 6]
    (tPb 1 prog P b1 b2 X sz tk d u (sz + 2) (tk + 1)) rfl (fun fr => ⟨fun _ h => (nomatch h), fun s2 D2 => ?_⟩) D1
  refine means_call ?_
  have hA5 : Room 5 (A.under (body257 sz)) := room_under hA6 (Nat.le_of_ble_eq_true (by kernel_rfl)) (Nat.le_of_ble_eq_true (by kernel_rfl))
  refine pairs_loop hS hA5 hd 7 0 _ _ _ _ _ _ _ none none _ _ s2 rfl (fun h => absurd rfl h) rfl ?_ D2 fun k1' k2' k3' D' T' V' B' qa sz' tk' s' hV hB D3 => ?_
  · funext i
    match i with
    | 0 => rfl
    | 1 => rfl
    | 2 => rfl
    | i + 3 => rfl
  · exact run_to (S := SQ prog P b1 b2) (laws_none (S := SQ prog P b1 b2) (lv := 6) (finP (model prog w) A R, fun e s' => R (.error e) s') hS hA6) hS _ _ [0, 2, 3]
      (tPz 1 prog P b1 b2 X sz D' T' _ k1' k2' k3' _ d u V' B' sz' tk' X tk (sz + 2) (tk + 1) fr qa) rfl (fun fr2 => ⟨fun _ h => (nomatch h), fun s4 D4 c' => wpAny_pure (fin _ _ _ _ _ _ _ hV hB D4)⟩) D3
noncomputable def c257 (X0 : Nat) (d u : Nat → Nat) (hd : PairsH d) : Ctr (stQ P b1 b2) (SQ prog P b1 b2) :=
  ctrDef 257 (fun | [.ref a] => some (inst257 P X0 d u (nlP d 7) (vP d (fun _ => 1) 7) (bP d 7) [(.a a, .a X0)]) | _ => none) fun args i hi hcs => by
    split at hi
    · cases hi
      obtain ⟨e, _⟩ := okA hcs
      subst e
      exact ⟨fun _ _ _ => rfl, triple257 _ _ _ hd _⟩
    · cases hi
end
end Zd
namespace Zd
open PySem PySem.Spec PySem.Calls PyProof.Rows PySem.W PySem.W.X
open Builtin Builtin.Str
noncomputable def instLenS (n : Int) (cs : List (Tm × Tm)) : Inst := { lv := 0, cs, pre := [], upd := fun _ _ _ => [], res := fun _ tk _ => .ok (.ret (.int n (tk + 1))), new := fun _ _ _ => [], nsz := fun sz _ => sz, ntk := fun tk _ => tk + 2 }
section
variable {stat : Nat → Option Obj} {S : Setting}
/-- «len(x)» of a text -/
noncomputable def cLenS (x0 : Str) (n : Int) (hn : (x0.length : Int) = n) (hl : x0.length ≤ 1000) : Ctr stat S :=
  ctrB "len" (fun | [.str x _] => some (instLenS n [(.s x, .s x0)]) | _ => none) fun args i hi hcs => by
    split at hi
    · cases hi
      obtain ⟨e1, _⟩ := okS hcs
      subst e1 hn
      refine ⟨fun _ _ _ => rfl, ?_⟩
      intro w hS A s sz tk g gl hA hst hpre hnd hlow hb hsz htk
      refine after_of_call (c := .call .none ⟨[], []⟩) hsz htk ?_
      refine call_len_slot (typeIs_str s _ _) F.slot_str_len (fun Q' hq => call_gives F.slot_str_len rfl F.entry_str_len (F.args_str_len_1 _) (gives_str_len _ _) hq) (by omega) (by omega) ?_
      exact ⟨Fv.z, rfl, rfl, rfl, fun _ h => (nomatch h), fun _ h => (nomatch h), List.nodup_nil, (kept_toks s _).wide (fun _ h => (nomatch h))⟩
    · cases hi
end
noncomputable def for252 : PySem.Expr × List Stmt × List Stmt := forOf ((partsOf (topStmt 20)).2.1[2]?)
noncomputable def codeTF (C r : Nat) : Code := .forLoop for252.1 (.ref r) for252.2.1 for252.2.2 (env252 C)
noncomputable def frT (P : Params) (k0 k1 k2 k3 k4 k5 : Nat) (row : Str) (rt Rn S : Nat) (q : Option (Value × Value × Value)) : Obj :=
  frm ([ent P "row" k0 (.str row rt), ent P "runs" k1 (.ref Rn), ent P "steps" k2 (.ref S)] ++ (match q with | some (a, b, c) => [ent P "letter" k3 a, ent P "come" k4 b, ent P "ahead" k5 c] | none => []))
noncomputable def frT2 (P : Params) (k0 k1 k2 k3 k4 k5 : Nat) (row : Str) (rt Rn S : Nat) (a b : Value) (q : Option (Value × Value × Value)) : Obj :=
  frm ([ent P "row" k0 (.str row rt), ent P "runs" k1 (.ref Rn), ent P "steps" k2 (.ref S), ent P "letter" k3 a, ent P "come" k4 b] ++ (match q with | some (_, _, c) => [ent P "ahead" k5 c] | none => []))
noncomputable def ftk (i : Nat) : Out → Nat
  | .at _ _ _ (.o _ x :: _) _ _ _ => match x.data with
    | .dict es _ => match es.toList[i]? with
      | some b => match b.key with
        | .str _ p => p
        | _ => 0
      | _ => 0
    | _ => 0
  | .again _ (.o _ x :: _) _ _ _ => match x.data with
    | .dict es _ => match es.toList[i]? with
      | some b => match b.key with
        | .str _ p => p
        | _ => 0
      | _ => 0
    | _ => 0
  | _ => 0
noncomputable def vtk (i : Nat) : Out → Nat
  | .at _ _ _ (.o _ x :: _) _ _ _ => match x.data with
    | .dict es _ => match es.toList[i]? with
      | some b => match b.val with
        | .str _ p => p
        | .int _ p => p
        | _ => 0
      | _ => 0
    | _ => 0
  | .again _ (.o _ x :: _) _ _ _ => match x.data with
    | .dict es _ => match es.toList[i]? with
      | some b => match b.val with
        | .str _ p => p
        | .int _ p => p
        | _ => 0
      | _ => 0
    | _ => 0
  | _ => 0
noncomputable def Out.at2 : Out → Nat × Nat
  | .at _ _ (.call (.call _ ⟨[.int _ a, .int _ b], _⟩) ..) _ _ _ _ => (a, b)
  | _ => (0, 0)
section
variable (lv : Nat) (prog : Program) (P : Params) (b1 b2 : Bool) (C Rn S r k0 k1 k2 k3 k4 k5 rt lt j k : Nat) (row : Str) (V : Vs) (l : List (List Nat × Nat)) (q : Option (Value × Value × Value)) (sz tk : Nat)
noncomputable abbrev ledT (P : Params) (C Rn S r k : Nat) (V : Vs) (l : List (List Nat × Nat)) (fo io : Obj) : Led := [.o C fo, .o Rn (seqO (txv l) 0), .o S (dctO P k V), .o r io]
noncomputable def gTA (hx : abc7.cps[j]? = some (97 + j)) (hk : k < 8) (fr : Nat → Fv) : Out := run (stQ P b1 b2) (SQ prog P b1 b2) (lv + 4) 400
  [.d 3, .o (cSI r abc7 lt j (97 + j) hx) [3], .d 0, .d 0, .s 3, .d 0, .s 228, .o (c228 S k V hk) [2], .d 0, .d 0, .d 0]
  fr (codeTF C r) [] (denZ (codeTF C r)) (ledT P C Rn S r k V l (frT P k0 k1 k2 k3 k4 k5 row rt Rn S q) (siO abc7 lt j)) sz tk []
theorem tTA (hx : abc7.cps[j]? = some (97 + j)) (hk : k < 8) (fr : Nat → Fv) :
    let o := gTA lv prog P b1 b2 C Rn S r k0 k1 k2 k3 k4 k5 rt lt j k row V l q sz tk hx hk fr
    (o.sel [0, 1, 2, 3], o.cs.map Prod.fst) = (.at (codeTF C r) [] (.call (.call (.builtin "int.__lt__") ⟨[.int (sumTo V.v k) o.at2.1, .int 7 o.at2.2], []⟩) none o.cg o.cl o.ck) (ledT P C Rn S r k V l (frT2 P k0 k1 k2 (ftk 3 o) (ftk 4 o) k5 row rt Rn S (.str (ltr j) (vtk 3 o)) (.int (sumTo V.v k) (vtk 4 o)) q) (siO abc7 lt (j + 1))) o.gsz o.gtk [], o.cs.map Prod.snd) := by
  rcases q with _ | ⟨qa, qb, qc⟩ <;> cases b2 <;> kernel_rfl
end
end Zd
namespace Zd
open PySem PySem.Spec PySem.Calls PyProof.Rows PySem.W PySem.W.X
open Builtin Builtin.Str
noncomputable def Out.at1 : Out → Nat
  | .at _ _ (.call (.call _ ⟨[.str _ a], _⟩) ..) _ _ _ _ => a
  | _ => 0
theorem take_upto (l : List (List Nat × Nat)) (b : Nat) (hb : b ≤ l.length) : (slicePick ⟨txv l⟩ none (some ((b : Nat) : Int)) none).toList = txv (l.take b) := by
  rw [slicePick_upto _ _ (by simpa [txv] using hb)]
  simp [txv, List.map_take]
section
variable (lv : Nat) (prog : Program) (P : Params) (b1 b2 : Bool) (C Rn S r k0 k1 k2 k3 k4 k5 rt lt j k : Nat) (row : Str) (V : Vs) (l : List (List Nat × Nat)) (q : Option (Value × Value × Value)) (sz tk : Nat)
section
variable (hx : abc7.cps[j]? = some (97 + j)) (hk : k < 8) (fr : Nat → Fv) (k3' k4' lk ct t1 t2 : Nat) (c : Nat)
noncomputable def gTB (h7 : decide ((c : Int) < 7) = true) (tx : List Nat) (h1 : ((l.take (c + 1)).map (·.1)).flatten = tx) (h2 : tx.length ≤ 1000) (hl : (txv l).length ≤ 1000) (hc : c + 1 ≤ l.length) (cg : Bool) (cl : List Value) (ck : Result → Sem Fin) (z y : Nat) (fr2 : Nat → Fv) : Out := run (stQ P b1 b2) (SQ prog P b1 b2) (lv + 4) 400
  [.o (cIntLt c 7 true h7) [], .s 3, .s 0, .d 0, .d 0, .n, .d 1, .d 1, .d 1, .o (cLs (txv l) 0 .none (.int ((c + 1 : Nat) : Int) (y + 2)) .none (txv (l.take (c + 1))) none (some ((c + 1 : Nat) : Int)) none .none (.int _ _) .none (fun h => nomatch h) (take_upto l (c + 1) hc) hl) [1, 4], .o (cJoin (l.take (c + 1)) 0 tx h1 h2) [5]]
  fr2 (codeTF C r) [] (.call (.call (.builtin "int.__lt__") ⟨[.int c t1, .int 7 t2], []⟩) none cg cl ck) (ledT P C Rn S r k V l (frT2 P k0 k1 k2 k3' k4' k5 row rt Rn S (.str (ltr j) lk) (.int c ct) q) (siO abc7 lt (j + 1))) z y []
theorem tTB (h7 : decide ((c : Int) < 7) = true) (tx : List Nat) (h1 : ((l.take (c + 1)).map (·.1)).flatten = tx) (h2 : tx.length ≤ 1000) (hl : (txv l).length ≤ 1000) (hc : c + 1 ≤ l.length) (cg : Bool) (cl : List Value) (z y : Nat) (fr2 : Nat → Fv) :
    let o := gTB lv prog P b1 b2 C Rn S r k0 k1 k2 k5 rt lt j k row V l q k3' k4' lk ct t1 t2 c h7 tx h1 h2 hl hc cg cl (gTA lv prog P b1 b2 C Rn S r k0 k1 k2 k3 k4 k5 rt lt j k row V l q sz tk hx hk fr).ck z y fr2
    (o.sel [0, 1, 2, 3], o.cs.map Prod.fst) = (.at (codeTF C r) [] (.call (.call (.builtin "len") ⟨[.str (stl tx) o.at1], []⟩) none o.cg o.cl o.ck) (ledT P C Rn S r k V l (frT2 P k0 k1 k2 k3' k4' k5 row rt Rn S (.str (ltr j) lk) (.int c ct) q) (siO abc7 lt (j + 1))) o.gsz o.gtk [], o.cs.map Prod.snd) := by
  rcases q with _ | ⟨qa, qb, qc⟩ <;> cases b2 <;> kernel_rfl
theorem tTN (h7 : decide ((c : Int) < 7) = false) (qa qb qc : Value) (cg : Bool) (cl : List Value) (z y : Nat) (fr2 : Nat → Fv) :
    let o := run (stQ P b1 b2) (SQ prog P b1 b2) (lv + 4) 400 [.o (cIntLt c 7 false h7) []] fr2 (codeTF C r) [] (.call (.call (.builtin "int.__lt__") ⟨[.int c t1, .int 7 t2], []⟩) none cg cl (gTA lv prog P b1 b2 C Rn S r k0 k1 k2 k3 k4 k5 rt lt j k row V l q sz tk hx hk fr).ck) (ledT P C Rn S r k V l (frT2 P k0 k1 k2 k3' k4' k5 row rt Rn S (.str (ltr j) lk) (.int c ct) (some (qa, qb, qc))) (siO abc7 lt (j + 1))) z y []
    (o.sel [0, 1, 2, 3], o.cs.map Prod.fst) = (.again (codeTF C r) (ledT P C Rn S r k V l (frT P k0 k1 k2 k3' k4' k5 row rt Rn S (some (.str (ltr j) lk, .int c ct, qc))) (siO abc7 lt (j + 1))) o.gsz o.gtk [], o.cs.map Prod.snd) := by
  rcases q with _ | ⟨qa, qb, qc⟩ <;> cases b2 <;> kernel_rfl
theorem tTC (h7 : decide ((c : Int) < 7) = true) (tx : List Nat) (h1 : ((l.take (c + 1)).map (·.1)).flatten = tx) (h2 : tx.length ≤ 1000) (hl : (txv l).length ≤ 1000) (hc : c + 1 ≤ l.length) (cg : Bool) (cl : List Value) (z y : Nat) (fr2 : Nat → Fv)
    (n : Int) (hn : ((stl tx).length : Int) = n) (hn2 : (stl tx).length ≤ 1000) (T : Nat) (cg' : Bool) (cl' : List Value) (hj : j ≤ k) (hkj : addk k j < 8) (v : Int) (hv : n - c = v) (z' y' : Nat) (fr3 : Nat → Fv) :
    let o := run (stQ P b1 b2) (SQ prog P b1 b2) (lv + 4) 400 [.o (cLenS (stl tx) n hn hn2) [], .d 0, .d 0, .s 3, .d 0, .d 0, .d 0, .d 0, .n, .n, .d 4, .d 4, .d 4, .d 4, .s 221, .o (c221 S z' k V j lk (n - c) (y' + 3) hk hj hkj) [2, 4], .d 0, .d 0] fr3 (codeTF C r) [] (.call (.call (.builtin "len") ⟨[.str (stl tx) T], []⟩) none cg' cl' (gTB lv prog P b1 b2 C Rn S r k0 k1 k2 k5 rt lt j k row V l q k3' k4' lk ct t1 t2 c h7 tx h1 h2 hl hc cg cl (gTA lv prog P b1 b2 C Rn S r k0 k1 k2 k3 k4 k5 rt lt j k row V l q sz tk hx hk fr).ck z y fr2).ck) (ledT P C Rn S r k V l (frT2 P k0 k1 k2 k3' k4' k5 row rt Rn S (.str (ltr j) lk) (.int c ct) q) (siO abc7 lt (j + 1))) z' y' []
    (o.sel [0, 1, 3, 5], o.cs.map Prod.fst) = (.again (codeTF C r) [.o C (frT P k0 k1 k2 k3' k4' (ftk 5 o) row rt Rn ((fr3 3).n 2) (some (.str (ltr j) lk, .int c ct, .int n (vtk 5 o)))), .o Rn (seqO (txv l) 0), .o r (siO abc7 lt (j + 1)), .o ((fr3 3).n 2) (addO P V k j (n - c) (Tn (fr3 3).n) (Un (fr3 3).n))] o.gsz o.gtk [], o.cs.map Prod.snd) := by
  rcases q with _ | ⟨qa, qb, qc⟩ <;> cases b2 <;> kernel_rfl
end
end
end Zd
namespace Zd
open PySem PySem.Spec PySem.Calls PyProof.Rows PySem.W PySem.W.X
open Builtin Builtin.Str
noncomputable def numb : Nat → List (List Nat) → List (List Nat × Nat)
  | _, [] => []
  | t, p :: r => (p, t) :: numb (t + 1) r
theorem numb_fst : ∀ (t : Nat) (ps : List (List Nat)), (numb t ps).map (·.1) = ps
  | _, [] => rfl
  | t, p :: r => by rw [numb, List.map_cons, numb_fst]
theorem numb_len (t : Nat) (ps : List (List Nat)) : (numb t ps).length = ps.length := by
  have := congrArg List.length (numb_fst t ps)
  rwa [List.length_map] at this
theorem numb_txv : ∀ (t : Nat) (ps : List (List Nat)), txv (numb t ps) = strsFrom t (ps.map stl)
  | _, [] => rfl
  | t, p :: r => by
    show Value.str (stl p) t :: txv (numb (t + 1) r) = _
    rw [numb_txv]; rfl
/-- «x.split(')')» gives these parts -/
structure SplitH (x : Str) (ps : List (List Nat)) : Prop where
  h1 : (decide (x.length < (")" : Str).length) || decide (strKind x < strKind ")")) = false
  hf : (occurrences x ")" 0 x.length (x.length + 1)).isEmpty = false
  hp : partsBetween x (occurrences x ")" 0 x.length (x.length + 1)) (")" : Str).length = ps.map stl
  hl : x.length ≤ 1000
  hn : ps.length ≤ 1000
noncomputable def instSp (ps : List (List Nat)) (cs : List (Tm × Tm)) : Inst := { lv := 0, cs, pre := [], upd := fun _ _ _ => [], res := fun sz _ _ => .ok (.ret (.ref sz)), new := fun sz tk _ => [.o sz (seqO (txv (numb tk ps)) 0)], nsz := fun sz _ => sz + 1, ntk := fun tk _ => tk + ps.length }
section
variable {stat : Nat → Option Obj} {S : Setting}
theorem split_triple (x : Str) (t u : Nat) (ps : List (List Nat)) (h : SplitH x ps) (cs : List (Tm × Tm)) : Triple stat S (.call (.builtin "str.split") ⟨[.str x t, .str ")" u], []⟩) (instSp ps cs) := by
  intro w hS A s sz tk g gl hA hst hpre hnd hlow hb hsz htk
  refine after_of_call (c := .call .none ⟨[], []⟩) hsz htk ?_
  have hb2 := big_line
  have hl := h.hl
  have hn := h.hn
  refine call_meets F.slot_str_split (typeIs_str _ _ _) F.entry_str_split (F.args_str_split_2 _ _) (meets_str_split_sep x ")" t u h.h1 rfl h.hf (by omega) (by rw [h.hp, List.length_map]; omega)) ?_
  show After _ _ _ _ _ _
  rw [h.hp, List.length_map, ← numb_txv]
  refine ⟨Fv.z, rfl, Heap.size_push .., rfl, fun _ h => (nomatch h), fun y hy => ?_, List.nodup_cons.mpr ⟨by simp, List.nodup_nil⟩, ⟨by show s.heap.objs.size ≤ (Heap.push _ _).objs.size; rw [Heap.size_push]; exact Nat.le_succ _, fun b o' _ e => Heap.get?_push_of_some _ e, Nat.le_refl _, fun _ _ _ h => h, rfl, rfl, id⟩⟩
  rw [List.mem_singleton.mp hy]
  exact ⟨Heap.get?_push_size _ rfl, Nat.le_refl _⟩
/-- «x.split(')')» -/
noncomputable def cSplit (x0 : Str) (ps : List (List Nat)) (h : SplitH x0 ps) : Ctr stat S :=
  ctrB "str.split" (fun | [.str x _, .str y _] => some (instSp ps [(.s x, .s x0), (.s y, .s ")")]) | _ => none) fun args i hi hcs => by
    split at hi
    · cases hi
      obtain ⟨e1, hcs⟩ := okS hcs
      obtain ⟨e2, _⟩ := okS hcs
      subst e1 e2
      exact ⟨fun _ _ _ => rfl, split_triple _ _ _ _ h _⟩
    · cases hi
end
section
variable (lv : Nat) (prog : Program) (P : Params) (b1 b2 : Bool) (C Rn S r k0 k1 k2 k3 k4 k5 rt lt j k : Nat) (row : Str) (V : Vs) (l : List (List Nat × Nat)) (q : Option (Value × Value × Value)) (sz tk : Nat)
noncomputable def gTb (ps : List (List Nat)) (h : SplitH row ps) (fr : Nat → Fv) : Out := run (stQ P b1 b2) (SQ prog P b1 b2) (lv + 4) 400
  [.d 0, .o (cSplit row ps h) [], .d 0, .d 0, .d 0, .d 0, .n, .d 3] fr (body252 C) [] (denZ (body252 C)) [.o C (frm [ent P "row" k0 (.str row rt)])] sz tk []
noncomputable def Out.itk : Nat → Out → Nat
  | j, .at _ _ _ led _ _ _ => match led[j]? with
    | some (.o _ x) => match x.data with
      | .fields vs => match vs.toList with
        | .str _ t :: _ => t
        | _ => 0
      | _ => 0
    | _ => 0
  | _, _ => 0
theorem tTb (ps : List (List Nat)) (h : SplitH row ps) (fr : Nat → Fv) :
    let o := gTb lv prog P b1 b2 C k0 rt row sz tk ps h fr
    (o.sel [0, 1, 2, 3], o.cs.map Prod.fst) = (.at (body252 C) [] (.call (codeTF C (sz + 2)) none o.cg o.cl o.ck) (ledT P C sz (sz + 1) (sz + 2) 0 V0 (numb (tk + 1) ps) (frT P k0 (ftk 1 o) (ftk 2 o) 0 0 0 row rt sz (sz + 1) none) (siO abc7 (o.itk 3) 0)) (sz + 3) o.gtk [], o.cs.map Prod.snd) := by
  cases b2 <;> kernel_rfl
theorem tTE (hx : abc7.cps[j]? = none) (fr : Nat → Fv) :
    let o := run (stQ P b1 b2) (SQ prog P b1 b2) (lv + 4) 100 [.d 3, .o (cSE r abc7 lt j hx) [3], .d 4] fr (codeTF C r) [] (denZ (codeTF C r)) (ledT P C Rn S r k V l (frT P k0 k1 k2 k3 k4 k5 row rt Rn S q) (siO abc7 lt j)) sz tk []
    (o.sel [0, 2], o.cs.map Prod.fst) = (.again (.block for252.2.2 (env252 C)) [.o C (frT P k0 k1 k2 k3 k4 k5 row rt Rn S q), .o S (dctO P k V)] (sz + 2) tk [], o.cs.map Prod.snd) := by
  cases b2 <;> kernel_rfl
theorem tTBl (l : Led) (fr : Nat → Fv) :
    let o := run (stQ P b1 b2) (SQ prog P b1 b2) (lv + 4) 20 [] fr (.block for252.2.2 (env252 C)) [] (denZ (.block for252.2.2 (env252 C))) l sz tk []
    (o.sel [0, 1], o.cs.map Prod.fst) = (Out.sel [0, 1] (.ret (.ok .next) l sz tk []), o.cs.map Prod.snd) := by
  kernel_rfl
theorem tTz (C' k0' rt' : Nat) (row' : Str) (sz' tk' : Nat) (ps : List (List Nat)) (h : SplitH row' ps) (fr : Nat → Fv) (qa : Value × Value × Value) (fr2 : Nat → Fv) :
    let o := run (stQ P b1 b2) (SQ prog P b1 b2) (lv + 4) 60 [.d 0] fr2 (body252 C) [] ((gTb lv prog P b1 b2 C k0' rt' row' sz' tk' ps h fr).ck (.ok .next)) [.o C (frT P k0 k1 k2 k3 k4 k5 row rt Rn S (some qa)), .o S (dctO P k V)] sz tk []
    (o.sel [1], o.cs.map Prod.fst) = (.ret (.ok (.ret (.ref S))) [.o S (dctO P k V)] sz tk [], o.cs.map Prod.snd) := by
  cases b2 <;> kernel_rfl
end
end Zd
namespace Zd
open PySem PySem.Spec PySem.Calls PyProof.Rows PySem.W PySem.W.X
open Builtin Builtin.Str
noncomputable def aheadS (R : List (List Nat)) (c : Nat) : Nat := (R.take (c + 1)).flatten.length
noncomputable def comeS (R : List (List Nat)) : Nat → Nat
  | 0 => 0
  | i + 1 => match Nat.blt (comeS R i) 7 with | true => aheadS R (comeS R i) | false => comeS R i
noncomputable def kS (R : List (List Nat)) : Nat → Nat
  | 0 => 0
  | i + 1 => match Nat.blt (comeS R i) 7 with | true => kS R i + 1 | false => kS R i
noncomputable def szS (R : List (List Nat)) (i : Nat) : Int := (aheadS R (comeS R i) : Int) - (comeS R i : Nat)
noncomputable def vS (R : List (List Nat)) : Nat → Nat → Int
  | 0 => V0.v
  | k + 1 => addv ⟨fun _ => 0, vS R k, fun _ => 0⟩ k k (szS R k)
structure StepsH (R : List (List Nat)) : Prop where
  len : ∀ i, i < 7 → comeS R i < 7 → comeS R i + 1 ≤ R.length
  k : ∀ i, i < 7 → comeS R i < 7 → kS R i = i
  k7 : ∀ i, i < 8 → kS R i < 8
  sum : ∀ i, i < 7 → sumTo (vS R (kS R i)) (kS R i) = (comeS R i : Nat)
  small : ∀ c, c < 8 → aheadS R c ≤ 1000
  all : R.length ≤ 1000
theorem abc7_at : ∀ j : Nat, j < 7 → abc7.cps[j]? = some (97 + j) := by decide +kernel
theorem abc7_end : abc7.cps[7]? = none := by decide +kernel
theorem stl_len (l : List Nat) : (stl l).length = l.length := by simp [stl, Str.length]
theorem addk_self (k : Nat) : addk k k = k + 1 := by
  unfold addk
  have : Nat.blt k k = false := by
    cases h : Nat.blt k k with
    | false => rfl
    | true => rw [Nat.blt_eq] at h; omega
  rw [this]
section
variable {prog : Program} {P : Params} {b1 b2 : Bool} {w : World} {A : Around} {W : List (Bool × Nat)} {s₀ : Shared} {R : Result → Shared → Prop} {C Rn r k0 k1 k2 rt lt : Nat} {row : Str} {l : List (List Nat × Nat)} {rs : List (List Nat)}
theorem steps_loop (hS : w.params = pq P b1 b2) (hA : Room 4 A) (hR : StepsH rs) (hl : l.map (·.1) = rs) : ∀ (n i k k3 k4 k5 S : Nat) (V : Vs) (q : Option (Value × Value × Value)) (sz tk : Nat) (s : Shared), i + n = 7 → (i ≠ 0 → ∃ a b c, q = some (a, b, c)) → k = kS rs i → V.v = vS rs k →
    Rep (stQ P b1 b2) W s₀ (ledT P C Rn S r k V l (frT P k0 k1 k2 k3 k4 k5 row rt Rn S q) (siO abc7 lt i)) sz tk s →
    (∀ k3' k4' k5' S' V' qa sz' tk' s', V'.v = vS rs (kS rs 7) → Rep (stQ P b1 b2) W s₀ [.o C (frT P k0 k1 k2 k3' k4' k5' row rt Rn S' (some qa)), .o S' (dctO P (kS rs 7) V')] sz' tk' s' → R (.ok .next) s') →
    codeAny (model prog w) A (codeTF C r) R s
  | 0, i, k, k3, k4, k5, S, V, q, sz, tk, s, hn, hq, hkk, hV, D, E => by
    obtain rfl : i = 7 := by omega
    subst hkk
    obtain ⟨a, b, c, rfl⟩ := hq (by decide)
    refine code_again (tTE 0 prog P b1 b2 C Rn S r k0 k1 k2 k3 k4 k5 rt lt 7 _ row V l (some (a, b, c)) sz tk abc7_end) hS hA rfl D fun fr s1 D1 => ?_
    exact code_ret (tTBl 0 prog P b1 b2 C _ _ _) hS hA rfl D1 fun fr s2 D2 => E _ _ _ _ _ _ _ _ _ hV D2
  | n + 1, i, k, k3, k4, k5, S, V, q, sz, tk, s, hn, hq, hkk, hV, D, E => by
    have hi : i < 7 := by omega
    have hk : k < 8 := by rw [hkk]; exact hR.k7 i (by omega)
    have hx := abc7_at i hi
    have hsum : sumTo V.v k = (comeS rs i : Nat) := by rw [hV, hkk]; exact hR.sum i hi
    refine code_of_wp (S := SQ prog P b1 b2) ?_
    refine run_to (S := SQ prog P b1 b2) (laws_none (S := SQ prog P b1 b2) (lv := 4) (finP (model prog w) A R, fun e s' => R (.error e) s') hS hA) hS _ _ [0, 1, 2, 3]
      (tTA 0 prog P b1 b2 C Rn S r k0 k1 k2 k3 k4 k5 rt lt i _ row V l q sz tk hx hk) rfl (fun fr => ⟨fun _ h => (nomatch h), fun s2 D2 => ?_⟩) D
    rw [hsum] at D2 ⊢
    cases h7 : Nat.blt (comeS rs i) 7 with
    | false =>
      have hge : ¬ comeS rs i < 7 := fun h => by
        have : Nat.blt (comeS rs i) 7 = true := by rw [Nat.blt_eq]; exact h
        rw [h7] at this; cases this
      have hi0 : i ≠ 0 := fun h => by subst h; exact hge (show (0 : Nat) < 7 by decide)
      obtain ⟨a, b, c, rfl⟩ := hq hi0
      have ek : kS rs (i + 1) = kS rs i := by rw [kS, h7]
      refine run_to (S := SQ prog P b1 b2) (laws_none (S := SQ prog P b1 b2) (lv := 4) (finP (model prog w) A R, fun e s' => R (.error e) s') hS hA) hS _ _ [0, 1, 2, 3]
        (tTN 0 prog P b1 b2 C Rn S r k0 k1 k2 k3 k4 k5 rt lt i _ row V l _ sz tk hx hk fr _ _ _ _ _ _ (comeS rs i) (decide_eq_false (by omega)) a b c _ _ _ _) rfl (fun fr2 => ⟨fun _ h => (nomatch h), fun s3 D3 qt c' => wpAny_pure ⟨qt, ?_⟩⟩) D2
      exact steps_loop hS hA hR hl n (i + 1) _ _ _ _ _ _ _ _ _ s3 (by omega) (fun _ => ⟨_, _, _, rfl⟩) (by rw [ek, hkk]) hV D3 E
    | true =>
      have hlt : comeS rs i < 7 := by rw [Nat.blt_eq] at h7; exact h7
      have ek : kS rs (i + 1) = kS rs i + 1 := by rw [kS, h7]
      have eki : k = i := by rw [hkk]; exact hR.k i hi hlt
      have h1 : ((l.take (comeS rs i + 1)).map (·.1)).flatten = (rs.take (comeS rs i + 1)).flatten := by rw [List.map_take, hl]
      have h2 : (rs.take (comeS rs i + 1)).flatten.length ≤ 1000 := hR.small _ (by omega)
      have hll : l.length = rs.length := by rw [← hl, List.length_map]
      have h3 : (txv l).length ≤ 1000 := by
        have := hR.all
        simp only [txv, List.length_map]; omega
      have h4 : comeS rs i + 1 ≤ l.length := by rw [hll]; exact hR.len i hi hlt
      refine run_to (S := SQ prog P b1 b2) (laws_none (S := SQ prog P b1 b2) (lv := 4) (finP (model prog w) A R, fun e s' => R (.error e) s') hS hA) hS _ _ [0, 1, 2, 3]
        (tTB 0 prog P b1 b2 C Rn S r k0 k1 k2 k3 k4 k5 rt lt i _ row V l q sz tk hx hk fr _ _ _ _ _ _ (comeS rs i) (decide_eq_true (by omega)) _ h1 h2 h3 h4 _ _ _ _) rfl (fun fr2 => ⟨fun _ h => (nomatch h), fun s3 D3 => ?_⟩) D2
      refine run_to (S := SQ prog P b1 b2) (laws_none (S := SQ prog P b1 b2) (lv := 4) (finP (model prog w) A R, fun e s' => R (.error e) s') hS hA) hS _ _ [0, 1, 3, 5]
        (tTC 0 prog P b1 b2 C Rn S r k0 k1 k2 k3 k4 k5 rt lt i _ row V l q sz tk hx hk fr _ _ _ _ _ _ (comeS rs i) (decide_eq_true (by omega)) _ h1 h2 h3 h4 _ _ _ _ fr2 ((aheadS rs (comeS rs i) : Nat) : Int) (by rw [stl_len]; rfl) (by rw [stl_len]; exact h2) _ _ _ (by omega) (by rw [eki, addk_self]; omega) _ rfl _ _) rfl (fun fr3 => ⟨fun _ h => (nomatch h), fun s4 D4 qt c' => wpAny_pure ⟨qt, ?_⟩⟩) D3
      have D5 := D4.pick0 (led' := [_, _, _, _]) [0, 1, 3, 2] rfl
      have eO : addO P V k i (((aheadS rs (comeS rs i) : Nat) : Int) - ((comeS rs i : Nat) : Int)) (Tn (fr3 3).n) (Un (fr3 3).n) = dctO P (k + 1) ⟨Tn (fr3 3).n, addv V k i (((aheadS rs (comeS rs i) : Nat) : Int) - ((comeS rs i : Nat) : Int)), Un (fr3 3).n⟩ := by
        unfold addO
        rw [eki, addk_self]
      rw [eO] at D5
      refine steps_loop hS hA hR hl n (i + 1) (k + 1) _ _ _ ((fr3 3).n 2) _ _ _ _ s4 (by omega) (fun _ => ⟨_, _, _, rfl⟩) (by rw [ek, hkk]) ?_ D5 E
      show addv V k i _ = vS rs (k + 1)
      rw [eki, vS]
      refine addv_v _ _ ?_ _ _ _
      rw [hV, eki]
end
end Zd
namespace Zd
open PySem PySem.Spec PySem.Calls PyProof.Rows PySem.W PySem.W.X
open Builtin Builtin.Str
noncomputable def inst252 (P : Params) (m : Nat) (v : Nat → Int) (cs : List (Tm × Tm)) : Inst := { lv := 5, cs, pre := [], upd := fun _ _ _ => [], res := fun _ _ f => .ok (.ret (.ref (f.n 2))), new := fun _ _ f => [.o (f.n 2) (dctO P m ⟨Tn f.n, v, Un f.n⟩)] }
section
variable {prog : Program} {P : Params} {b1 b2 : Bool}
theorem triple252 (row : Str) (rt : Nat) (rs : List (List Nat)) (h : SplitH row rs) (hR : StepsH rs) (cs : List (Tm × Tm)) : Triple (stQ P b1 b2) (SQ prog P b1 b2) (code252 (.str row rt)) (inst252 P (kS rs 7) (vS rs (kS rs 7)) cs) := by
  intro w hS A s sz tk g l hA hst hpre hnd hlow hb hsz htk
  refine wp_of_code ?_
  have hA5 : Room 5 A := hA
  have D0 := rep_start (led := []) hst (fun _ h => (nomatch h)) List.nodup_nil (fun _ h => (nomatch h)) hb hsz htk
  refine def_call (lv := 5) (call252 5 prog P b1 b2 (.str row rt) sz tk) hS hA5 rfl rfl rfl D0 fun s1 D1 => ?_
  have fin : ∀ S' V' sz' tk' s', V'.v = vS rs (kS rs 7) → Rep (stQ P b1 b2) (([] : Led).map Cell.key) s [.o S' (dctO P (kS rs 7) V')] sz' tk' s' → After (inst252 P (kS rs 7) (vS rs (kS rs 7)) cs) sz tk s (.ok (.ret (.ref S'))) s' := fun S' V' sz' tk' s' hV D9 => by
    refine rep_end (i := inst252 P (kS rs 7) (vS rs (kS rs 7)) cs) { Fv.z with n := mkF sz' tk' S' V'.t V'.u } D9 rfl rfl rfl ?_ (fun _ _ h => (nomatch h))
    show _ = [] ++ [Cell.o S' (dctO P (kS rs 7) ⟨Tn (mkF sz' tk' S' V'.t V'.u), vS rs (kS rs 7), Un (mkF sz' tk' S' V'.t V'.u)⟩)]
    rw [Tn_mk, Un_mk, ← hV]
    rfl
  generalize After (inst252 P (kS rs 7) (vS rs (kS rs 7)) cs) sz tk s = R at fin ⊢
  refine code_of_wp (S := SQ prog P b1 b2) ?_
  refine run_to (S := SQ prog P b1 b2) (laws_none (S := SQ prog P b1 b2) (lv := 5) (finP (model prog w) A R, fun e s' => R (.error e) s') hS hA5) hS _ _ [0, 1, 2, 3]
    (tTb 1 prog P b1 b2 sz tk rt row (sz + 1) (tk + 1) rs h) rfl (fun fr => ⟨fun _ h => (nomatch h), fun s2 D2 => ?_⟩) D1
  refine means_call ?_
  have hA4 : Room 4 (A.under (body252 sz)) := room_under hA5 (Nat.le_of_ble_eq_true (by kernel_rfl)) (Nat.le_of_ble_eq_true (by kernel_rfl))
  refine steps_loop hS hA4 hR (numb_fst _ rs) 7 0 0 _ _ _ _ V0 none _ _ s2 rfl (fun h => absurd rfl h) rfl rfl D2 fun k3' k4' k5' S' V' qa sz' tk' s' hV D3 => ?_
  exact run_to (S := SQ prog P b1 b2) (laws_none (S := SQ prog P b1 b2) (lv := 5) (finP (model prog w) A R, fun e s' => R (.error e) s') hS hA5) hS _ _ [1]
      (tTz 1 prog P b1 b2 sz _ S' _ _ _ k3' k4' k5' _ _ row V' sz' tk' sz tk rt row (sz + 1) (tk + 1) rs h fr qa) rfl (fun fr2 => ⟨fun _ h => (nomatch h), fun s4 D4 c' => wpAny_pure (fin _ _ _ _ _ hV D4)⟩) D3
noncomputable def c252 (row0 : Str) (rs : List (List Nat)) (h : SplitH row0 rs) (hR : StepsH rs) : Ctr (stQ P b1 b2) (SQ prog P b1 b2) :=
  ctrDef 252 (fun | [.str x t] => some (inst252 P (kS rs 7) (vS rs (kS rs 7)) [(.s x, .s row0)]) | _ => none) fun args i hi hcs => by
    split at hi
    · cases hi
      obtain ⟨e, _⟩ := okS hcs
      subst e
      exact ⟨fun _ _ _ => rfl, triple252 _ _ _ h hR _⟩
    · cases hi
end
end Zd
namespace Zd
open PySem PySem.Spec PySem.Calls PyProof.Rows PySem.W PySem.W.X
open Builtin Builtin.Str
noncomputable def for264 : PySem.Expr × List Stmt × List Stmt := forOf ((partsOf (topStmt 22)).2.1[1]?)
noncomputable def codeZF (C r : Nat) : Code := .forLoop for264.1 (.ref r) for264.2.1 for264.2.2 (env264 C)
noncomputable def kiO (S i n : Nat) : Obj := ⟨.type "dict_keyiterator", none, .fields #[.ref S, .int (i : Int) 0, .int (n : Int) 0, .int (n : Int) 0], #[]⟩
structure Ks where
  k0 : Nat
  k1 : Nat
  k2 : Nat
  k3 : Nat
  k4 : Nat
  k5 : Nat
  k6 : Nat
noncomputable def frZ (P : Params) (K : Ks) (X S T : Nat) (q : Option (Value × Value × Value × Value)) : Obj :=
  frm ([ent P "depths" K.k0 (.ref X), ent P "steps" K.k1 (.ref S), ent P "book" K.k2 (.ref T)] ++ (match q with | some (a, b, c, d) => [ent P "letter" K.k3 a, ent P "size" K.k4 b, ent P "come" K.k5 c, ent P "told" K.k6 d] | none => []))
noncomputable def frZ1 (P : Params) (K : Ks) (X S T : Nat) (a : Value) (q : Option (Value × Value × Value × Value)) : Obj :=
  frm ([ent P "depths" K.k0 (.ref X), ent P "steps" K.k1 (.ref S), ent P "book" K.k2 (.ref T), ent P "letter" K.k3 a] ++ (match q with | some (_, b, c, d) => [ent P "size" K.k4 b, ent P "come" K.k5 c, ent P "told" K.k6 d] | none => []))
noncomputable def frZ2 (P : Params) (K : Ks) (X S T : Nat) (a b c : Value) (q : Option (Value × Value × Value × Value)) : Obj :=
  frm ([ent P "depths" K.k0 (.ref X), ent P "steps" K.k1 (.ref S), ent P "book" K.k2 (.ref T), ent P "letter" K.k3 a, ent P "size" K.k4 b, ent P "come" K.k5 c] ++ (match q with | some (_, _, _, d) => [ent P "told" K.k6 d] | none => []))
noncomputable abbrev ledZ (P : Params) (X S C D T r n nl : Nat) (d u : Nat → Nat) (V V2 : Vs) (B : Bk) (fo io : Obj) : Led := [.o X (seqO (dvs d u) 7), .o (S + 277) (dctO P n V), .o C fo, .o D (dctO P nl V2), .o T (bookO B D), .o r io]
section
variable (lv : Nat) (prog : Program) (P : Params) (b1 b2 : Bool) (X S C D T r n nl i : Nat) (d u : Nat → Nat) (V V2 : Vs) (B : Bk) (K : Ks) (q : Option (Value × Value × Value × Value)) (sz tk : Nat)
noncomputable def gZA (fr : Nat → Fv) : Out := run (stQ P b1 b2) (SQ prog P b1 b2) (lv + 5) 400
  [.d 5, .n, .d 5, .d 5, .d 5, .d 1, .d 1, .d 5, .d 5, .d 5, .d 5, .d 5, .d 2, .d 2, .d 2, .d 2, .d 1, .d 1, .d 1]
  fr (codeZF C r) [] (denZ (codeZF C r)) (ledZ P X S C D T r n nl d u V V2 B (frZ P K X (S + 277) T q) (kiO (S + 277) i n)) sz tk []
noncomputable def ftk2 (j i : Nat) : Out → Nat
  | .at _ _ _ led _ _ _ => match led[j]? with
    | some (.o _ x) => match x.data with
      | .dict es _ => match es.toList[i]? with
        | some b => match b.key with
          | .str _ p => p
          | _ => 0
        | _ => 0
      | _ => 0
    | _ => 0
  | .again _ led _ _ _ => match led[j]? with
    | some (.o _ x) => match x.data with
      | .dict es _ => match es.toList[i]? with
        | some b => match b.key with
          | .str _ p => p
          | _ => 0
        | _ => 0
      | _ => 0
    | _ => 0
  | _ => 0
noncomputable def vtk2 (j i : Nat) : Out → Nat
  | .at _ _ _ led _ _ _ => match led[j]? with
    | some (.o _ x) => match x.data with
      | .dict es _ => match es.toList[i]? with
        | some b => match b.val with
          | .str _ p => p
          | .int _ p => p
          | _ => 0
        | _ => 0
      | _ => 0
    | _ => 0
  | .again _ led _ _ _ => match led[j]? with
    | some (.o _ x) => match x.data with
      | .dict es _ => match es.toList[i]? with
        | some b => match b.val with
          | .str _ p => p
          | .int _ p => p
          | _ => 0
        | _ => 0
      | _ => 0
    | _ => 0
  | _ => 0
theorem tZA (hn : n < 8) (hi : i < n) (fr : Nat → Fv) :
    let o := gZA lv prog P b1 b2 X S C D T r n nl i d u V V2 B K q sz tk fr
    (o.sel [0, 1, 2, 3, 4, 5], o.cs.map Prod.fst) = (.at (codeZF C r) [] (.call (.call (.builtin "dict.__getitem__") ⟨[.ref (S + 277), .str (ltr i) (V.t i)], []⟩) none o.cg o.cl o.ck) (ledZ P X S C D T r n nl d u V V2 B (frZ1 P { K with k3 := ftk2 2 3 o } X (S + 277) T (.str (ltr i) (V.t i)) q) (kiO (S + 277) (i + 1) n)) o.gsz o.gtk [], o.cs.map Prod.snd) := by
  rcases q with _ | ⟨qa, qb, qc, qd⟩ <;> match n, i, hn, hi with
  | 1, 0, _, _ => cases b2 <;> kernel_rfl
  | 2, 0, _, _ => cases b2 <;> kernel_rfl
  | 2, 1, _, _ => cases b2 <;> kernel_rfl
  | 3, 0, _, _ => cases b2 <;> kernel_rfl
  | 3, 1, _, _ => cases b2 <;> kernel_rfl
  | 3, 2, _, _ => cases b2 <;> kernel_rfl
  | 4, 0, _, _ => cases b2 <;> kernel_rfl
  | 4, 1, _, _ => cases b2 <;> kernel_rfl
  | 4, 2, _, _ => cases b2 <;> kernel_rfl
  | 4, 3, _, _ => cases b2 <;> kernel_rfl
  | 5, 0, _, _ => cases b2 <;> kernel_rfl
  | 5, 1, _, _ => cases b2 <;> kernel_rfl
  | 5, 2, _, _ => cases b2 <;> kernel_rfl
  | 5, 3, _, _ => cases b2 <;> kernel_rfl
  | 5, 4, _, _ => cases b2 <;> kernel_rfl
  | 6, 0, _, _ => cases b2 <;> kernel_rfl
  | 6, 1, _, _ => cases b2 <;> kernel_rfl
  | 6, 2, _, _ => cases b2 <;> kernel_rfl
  | 6, 3, _, _ => cases b2 <;> kernel_rfl
  | 6, 4, _, _ => cases b2 <;> kernel_rfl
  | 6, 5, _, _ => cases b2 <;> kernel_rfl
  | 7, 0, _, _ => cases b2 <;> kernel_rfl
  | 7, 1, _, _ => cases b2 <;> kernel_rfl
  | 7, 2, _, _ => cases b2 <;> kernel_rfl
  | 7, 3, _, _ => cases b2 <;> kernel_rfl
  | 7, 4, _, _ => cases b2 <;> kernel_rfl
  | 7, 5, _, _ => cases b2 <;> kernel_rfl
  | 7, 6, _, _ => cases b2 <;> kernel_rfl
  | n + 8, _, h, _ => exact absurd h (by omega)
  | 0, _, _, h => exact absurd h (by omega)
  | 1, i + 1, _, h => exact absurd h (by omega)
  | 2, i + 2, _, h => exact absurd h (by omega)
  | 3, i + 3, _, h => exact absurd h (by omega)
  | 4, i + 4, _, h => exact absurd h (by omega)
  | 5, i + 5, _, h => exact absurd h (by omega)
  | 6, i + 6, _, h => exact absurd h (by omega)
  | 7, i + 7, _, h => exact absurd h (by omega)
end
end Zd
namespace Zd
open PySem PySem.Spec PySem.Calls PyProof.Rows PySem.W PySem.W.X
open Builtin Builtin.Str
section
variable {stat : Nat → Option Obj} {S : Setting}
noncomputable def cIndex (x0 y0 : Str) (i : Nat) (rest : List Nat) (h : occurrences x0 y0 0 x0.length 1 = i :: rest) : Ctr stat S :=
  ctrPure "str.index" (fun | [.str x _, .str y _] => some ([(.s x, .s x0), (.s y, .s y0)], .int i) | _ => none) fun args cs m hg hcs => by
    split at hg
    · cases hg
      obtain ⟨e1, hcs⟩ := okS hcs
      obtain ⟨e2, _⟩ := okS hcs
      subst e1 e2
      exact ⟨trivial, fun prog w A Q E s hq => call_gives F.slot_str_index rfl F.entry_str_index (F.args_str_index_2 _ _) (gives_str_index _ _ _ _ _ _ h) hq⟩
    · cases hg
noncomputable def cMul (x0 y0 z : Int) (hy : 0 ≤ y0 ∧ y0 ≤ 1000) (hz : x0 * y0 = z) : Ctr stat S :=
  ctrPure "int.__mul__" (fun | [.int x _, .int y _] => some ([(.i x, .i x0), (.i y, .i y0)], .int z) | _ => none) fun args cs m hg hcs => by
    split at hg
    · cases hg
      obtain ⟨e1, hcs⟩ := okI hcs
      obtain ⟨e2, _⟩ := okI hcs
      subst e1 e2 hz
      exact ⟨trivial, fun prog w A Q E s hq => call_gives F.slot_int_mul rfl F.entry_int_mul (F.args_int_mul_2 _ _) (gives_int_mul _ _ _ _ (.of_right (PySem.intBits_le_64 (by omega) (by omega)))) hq⟩
    · cases hg
end
theorem idx7 : ∀ i : Nat, i < 7 → occurrences abc7 (ltr i) 0 abc7.length 1 = [i] := by decide +kernel
noncomputable def Out.slt (j : Nat) : Out → Nat × Nat
  | .at _ _ _ led _ _ _ => match led[j]? with
    | some (.o _ x) => match x.data with
      | .fields vs => match vs.toList with
        | [.int _ a, .int _ b, _] => (a, b)
        | _ => (0, 0)
      | _ => (0, 0)
    | _ => (0, 0)
  | _ => (0, 0)
theorem run_ints (d u : Nat → Nat) (c e : Nat) (h1 : c ≤ e) (h2 : e ≤ 7) : (slicePick ⟨dvs d u⟩ (some ((c : Nat) : Int)) (some ((e : Nat) : Int)) none).toList = tagT (((dts d u).drop c).take (e - c)) := by
  rw [slicePick_run _ _ _ h2 h1]
  unfold tagT
  rw [List.map_take, List.map_drop]
  rfl
section
variable (lv : Nat) (prog : Program) (P : Params) (b1 b2 : Bool) (X S C D T r n nl i : Nat) (d u : Nat → Nat) (V V2 : Vs) (B : Bk) (K : Ks) (q : Option (Value × Value × Value × Value)) (sz tk : Nat)
variable (cg : Bool) (cl : List Value) (fr : Nat → Fv) (K' : Ks) (z y : Nat)
noncomputable def gZB (hK : KeysP P (dctE P V n 0)) (hf : findBy Value.isStrOf (dctE P V n 0).toArray (ltr i) = some (.int (V.v i) (V.u i))) (hnl : nl < 8) (ck : Result → Sem Fin) (fr2 : Nat → Fv) : Out := run (stQ P b1 b2) (SQ prog P b1 b2) (lv + 5) 400
  [.o (cGet (S + 277) (dctE P V n 0) n (ltr i) (.int (V.v i) (V.u i)) hK hf) [1], .d 2, .d 2, .s 3, .d 2, .d 4, .d 4, .d 4, .n, .d 4, .d 4, .s 228, .o (c228 D nl V2 hnl) [3], .d 2, .d 2, .s 3, .s 0, .d 2, .d 2, .d 2, .d 2, .n, .d 0, .d 0, .d 0]
  fr2 (codeZF C r) [] (.call (.call (.builtin "dict.__getitem__") ⟨[.ref (S + 277), .str (ltr i) (V.t i)], []⟩) none cg cl ck) (ledZ P X S C D T r n nl d u V V2 B (frZ1 P K' X (S + 277) T (.str (ltr i) (V.t i)) q) (kiO (S + 277) (i + 1) n)) z y []
theorem tZB (hn : n < 8) (hi : i < n) (hK : KeysP P (dctE P V n 0)) (hf : findBy Value.isStrOf (dctE P V n 0).toArray (ltr i) = some (.int (V.v i) (V.u i))) (hnl : nl < 8) (fr2 : Nat → Fv) :
    let o := gZB lv prog P b1 b2 X S C D T r n nl i d u V V2 B q cg cl K' z y hK hf hnl (gZA lv prog P b1 b2 X S C D T r n nl i d u V V2 B K q sz tk fr).ck fr2
    (o.sel [0, 1, 2, 3, 4, 5, 6], o.cs.map Prod.fst) = (.at (codeZF C r) [] (.call (.call (.builtin "list.__getitem__") ⟨[.ref X, .ref (o.adr 6)], []⟩) none o.cg o.cl o.ck) (ledZ P X S C D T r n nl d u V V2 B (frZ2 P { K' with k4 := ftk2 2 4 o, k5 := ftk2 2 5 o } X (S + 277) T (.str (ltr i) (V.t i)) (.int (V.v i) (V.u i)) (.int (sumTo V2.v nl) (vtk2 2 5 o)) q) (kiO (S + 277) (i + 1) n) ++ [.o (o.adr 6) (slO3 (.int (sumTo V2.v nl) (o.slt 6).1) (.int (sumTo V2.v nl + V.v i) (o.slt 6).2) .none)]) o.gsz o.gtk [], o.cs.map Prod.snd) := by
  rcases q with _ | ⟨qa, qb, qc, qd⟩ <;> match n, i, hn, hi with
  | 1, 0, _, _ => cases b2 <;> kernel_rfl
  | 2, 0, _, _ => cases b2 <;> kernel_rfl
  | 2, 1, _, _ => cases b2 <;> kernel_rfl
  | 3, 0, _, _ => cases b2 <;> kernel_rfl
  | 3, 1, _, _ => cases b2 <;> kernel_rfl
  | 3, 2, _, _ => cases b2 <;> kernel_rfl
  | 4, 0, _, _ => cases b2 <;> kernel_rfl
  | 4, 1, _, _ => cases b2 <;> kernel_rfl
  | 4, 2, _, _ => cases b2 <;> kernel_rfl
  | 4, 3, _, _ => cases b2 <;> kernel_rfl
  | 5, 0, _, _ => cases b2 <;> kernel_rfl
  | 5, 1, _, _ => cases b2 <;> kernel_rfl
  | 5, 2, _, _ => cases b2 <;> kernel_rfl
  | 5, 3, _, _ => cases b2 <;> kernel_rfl
  | 5, 4, _, _ => cases b2 <;> kernel_rfl
  | 6, 0, _, _ => cases b2 <;> kernel_rfl
  | 6, 1, _, _ => cases b2 <;> kernel_rfl
  | 6, 2, _, _ => cases b2 <;> kernel_rfl
  | 6, 3, _, _ => cases b2 <;> kernel_rfl
  | 6, 4, _, _ => cases b2 <;> kernel_rfl
  | 6, 5, _, _ => cases b2 <;> kernel_rfl
  | 7, 0, _, _ => cases b2 <;> kernel_rfl
  | 7, 1, _, _ => cases b2 <;> kernel_rfl
  | 7, 2, _, _ => cases b2 <;> kernel_rfl
  | 7, 3, _, _ => cases b2 <;> kernel_rfl
  | 7, 4, _, _ => cases b2 <;> kernel_rfl
  | 7, 5, _, _ => cases b2 <;> kernel_rfl
  | 7, 6, _, _ => cases b2 <;> kernel_rfl
  | n + 8, _, h, _ => exact absurd h (by omega)
  | 0, _, _, h => exact absurd h (by omega)
  | 1, i + 1, _, h => exact absurd h (by omega)
  | 2, i + 2, _, h => exact absurd h (by omega)
  | 3, i + 3, _, h => exact absurd h (by omega)
  | 4, i + 4, _, h => exact absurd h (by omega)
  | 5, i + 5, _, h => exact absurd h (by omega)
  | 6, i + 6, _, h => exact absurd h (by omega)
  | 7, i + 7, _, h => exact absurd h (by omega)
end
end Zd
namespace Zd
open PySem PySem.Spec PySem.Calls PyProof.Rows PySem.W PySem.W.X
open Builtin Builtin.Str
noncomputable def Out.ix2 : Out → Nat
  | .at _ _ (.call (.call _ ⟨[.str _ a, _], _⟩) ..) _ _ _ _ => a
  | _ => 0
noncomputable def frZ3 (P : Params) (K : Ks) (X S T : Nat) (a b c d : Value) : Obj := frZ P K X S T (some (a, b, c, d))
section
variable (lv : Nat) (prog : Program) (P : Params) (b1 b2 : Bool) (X S C D T r n nl i : Nat) (d u : Nat → Nat) (V V2 : Vs) (B : Bk) (K : Ks) (q : Option (Value × Value × Value × Value)) (sz tk : Nat)
variable (cg cg2 cg3 : Bool) (cl cl2 cl3 : List Value) (fr fr2 : Nat → Fv) (K' K2 K3 : Ks) (z y z2 y2 z3 y3 : Nat) (sl t1 t2 c e : Nat) (cv : Value) (told : Int)
noncomputable def gZC (h1 : c ≤ e) (h2 : e ≤ 7) (ht : sumI (((dts d u).drop c).take (e - c)) = told) (hs : smallI (((dts d u).drop c).take (e - c))) (hl : (((dts d u).drop c).take (e - c)).length ≤ 1000) (hX : (dvs d u).length ≤ 1000) (ck : Result → Sem Fin) (fr3 : Nat → Fv) : Out := run (stQ P b1 b2) (SQ prog P b1 b2) (lv + 5) 400
  [.o (cLs (dvs d u) 7 (.int (c : Nat) t1) (.int (e : Nat) t2) .none (tagT (((dts d u).drop c).take (e - c))) (some ((c : Nat) : Int)) (some ((e : Nat) : Int)) none (.int _ _) (.int _ _) .none (fun h => nomatch h) (run_ints d u c e h1 h2) hX) [0, 6], .o (cSum (((dts d u).drop c).take (e - c)) 0 told ht hs hl) [7], .d 2, .d 2, .s 3, .d 2, .d 2, .d 2, .d 2, .d 2]
  fr3 (codeZF C r) [] (.call (.call (.builtin "list.__getitem__") ⟨[.ref X, .ref sl], []⟩) none cg2 cl2 ck) (ledZ P X S C D T r n nl d u V V2 B (frZ2 P K2 X (S + 277) T (.str (ltr i) (V.t i)) (.int (V.v i) (V.u i)) cv q) (kiO (S + 277) (i + 1) n) ++ [.o sl (slO3 (.int (c : Nat) t1) (.int (e : Nat) t2) .none)]) z2 y2 []
theorem tZC (hn : n < 8) (hi : i < n) (hK : KeysP P (dctE P V n 0)) (hf : findBy Value.isStrOf (dctE P V n 0).toArray (ltr i) = some (.int (V.v i) (V.u i))) (hnl : nl < 8)
    (h1 : c ≤ e) (h2 : e ≤ 7) (ht : sumI (((dts d u).drop c).take (e - c)) = told) (hs : smallI (((dts d u).drop c).take (e - c))) (hl : (((dts d u).drop c).take (e - c)).length ≤ 1000) (hX : (dvs d u).length ≤ 1000) (fr3 : Nat → Fv) :
    let o := gZC lv prog P b1 b2 X S C D T r n nl i d u V V2 B q cg2 cl2 K2 z2 y2 sl t1 t2 c e cv told h1 h2 ht hs hl hX (gZB lv prog P b1 b2 X S C D T r n nl i d u V V2 B q cg cl K' z y hK hf hnl (gZA lv prog P b1 b2 X S C D T r n nl i d u V V2 B K q sz tk fr).ck fr2).ck fr3
    (o.sel [0, 1, 2, 3, 4, 5], o.cs.map Prod.fst) = (.at (codeZF C r) [] (.call (.call (.builtin "str.index") ⟨[.str abc7 o.ix2, .str (ltr i) (V.t i)], []⟩) none o.cg o.cl o.ck) (ledZ P X S C D T r n nl d u V V2 B (frZ3 P { K2 with k6 := ftk2 2 6 o } X (S + 277) T (.str (ltr i) (V.t i)) (.int (V.v i) (V.u i)) cv (.int told (vtk2 2 6 o))) (kiO (S + 277) (i + 1) n)) o.gsz o.gtk [], o.cs.map Prod.snd) := by
  rcases q with _ | ⟨qa, qb, qc, qd⟩ <;> match n, i, hn, hi with
  | 1, 0, _, _ => cases b2 <;> kernel_rfl
  | 2, 0, _, _ => cases b2 <;> kernel_rfl
  | 2, 1, _, _ => cases b2 <;> kernel_rfl
  | 3, 0, _, _ => cases b2 <;> kernel_rfl
  | 3, 1, _, _ => cases b2 <;> kernel_rfl
  | 3, 2, _, _ => cases b2 <;> kernel_rfl
  | 4, 0, _, _ => cases b2 <;> kernel_rfl
  | 4, 1, _, _ => cases b2 <;> kernel_rfl
  | 4, 2, _, _ => cases b2 <;> kernel_rfl
  | 4, 3, _, _ => cases b2 <;> kernel_rfl
  | 5, 0, _, _ => cases b2 <;> kernel_rfl
  | 5, 1, _, _ => cases b2 <;> kernel_rfl
  | 5, 2, _, _ => cases b2 <;> kernel_rfl
  | 5, 3, _, _ => cases b2 <;> kernel_rfl
  | 5, 4, _, _ => cases b2 <;> kernel_rfl
  | 6, 0, _, _ => cases b2 <;> kernel_rfl
  | 6, 1, _, _ => cases b2 <;> kernel_rfl
  | 6, 2, _, _ => cases b2 <;> kernel_rfl
  | 6, 3, _, _ => cases b2 <;> kernel_rfl
  | 6, 4, _, _ => cases b2 <;> kernel_rfl
  | 6, 5, _, _ => cases b2 <;> kernel_rfl
  | 7, 0, _, _ => cases b2 <;> kernel_rfl
  | 7, 1, _, _ => cases b2 <;> kernel_rfl
  | 7, 2, _, _ => cases b2 <;> kernel_rfl
  | 7, 3, _, _ => cases b2 <;> kernel_rfl
  | 7, 4, _, _ => cases b2 <;> kernel_rfl
  | 7, 5, _, _ => cases b2 <;> kernel_rfl
  | 7, 6, _, _ => cases b2 <;> kernel_rfl
  | n + 8, _, h, _ => exact absurd h (by omega)
  | 0, _, _, h => exact absurd h (by omega)
  | 1, i + 1, _, h => exact absurd h (by omega)
  | 2, i + 2, _, h => exact absurd h (by omega)
  | 3, i + 3, _, h => exact absurd h (by omega)
  | 4, i + 4, _, h => exact absurd h (by omega)
  | 5, i + 5, _, h => exact absurd h (by omega)
  | 6, i + 6, _, h => exact absurd h (by omega)
  | 7, i + 7, _, h => exact absurd h (by omega)
noncomputable def gZD (ti : Nat) (tt : Nat) (hi7 : i < 7) (hv : V.v i = V.v i) (hsm : (0 : Int) ≤ (i : Nat) ∧ ((i : Nat) : Int) ≤ 1000) (hnl : nl < 8) (hj : i ≤ nl) (hkj : addk nl i < 8) (ck : Result → Sem Fin) (fr4 : Nat → Fv) : Out := run (stQ P b1 b2) (SQ prog P b1 b2) (lv + 5) 400
  [.o (cIndex abc7 (ltr i) i [] (idx7 i hi7)) [], .o (cMul (V.v i) (i : Nat) (V.v i * (i : Nat)) hsm rfl) [], .d 2, .d 2, .d 2, .n, .d 6, .d 6, .d 6, .d 6, .s 214, .o (c214' D z3 T (z3 + 1) nl V2 i (V.t i) (V.v i) (V.u i) B (bk4 (V.v i) (V.v i) (V.v i * (i : Nat)) told (V.u i) (V.u i) (y3 + 1) tt) hnl hj hkj) [3, 4, 6, 7], .d 2, .d 2]
  fr4 (codeZF C r) [] (.call (.call (.builtin "str.index") ⟨[.str abc7 ti, .str (ltr i) (V.t i)], []⟩) none cg3 cl3 ck) (ledZ P X S C D T r n nl d u V V2 B (frZ3 P K3 X (S + 277) T (.str (ltr i) (V.t i)) (.int (V.v i) (V.u i)) cv (.int told tt)) (kiO (S + 277) (i + 1) n)) z3 y3 []
theorem tZD (hn : n < 8) (hi : i < n) (hK : KeysP P (dctE P V n 0)) (hf : findBy Value.isStrOf (dctE P V n 0).toArray (ltr i) = some (.int (V.v i) (V.u i))) (hnl : nl < 8)
    (h1 : c ≤ e) (h2 : e ≤ 7) (ht : sumI (((dts d u).drop c).take (e - c)) = told) (hs : smallI (((dts d u).drop c).take (e - c))) (hl : (((dts d u).drop c).take (e - c)).length ≤ 1000) (hX : (dvs d u).length ≤ 1000) (fr3 : Nat → Fv)
    (ti tt : Nat) (hi7 : i < 7) (hsm : (0 : Int) ≤ (i : Nat) ∧ ((i : Nat) : Int) ≤ 1000) (hj : i ≤ nl) (hkj : addk nl i < 8) (fr4 : Nat → Fv) :
    let o := gZD lv prog P b1 b2 X S C D T r n nl i d u V V2 B cg3 cl3 K3 z3 y3 cv told ti tt hi7 rfl hsm hnl hj hkj (gZC lv prog P b1 b2 X S C D T r n nl i d u V V2 B q cg2 cl2 K2 z2 y2 sl t1 t2 c e cv told h1 h2 ht hs hl hX (gZB lv prog P b1 b2 X S C D T r n nl i d u V V2 B q cg cl K' z y hK hf hnl (gZA lv prog P b1 b2 X S C D T r n nl i d u V V2 B K q sz tk fr).ck fr2).ck fr3).ck fr4
    (o.sel [0, 1, 2, 5, 8, 9], o.cs.map Prod.fst) = (.again (codeZF C r) [.o X (seqO (dvs d u) 7), .o (S + 277) (dctO P n V), .o C (frZ P K3 X (S + 277) ((fr4 3).n 3) (some (.str (ltr i) (V.t i), .int (V.v i) (V.u i), cv, .int told tt))), .o r (kiO (S + 277) (i + 1) n), .o ((fr4 3).n 2) (addO P V2 nl i (V.v i) (Tn (fun i => (fr4 3).n (i + 8))) (Un (fun i => (fr4 3).n (i + 8)))), .o ((fr4 3).n 3) (bookO ⟨sumB B (bk4 (V.v i) (V.v i) (V.v i * (i : Nat)) told (V.u i) (V.u i) (y3 + 1) tt), fun i => (fr4 3).n (i + 4)⟩ ((fr4 3).n 2))] o.gsz o.gtk [], o.cs.map Prod.snd) := by
  rcases q with _ | ⟨qa, qb, qc, qd⟩ <;> match n, i, hn, hi with
  | 1, 0, _, _ => cases b2 <;> kernel_rfl
  | 2, 0, _, _ => cases b2 <;> kernel_rfl
  | 2, 1, _, _ => cases b2 <;> kernel_rfl
  | 3, 0, _, _ => cases b2 <;> kernel_rfl
  | 3, 1, _, _ => cases b2 <;> kernel_rfl
  | 3, 2, _, _ => cases b2 <;> kernel_rfl
  | 4, 0, _, _ => cases b2 <;> kernel_rfl
  | 4, 1, _, _ => cases b2 <;> kernel_rfl
  | 4, 2, _, _ => cases b2 <;> kernel_rfl
  | 4, 3, _, _ => cases b2 <;> kernel_rfl
  | 5, 0, _, _ => cases b2 <;> kernel_rfl
  | 5, 1, _, _ => cases b2 <;> kernel_rfl
  | 5, 2, _, _ => cases b2 <;> kernel_rfl
  | 5, 3, _, _ => cases b2 <;> kernel_rfl
  | 5, 4, _, _ => cases b2 <;> kernel_rfl
  | 6, 0, _, _ => cases b2 <;> kernel_rfl
  | 6, 1, _, _ => cases b2 <;> kernel_rfl
  | 6, 2, _, _ => cases b2 <;> kernel_rfl
  | 6, 3, _, _ => cases b2 <;> kernel_rfl
  | 6, 4, _, _ => cases b2 <;> kernel_rfl
  | 6, 5, _, _ => cases b2 <;> kernel_rfl
  | 7, 0, _, _ => cases b2 <;> kernel_rfl
  | 7, 1, _, _ => cases b2 <;> kernel_rfl
  | 7, 2, _, _ => cases b2 <;> kernel_rfl
  | 7, 3, _, _ => cases b2 <;> kernel_rfl
  | 7, 4, _, _ => cases b2 <;> kernel_rfl
  | 7, 5, _, _ => cases b2 <;> kernel_rfl
  | 7, 6, _, _ => cases b2 <;> kernel_rfl
  | n + 8, _, h, _ => exact absurd h (by omega)
  | 0, _, _, h => exact absurd h (by omega)
  | 1, i + 1, _, h => exact absurd h (by omega)
  | 2, i + 2, _, h => exact absurd h (by omega)
  | 3, i + 3, _, h => exact absurd h (by omega)
  | 4, i + 4, _, h => exact absurd h (by omega)
  | 5, i + 5, _, h => exact absurd h (by omega)
  | 6, i + 6, _, h => exact absurd h (by omega)
  | 7, i + 7, _, h => exact absurd h (by omega)
end
end Zd
namespace Zd
open PySem PySem.Spec PySem.Calls PyProof.Rows PySem.W PySem.W.X
open Builtin Builtin.Str
section
variable (lv : Nat) (prog : Program) (P : Params) (b1 b2 : Bool) (X S C D T r n nl i : Nat) (d u : Nat → Nat) (V V2 : Vs) (B : Bk) (K : Ks) (q : Option (Value × Value × Value × Value)) (sz tk k0 k1 : Nat)
noncomputable def gZb (fr : Nat → Fv) : Out := run (stQ P b1 b2) (SQ prog P b1 b2) (lv + 5) 400
  [.d 2, .d 2, .d 2, .d 1, .d 1, .n, .d 1, .d 1, .d 1, .d 1, .d 5] fr (body264 C) [] (denZ (body264 C)) [.o X (seqO (dvs d u) 7), .o (S + 277) (dctO P n V), .o C (frm [ent P "depths" k0 (.ref X), ent P "steps" k1 (.ref (S + 277))])] sz tk []
theorem tZb (hn : n < 8) (fr : Nat → Fv) :
    let o := gZb lv prog P b1 b2 X S C n d u V sz tk k0 k1 fr
    (o.sel [0, 1, 2, 3, 4, 5], o.cs.map Prod.fst) = (.at (body264 C) [] (.call (codeZF C (sz + 2)) none o.cg o.cl o.ck) (ledZ P X S C sz (sz + 1) (sz + 2) n 0 d u V V0 (bk4 0 0 0 0 tk (tk + 1) (tk + 2) (tk + 3)) (frZ P ⟨k0, k1, tk + 4, 0, 0, 0, 0⟩ X (S + 277) (sz + 1) none) (kiO (S + 277) 0 n)) (sz + 3) o.gtk [], o.cs.map Prod.snd) := by
  match n, hn with
  | 0, _ => cases b2 <;> kernel_rfl
  | 1, _ => cases b2 <;> kernel_rfl
  | 2, _ => cases b2 <;> kernel_rfl
  | 3, _ => cases b2 <;> kernel_rfl
  | 4, _ => cases b2 <;> kernel_rfl
  | 5, _ => cases b2 <;> kernel_rfl
  | 6, _ => cases b2 <;> kernel_rfl
  | 7, _ => cases b2 <;> kernel_rfl
  | n + 8, h => exact absurd h (by omega)
theorem tZE (hn : n < 8) (fr : Nat → Fv) :
    let o := run (stQ P b1 b2) (SQ prog P b1 b2) (lv + 5) 100 [.d 5, .n, .d 5, .d 5, .d 5, .d 1, .d 1, .d 5, .d 5, .d 5, .d 7] fr (codeZF C r) [] (denZ (codeZF C r)) (ledZ P X S C D T r n nl d u V V2 B (frZ P K X (S + 277) T q) (kiO (S + 277) n n)) sz tk []
    (o.sel [0, 1, 2, 3, 4], o.cs.map Prod.fst) = (.again (.block for264.2.2 (env264 C)) [.o X (seqO (dvs d u) 7), .o (S + 277) (dctO P n V), .o C (frZ P K X (S + 277) T q), .o D (dctO P nl V2), .o T (bookO B D)] (sz + 2) tk [], o.cs.map Prod.snd) := by
  match n, hn with
  | 0, _ => cases b2 <;> kernel_rfl
  | 1, _ => cases b2 <;> kernel_rfl
  | 2, _ => cases b2 <;> kernel_rfl
  | 3, _ => cases b2 <;> kernel_rfl
  | 4, _ => cases b2 <;> kernel_rfl
  | 5, _ => cases b2 <;> kernel_rfl
  | 6, _ => cases b2 <;> kernel_rfl
  | 7, _ => cases b2 <;> kernel_rfl
  | n + 8, h => exact absurd h (by omega)
theorem tZBl (l : Led) (fr : Nat → Fv) :
    let o := run (stQ P b1 b2) (SQ prog P b1 b2) (lv + 5) 20 [] fr (.block for264.2.2 (env264 C)) [] (denZ (.block for264.2.2 (env264 C))) l sz tk []
    (o.sel [0, 1, 2, 3, 4], o.cs.map Prod.fst) = (Out.sel [0, 1, 2, 3, 4] (.ret (.ok .next) l sz tk []), o.cs.map Prod.snd) := by
  kernel_rfl
theorem tZz (hn : n < 8) (X' S' : Nat) (V' : Vs) (k0' k1' sz' tk' : Nat) (fr : Nat → Fv) (qa : Value × Value × Value × Value) (fr2 : Nat → Fv) :
    let o := run (stQ P b1 b2) (SQ prog P b1 b2) (lv + 5) 60 [.d 2] fr2 (body264 C) [] ((gZb lv prog P b1 b2 X' S' C n d u V' sz' tk' k0' k1' fr).ck (.ok .next)) [.o X (seqO (dvs d u) 7), .o (S + 277) (dctO P n V), .o C (frZ P K X (S + 277) T (some qa)), .o D (dctO P nl V2), .o T (bookO B D)] sz tk []
    (o.sel [0, 1, 3, 4], o.cs.map Prod.fst) = (.ret (.ok (.ret (.ref T))) [.o X (seqO (dvs d u) 7), .o (S + 277) (dctO P n V), .o D (dctO P nl V2), .o T (bookO B D)] sz tk [], o.cs.map Prod.snd) := by
  match n, hn with
  | 0, _ => cases b2 <;> kernel_rfl
  | 1, _ => cases b2 <;> kernel_rfl
  | 2, _ => cases b2 <;> kernel_rfl
  | 3, _ => cases b2 <;> kernel_rfl
  | 4, _ => cases b2 <;> kernel_rfl
  | 5, _ => cases b2 <;> kernel_rfl
  | 6, _ => cases b2 <;> kernel_rfl
  | 7, _ => cases b2 <;> kernel_rfl
  | n + 8, h => exact absurd h (by omega)
end
end Zd
namespace Zd
open PySem PySem.Spec PySem.Calls PyProof.Rows PySem.W PySem.W.X
open Builtin Builtin.Str
noncomputable def vB (v : Nat → Int) : Nat → Nat → Int
  | 0 => V0.v
  | k + 1 => addv ⟨fun _ => 0, vB v k, fun _ => 0⟩ k k (v k)
noncomputable def toldB (d : Nat → Nat) (cN sN : Nat → Nat) (i : Nat) : Nat := (((dl d).drop (cN i)).take (sN i)).sum
noncomputable def bB (d : Nat → Nat) (v : Nat → Int) (cN sN : Nat → Nat) : Nat → Nat → Int
  | 0 => fun n => match n with | 0 => 0 | 1 => 0 | 2 => 0 | _ => 0
  | i + 1 => fun j => (match j with | 0 => v i | 1 => v i | 2 => v i * ((i : Nat) : Int) | _ => ((toldB d cN sN i : Nat) : Int)) + bB d v cN sN i j
structure BookH (d : Nat → Nat) (v : Nat → Int) (n : Nat) (cN sN : Nat → Nat) : Prop where
  vv : ∀ i, i < n → v i = (sN i : Nat)
  come : ∀ i, i < n → sumTo (vB v i) i = (cN i : Nat)
  le : ∀ i, i < n → cN i + sN i ≤ 7
  n8 : n < 8
  n0 : 0 < n
  d7 : ∀ k, k < 7 → d k ≤ 1000
theorem sum_cast : ∀ l : List Nat, (l.map fun x => ((x : Nat) : Int)).sum = ((l.sum : Nat) : Int)
  | [] => rfl
  | a :: l => by
    rw [List.map_cons, List.sum_cons, List.sum_cons, sum_cast l]
    exact (Int.natCast_add a l.sum).symm
theorem told_eq (d u : Nat → Nat) (c k : Nat) : sumI (((dts d u).drop c).take k) = (((((dl d).drop c).take k).sum : Nat) : Int) := by
  rw [← sum_cast, List.map_take, List.map_drop]
  unfold sumI
  rw [List.map_take, List.map_drop]
  rfl
theorem small_dts {d : Nat → Nat} (u : Nat → Nat) (h : ∀ k, k < 7 → d k ≤ 1000) (c k : Nat) : smallI (((dts d u).drop c).take k) := fun p hp => by
  have := List.mem_of_mem_drop (List.mem_of_mem_take hp)
  have h0 := h 0 (by decide)
  have h1 := h 1 (by decide)
  have h2 := h 2 (by decide)
  have h3 := h 3 (by decide)
  have h4 := h 4 (by decide)
  have h5 := h 5 (by decide)
  have h6 := h 6 (by decide)
  simp only [dts, List.mem_cons, List.not_mem_nil, or_false] at this
  rcases this with rfl | rfl | rfl | rfl | rfl | rfl | rfl <;> (constructor <;> dsimp only <;> omega)
section
variable {prog : Program} {P : Params} {b1 b2 : Bool} {w : World} {A : Around} {W : List (Bool × Nat)} {s₀ : Shared} {R : Result → Shared → Prop} {X S C r n : Nat} {d u : Nat → Nat} {V : Vs} {cN sN : Nat → Nat}
theorem book_loop (hS : w.params = pq P b1 b2) (hA : Room 5 A) (h : BookH d V.v n cN sN) : ∀ (m i : Nat) (K : Ks) (D T : Nat) (V2 : Vs) (B : Bk) (q : Option (Value × Value × Value × Value)) (sz tk : Nat) (s : Shared), i + m = n → (i ≠ 0 → ∃ a, q = some a) → V2.v = vB V.v i → B.v = bB d V.v cN sN i →
    Rep (stQ P b1 b2) W s₀ (ledZ P X S C D T r n i d u V V2 B (frZ P K X (S + 277) T q) (kiO (S + 277) i n)) sz tk s →
    (∀ K' D' T' V' B' qa sz' tk' s', V'.v = vB V.v n → B'.v = bB d V.v cN sN n → Rep (stQ P b1 b2) W s₀ [.o X (seqO (dvs d u) 7), .o (S + 277) (dctO P n V), .o C (frZ P K' X (S + 277) T' (some qa)), .o D' (dctO P n V'), .o T' (bookO B' D')] sz' tk' s' → R (.ok .next) s') →
    codeAny (model prog w) A (codeZF C r) R s
  | 0, i, K, D, T, V2, B, q, sz, tk, s, hn, hq, hV, hB, D0, E => by
    obtain rfl : i = n := by omega
    obtain ⟨qa, rfl⟩ := hq (by have := h.n0; omega)
    refine code_again (tZE 0 prog P b1 b2 X S C D T r i i d u V V2 B K (some qa) sz tk h.n8) hS hA rfl D0 fun fr s1 D1 => ?_
    exact code_ret (tZBl 0 prog P b1 b2 C _ _ _) hS hA rfl D1 fun fr s2 D2 => E _ _ _ _ _ _ _ _ _ hV hB D2
  | m + 1, i, K, D, T, V2, B, q, sz, tk, s, hn, hq, hV, hB, D0, E => by
    have hi : i < n := by omega
    have h8 := h.n8
    have hK := keysP_dct P V n 0
    have hf := find_by P V n i hi
    have hnl : i < 8 := by omega
    have hsum : sumTo V2.v i = (cN i : Nat) := by rw [hV]; exact h.come i hi
    have hadd : sumTo V2.v i + V.v i = ((cN i + sN i : Nat) : Int) := by
      rw [hsum, h.vv i hi]; exact (Int.natCast_add _ _).symm
    have hle := h.le i hi
    refine code_of_wp (S := SQ prog P b1 b2) ?_
    refine run_to (S := SQ prog P b1 b2) (laws_none (S := SQ prog P b1 b2) (lv := 5) (finP (model prog w) A R, fun e s' => R (.error e) s') hS hA) hS _ _ [0, 1, 2, 3, 4, 5]
      (tZA 0 prog P b1 b2 X S C D T r n i i d u V V2 B K q sz tk h8 hi) rfl (fun fr => ⟨fun _ h => (nomatch h), fun s1 D1 => ?_⟩) D0
    refine run_to (S := SQ prog P b1 b2) (laws_none (S := SQ prog P b1 b2) (lv := 5) (finP (model prog w) A R, fun e s' => R (.error e) s') hS hA) hS _ _ [0, 1, 2, 3, 4, 5, 6]
      (tZB 0 prog P b1 b2 X S C D T r n i i d u V V2 B K q sz tk _ _ fr _ _ _ h8 hi hK hf hnl) rfl (fun fr2 => ⟨fun _ h => (nomatch h), fun s2 D2 => ?_⟩) D1
    rw [hadd] at D2
    rw [hsum] at D2
    have hl : (((dts d u).drop (cN i)).take (cN i + sN i - cN i)).length ≤ 1000 := by
      rw [List.length_take, List.length_drop]
      have : (dts d u).length = 7 := rfl
      omega
    have ht : sumI (((dts d u).drop (cN i)).take (cN i + sN i - cN i)) = ((toldB d cN sN i : Nat) : Int) := by
      rw [Nat.add_sub_cancel_left]
      exact told_eq d u _ _
    refine run_to (S := SQ prog P b1 b2) (laws_none (S := SQ prog P b1 b2) (lv := 5) (finP (model prog w) A R, fun e s' => R (.error e) s') hS hA) hS _ _ [0, 1, 2, 3, 4, 5]
      (tZC 0 prog P b1 b2 X S C D T r n i i d u V V2 B K q sz tk _ _ _ _ fr fr2 _ _ _ _ _ _ _ _ _ (cN i) (cN i + sN i) _ _ h8 hi hK hf hnl (by omega) hle ht (small_dts u h.d7 _ _) hl (by show (7 : Nat) ≤ 1000; decide)) rfl (fun fr3 => ⟨fun _ h => (nomatch h), fun s3 D3 => ?_⟩) D2
    have hadk : addk i i < 8 := by rw [addk_self]; omega
    refine run_to (S := SQ prog P b1 b2) (laws_none (S := SQ prog P b1 b2) (lv := 5) (finP (model prog w) A R, fun e s' => R (.error e) s') hS hA) hS _ _ [0, 1, 2, 5, 8, 9]
      (tZD 0 prog P b1 b2 X S C D T r n i i d u V V2 B K q sz tk _ _ _ _ _ _ fr fr2 _ _ _ _ _ _ _ _ _ _ _ _ (cN i) (cN i + sN i) _ _ h8 hi hK hf hnl (by omega) hle ht (small_dts u h.d7 _ _) hl (by show (7 : Nat) ≤ 1000; decide) fr3 _ _ (by omega) ⟨by omega, by omega⟩ (Nat.le_refl _) hadk) rfl (fun fr4 => ⟨fun _ h => (nomatch h), fun s4 D4 qt c' => wpAny_pure ⟨qt, ?_⟩⟩) D3
    have D5 := D4.pick0 (led' := [_, _, _, _, _, _]) [0, 1, 2, 4, 5, 3] rfl
    have eO : addO P V2 i i (V.v i) (Tn (fun i => (fr4 3).n (i + 8))) (Un (fun i => (fr4 3).n (i + 8))) = dctO P (i + 1) ⟨Tn (fun i => (fr4 3).n (i + 8)), addv V2 i i (V.v i), Un (fun i => (fr4 3).n (i + 8))⟩ := by
      unfold addO
      rw [addk_self]
    rw [eO] at D5
    refine book_loop hS hA h m (i + 1) _ _ _ _ _ _ _ _ s4 (by omega) (fun _ => ⟨_, rfl⟩) ?_ ?_ D5 E
    · show addv V2 i i _ = vB V.v (i + 1)
      rw [vB]
      exact addv_v _ _ hV _ _ _
    · show sumB B _ = bB d V.v cN sN (i + 1)
      funext j
      show (bk4 _ _ _ _ _ _ _ _).v j + B.v j = _
      rw [hB]; rfl
end
noncomputable def inst264 (P : Params) (X S n : Nat) (d u : Nat → Nat) (V : Vs) (v b : Nat → Int) (cs : List (Tm × Tm)) : Inst := { lv := 6, cs, pre := [.o X (seqO (dvs d u) 7), .o S (dctO P n V)], upd := fun _ _ _ => [.o X (seqO (dvs d u) 7), .o S (dctO P n V)], res := fun _ _ f => .ok (.ret (.ref (f.n 3))), new := fun _ _ f => newBook P n v b f }
section
variable {prog : Program} {P : Params} {b1 b2 : Bool}
theorem triple264 (X S n : Nat) (d u : Nat → Nat) (V : Vs) (cN sN : Nat → Nat) (h : BookH d V.v n cN sN) (cs : List (Tm × Tm)) : Triple (stQ P b1 b2) (SQ prog P b1 b2) (code264 (.ref X) (.ref S)) (inst264 P X S n d u V (vB V.v n) (bB d V.v cN sN n) cs) := by
  intro w hS A s sz tk g l hA hst hpre hnd hlow hb hsz htk
  refine wp_of_code ?_
  have hA6 : Room 6 A := hA
  have hS' : 277 ≤ S := hlow _ (.tail _ (.head _))
  obtain ⟨S', rfl⟩ : ∃ S', S = S' + 277 := ⟨S - 277, by omega⟩
  have D0 := rep_start (led := [.o X (seqO (dvs d u) 7), .o (S' + 277) (dctO P n V)]) hst hpre hnd hlow hb hsz htk
  refine def_call (lv := 6) (call264 6 prog P b1 b2 (.ref X) (.ref (S' + 277)) sz tk) hS hA6 rfl rfl rfl (Rep.start (led := []) D0) fun s1 D1' => ?_
  have D1 := (Rep.frame (led := []) D0 D1').perm (led' := [.o X (seqO (dvs d u) 7), .o (S' + 277) (dctO P n V), .o sz (frm [ent P "depths" tk (.ref X), ent P "steps" (tk + 1) (.ref (S' + 277))])]) (List.perm_append_comm (l₁ := [_]))
  have fin : ∀ D' T' V' B' sz' tk' s', V'.v = vB V.v n → B'.v = bB d V.v cN sN n → Rep (stQ P b1 b2) (([.o X (seqO (dvs d u) 7), .o (S' + 277) (dctO P n V)] : Led).map Cell.key) s [.o X (seqO (dvs d u) 7), .o (S' + 277) (dctO P n V), .o D' (dctO P n V'), .o T' (bookO B' D')] sz' tk' s' → After (inst264 P X (S' + 277) n d u V (vB V.v n) (bB d V.v cN sN n) cs) sz tk s (.ok (.ret (.ref T'))) s' := fun D' T' V' B' sz' tk' s' hV hB D9 => by
    refine rep_end (i := inst264 P X (S' + 277) n d u V (vB V.v n) (bB d V.v cN sN n) cs) (fvBook sz' tk' D' T' V' B') D9 rfl rfl rfl ?_ ?_
    · show _ = [Cell.o X _, Cell.o (S' + 277) _] ++ newBook P n (vB V.v n) (bB d V.v cN sN n) (fvBook sz' tk' D' T' V' B')
      rw [← hV, ← hB, newBook_mk]; rfl
    · show ∀ k ∈ (newBook P n (vB V.v n) (bB d V.v cN sN n) (fvBook sz' tk' D' T' V' B')).map Cell.key, _
      rw [← hV, ← hB, newBook_mk]
      intro x hx hm
      have nd := D9.nd
      have := (List.nodup_append (l₁ := [(true, _), (true, _)]) (l₂ := [(true, D'), (true, T')])).mp nd
      exact this.2.2 _ hm _ hx rfl
  generalize After (inst264 P X (S' + 277) n d u V (vB V.v n) (bB d V.v cN sN n) cs) sz tk s = R at fin ⊢
  refine code_of_wp (S := SQ prog P b1 b2) ?_
  refine run_to (S := SQ prog P b1 b2) (laws_none (S := SQ prog P b1 b2) (lv := 6) (finP (model prog w) A R, fun e s' => R (.error e) s') hS hA6) hS _ _ [0, 1, 2, 3, 4, 5]
    (tZb 1 prog P b1 b2 X S' sz n d u V (sz + 1) (tk + 2) tk (tk + 1) h.n8) rfl (fun fr => ⟨fun _ h => (nomatch h), fun s2 D2 => ?_⟩) D1
  refine means_call ?_
  have hA5 : Room 5 (A.under (body264 sz)) := room_under hA6 (Nat.le_of_ble_eq_true (by kernel_rfl)) (Nat.le_of_ble_eq_true (by kernel_rfl))
  refine book_loop hS hA5 h n 0 _ _ _ _ _ none _ _ s2 (by omega) (fun h => absurd rfl h) rfl ?_ D2 fun K' D' T' V' B' qa sz' tk' s' hV hB D3 => ?_
  · funext i
    match i with
    | 0 => rfl
    | 1 => rfl
    | 2 => rfl
    | i + 3 => rfl
  · exact run_to (S := SQ prog P b1 b2) (laws_none (S := SQ prog P b1 b2) (lv := 6) (finP (model prog w) A R, fun e s' => R (.error e) s') hS hA6) hS _ _ [0, 1, 3, 4]
      (tZz 1 prog P b1 b2 X S' sz D' T' n n d u V V' B' K' sz' tk' h.n8 X S' V tk (tk + 1) (sz + 1) (tk + 2) fr qa) rfl (fun fr2 => ⟨fun _ h => (nomatch h), fun s4 D4 c' => wpAny_pure (fin _ _ _ _ _ _ _ hV hB D4)⟩) D3
noncomputable def c264 (X0 S0 n : Nat) (d u : Nat → Nat) (V : Vs) (cN sN : Nat → Nat) (h : BookH d V.v n cN sN) : Ctr (stQ P b1 b2) (SQ prog P b1 b2) :=
  ctrDef 264 (fun | [.ref a, .ref b] => some (inst264 P X0 S0 n d u V (vB V.v n) (bB d V.v cN sN n) [(.a a, .a X0), (.a b, .a S0)]) | _ => none) fun args i hi hcs => by
    split at hi
    · cases hi
      obtain ⟨e, hcs⟩ := okA hcs
      obtain ⟨e2, _⟩ := okA hcs
      subst e e2
      exact ⟨fun _ _ _ => rfl, triple264 _ _ _ _ _ _ _ _ h _⟩
    · cases hi
end
end Zd
namespace Zd
open PySem PySem.Spec PySem.Calls PyProof.Rows PySem.W PySem.W.X
open Builtin Builtin.Str
noncomputable def instLi (a : Addr) (vs : List Value) (m : Nat) (v : Value) (cs : List (Tm × Tm)) : Inst := { lv := 0, cs, pre := [.o a (seqO vs m)], upd := fun _ _ _ => [.o a (seqO vs m)], res := fun _ tk _ => .ok (.ret v), new := fun _ _ _ => [], nsz := fun sz _ => sz, ntk := fun tk _ => tk }
/-- a range of two ends, by ones -/
noncomputable def rg2O (a b : Int) (t1 t2 t3 : Nat) : Obj := ⟨.type "range", none, .fields #[.int a t1, .int b t2, .int 1 t3], #[]⟩
noncomputable def instRi (r : Addr) (a n : Nat) (t1 t2 t3 : Nat) (cs : List (Tm × Tm)) : Inst := { lv := 0, cs, pre := [.o r (rg2O (a : Nat) ((a + n : Nat) : Int) t1 t2 t3)], upd := fun _ _ _ => [.o r (rg2O (a : Nat) ((a + n : Nat) : Int) t1 t2 t3)], res := fun sz _ _ => .ok (.ret (.ref sz)), new := fun sz _ _ => [.o sz (riO a ((n : Nat) : Int))], nsz := fun sz _ => sz + 1, ntk := fun tk _ => tk }
section
variable {stat : Nat → Option Obj} {S : Setting}
theorem li_triple (a : Addr) (vs : List Value) (m t : Nat) (k : Int) (h0 : 0 ≤ k) (hk : k ≤ 1000) (v : Value) (hv : vs[k.toNat]? = some v) (cs : List (Tm × Tm)) : Triple stat S (.call (.builtin "list.__getitem__") ⟨[.ref a, .int k t], []⟩) (instLi a vs m v cs) := by
  intro w hS A s sz tk g gl hA hst hpre hnd hlow hb hsz htk
  have ho : s.heap.get? a = some (seqO vs m) := hpre _ (.head _)
  refine after_of_call (c := .call .none ⟨[], []⟩) hsz htk ?_
  refine wpAny_call_entry slot_list_getitem ⟨_, ho, rfl⟩ entry_list_getitem ?_ (args_list_getitem _ _)
  have hfit : k < 2 ^ 63 := by omega
  show wpAny _ _ (Builtin.List.listSubscript? (.int k t) >>= _) _ _ s
  refine wpAny_bind (wpAny_listSubscript_int (fitsIndex_of h0 hfit) ?_)
  clear hfit
  obtain ⟨j, rfl⟩ := Int.eq_ofNat_of_zero_le h0
  show wpAny _ _ ((seqItemAt a j >>= fun r => pure (r.map (j, ·))) >>= _) _ _ s
  refine wpAny_bind (wpAny_bind (wpAny_seqItemAt ho rfl (wpAny_pure ?_)))
  have hv' : (⟨vs⟩ : Array Value)[j]? = some v := by simpa using hv
  rw [hv']
  have fin : After (instLi a vs m v cs) s.heap.objs.size s.toks s (.ok (.ret v)) s := ⟨Fv.z, rfl, rfl, rfl, fun y hy => hpre y hy, fun _ h => (nomatch h), List.nodup_nil, .refl _ _⟩
  first
    | exact wpAny_bind (wpAny_pure (wpAny_pure ⟨v, rfl, fin⟩))
    | exact wpAny_pure ⟨v, rfl, fin⟩
    | exact wpAny_bind (wpAny_pure ⟨v, rfl, fin⟩)
/-- «l[k]» -/
noncomputable def cLi (vs : List Value) (m k : Nat) (v : Value) (hk : k ≤ 1000) (hv : vs[k]? = some v) : Ctr stat S :=
  ctrB "list.__getitem__" (fun | [.ref a, .int i _] => some (instLi a vs m v [(.i i, .i (k : Nat))]) | _ => none) fun args i hi hcs => by
    split at hi
    · cases hi
      obtain ⟨e1, _⟩ := okI hcs
      subst e1
      exact ⟨fun _ _ _ => rfl, li_triple _ _ _ _ _ (Int.natCast_nonneg k) (by omega) _ hv _⟩
    · cases hi
theorem rangeSize_nat (a n : Nat) : Builtin.Range.rangeSize (a : Nat) ((a + n : Nat) : Int) 1 = (n : Nat) := by
  unfold Builtin.Range.rangeSize
  rw [if_pos (by decide)]
  by_cases h : n = 0
  · subst h
    rw [if_neg (by omega)]; rfl
  · rw [if_pos (by omega), Int.ediv_one]; omega
theorem range_small (a n : Nat) (h1 : a ≤ 1000) (h2 : n ≤ 1000) : Builtin.Range.small (a : Nat) ((a + n : Nat) : Int) 1 = true := by
  have hf : ∀ x : Int, 0 ≤ x → x ≤ 3000 → Builtin.Range.rangeFitsLong x = true := fun x h1 h2 => by
    unfold Builtin.Range.rangeFitsLong
    simp only [Bool.and_eq_true, decide_eq_true_eq]
    omega
  unfold Builtin.Range.small
  rw [rangeSize_nat, hf _ (by omega) (by omega), hf _ (by omega) (by omega), hf 1 (by omega) (by omega), hf ((n : Nat) : Int) (by omega) (by omega)]
  rw [if_pos (by decide), hf _ (by omega) (by omega)]
  simp
theorem ri_triple (r : Addr) (a n t1 t2 t3 : Nat) (h1 : a ≤ 1000) (h2 : n ≤ 1000) (cs : List (Tm × Tm)) : Triple stat S (.call (.builtin "range.__iter__") ⟨[.ref r], []⟩) (instRi r a n t1 t2 t3 cs) := by
  intro w hS A s sz tk g gl hA hst hpre hnd hlow hb hsz htk
  have ho : s.heap.get? r = some (rg2O (a : Nat) ((a + n : Nat) : Int) t1 t2 t3) := hpre _ (.head _)
  have hsmall := range_small a n h1 h2
  unfold Builtin.Range.small at hsmall
  refine after_of_call (c := .call .none ⟨[], []⟩) hsz htk ?_
  refine call_meets F.slot_range_iter ⟨_, ho, rfl⟩ F.entry_range_iter (F.args_range_iter_1 _) (AutoRange.range___iter___range_1 r (a : Nat) ((a + n : Nat) : Int) 1 t1 t2 t3 (by rw [hsmall]; exact Bool.false_ne_true)) ⟨ho, ?_⟩
  simp only [hsmall, if_true]
  show After _ _ _ _ _ _
  rw [rangeSize_nat]
  refine ⟨Fv.z, rfl, Heap.size_push .., rfl, fun y hy => ?_, fun y hy => ?_, List.nodup_cons.mpr ⟨by simp, List.nodup_nil⟩, (kept_push s _).wide (fun _ h => (nomatch h))⟩
  · rw [List.mem_singleton.mp hy]; exact Heap.get?_push_of_some _ ho
  · rw [List.mem_singleton.mp hy]
    exact ⟨Heap.get?_push_size _ rfl, Nat.le_refl _⟩
noncomputable def cRIter (a n t1 t2 t3 : Nat) (h1 : a ≤ 1000) (h2 : n ≤ 1000) : Ctr stat S :=
  ctrB "range.__iter__" (fun | [.ref r] => some (instRi r a n t1 t2 t3 []) | _ => none) fun args i hi hcs => by
    split at hi
    · cases hi
      exact ⟨fun _ _ _ => rfl, ri_triple _ _ _ _ _ _ h1 h2 _⟩
    · cases hi
/-- «x + y» of texts, its token open -/
noncomputable def cAddT (x0 y0 z : List Nat) (hz : x0 ++ y0 = z) (hl : z.length ≤ 1000) : Ctr stat S :=
  ctrText "str.__add__" (fun | [.str x _, .str y _] => some ([(.s x, .s (stl x0)), (.s y, .s (stl y0))], stl z) | _ => none) fun args cs z' hg hcs => by
    split at hg
    · rename_i x t y u
      cases hg
      obtain ⟨e1, hcs⟩ := okS hcs
      obtain ⟨e2, _⟩ := okS hcs
      subst e1 e2 hz
      have hb := big_line
      have key := adS_list (stl x0) (stl y0)
      refine ⟨(addM (stl x0) (stl y0)).mk (.str (stl x0) t) (.str (stl y0) u), ?_, ?_, fun prog w A Q E s hq => call_gives F.slot_str_add rfl F.entry_str_add (F.args_str_add_2 _ _) (gives_str_add _ _ _ _) ?_⟩
      · have e : adS (stl x0) (stl y0) (addM (stl x0) (stl y0)) = stl (x0 ++ y0) := by
          refine Str.ext' (Array.toList_inj.mp ?_)
          rw [key]; simp [stl]
        revert e
        cases addM (stl x0) (stl y0) <;> exact id
      · revert key
        cases hm : addM (stl x0) (stl y0) with
        | str w => 
          intro key
          show w.length ≤ sizeLine
          have : w.cps.toList.length = (x0 ++ y0).length := by
            have e : w.cps.toList = (stl x0).cps.toList ++ (stl y0).cps.toList := key
            rw [e]; simp [stl]
          have e2 : w.length = w.cps.toList.length := rfl
          omega
        | _ => intro _; trivial
      · revert hq
        unfold addM
        split
        · exact id
        · split <;> exact id
    · cases hg
end
end Zd
namespace Zd
open PySem PySem.Spec PySem.Calls PyProof.Rows PySem.W PySem.W.X
open Builtin Builtin.Str
noncomputable def lc269a : PySem.Expr := arg0 (valE ((partsOf (topStmt 23)).2.1[0]?))
noncomputable def lc269b : PySem.Expr := arg0 (retE ((partsOf (topStmt 23)).2.1[1]?))
noncomputable def cenvBa (C N : Nat) : Env := { scope := cellS (scOf lc269a), locals := N, globals := 3, cells := [], qual := "_law_back.<locals>.", func := none, code := .ref 268, frame := some C, builtins := 0 }
noncomputable def cenvBb (C N : Nat) : Env := { scope := cellS (scOf lc269b), locals := N, globals := 3, cells := [("runs", C + 1)], qual := "_law_back.<locals>.", func := none, code := .ref 268, frame := some C, builtins := 0 }
noncomputable def codeBaS (C N it acc : Nat) : Code := .compStart lc269a 0 (.ref it) (.ref acc) (cenvBa C N)
noncomputable def codeBaL (C N it acc : Nat) : Code := .compLoop lc269a 0 (.ref it) (.ref acc) (cenvBa C N)
noncomputable def codeBbS (C N it acc : Nat) : Code := .compStart lc269b 0 (.ref it) (.ref acc) (cenvBb C N)
noncomputable def codeBbL (C N it acc : Nat) : Code := .compLoop lc269b 0 (.ref it) (.ref acc) (cenvBb C N)
noncomputable abbrev ledBa (P : Params) (Z Ls : Nat) (itO : Obj) (vs : List Value) (m : Nat) (rs : List Value) (n : Nat) (q : Option (Nat × Value)) : Led := [.o Z itO, .o Ls (seqO vs m), .o (Z + 1) (seqO rs n), .o (Z + 2) (nsO P q "run")]
section
variable (lv : Nat) (prog : Program) (P : Params) (b1 b2 : Bool) (C Z Ls L m i : Nat) (vs : List Value) (rs : List Value) (sz tk : Nat) (q : Option (Nat × Value)) (x : List Nat) (xt n nt k0 : Nat) (l : List (List Nat × Nat))
noncomputable def gBA (hn : n ≤ l.length) (hl : (txv l).length ≤ 1000) (fr : Nat → Fv) : Out := run (stQ P b1 b2) (SQ prog P b1 b2) (lv + 1) 200
  [.s 3, .s 0, .d 2, .d 1, .d 0, .d 0, .d 0, .o (cLs (txv l) 0 .none (.int (n : Nat) nt) .none (txv (l.take n)) none (some ((n : Nat) : Int)) none .none (.int _ _) .none (fun h => nomatch h) (take_upto l n hn) hl) [0, 3], .d 4, .d 4, .n, .d 4, .d 5]
  fr (body269 C) [] (denZ (body269 C)) [.o L (seqO (txv l) 0), .o C (frm [ent P "number" k0 (.int (n : Nat) nt)]), .o (C + 1) (celO (some (.ref L)))] sz tk []
theorem tBA (hn : n ≤ l.length) (hl : (txv l).length ≤ 1000) (fr : Nat → Fv) :
    let o := gBA lv prog P b1 b2 C L sz tk n nt k0 l hn hl fr
    (o.sel [0, 1, 2, 4, 5, 6, 7], o.cs.map Prod.fst) = (.at (body269 C) [] (.call (codeBaS C (sz + 4) (sz + 2) (sz + 3)) none o.cg o.cl o.ck) [.o L (seqO (txv l) 0), .o C (frm [ent P "number" k0 (.int (n : Nat) nt)]), .o (C + 1) (celO (some (.ref L))), .o (sz + 1) (seqO (txv (l.take n)) 0), .o (sz + 2) (liO (sz + 1) 0), .o (sz + 3) (seqO [] 0), .o (sz + 4) (dicO [] 0)] (sz + 5) tk [], o.cs.map Prod.snd) := by
  cases b2 <;> kernel_rfl
noncomputable def gBaS (hs : List (H (stQ P b1 b2) (SQ prog P b1 b2))) (fr : Nat → Fv) : Out := run (stQ P b1 b2) (SQ prog P b1 b2) (lv + 1) 100 hs fr (codeBaS C (Z + 2) Z (Z + 1)) [] (denZ (codeBaS C (Z + 2) Z (Z + 1))) (ledBa P Z Ls (liO Ls 0) vs m [] 0 none) sz tk []
theorem tBaSf (fr : Nat → Fv) :
    let o := gBaS lv prog P false b2 C Z Ls m vs sz tk [.d 0, .d 0, .n, .d 0, .d 0] fr
    (o.sel [0, 1, 2, 3], o.cs.map Prod.fst) = (.again (codeBaL C (Z + 2) Z (Z + 1)) (ledBa P Z Ls (liO Ls 0) vs m [] 0 none) sz tk [], o.cs.map Prod.snd) := by
  cases b2 <;> kernel_rfl
theorem tBaSt (fr : Nat → Fv) :
    let o := gBaS lv prog P true b2 C Z Ls m vs sz tk [] fr
    (o.sel [0, 1, 2, 3], o.cs.map Prod.fst) = (.again (codeBaL C (Z + 2) Z (Z + 1)) (ledBa P Z Ls (liO Ls 0) vs m [] 0 none) sz tk [], o.cs.map Prod.snd) := by
  cases b2 <;> kernel_rfl
noncomputable def gBaL (hx : vs[i]? = some (.str (stl x) xt)) (k : Int) (hk : ((stl x).length : Int) = k) (hk2 : (stl x).length ≤ 1000) (hl : rs.length ≤ sizeLine) (fr : Nat → Fv) : Out := run (stQ P b1 b2) (SQ prog P b1 b2) (lv + 1) 300
  [.d 0, .o (cLI Z Ls vs m i (.str (stl x) xt) hx) [0, 1], .d 3, .d 3, .s 3, .s 0, .d 3, .o (cLenS (stl x) k hk hk2) [], .o (cAppend (Z + 1) rs rs.length hl) [2]]
  fr (codeBaL C (Z + 2) Z (Z + 1)) [] (denZ (codeBaL C (Z + 2) Z (Z + 1))) (ledBa P Z Ls (liO Ls i) vs m rs rs.length q) sz tk []
theorem tBaL (hx : vs[i]? = some (.str (stl x) xt)) (k : Int) (hk : ((stl x).length : Int) = k) (hk2 : (stl x).length ≤ 1000) (hl : rs.length ≤ sizeLine) (fr : Nat → Fv) :
    let o := gBaL lv prog P b1 b2 C Z Ls m i vs rs sz tk q x xt hx k hk hk2 hl fr
    (o.sel [0, 1, 2, 3], o.cs.map Prod.fst) = (.again (codeBaL C (Z + 2) Z (Z + 1)) (ledBa P Z Ls (liO Ls (i + 1)) vs m (rs ++ [.int k (tk + 2)]) (rs.length + 1) (some (qTok q tk, .str (stl x) xt))) sz (tk + 3) [], o.cs.map Prod.snd) := by
  rcases q with _ | ⟨t', v'⟩ <;> cases b2 <;> kernel_rfl
theorem tBaE (hx : vs[i]? = none) (fr : Nat → Fv) :
    let o := run (stQ P b1 b2) (SQ prog P b1 b2) (lv + 1) 300 [.d 0, .o (cLE Z Ls vs m i hx) [0, 1], .d 4] fr (codeBaL C (Z + 2) Z (Z + 1)) [] (denZ (codeBaL C (Z + 2) Z (Z + 1))) (ledBa P Z Ls (liO Ls i) vs m rs rs.length q) sz tk []
    (o.sel [2, 3], o.cs.map Prod.fst) = (.ret (.ok .next) [.o (Z + 1) (seqO rs rs.length), .o (Z + 2) (nsO P q "run")] (sz + 2) tk [], o.cs.map Prod.snd) := by
  cases b2 <;> kernel_rfl
/-- behind the first comprehension -/
noncomputable def gBB (hn : n ≤ l.length) (hl : (txv l).length ≤ 1000) (fr : Nat → Fv) (ts : List (Int × Nat)) (s0 : Nat) (h1 : sumI ts = (s0 : Nat)) (h2 : smallI ts) (h3 : ts.length ≤ 1000) (z y : Nat) (fr2 : Nat → Fv) : Out := run (stQ P b1 b2) (SQ prog P b1 b2) (lv + 1) 200
  ((match q with | none => [.d 4] | some _ => [.d 4, .d 4, .d 4]) ++ [.o (cSum ts (tagT ts).length ((s0 : Nat) : Int) h1 h2 h3) [3], .d 1, .d 1, .s 3, .s 0, .d 1, .d 1, .s 3, .s 0, .d 2, .d 1, .d 0, .d 0, .d 0])
  fr2 (body269 C) [] ((gBA lv prog P b1 b2 C L sz tk n nt k0 l hn hl fr).ck (.ok .next)) [.o L (seqO (txv l) 0), .o C (frm [ent P "number" k0 (.int (n : Nat) nt)]), .o (C + 1) (celO (some (.ref L))), .o (sz + 3) (seqO (tagT ts) (tagT ts).length), .o (sz + 4) (nsO P q "run")] z y []
theorem tBB (hn : n ≤ l.length) (hl : (txv l).length ≤ 1000) (fr : Nat → Fv) (ts : List (Int × Nat)) (s0 : Nat) (h1 : sumI ts = (s0 : Nat)) (h2 : smallI ts) (h3 : ts.length ≤ 1000) (z y : Nat) (fr2 : Nat → Fv) :
    let o := gBB lv prog P b1 b2 C L sz tk q n nt k0 l hn hl fr ts s0 h1 h2 h3 z y fr2
    (o.sel [0, 1, 2], o.cs.map Prod.fst) = (.at (body269 C) [] (.call (.call (.builtin "list.__getitem__") ⟨[.ref L, .int (n : Nat) nt], []⟩) none o.cg o.cl o.ck) [.o L (seqO (txv l) 0), .o C (frm [ent P "number" k0 (.int (n : Nat) nt), ent P "start" (ftk2 1 1 o) (.int (s0 : Nat) ((fr2 0).n 2))]), .o (C + 1) (celO (some (.ref L)))] ((fr2 0).n 0) o.gtk [], o.cs.map Prod.snd) := by
  rcases q with _ | ⟨t', v'⟩ <;> cases b2 <;> kernel_rfl
end
end Zd
namespace Zd
open PySem PySem.Spec PySem.Calls PyProof.Rows PySem.W PySem.W.X
open Builtin Builtin.Str
noncomputable abbrev ledBb (P : Params) (C Z L : Nat) (itO : Obj) (vs : List Value) (rs : List Value) (n : Nat) (q : Option (Nat × Value)) : Led := [.o Z itO, .o (C + 1) (celO (some (.ref L))), .o (Z + 1) (seqO rs n), .o (Z + 2) (nsO P q "k"), .o L (seqO vs 0)]
noncomputable def Out.arI : Out → Nat
  | .at _ _ (.call (.call _ ⟨[_, .int _ t], _⟩) ..) _ _ _ _ => t
  | _ => 0
section
variable (lv : Nat) (prog : Program) (P : Params) (b1 b2 : Bool) (C Z Ls L m i : Nat) (vs : List Value) (rs : List Value) (sz tk : Nat) (q : Option (Nat × Value)) (x : List Nat) (xt n nt k0 : Nat) (l : List (List Nat × Nat))
section
variable (hn : n ≤ l.length) (hl : (txv l).length ≤ 1000) (fr : Nat → Fv) (ts : List (Int × Nat)) (s0 : Nat) (h1 : sumI ts = (s0 : Nat)) (h2 : smallI ts) (h3 : ts.length ≤ 1000) (z y : Nat) (fr2 : Nat → Fv)
noncomputable def gBC (cg : Bool) (cl : List Value) (k1 st : Nat) (hn2 : n ≤ 1000) (hx : (txv l)[n]? = some (.str (stl x) xt)) (c : Nat) (hc : ((stl x).length : Int) = (c : Nat)) (hc2 : (stl x).length ≤ 1000) (hs0 : s0 ≤ 1000) (hc3 : c ≤ 1000) (ck : Result → Sem Fin) (z' y' : Nat) (fr3 : Nat → Fv) : Out := run (stQ P b1 b2) (SQ prog P b1 b2) (lv + 1) 200
  [.o (cLi (txv l) 0 n (.str (stl x) xt) hn2 hx) [0], .o (cLenS (stl x) ((c : Nat) : Int) hc hc2) [], .n, .n, .n, .d 3, .d 3, .n, .d 3, .d 3, .d 3, .d 3, .o (cRIter s0 c st (y' + 2) (y' + 3) hs0 hc3) [3], .d 4]
  fr3 (body269 C) [] (.call (.call (.builtin "list.__getitem__") ⟨[.ref L, .int (n : Nat) nt], []⟩) none cg cl ck) [.o L (seqO (txv l) 0), .o C (frm [ent P "number" k0 (.int (n : Nat) nt), ent P "start" k1 (.int (s0 : Nat) st)]), .o (C + 1) (celO (some (.ref L)))] z' y' []
theorem tBC (cg : Bool) (cl : List Value) (k1 : Nat) (hn2 : n ≤ 1000) (hx : (txv l)[n]? = some (.str (stl x) xt)) (c : Nat) (hc : ((stl x).length : Int) = (c : Nat)) (hc2 : (stl x).length ≤ 1000) (hs0 : s0 ≤ 1000) (hc3 : c ≤ 1000) (z' y' : Nat) (fr3 : Nat → Fv) :
    let o := gBC lv prog P b1 b2 C L x xt n nt k0 l s0 cg cl k1 ((fr2 0).n 2) hn2 hx c hc hc2 hs0 hc3 (gBB lv prog P b1 b2 C L sz tk q n nt k0 l hn hl fr ts s0 h1 h2 h3 z y fr2).ck z' y' fr3
    (o.sel [0, 2, 4, 5, 6], o.cs.map Prod.fst) = (.at (body269 C) [] (.call (codeBbS C (z' + 3) (z' + 1) (z' + 2)) none o.cg o.cl o.ck) [.o L (seqO (txv l) 0), .o (C + 1) (celO (some (.ref L))), .o (z' + 1) (riO s0 ((c : Nat) : Int)), .o (z' + 2) (seqO [] 0), .o (z' + 3) (dicO [] 0)] (z' + 4) o.gtk [], o.cs.map Prod.snd) := by
  rcases q with _ | ⟨t', v'⟩ <;> cases b2 <;> kernel_rfl
theorem tBD (cg : Bool) (cl : List Value) (k1 : Nat) (hn2 : n ≤ 1000) (hx : (txv l)[n]? = some (.str (stl x) xt)) (c : Nat) (hc : ((stl x).length : Int) = (c : Nat)) (hc2 : (stl x).length ≤ 1000) (hs0 : s0 ≤ 1000) (hc3 : c ≤ 1000) (z' y' : Nat) (fr3 : Nat → Fv) (l2 : List (List Nat × Nat)) (tx : List Nat) (e1 : (l2.map (·.1)).flatten = tx) (e2 : tx.length ≤ 1000) (q2 : Option (Nat × Value)) (z4 y4 : Nat) (fr4 : Nat → Fv) :
    let o := run (stQ P b1 b2) (SQ prog P b1 b2) (lv + 1) 100 ((match q2 with | none => [.d 2] | some _ => [.d 2, .d 2, .d 2]) ++ [.o (cJoin l2 (txv l2).length tx e1 e2) [1]]) fr4 (body269 C) [] ((gBC lv prog P b1 b2 C L x xt n nt k0 l s0 cg cl k1 ((fr2 0).n 2) hn2 hx c hc hc2 hs0 hc3 (gBB lv prog P b1 b2 C L sz tk q n nt k0 l hn hl fr ts s0 h1 h2 h3 z y fr2).ck z' y' fr3).ck (.ok .next)) [.o L (seqO (txv l) 0), .o (z' + 2) (seqO (txv l2) (txv l2).length), .o (z' + 3) (nsO P q2 "k")] z4 y4 []
    (o.sel [0], o.cs.map Prod.fst) = (.ret (.ok (.ret (.str (stl tx) ((fr4 0).n 2)))) [.o L (seqO (txv l) 0)] o.gsz o.gtk [], o.cs.map Prod.snd) := by
  rcases q2 with _ | ⟨t2', v2'⟩ <;> rcases q with _ | ⟨t', v'⟩ <;> cases b2 <;> kernel_rfl
end
noncomputable def gBbS (j : Nat) (cnt : Int) (hs : List (H (stQ P b1 b2) (SQ prog P b1 b2))) (fr : Nat → Fv) : Out := run (stQ P b1 b2) (SQ prog P b1 b2) (lv + 1) 100 hs fr (codeBbS C (Z + 2) Z (Z + 1)) [] (denZ (codeBbS C (Z + 2) Z (Z + 1))) (ledBb P C Z L (riO j cnt) vs [] 0 none) sz tk []
theorem tBbSf (j : Nat) (cnt : Int) (fr : Nat → Fv) :
    let o := gBbS lv prog P false b2 C Z L vs sz tk j cnt [.d 0, .d 0, .n, .d 0, .d 0] fr
    (o.sel [0, 1, 2, 3, 4], o.cs.map Prod.fst) = (.again (codeBbL C (Z + 2) Z (Z + 1)) (ledBb P C Z L (riO j cnt) vs [] 0 none) sz tk [], o.cs.map Prod.snd) := by
  cases b2 <;> kernel_rfl
theorem tBbSt (j : Nat) (cnt : Int) (fr : Nat → Fv) :
    let o := gBbS lv prog P true b2 C Z L vs sz tk j cnt [] fr
    (o.sel [0, 1, 2, 3, 4], o.cs.map Prod.fst) = (.again (codeBbL C (Z + 2) Z (Z + 1)) (ledBb P C Z L (riO j cnt) vs [] 0 none) sz tk [], o.cs.map Prod.snd) := by
  cases b2 <;> kernel_rfl
noncomputable def gBbL (j c : Nat) (fr : Nat → Fv) : Out := run (stQ P b1 b2) (SQ prog P b1 b2) (lv + 1) 300
  [.d 0, .n, .d 0, .d 0, .d 0, .d 0, .d 0, .d 0, .d 0, .d 0, .d 3, .d 3, .s 3, .d 1, .d 3, .n, .s 269]
  fr (codeBbL C (Z + 2) Z (Z + 1)) [] (denZ (codeBbL C (Z + 2) Z (Z + 1))) (ledBb P C Z L (riO j ((c + 1 : Nat) : Int)) vs rs rs.length q) sz tk []
theorem tBbL (j c : Nat) (fr : Nat → Fv) :
    let o := gBbL lv prog P b1 b2 C Z L vs rs sz tk q j c fr
    (o.sel [0, 1, 2, 3, 4], o.cs.map Prod.fst) = (.at (codeBbL C (Z + 2) Z (Z + 1)) [] (.call (code269 (.ref L) (.int ((j : Int) + 1) o.arI)) none o.cg o.cl o.ck) (ledBb P C Z L (riO (j + 1) (((c + 1 : Nat) : Int) - 1)) vs rs rs.length (some (qTok q (tk + 1), .int (j : Int) tk))) sz o.gtk [], o.cs.map Prod.snd) := by
  rcases q with _ | ⟨t', v'⟩ <;> cases b2 <;> kernel_rfl
theorem tBbM (j c : Nat) (fr : Nat → Fv) (io : Obj) (rs' : List Value) (hl : rs'.length ≤ sizeLine) (q' : Option (Nat × Value)) (w : List Nat) (wt : Nat) (h1 : [40] ++ w = 40 :: w) (h2 : (40 :: w).length ≤ 1000) (h3 : (40 :: w) ++ [41] = 40 :: (w ++ [41])) (h4 : (40 :: (w ++ [41])).length ≤ 1000) (z y : Nat) (fr2 : Nat → Fv) :
    let o := run (stQ P b1 b2) (SQ prog P b1 b2) (lv + 1) 300 [.o (cAddT [40] w (40 :: w) h1 h2) [], .o (cAddT (40 :: w) [41] (40 :: (w ++ [41])) h3 h4) [], .o (cAppend (Z + 1) rs' rs'.length hl) [2]] fr2 (codeBbL C (Z + 2) Z (Z + 1)) [] ((gBbL lv prog P b1 b2 C Z L vs rs sz tk q j c fr).ck (.ok (.ret (.str (stl w) wt)))) (ledBb P C Z L io vs rs' rs'.length q') z y []
    (o.sel [0, 1, 2, 3, 4], o.cs.map Prod.fst) = (.again (codeBbL C (Z + 2) Z (Z + 1)) (ledBb P C Z L io vs (rs' ++ [.str (stl (40 :: (w ++ [41]))) ((fr2 1).n 2)]) (rs'.length + 1) q') z ((fr2 1).n 1) [], o.cs.map Prod.snd) := by
  rcases q with _ | ⟨t', v'⟩ <;> cases b2 <;> kernel_rfl
theorem tBbE (j : Nat) (fr : Nat → Fv) :
    let o := run (stQ P b1 b2) (SQ prog P b1 b2) (lv + 1) 300 [.d 0, .n, .d 0, .d 0, .d 0, .d 0, .d 6] fr (codeBbL C (Z + 2) Z (Z + 1)) [] (denZ (codeBbL C (Z + 2) Z (Z + 1))) (ledBb P C Z L (riO j 0) vs rs rs.length q) sz tk []
    (o.sel [2, 3, 4], o.cs.map Prod.fst) = (.ret (.ok .next) [.o (Z + 1) (seqO rs rs.length), .o (Z + 2) (nsO P q "k"), .o L (seqO vs 0)] (sz + 2) tk [], o.cs.map Prod.snd) := by
  cases b2 <;> kernel_rfl
end
end Zd
namespace Zd
open PySem PySem.Spec PySem.Calls PyProof.Rows PySem.W PySem.W.X
open Builtin Builtin.Str
noncomputable def backK (g : Nat → Option (List Nat)) : Nat → Nat → Option (List Nat)
  | 0, _ => some []
  | c + 1, j => match g (j + 1) with
    | none => none
    | some w => match backK g c (j + 1) with
      | none => none
      | some r => some ((40 :: (w ++ [41])) ++ r)
noncomputable def backF (R : List (List Nat)) : Nat → Nat → Option (List Nat)
  | 0, _ => none
  | f + 1, n => match R[n]? with
    | none => none
    | some x => backK (backF R f) x.length (((R.take n).map List.length).sum)
noncomputable def RoomF (f : Nat) (A : Around) : Prop := A.handled = none ∧ A.depth + 10 * f + 250 ≤ 900 ∧ A.units + 40 * f + 800 ≤ 9000
theorem RoomF.room {f n : Nat} {A : Around} (h : RoomF f A) (hn : n ≤ 5) : Room n A := ⟨h.1, by have := h.2.1; omega, by have := h.2.2; omega⟩
noncomputable def BackP (prog : Program) (P : Params) (b1 b2 : Bool) (w : World) (L : Nat) (l : List (List Nat × Nat)) (f : Nat) : Prop :=
  ∀ (n nt : Nat) (z : List Nat) (A : Around) (W : List (Bool × Nat)) (s₀ s : Shared) (sz tk : Nat) (R : Result → Shared → Prop), RoomF f A → backF (l.map (·.1)) f n = some z → z.length ≤ 1000 → Rep (stQ P b1 b2) W s₀ [.o L (seqO (txv l) 0)] sz tk s →
    (∀ t sz' tk' s', Rep (stQ P b1 b2) W s₀ [.o L (seqO (txv l) 0)] sz' tk' s' → R (.ok (.ret (.str (stl z) t))) s') → codeAny (model prog w) A (code269 (.ref L) (.int ((n : Nat) : Int) nt)) R s
section
variable {prog : Program} {P : Params} {b1 b2 : Bool} {w : World} {A : Around} {W : List (Bool × Nat)} {s₀ : Shared} {R : Result → Shared → Prop} {C Z L : Nat} {l : List (List Nat × Nat)}
theorem back_second (hS : w.params = pq P b1 b2) {f : Nat} (IH : BackP prog P b1 b2 w L l f) (hA : Room 1 A) (hF : ∀ C N it acc, RoomF f (A.under (codeBbL C N it acc))) : ∀ (c j : Nat) (r : List Nat) (l2 : List (List Nat × Nat)) (q : Option (Nat × Value)) (sz tk : Nat) (s : Shared), backK (backF (l.map (·.1)) f) c j = some r → r.length ≤ 1000 → l2.length + c ≤ 1000 →
    Rep (stQ P b1 b2) W s₀ (ledBb P C Z L (riO j ((c : Nat) : Int)) (txv l) (txv l2) (txv l2).length q) sz tk s →
    (∀ l2' q' sz' tk' s', (l2'.map (·.1)).flatten = (l2.map (·.1)).flatten ++ r → Rep (stQ P b1 b2) W s₀ [.o (Z + 1) (seqO (txv l2') (txv l2').length), .o (Z + 2) (nsO P q' "k"), .o L (seqO (txv l) 0)] sz' tk' s' → R (.ok .next) s') →
    codeAny (model prog w) A (codeBbL C (Z + 2) Z (Z + 1)) R s
  | 0, j, r, l2, q, sz, tk, s, hr, hr2, hl2, D, E => by
    have hr' : r = [] := (Option.some.inj hr).symm
    subst hr'
    exact code_ret (tBbE 0 prog P b1 b2 C Z L (txv l) (txv l2) sz tk q j) hS hA rfl D fun fr s' D' => E l2 _ _ _ _ (by rw [List.append_nil]) D'
  | c + 1, j, r, l2, q, sz, tk, s, hr, hr2, hl2, D, E => by
    unfold backK at hr
    split at hr
    · cases hr
    · rename_i w' e1
      split at hr
      · cases hr
      · rename_i r' e2
        have hr' : r = (40 :: (w' ++ [41])) ++ r' := (Option.some.inj hr).symm
        subst hr'
        rw [List.length_append] at hr2
        have h2 : (40 :: w').length ≤ 1000 := by
          simp at hr2 ⊢; omega
        have hw : w'.length ≤ 1000 := by simp at hr2 ⊢; omega
        refine code_of_wp (S := SQ prog P b1 b2) ?_
        refine run_to (S := SQ prog P b1 b2) (laws_none (S := SQ prog P b1 b2) (lv := 1) (finP (model prog w) A R, fun e s' => R (.error e) s') hS hA) hS _ _ [0, 1, 2, 3, 4]
          (tBbL 0 prog P b1 b2 C Z L (txv l) (txv l2) sz tk q j c) rfl (fun fr => ⟨fun _ h => (nomatch h), fun s2 D2 => ?_⟩) D
        have ej : ((j : Int) + 1) = ((j + 1 : Nat) : Int) := rfl
        have ec : (((c + 1 : Nat) : Int) - 1) = ((c : Nat) : Int) := by omega
        rw [ec] at D2
        rw [ej]
        refine means_call ?_
        have D3 := D2.pick0 (led' := [.o L (seqO (txv l) 0)] ++ [_, _, _, _]) [4, 0, 1, 2, 3] rfl
        refine IH (j + 1) _ w' _ _ _ _ _ _ _ (hF _ _ _ _) e1 hw D3.start fun t sz' tk' s3 D4' => ?_
        have D4 := (D3.frame D4').pick0 (led' := ledBb P C Z L (riO (j + 1) ((c : Nat) : Int)) (txv l) (txv l2) (txv l2).length (some (qTok q (tk + 1), .int (j : Int) tk))) [1, 2, 3, 4, 0] rfl
        have hls : (txv l2).length ≤ sizeLine := by have := big_line; simp only [txv, List.length_map]; omega
        refine run_to (S := SQ prog P b1 b2) (laws_none (S := SQ prog P b1 b2) (lv := 1) (finP (model prog w) A R, fun e s' => R (.error e) s') hS hA) hS _ _ [0, 1, 2, 3, 4]
          (tBbM 0 prog P b1 b2 C Z L (txv l) (txv l2) sz tk q j c fr _ (txv l2) hls _ w' t rfl h2 rfl (by omega) sz' tk') rfl (fun fr2 => ⟨fun _ h => (nomatch h), fun s4 D5 qt c' => wpAny_pure ⟨qt, ?_⟩⟩) D4
        have a1 : txv l2 ++ [.str (stl (40 :: (w' ++ [41]))) ((fr2 1).n 2)] = txv (l2 ++ [(40 :: (w' ++ [41]), (fr2 1).n 2)]) := by simp [txv]
        have a2 : (txv l2).length + 1 = (txv (l2 ++ [(40 :: (w' ++ [41]), (fr2 1).n 2)])).length := by simp [txv]
        rw [a1, a2] at D5
        refine back_second hS IH hA hF c (j + 1) r' _ _ _ _ s4 e2 (by omega) (by simp; omega) D5 fun l2' q' sz5 tk5 s5 ef D6 => E l2' q' _ _ _ ?_ D6
        rw [ef]
        simp
theorem back_first (hS : w.params = pq P b1 b2) (hA : Room 1 A) {Ls m : Nat} {l : List (List Nat × Nat)} (hb : l.length ≤ 1000) (hx : ∀ p ∈ l, p.1.length ≤ 1000) : ∀ (n i : Nat) (ts : List (Int × Nat)) (q : Option (Nat × Value)) (sz tk : Nat) (s : Shared), i + n = l.length → ts.length = i → ts.map (·.1) = (l.take i).map (fun p => ((p.1.length : Nat) : Int)) →
    Rep (stQ P b1 b2) W s₀ (ledBa P Z Ls (liO Ls i) (txv l) m (tagT ts) (tagT ts).length q) sz tk s →
    (∀ ts' q' sz' tk' s', ts'.map (·.1) = l.map (fun p => ((p.1.length : Nat) : Int)) → Rep (stQ P b1 b2) W s₀ [.o (Z + 1) (seqO (tagT ts') (tagT ts').length), .o (Z + 2) (nsO P q' "run")] sz' tk' s' → R (.ok .next) s') →
    codeAny (model prog w) A (codeBaL C (Z + 2) Z (Z + 1)) R s
  | 0, i, ts, q, sz, tk, s, hn, ht, he, D, E => by
    have hi : i = l.length := by omega
    subst hi
    have hx' : (txv l)[l.length]? = none := by rw [List.getElem?_eq_none_iff]; simp [txv]
    rw [List.take_length] at he
    exact code_ret (tBaE 0 prog P b1 b2 C Z Ls m l.length (txv l) (tagT ts) sz tk q hx') hS hA rfl D fun fr s' D' => E ts _ _ _ _ he D'
  | n + 1, i, ts, q, sz, tk, s, hn, ht, he, D, E => by
    have hlt : i < l.length := by omega
    obtain ⟨p, ep⟩ : ∃ p, l[i]? = some p := ⟨_, List.getElem?_eq_getElem hlt⟩
    have hx' : (txv l)[i]? = some (.str (stl p.1) p.2) := by simp [txv, ep]
    have hp := hx p (List.mem_of_getElem? ep)
    have hls : (tagT ts).length ≤ sizeLine := by have := big_line; simp only [tagT, List.length_map]; omega
    refine code_again (tBaL 0 prog P b1 b2 C Z Ls m i (txv l) (tagT ts) sz tk q p.1 p.2 hx' ((p.1.length : Nat) : Int) (by rw [stl_len]) (by rw [stl_len]; exact hp) hls) hS hA rfl D fun fr s1 D1 => ?_
    have a1 : tagT ts ++ [.int ((p.1.length : Nat) : Int) (tk + 2)] = tagT (ts ++ [(((p.1.length : Nat) : Int), tk + 2)]) := by simp [tagT]
    have a2 : (tagT ts).length + 1 = (tagT (ts ++ [(((p.1.length : Nat) : Int), tk + 2)])).length := by simp [tagT]
    rw [a1, a2] at D1
    refine back_first hS hA hb hx n (i + 1) _ _ _ _ s1 (by omega) (by simp [ht]) ?_ D1 E
    rw [List.take_add_one, ep, List.map_append, he, List.map_append]
    rfl
end
end Zd
namespace Zd
open PySem PySem.Spec PySem.Calls PyProof.Rows PySem.W PySem.W.X
open Builtin Builtin.Str
theorem sum_mem {l : List Nat} {a : Nat} (h : a ∈ l) : a ≤ l.sum := by
  induction l with
  | nil => cases h
  | cons b l ih =>
    rw [List.sum_cons]
    rcases List.mem_cons.mp h with rfl | h
    · omega
    · have := ih h; omega
theorem sum_take (l : List Nat) (n : Nat) : (l.take n).sum ≤ l.sum := by
  have : l.sum = (l.take n).sum + (l.drop n).sum := by rw [← List.sum_append, List.take_append_drop]
  omega
section
variable {prog : Program} {P : Params} {b1 b2 : Bool} {w : World} {A : Around} {W : List (Bool × Nat)} {s₀ : Shared} {R : Result → Shared → Prop} {C Z L : Nat}
theorem back_second_all {l : List (List Nat × Nat)} (hS : w.params = pq P b1 b2) {f : Nat} (IH : BackP prog P b1 b2 w L l f) (hA : Room 1 A) (hF : ∀ C N it acc, RoomF f (A.under (codeBbL C N it acc))) {c j : Nat} {r : List Nat} {sz tk : Nat} {s : Shared} (hr : backK (backF (l.map (·.1)) f) c j = some r) (hr2 : r.length ≤ 1000) (hc : c ≤ 1000)
    (D : Rep (stQ P b1 b2) W s₀ (ledBb P C Z L (riO j ((c : Nat) : Int)) (txv l) [] 0 none) sz tk s)
    (E : ∀ l2' q' sz' tk' s', (l2'.map (·.1)).flatten = r → Rep (stQ P b1 b2) W s₀ [.o (Z + 1) (seqO (txv l2') (txv l2').length), .o (Z + 2) (nsO P q' "k"), .o L (seqO (txv l) 0)] sz' tk' s' → R (.ok .next) s') :
    codeAny (model prog w) A (codeBbS C (Z + 2) Z (Z + 1)) R s := by
  have key : ∀ {sz tk : Nat} {s : Shared}, Rep (stQ P b1 b2) W s₀ (ledBb P C Z L (riO j ((c : Nat) : Int)) (txv l) [] 0 none) sz tk s → codeAny (model prog w) A (codeBbL C (Z + 2) Z (Z + 1)) R s := fun D' =>
    back_second hS IH hA hF c j r [] none _ _ _ hr hr2 (by simp; omega) D' fun l2 q2 _ _ _ e D2 => E l2 q2 _ _ _ e D2
  cases b1 with
  | false => exact code_again (lv := 1) (tBbSf 0 prog P b2 C Z L (txv l) _ _ _ _) hS hA rfl D fun fr s' D' => key D'
  | true => exact code_again (lv := 1) (tBbSt 0 prog P b2 C Z L (txv l) _ _ _ _) hS hA rfl D fun fr s' D' => key D'
theorem back_first_all {l : List (List Nat × Nat)} (hS : w.params = pq P b1 b2) (hA : Room 1 A) {Ls m : Nat} (hb : l.length ≤ 1000) (hx : ∀ p ∈ l, p.1.length ≤ 1000) {sz tk : Nat} {s : Shared}
    (D : Rep (stQ P b1 b2) W s₀ (ledBa P Z Ls (liO Ls 0) (txv l) m [] 0 none) sz tk s)
    (E : ∀ ts' q' sz' tk' s', ts'.map (·.1) = l.map (fun p => ((p.1.length : Nat) : Int)) → Rep (stQ P b1 b2) W s₀ [.o (Z + 1) (seqO (tagT ts') (tagT ts').length), .o (Z + 2) (nsO P q' "run")] sz' tk' s' → R (.ok .next) s') :
    codeAny (model prog w) A (codeBaS C (Z + 2) Z (Z + 1)) R s := by
  have key : ∀ {sz tk : Nat} {s : Shared}, Rep (stQ P b1 b2) W s₀ (ledBa P Z Ls (liO Ls 0) (txv l) m [] 0 none) sz tk s → codeAny (model prog w) A (codeBaL C (Z + 2) Z (Z + 1)) R s := fun D' =>
    back_first hS hA hb hx l.length 0 [] none _ _ _ (by omega) rfl rfl D' E
  cases b1 with
  | false => exact code_again (lv := 1) (tBaSf 0 prog P b2 C Z Ls m _ _ _) hS hA rfl D fun fr s' D' => key D'
  | true => exact code_again (lv := 1) (tBaSt 0 prog P b2 C Z Ls m _ _ _) hS hA rfl D fun fr s' D' => key D'
end
section
variable {prog : Program} {P : Params} {b1 b2 : Bool} {w : World} {L : Nat} {l : List (List Nat × Nat)}
theorem back_code (hS : w.params = pq P b1 b2) (hb : l.length ≤ 1000) (hsum : (l.map fun p => p.1.length).sum ≤ 1000) : ∀ f, BackP prog P b1 b2 w L l f
  | 0 => fun n nt z A W s₀ s sz tk R hF hz hz2 D E => by cases hz
  | f + 1 => fun n nt z A W s₀ s sz tk R hF hz hz2 D E => by
    unfold backF at hz
    split at hz
    · cases hz
    · rename_i x ex
      obtain ⟨p, ep, hpx⟩ : ∃ p, l[n]? = some p ∧ p.1 = x := by
        rw [List.getElem?_map] at ex
        cases h : l[n]? with
        | none => rw [h] at ex; cases ex
        | some p => rw [h] at ex; exact ⟨p, rfl, Option.some.inj ex⟩
      subst hpx
      have hnl : n < l.length := (List.getElem?_eq_some_iff.mp ep).1
      have hx' : (txv l)[n]? = some (.str (stl p.1) p.2) := by simp [txv, ep]
      have hall : ∀ q ∈ l, q.1.length ≤ 1000 := fun q hq => Nat.le_trans (sum_mem (List.mem_map_of_mem (f := fun p : List Nat × Nat => p.1.length) hq)) hsum
      have hpl := hall p (List.mem_of_getElem? ep)
      have hs0 : (((l.map (·.1)).take n).map List.length).sum ≤ 1000 := by
        have e : ((l.map (·.1)).take n).map List.length = (l.map fun p => p.1.length).take n := by rw [List.map_take, List.map_map]; rfl
        rw [e]
        exact Nat.le_trans (sum_take _ _) hsum
      have hA1 : Room 1 A := hF.room (by decide)
      have htl : (txv l).length ≤ 1000 := by simp only [txv, List.length_map]; exact hb
      refine def_call (lv := 1) (call269 1 prog P b1 b2 (.ref L) (.int ((n : Nat) : Int) nt) sz tk) hS hA1 rfl rfl rfl (Rep.start (led := []) D) fun s1 D1' => ?_
      have D1 := (Rep.frame (led := []) D D1').perm (led' := [.o L (seqO (txv l) 0), .o sz (frm [ent P "number" tk (.int ((n : Nat) : Int) nt)]), .o (sz + 1) (celO (some (.ref L)))]) (List.perm_append_comm (l₁ := [_, _]))
      refine code_of_wp (S := SQ prog P b1 b2) ?_
      refine run_to (S := SQ prog P b1 b2) (laws_none (S := SQ prog P b1 b2) (lv := 1) (finP (model prog w) A R, fun e s' => R (.error e) s') hS hA1) hS _ _ [0, 1, 2, 4, 5, 6, 7]
        (tBA 0 prog P b1 b2 sz L (sz + 2) (tk + 1) n nt tk l (Nat.le_of_lt hnl) htl) rfl (fun fr => ⟨fun _ h => (nomatch h), fun s2 D2 => ?_⟩) D1
      refine means_call ?_
      have hw1 : (body269 sz).weight ≤ 5 := Nat.le_of_ble_eq_true (by kernel_rfl)
      have hw2 : (body269 sz).cUnits ≤ 20 := Nat.le_of_ble_eq_true (by kernel_rfl)
      have hAb : Room 1 (A.under (body269 sz)) := ⟨hF.1, by have := hF.2.1; show A.depth + (body269 sz).weight + 50 * 1 ≤ 900; omega, by have := hF.2.2; show A.units + (body269 sz).cUnits + 150 * 1 ≤ 9000; omega⟩
      have hFb : ∀ C N it acc, RoomF f ((A.under (body269 sz)).under (codeBbL C N it acc)) := fun C N it acc => by
        have hw3 : (codeBbL C N it acc).weight ≤ 5 := Nat.le_of_ble_eq_true (by kernel_rfl)
        have hw4 : (codeBbL C N it acc).cUnits ≤ 20 := Nat.le_of_ble_eq_true (by kernel_rfl)
        exact ⟨hF.1, by have := hF.2.1; show A.depth + (body269 sz).weight + (codeBbL C N it acc).weight + 10 * f + 250 ≤ 900; omega, by have := hF.2.2; show A.units + (body269 sz).cUnits + (codeBbL C N it acc).cUnits + 40 * f + 800 ≤ 9000; omega⟩
      have D3 := D2.pick0 (led' := ledBa P (sz + 2 + 2) (sz + 2 + 1) (liO (sz + 2 + 1) 0) (txv (l.take n)) 0 [] 0 none ++ [_, _, _]) [4, 3, 5, 6, 0, 1, 2] rfl
      have hbt : (l.take n).length ≤ 1000 := by rw [List.length_take]; omega
      refine back_first_all hS hAb hbt (fun q hq => hall q (List.mem_of_mem_take hq)) D3.start fun ts q' sz7 tk7 s7 hts D5' => ?_
      have D5 := (D3.frame D5').pick0 (led' := [_, _, _, _, _]) [2, 3, 4, 0, 1] rfl
      have h1 : sumI ts = (((((l.map (·.1)).take n).map List.length).sum : Nat) : Int) := by
        unfold sumI
        rw [hts, ← sum_cast, List.map_map, List.map_take, List.map_take, List.map_map]
        rfl
      have h2 : smallI ts := fun q hq => by
        have : q.1 ∈ ts.map (·.1) := List.mem_map_of_mem hq
        rw [hts] at this
        obtain ⟨p', hp', e'⟩ := List.mem_map.mp this
        have := hall p' (List.mem_of_mem_take hp')
        rw [← e']; omega
      have h3 : ts.length ≤ 1000 := by
        have := congrArg List.length hts
        rw [List.length_map, List.length_map] at this
        omega
      refine run_to (S := SQ prog P b1 b2) (laws_none (S := SQ prog P b1 b2) (lv := 1) (finP (model prog w) A R, fun e s' => R (.error e) s') hS hA1) hS _ _ [0, 1, 2]
        (tBB 0 prog P b1 b2 sz L (sz + 2) (tk + 1) q' n nt tk l (Nat.le_of_lt hnl) htl fr ts _ h1 h2 h3 sz7 tk7) rfl (fun fr2 => ⟨fun _ h => (nomatch h), fun s8 D8 => ?_⟩) D5
      refine run_to (S := SQ prog P b1 b2) (laws_none (S := SQ prog P b1 b2) (lv := 1) (finP (model prog w) A R, fun e s' => R (.error e) s') hS hA1) hS _ _ [0, 2, 4, 5, 6]
        (tBC 0 prog P b1 b2 sz L (sz + 2) (tk + 1) q' p.1 p.2 n nt tk l (Nat.le_of_lt hnl) htl fr ts _ h1 h2 h3 sz7 tk7 fr2 _ _ _ (by omega) hx' p.1.length (by rw [stl_len]) (by rw [stl_len]; exact hpl) hs0 hpl _ _) rfl (fun fr3 => ⟨fun _ h => (nomatch h), fun s9 D9 => ?_⟩) D8
      refine means_call ?_
      have D10 := D9.pick0 (led' := ledBb P sz ((fr2 0).n 0 + 1) L (riO (((l.map (·.1)).take n).map List.length).sum ((p.1.length : Nat) : Int)) (txv l) [] 0 none) [2, 1, 3, 4, 0] rfl
      refine back_second_all hS (back_code hS hb hsum f) hAb hFb hz hz2 hpl D10 fun l2 q2 sz12 tk12 s12 e12 D12 => ?_
      have D13 := D12.pick0 (led' := [_, _, _]) [2, 0, 1] rfl
      refine run_to (S := SQ prog P b1 b2) (laws_none (S := SQ prog P b1 b2) (lv := 1) (finP (model prog w) A R, fun e s' => R (.error e) s') hS hA1) hS _ _ [0]
        (tBD 0 prog P b1 b2 sz L (sz + 2) (tk + 1) q' p.1 p.2 n nt tk l (Nat.le_of_lt hnl) htl fr ts _ h1 h2 h3 sz7 tk7 fr2 _ _ _ (by omega) hx' p.1.length (by rw [stl_len]) (by rw [stl_len]; exact hpl) hs0 hpl _ _ fr3 l2 z e12 hz2 q2 sz12 tk12) rfl (fun fr4 => ⟨fun _ h => (nomatch h), fun s14 D14 c' => wpAny_pure ?_⟩) D13
      exact E _ _ _ _ D14
end
end Zd
namespace Zd
open PySem PySem.Spec PySem.Calls PyProof.Rows PySem.W PySem.W.X
open Builtin Builtin.Str
noncomputable def inst269 (L : Nat) (l : List (List Nat × Nat)) (z : List Nat) (cs : List (Tm × Tm)) : Inst := { lv := 8, cs, pre := [.o L (seqO (txv l) 0)], upd := fun _ _ _ => [.o L (seqO (txv l) 0)], res := fun _ _ f => .ok (.ret (.str (stl z) (f.n 2))), new := fun _ _ _ => [] }
section
variable {prog : Program} {P : Params} {b1 b2 : Bool}
theorem triple269 (L : Nat) (l : List (List Nat × Nat)) (n nt : Nat) (z : List Nat) (hz : backF (l.map (·.1)) 9 n = some z) (hz2 : z.length ≤ 1000) (hb : l.length ≤ 1000) (hsum : (l.map fun p => p.1.length).sum ≤ 1000) (cs : List (Tm × Tm)) : Triple (stQ P b1 b2) (SQ prog P b1 b2) (code269 (.ref L) (.int ((n : Nat) : Int) nt)) (inst269 L l z cs) := by
  intro w hS A s sz tk g gl hA hst hpre hnd hlow hb' hsz htk
  refine wp_of_code ?_
  have hA7 : Room 8 A := hA
  have hF : RoomF 9 A := ⟨hA7.1, by have := hA7.2.1; omega, by have := hA7.2.2; omega⟩
  have D0 := rep_start (led := [.o L (seqO (txv l) 0)]) hst hpre hnd hlow hb' hsz htk
  refine back_code (prog := prog) (P := P) hS hb hsum 9 n nt z A _ s s sz tk _ hF hz hz2 D0 fun t sz' tk' s' D' => ?_
  exact rep_end (i := inst269 L l z cs) { Fv.z with n := fun n => match n with | 0 => sz' | 1 => tk' | _ => t } D' rfl rfl rfl rfl (fun _ h => (nomatch h))
end
end Zd
namespace Zd
open PySem PySem.Spec PySem.Calls PyProof.Rows PySem.W PySem.W.X
open Builtin Builtin.Str
theorem mulOk_close (e : Nat) (he : e ≤ 100) : mulOk ")" (e : Int) := by
  refine ⟨?_, ?_, ?_⟩
  · have h1 : decide ((e : Int) < -(2 ^ 63 : Int)) = false := decide_eq_false (by omega)
    have h2 : decide ((e : Int) ≥ 2 ^ 63) = false := decide_eq_false (by omega)
    rw [h1, h2]; rfl
  · intro h1 _ h3
    have h4 : ((")" : Str).length : Int) = 1 := by rw [cl1]; rfl
    rw [h4] at h3
    have h5 : (1 : Int) ≤ (2 ^ 63 - 1) / e := by
      rw [Int.le_ediv_iff_mul_le (by omega)]
      omega
    omega
  · intro _ _
    have h4 : (")" : Str).length = 1 := by rw [cl1]; rfl
    rw [h4]
    have := big_line
    unfold tooLong
    refine decide_eq_false ?_
    omega
section
variable {stat : Nat → Option Obj} {S : Setting}
/-- «')' * e», its token open -/
noncomputable def cMulT (n0 : Int) (e : Nat) (hn : n0 = (e : Nat)) (he : e ≤ 100) : Ctr stat S :=
  ctrText "str.__mul__" (fun | [.str x _, .int n _] => some ([(.s x, .s ")"), (.i n, .i n0)], stl (List.replicate e 41)) | _ => none) fun args cs z hg hcs => by
    split at hg
    · rename_i x t n u
      cases hg
      obtain ⟨e1, hcs⟩ := okS hcs
      obtain ⟨e2, _⟩ := okI hcs
      subst e1 e2 hn
      have ho := mulOk_close e he
      have hb := big_line
      have hS := mkS_mulO e
      refine ⟨(mkO (mulO e)).mk (.str ")" t) (.int (e : Nat) u), ?_, ?_, fun prog w A Q E s hq => call_gives F.slot_str_mul rfl F.entry_str_mul (F.args_str_mul_2 _ _) (gives_str_mul _ _ _ _ ho.1 ho.2.1 ho.2.2) ?_⟩
      · have hz : mkS (mulO e) = stl (List.replicate e 41) := Str.ext' (Array.toList_inj.mp (by rw [hS]; simp [stl]))
        rw [← hz]
        cases mulO e <;> rfl
      · have hl : (mkS (mulO e)).length ≤ sizeLine := by
          have : (mkS (mulO e)).cps.toList.length = e := by rw [hS, List.length_replicate]
          have e2 : (mkS (mulO e)).length = (mkS (mulO e)).cps.toList.length := rfl
          omega
        revert hl
        cases mulO e with
        | none => intro _; trivial
        | some y => exact id
      · rw [← mul_eq] at hq
        revert hq
        unfold mulM
        split
        · exact id
        · split <;> exact id
    · cases hg
end
noncomputable def for233a : PySem.Expr × List Stmt × List Stmt := forOf ((partsOf (topStmt 17)).2.1[2]?)
noncomputable def for233b : PySem.Expr × List Stmt × List Stmt := forOf ((partsOf (topStmt 17)).2.1[5]?)
noncomputable def codeRF (C r : Nat) : Code := .forLoop for233a.1 (.ref r) for233a.2.1 for233a.2.2 (env233 C)
noncomputable def codeRG (C r : Nat) : Code := .forLoop for233b.1 (.ref r) for233b.2.1 for233b.2.2 (env233 C)
noncomputable def rhsE : PySem.Expr → PySem.Expr
  | .BinOp _ _ r _ => r
  | e => e
noncomputable def lc233 : PySem.Expr := arg0 (rhsE (valE (for233a.2.1[0]?)))
noncomputable def cenv233 (C N : Nat) : Env := { scope := cellS (scOf lc233), locals := N, globals := 3, cells := [], qual := "_law_row.<locals>.", func := none, code := .ref 232, frame := some C, builtins := 0 }
noncomputable def codeRS (C N it acc : Nat) : Code := .compStart lc233 0 (.ref it) (.ref acc) (cenv233 C N)
noncomputable def codeRL (C N it acc : Nat) : Code := .compLoop lc233 0 (.ref it) (.ref acc) (cenv233 C N)
/-- a step through a list -/
noncomputable def slcI (ts : List (Int × Nat)) (k : Nat) : List (Int × Nat) := (sliceRange (sliceBounds (some (k : Nat)) (some 60) (some 6) ts.length).1 (sliceBounds (some (k : Nat)) (some 60) (some 6) ts.length).2.1 (sliceBounds (some (k : Nat)) (some 60) (some 6) ts.length).2.2).filterMap (ts[·]?)
theorem slc_eq (ts : List (Int × Nat)) (k : Nat) : (slicePick ⟨tagT ts⟩ (some (k : Nat)) (some 60) (some 6)).toList = tagT (slcI ts k) := by
  have e : (⟨tagT ts⟩ : Array Value).size = ts.length := by show (tagT ts).length = _; simp [tagT]
  unfold slicePick slcI
  rw [e]
  unfold tagT
  rw [List.map_filterMap]
  show List.filterMap _ _ = _
  congr 1
  funext i
  show (⟨ts.map fun p => Value.int p.1 p.2⟩ : Array Value)[i]? = (ts[i]?).map fun p => Value.int p.1 p.2
  simp
theorem slc_len (ts : List (Int × Nat)) (k : Nat) : (slcI ts k).length ≤ ts.length := by
  have := slicePick_size_le ⟨tagT ts⟩ (some (k : Nat)) (some 60) (some 6)
  have e : (⟨tagT ts⟩ : Array Value).size = ts.length := by show (tagT ts).length = _; simp [tagT]
  rw [e] at this
  have e2 : (slicePick ⟨tagT ts⟩ (some (k : Nat)) (some 60) (some 6)).size = (slcI ts k).length := by
    rw [← Array.length_toList, slc_eq]; simp [tagT]
  omega
end Zd
namespace Zd
open PySem PySem.Spec PySem.Calls PyProof.Rows PySem.W PySem.W.X
open Builtin Builtin.Str
noncomputable def ow (t : Nat → Nat) : List Value := [.int 5 (t 0), .int 8 (t 1), .int 9 (t 2), .int 7 (t 3), .int 12 (t 4), .int 3 (t 5)]
noncomputable def ownI (k : Nat) : Int := match k with | 0 => 5 | 1 => 8 | 2 => 9 | 3 => 7 | 4 => 12 | _ => 3
theorem ow_at (t : Nat → Nat) (k : Nat) (hk : k < 6) : (ow t)[k]? = some (.int (ownI k) (t k)) := by
  match k, hk with
  | 0, _ => rfl
  | 1, _ => rfl
  | 2, _ => rfl
  | 3, _ => rfl
  | 4, _ => rfl
  | 5, _ => rfl
  | k + 6, h => exact absurd h (by omega)
noncomputable def frR (P : Params) (K : Ks) (Sc O Dp : Nat) (q : Option (Value × Value)) : Obj :=
  frm ([ent P "script" K.k0 (.ref Sc), ent P "own" K.k1 (.ref O), ent P "depths" K.k2 (.ref Dp)] ++ (match q with | some (a, b) => [ent P "k" K.k3 a, ent P "number" K.k4 b] | none => []))
noncomputable def frR1 (P : Params) (K : Ks) (Sc O Dp : Nat) (a : Value) (q : Option (Value × Value)) : Obj :=
  frm ([ent P "script" K.k0 (.ref Sc), ent P "own" K.k1 (.ref O), ent P "depths" K.k2 (.ref Dp), ent P "k" K.k3 a] ++ (match q with | some (_, b) => [ent P "number" K.k4 b] | none => []))
noncomputable abbrev ledR (P : Params) (Sc C O Dp r m0 : Nat) (t : Nat → Nat) (ts rl : List (Int × Nat)) (ml : Nat) (fo io : Obj) : Led := [.o Sc (seqO (tagT ts) m0), .o C fo, .o O (seqO (ow t) 0), .o Dp (seqO (tagT rl) ml), .o r io]
noncomputable abbrev ledRa (P : Params) (Z Ls : Nat) (itO : Obj) (vs : List Value) (m : Nat) (rs : List Value) (n : Nat) (q : Option (Nat × Value)) : Led := [.o Z itO, .o Ls (seqO vs m), .o (Z + 1) (seqO rs n), .o (Z + 2) (nsO P q "x")]
section
variable (lv : Nat) (prog : Program) (P : Params) (b1 b2 : Bool) (Sc C O Dp r m0 k c ml : Nat) (t : Nat → Nat) (ts rl : List (Int × Nat)) (K : Ks) (q : Option (Value × Value)) (sz tk : Nat)
noncomputable def gRA (hk : k < 6) (hl : (tagT ts).length ≤ 1000) (fr : Nat → Fv) : Out := run (stQ P b1 b2) (SQ prog P b1 b2) (lv + 1) 400
  [.d 4, .n, .d 4, .d 4, .d 4, .d 4, .d 4, .d 4, .d 4, .d 4, .d 1, .d 1, .d 1, .d 1, .d 2, .d 2, .d 2, .o (cLi (ow t) 0 k (.int (ownI k) (t k)) (by omega) (ow_at t k hk)) [2], .s 3, .s 0, .d 1, .d 1, .d 0, .d 0, .d 0,
   .o (cLs (tagT ts) m0 (.int (k : Nat) tk) (.int 60 (tk + 2)) (.int 6 (tk + 3)) (tagT (slcI ts k)) (some ((k : Nat) : Int)) (some 60) (some 6) (.int _ _) (.int _ _) (.int _ _) (fun h => nomatch h) (slc_eq ts k) hl) [0, 5], .d 6, .d 6, .n, .d 6, .d 7]
  fr (codeRF C r) [] (denZ (codeRF C r)) (ledR P Sc C O Dp r m0 t ts rl ml (frR P K Sc O Dp q) (riO k ((c + 1 : Nat) : Int))) sz tk []
theorem tRA (hk : k < 6) (hl : (tagT ts).length ≤ 1000) (fr : Nat → Fv) :
    let o := gRA lv prog P b1 b2 Sc C O Dp r m0 k c ml t ts rl K q sz tk hk hl fr
    (o.sel [0, 1, 2, 3, 4, 6, 7, 8, 9], o.cs.map Prod.fst) = (.at (codeRF C r) [] (.call (codeRS C (sz + 4) (sz + 2) (sz + 3)) none o.cg o.cl o.ck) (ledR P Sc C O Dp r m0 t ts rl ml (frR1 P { K with k3 := ftk2 1 3 o } Sc O Dp (.int (k : Int) tk) q) (riO (k + 1) (((c + 1 : Nat) : Int) - 1)) ++ [.o (sz + 1) (seqO (tagT (slcI ts k)) 0), .o (sz + 2) (liO (sz + 1) 0), .o (sz + 3) (seqO [] 0), .o (sz + 4) (dicO [] 0)]) (sz + 5) o.gtk [], o.cs.map Prod.snd) := by
  rcases q with _ | ⟨qa, qb⟩ <;> cases b2 <;> kernel_rfl
section
variable (Z Ls m i : Nat) (vs rs : List Value) (x : Int) (xt : Nat) (qn : Option (Nat × Value))
noncomputable def gRS (hs : List (H (stQ P b1 b2) (SQ prog P b1 b2))) (fr : Nat → Fv) : Out := run (stQ P b1 b2) (SQ prog P b1 b2) (lv + 1) 100 hs fr (codeRS C (Z + 2) Z (Z + 1)) [] (denZ (codeRS C (Z + 2) Z (Z + 1))) (ledRa P Z Ls (liO Ls 0) vs m [] 0 none) sz tk []
theorem tRSf (fr : Nat → Fv) :
    let o := gRS lv prog P false b2 C sz tk Z Ls m vs [.d 0, .d 0, .n, .d 0, .d 0] fr
    (o.sel [0, 1, 2, 3], o.cs.map Prod.fst) = (.again (codeRL C (Z + 2) Z (Z + 1)) (ledRa P Z Ls (liO Ls 0) vs m [] 0 none) sz tk [], o.cs.map Prod.snd) := by
  cases b2 <;> kernel_rfl
theorem tRSt (fr : Nat → Fv) :
    let o := gRS lv prog P true b2 C sz tk Z Ls m vs [] fr
    (o.sel [0, 1, 2, 3], o.cs.map Prod.fst) = (.again (codeRL C (Z + 2) Z (Z + 1)) (ledRa P Z Ls (liO Ls 0) vs m [] 0 none) sz tk [], o.cs.map Prod.snd) := by
  cases b2 <;> kernel_rfl
noncomputable def gRL (hx : vs[i]? = some (.int x xt)) (hl : rs.length ≤ sizeLine) (fr : Nat → Fv) : Out := run (stQ P b1 b2) (SQ prog P b1 b2) (lv + 1) 300
  [.d 0, .o (cLI Z Ls vs m i (.int x xt) hx) [0, 1], .d 3, .d 3, .d 3, .o (cMod x 840 (x.fmod 840) rfl rfl) [], .o (cAppend (Z + 1) rs rs.length hl) [2]]
  fr (codeRL C (Z + 2) Z (Z + 1)) [] (denZ (codeRL C (Z + 2) Z (Z + 1))) (ledRa P Z Ls (liO Ls i) vs m rs rs.length qn) sz tk []
theorem tRL (hx : vs[i]? = some (.int x xt)) (hl : rs.length ≤ sizeLine) (fr : Nat → Fv) :
    let o := gRL lv prog P b1 b2 C sz tk Z Ls m i vs rs x xt qn hx hl fr
    (o.sel [0, 1, 2, 3], o.cs.map Prod.fst) = (.again (codeRL C (Z + 2) Z (Z + 1)) (ledRa P Z Ls (liO Ls (i + 1)) vs m (rs ++ [.int (x.fmod 840) (tk + 2)]) (rs.length + 1) (some (qTok qn tk, .int x xt))) sz (tk + 3) [], o.cs.map Prod.snd) := by
  rcases qn with _ | ⟨t', v'⟩ <;> cases b2 <;> kernel_rfl
theorem tRLe (hx : vs[i]? = none) (fr : Nat → Fv) :
    let o := run (stQ P b1 b2) (SQ prog P b1 b2) (lv + 1) 300 [.d 0, .o (cLE Z Ls vs m i hx) [0, 1], .d 4] fr (codeRL C (Z + 2) Z (Z + 1)) [] (denZ (codeRL C (Z + 2) Z (Z + 1))) (ledRa P Z Ls (liO Ls i) vs m rs rs.length qn) sz tk []
    (o.sel [2, 3], o.cs.map Prod.fst) = (.ret (.ok .next) [.o (Z + 1) (seqO rs rs.length), .o (Z + 2) (nsO P qn "x")] (sz + 2) tk [], o.cs.map Prod.snd) := by
  cases b2 <;> kernel_rfl
end
section
variable (K' : Ks) (io : Obj) (ka : Value) (rs : List (Int × Nat)) (s0 : Int) (h1 : sumI rs = s0) (h2 : smallI rs) (h3 : rs.length ≤ 1000) (qn : Option (Nat × Value)) (d : Int) (dt : Nat) (z y : Nat)
noncomputable def gRB (hk1 : k ≤ 1000) (hd : (tagT rl)[k]? = some (.int d dt)) (hd2 : (d + 2 == 0) = false) (e : Int) (he : (ownI k + s0).fmod (d + 2) = e) (hl : (tagT rl).length ≤ sizeLine) (kt : Nat) (ck : Result → Sem Fin) (fr2 : Nat → Fv) : Out := run (stQ P b1 b2) (SQ prog P b1 b2) (lv + 1) 400
  ((match qn with | none => [.d 6] | some _ => [.d 6, .d 6, .d 6]) ++ [.o (cSum rs (tagT rs).length s0 h1 h2 h3) [5], .n, .d 1, .d 1, .d 1, .d 3, .d 3, .d 3, .d 3, .d 1, .d 1, .d 1, .d 3, .d 3, .d 3, .o (cLi (tagT rl) ml k (.int d dt) hk1 hd) [3], .n, .o (cMod (ownI k + s0) (d + 2) e hd2 he) [], .o (cAppend Dp (tagT rl) ml hl) [3]])
  fr2 (codeRF C r) [] (ck (.ok .next)) (ledR P Sc C O Dp r m0 t ts rl ml (frR1 P K' Sc O Dp (.int (k : Int) kt) q) io ++ [.o (sz + 3) (seqO (tagT rs) (tagT rs).length), .o (sz + 4) (nsO P qn "x")]) z y []
noncomputable def lstT (j : Nat) : Out → Nat := fun _ => 0
theorem tRB (hk : k < 6) (hl0 : (tagT ts).length ≤ 1000) (fr : Nat → Fv) (hk1 : k ≤ 1000) (hd : (tagT rl)[k]? = some (.int d dt)) (hd2 : (d + 2 == 0) = false) (e : Int) (he : (ownI k + s0).fmod (d + 2) = e) (hl : (tagT rl).length ≤ sizeLine) (kt : Nat) (fr2 : Nat → Fv) :
    let o := gRB lv prog P b1 b2 Sc C O Dp r m0 k ml t ts rl q sz K' io rs s0 h1 h2 h3 qn d dt z y hk1 hd hd2 e he hl kt (gRA lv prog P b1 b2 Sc C O Dp r m0 k c ml t ts rl K q sz tk hk hl0 fr).ck fr2
    (o.sel [0, 1, 2, 3, 4], o.cs.map Prod.fst) = (.again (codeRF C r) (ledR P Sc C O Dp r m0 t ts rl ml (frR P { K' with k4 := ftk2 1 4 o } Sc O Dp (some (.int (k : Int) kt, .int (ownI k + s0) (vtk2 1 4 o)))) io |>.set 3 (.o Dp (seqO (tagT rl ++ [.int e ((fr2 0).n 1 + 4)]) (ml + 1)))) o.gsz o.gtk [], o.cs.map Prod.snd) := by
  rcases qn with _ | ⟨t', v'⟩ <;> rcases q with _ | ⟨qa, qb⟩ <;> cases b2 <;> kernel_rfl
end
end
end Zd
namespace Zd
open PySem PySem.Spec PySem.Calls PyProof.Rows PySem.W PySem.W.X
open Builtin Builtin.Str
noncomputable def frW (P : Params) (K : Ks) (k7 : Nat) (Sc O Dp : Nat) (a b rw h : Value) (q : Option Value) : Obj :=
  frm ([ent P "script" K.k0 (.ref Sc), ent P "own" K.k1 (.ref O), ent P "depths" K.k2 (.ref Dp), ent P "k" K.k3 a, ent P "number" K.k4 b, ent P "row" K.k5 rw, ent P "height" K.k6 h] ++ (match q with | some d => [ent P "deep" k7 d] | none => []))
noncomputable abbrev ledW (P : Params) (Sc C Dp r m0 : Nat) (ts rl : List (Int × Nat)) (ml : Nat) (fo io : Obj) : Led := [.o Sc (seqO (tagT ts) m0), .o C fo, .o r io, .o Dp (seqO (tagT rl) ml)]
section
variable (lv : Nat) (prog : Program) (P : Params) (b1 b2 : Bool) (Sc C O Dp r m0 k c ml : Nat) (t : Nat → Nat) (ts rl : List (Int × Nat)) (K : Ks) (q : Option (Value × Value)) (sz tk k0 k7 : Nat)
noncomputable def gRb (fr : Nat → Fv) : Out := run (stQ P b1 b2) (SQ prog P b1 b2) (lv + 1) 400
  [.d 1, .d 1, .d 1, .d 1, .s 3, .s 0, .n, .n, .d 4, .d 4, .n, .d 4, .d 4, .d 4, .d 4, .n, .d 4, .d 4, .d 4, .d 4, .d 5]
  fr (body233 C) [] (denZ (body233 C)) [.o Sc (seqO (tagT ts) m0), .o C (frm [ent P "script" k0 (.ref Sc)])] sz tk []
theorem tRb (fr : Nat → Fv) :
    let o := gRb lv prog P b1 b2 Sc C m0 ts sz tk k0 fr
    (o.sel [0, 1, 2, 3, 5], o.cs.map Prod.fst) = (.at (body233 C) [] (.call (codeRF C (sz + 3)) none o.cg o.cl o.ck) (ledR P Sc C sz (sz + 1) (sz + 3) m0 (fun i => tk + i) ts [(0, tk + 7)] 0 (frR P ⟨k0, ftk2 1 1 o, ftk2 1 2 o, 0, 0, 0, 0⟩ Sc sz (sz + 1) none) (riO 0 ((6 : Nat) : Int))) (sz + 4) o.gtk [], o.cs.map Prod.snd) := by
  cases b2 <;> kernel_rfl
theorem tRE (fr : Nat → Fv) :
    let o := run (stQ P b1 b2) (SQ prog P b1 b2) (lv + 1) 100 [.d 4, .n, .d 4, .d 4, .d 4, .d 4, .d 6] fr (codeRF C r) [] (denZ (codeRF C r)) (ledR P Sc C O Dp r m0 t ts rl ml (frR P K Sc O Dp q) (riO k 0)) sz tk []
    (o.sel [0, 1, 3], o.cs.map Prod.fst) = (.again (.block for233a.2.2 (env233 C)) [.o Sc (seqO (tagT ts) m0), .o C (frR P K Sc O Dp q), .o Dp (seqO (tagT rl) ml)] (sz + 2) tk [], o.cs.map Prod.snd) := by
  cases b2 <;> kernel_rfl
theorem tRBl (l : Led) (fr : Nat → Fv) :
    let o := run (stQ P b1 b2) (SQ prog P b1 b2) (lv + 1) 20 [] fr (.block for233a.2.2 (env233 C)) [] (denZ (.block for233a.2.2 (env233 C))) l sz tk []
    (o.sel [0, 1, 2], o.cs.map Prod.fst) = (Out.sel [0, 1, 2] (.ret (.ok .next) l sz tk []), o.cs.map Prod.snd) := by
  kernel_rfl
/-- between the loops -/
noncomputable def gRm (Sc' m0' : Nat) (ts' : List (Int × Nat)) (sz' tk' k0' : Nat) (fr : Nat → Fv) (qa : Value × Value) (fr2 : Nat → Fv) : Out := run (stQ P b1 b2) (SQ prog P b1 b2) (lv + 1) 100
  [.d 1, .d 1, .d 1, .d 1, .d 1, .d 2, .d 2, .n, .d 2, .d 3] fr2 (body233 C) [] ((gRb lv prog P b1 b2 Sc' C m0' ts' sz' tk' k0' fr).ck (.ok .next)) [.o Sc (seqO (tagT ts) m0), .o C (frR P K Sc O Dp (some qa)), .o Dp (seqO (tagT rl) ml)] sz tk []
theorem tRm (Sc' m0' : Nat) (ts' : List (Int × Nat)) (sz' tk' k0' : Nat) (fr : Nat → Fv) (qa qb : Value) (fr2 : Nat → Fv) :
    let o := gRm lv prog P b1 b2 Sc C O Dp m0 ml ts rl K sz tk Sc' m0' ts' sz' tk' k0' fr (qa, qb) fr2
    (o.sel [0, 1, 2, 3], o.cs.map Prod.fst) = (.at (body233 C) [] (.call (codeRG C sz) none o.cg o.cl o.ck) [.o Sc (seqO (tagT ts) m0), .o C (frW P { K with k5 := ftk2 1 5 o, k6 := ftk2 1 6 o } 0 Sc O Dp qa qb (.str (stl []) (vtk2 1 5 o)) (.int 0 (vtk2 1 6 o)) none), .o Dp (seqO (tagT rl) ml), .o sz (liO Dp 0)] (sz + 1) o.gtk [], o.cs.map Prod.snd) := by
  cases b2 <;> kernel_rfl
end
section
variable (lv : Nat) (prog : Program) (P : Params) (b1 b2 : Bool) (Sc C O Dp r m0 ml i : Nat) (ts rl : List (Int × Nat)) (K : Ks) (sz tk k7 : Nat) (rw : List Nat) (rt ht dt : Nat) (h d : Int) (e : Nat) (a b : Value) (q : Option Value)
noncomputable def gRW (hx : (tagT rl)[i]? = some (.int d dt)) (hn : h - d = (e : Nat)) (he : e ≤ 100) (w1 w2 : List Nat) (h1 : rw ++ List.replicate e 41 = w1) (h2 : w1.length ≤ 1000) (h3 : w1 ++ [40] = w2) (h4 : w2.length ≤ 1000) (fr : Nat → Fv) : Out := run (stQ P b1 b2) (SQ prog P b1 b2) (lv + 1) 300
  [.d 2, .o (cLI r Dp (tagT rl) ml i (.int d dt) hx) [2, 3], .d 1, .d 1, .d 1, .d 1, .d 1, .n, .n, .o (cMulT (h - d) e hn he) [], .o (cAddT rw (List.replicate e 41) w1 h1 h2) [], .o (cAddT w1 [40] w2 h3 h4) [], .d 1, .d 1, .d 1, .n, .d 1, .d 1]
  fr (codeRG C r) [] (denZ (codeRG C r)) (ledW P Sc C Dp r m0 ts rl ml (frW P K k7 Sc O Dp a b (.str (stl rw) rt) (.int h ht) q) (liO Dp i)) sz tk []
theorem tRW (hx : (tagT rl)[i]? = some (.int d dt)) (hn : h - d = (e : Nat)) (he : e ≤ 100) (w1 w2 : List Nat) (h1 : rw ++ List.replicate e 41 = w1) (h2 : w1.length ≤ 1000) (h3 : w1 ++ [40] = w2) (h4 : w2.length ≤ 1000) (fr : Nat → Fv) :
    let o := gRW lv prog P b1 b2 Sc C O Dp r m0 ml i ts rl K sz tk k7 rw rt ht dt h d e a b q hx hn he w1 w2 h1 h2 h3 h4 fr
    (o.sel [0, 1, 2, 3], o.cs.map Prod.fst) = (.again (codeRG C r) (ledW P Sc C Dp r m0 ts rl ml (frW P K (ftk2 1 7 o) Sc O Dp a b (.str (stl w2) (vtk2 1 5 o)) (.int (d + 1) (vtk2 1 6 o)) (some (.int d dt))) (liO Dp (i + 1))) sz o.gtk [], o.cs.map Prod.snd) := by
  rcases q with _ | qv <;> cases b2 <;> kernel_rfl
theorem tRWe (hx : (tagT rl)[i]? = none) (fr : Nat → Fv) :
    let o := run (stQ P b1 b2) (SQ prog P b1 b2) (lv + 1) 300 [.d 2, .o (cLE r Dp (tagT rl) ml i hx) [2, 3], .d 4] fr (codeRG C r) [] (denZ (codeRG C r)) (ledW P Sc C Dp r m0 ts rl ml (frW P K k7 Sc O Dp a b (.str (stl rw) rt) (.int h ht) q) (liO Dp i)) sz tk []
    (o.sel [0, 1], o.cs.map Prod.fst) = (.again (.block for233b.2.2 (env233 C)) [.o Sc (seqO (tagT ts) m0), .o C (frW P K k7 Sc O Dp a b (.str (stl rw) rt) (.int h ht) q)] (sz + 2) tk [], o.cs.map Prod.snd) := by
  cases b2 <;> kernel_rfl
theorem tRBl2 (l : Led) (fr : Nat → Fv) :
    let o := run (stQ P b1 b2) (SQ prog P b1 b2) (lv + 1) 20 [] fr (.block for233b.2.2 (env233 C)) [] (denZ (.block for233b.2.2 (env233 C))) l sz tk []
    (o.sel [0, 1], o.cs.map Prod.fst) = (Out.sel [0, 1] (.ret (.ok .next) l sz tk []), o.cs.map Prod.snd) := by
  kernel_rfl
theorem tRz (Sc' m0' : Nat) (ts' : List (Int × Nat)) (sz' tk' k0' : Nat) (fr : Nat → Fv) (C2 O2 Dp2 m02 ml2 : Nat) (ts2 rl2 : List (Int × Nat)) (K2 : Ks) (sz2 tk2 : Nat) (qa qb : Value) (fr2 : Nat → Fv) (hn : h = (e : Nat)) (he : e ≤ 100) (w1 : List Nat) (h1 : rw ++ List.replicate e 41 = w1) (h2 : w1.length ≤ 1000) (qd : Value) (fr3 : Nat → Fv) :
    let o := run (stQ P b1 b2) (SQ prog P b1 b2) (lv + 1) 100 [.d 1, .d 1, .n, .o (cMulT h e hn he) [], .o (cAddT rw (List.replicate e 41) w1 h1 h2) []] fr3 (body233 C) [] ((gRm lv prog P b1 b2 Sc C O2 Dp2 m02 ml2 ts2 rl2 K2 sz2 tk2 Sc' m0' ts' sz' tk' k0' fr (qa, qb) fr2).ck (.ok .next)) [.o Sc (seqO (tagT ts) m0), .o C (frW P K k7 Sc O Dp a b (.str (stl rw) rt) (.int h ht) (some qd))] sz tk []
    (o.sel [0], o.cs.map Prod.fst) = (.ret (.ok (.ret (.str (stl w1) ((fr3 2).n 2)))) [.o Sc (seqO (tagT ts) m0)] o.gsz o.gtk [], o.cs.map Prod.snd) := by
  cases b2 <;> kernel_rfl
end
end Zd
namespace Zd
open PySem PySem.Spec PySem.Calls PyProof.Rows PySem.W PySem.W.X
open Builtin Builtin.Str
noncomputable def sumMod (ts : List (Int × Nat)) (k : Nat) : Int := ((slcI ts k).map fun p => p.1.fmod 840).sum
noncomputable def dR (ts : List (Int × Nat)) : Nat → Int
  | 0 => 0
  | k + 1 => (ownI k + sumMod ts k).fmod (dR ts k + 2)
theorem dR_bd (ts : List (Int × Nat)) : ∀ k, 0 ≤ dR ts k ∧ dR ts k ≤ k ∧ dR ts (k + 1) ≤ dR ts k + 1
  | 0 => by
    refine ⟨Int.le_refl _, Int.le_refl _, ?_⟩
    have h : (0 : Int) < 0 + 2 := by decide
    have := Int.fmod_lt_of_pos (ownI 0 + sumMod ts 0) h
    show (ownI 0 + sumMod ts 0).fmod (0 + 2) ≤ 0 + 1
    omega
  | k + 1 => by
    obtain ⟨h1, h2, h3⟩ := dR_bd ts k
    have h0 : 0 ≤ dR ts (k + 1) := Int.fmod_nonneg_of_pos _ (by omega)
    have := Int.fmod_lt_of_pos (ownI (k + 1) + sumMod ts (k + 1)) (show 0 < dR ts (k + 1) + 2 by omega)
    refine ⟨h0, by omega, ?_⟩
    show (ownI (k + 1) + sumMod ts (k + 1)).fmod (dR ts (k + 1) + 2) ≤ _
    omega
section
variable {prog : Program} {P : Params} {b1 b2 : Bool} {w : World} {A : Around} {W : List (Bool × Nat)} {s₀ : Shared} {R : Result → Shared → Prop} {C Z : Nat}
theorem row_comp (hS : w.params = pq P b1 b2) (hA : Room 1 A) {Ls m : Nat} {l : List (Int × Nat)} (hb : l.length ≤ 1000) : ∀ (n i : Nat) (rs : List (Int × Nat)) (q : Option (Nat × Value)) (sz tk : Nat) (s : Shared), i + n = l.length → rs.length = i → rs.map (·.1) = (l.take i).map (fun p => p.1.fmod 840) →
    Rep (stQ P b1 b2) W s₀ (ledRa P Z Ls (liO Ls i) (tagT l) m (tagT rs) (tagT rs).length q) sz tk s →
    (∀ rs' q' sz' tk' s', rs'.map (·.1) = l.map (fun p => p.1.fmod 840) → Rep (stQ P b1 b2) W s₀ [.o (Z + 1) (seqO (tagT rs') (tagT rs').length), .o (Z + 2) (nsO P q' "x")] sz' tk' s' → R (.ok .next) s') →
    codeAny (model prog w) A (codeRL C (Z + 2) Z (Z + 1)) R s
  | 0, i, rs, q, sz, tk, s, hn, ht, he, D, E => by
    have hi : i = l.length := by omega
    subst hi
    have hx' : (tagT l)[l.length]? = none := by rw [List.getElem?_eq_none_iff]; simp [tagT]
    rw [List.take_length] at he
    exact code_ret (tRLe 0 prog P b1 b2 C sz tk Z Ls m l.length (tagT l) (tagT rs) q hx') hS hA rfl D fun fr s' D' => E rs _ _ _ _ he D'
  | n + 1, i, rs, q, sz, tk, s, hn, ht, he, D, E => by
    have hlt : i < l.length := by omega
    obtain ⟨p, ep⟩ : ∃ p, l[i]? = some p := ⟨_, List.getElem?_eq_getElem hlt⟩
    have hx' : (tagT l)[i]? = some (.int p.1 p.2) := by simp [tagT, ep]
    have hls : (tagT rs).length ≤ sizeLine := by have := big_line; simp only [tagT, List.length_map]; omega
    refine code_again (tRL 0 prog P b1 b2 C sz tk Z Ls m i (tagT l) (tagT rs) p.1 p.2 q hx' hls) hS hA rfl D fun fr s1 D1 => ?_
    have a1 : tagT rs ++ [.int (p.1.fmod 840) (tk + 2)] = tagT (rs ++ [(p.1.fmod 840, tk + 2)]) := by simp [tagT]
    have a2 : (tagT rs).length + 1 = (tagT (rs ++ [(p.1.fmod 840, tk + 2)])).length := by simp [tagT]
    rw [a1, a2] at D1
    refine row_comp hS hA hb n (i + 1) _ _ _ _ s1 (by omega) (by simp [ht]) ?_ D1 E
    rw [List.take_add_one, ep, List.map_append, he, List.map_append]
    rfl
theorem row_comp_all (hS : w.params = pq P b1 b2) (hA : Room 1 A) {Ls m : Nat} {l : List (Int × Nat)} (hb : l.length ≤ 1000) {sz tk : Nat} {s : Shared}
    (D : Rep (stQ P b1 b2) W s₀ (ledRa P Z Ls (liO Ls 0) (tagT l) m [] 0 none) sz tk s)
    (E : ∀ rs' q' sz' tk' s', rs'.map (·.1) = l.map (fun p => p.1.fmod 840) → Rep (stQ P b1 b2) W s₀ [.o (Z + 1) (seqO (tagT rs') (tagT rs').length), .o (Z + 2) (nsO P q' "x")] sz' tk' s' → R (.ok .next) s') :
    codeAny (model prog w) A (codeRS C (Z + 2) Z (Z + 1)) R s := by
  have key : ∀ {sz tk : Nat} {s : Shared}, Rep (stQ P b1 b2) W s₀ (ledRa P Z Ls (liO Ls 0) (tagT l) m [] 0 none) sz tk s → codeAny (model prog w) A (codeRL C (Z + 2) Z (Z + 1)) R s := fun D' =>
    row_comp hS hA hb l.length 0 [] none _ _ _ (by omega) rfl rfl D' E
  cases b1 with
  | false => exact code_again (lv := 1) (tRSf 0 prog P b2 C _ _ Z Ls m _) hS hA rfl D fun fr s' D' => key D'
  | true => exact code_again (lv := 1) (tRSt 0 prog P b2 C _ _ Z Ls m _) hS hA rfl D fun fr s' D' => key D'
end
section
variable {prog : Program} {P : Params} {b1 b2 : Bool} {w : World} {A : Around} {W : List (Bool × Nat)} {s₀ : Shared} {R : Result → Shared → Prop} {Sc C O Dp r m0 : Nat} {t : Nat → Nat} {ts : List (Int × Nat)}
theorem row_loop1 (hS : w.params = pq P b1 b2) (hA : Room 2 A) (hts : ts.length ≤ 100) : ∀ (c k : Nat) (rl : List (Int × Nat)) (K : Ks) (q : Option (Value × Value)) (sz tk : Nat) (s : Shared), k + c = 6 → (k ≠ 0 → ∃ a b, q = some (a, b)) → rl.map (·.1) = (List.range (k + 1)).map (dR ts) →
    Rep (stQ P b1 b2) W s₀ (ledR P Sc C O Dp r m0 t ts rl k (frR P K Sc O Dp q) (riO k ((c : Nat) : Int))) sz tk s →
    (∀ K' qa qb rl' sz' tk' s', rl'.map (·.1) = (List.range 7).map (dR ts) → Rep (stQ P b1 b2) W s₀ [.o Sc (seqO (tagT ts) m0), .o C (frR P K' Sc O Dp (some (qa, qb))), .o Dp (seqO (tagT rl') 6)] sz' tk' s' → R (.ok .next) s') →
    codeAny (model prog w) A (codeRF C r) R s
  | 0, k, rl, K, q, sz, tk, s, hn, hq, hr, D, E => by
    obtain rfl : k = 6 := by omega
    obtain ⟨a, b, rfl⟩ := hq (by decide)
    refine code_again (tRE 1 prog P b1 b2 Sc C O Dp r m0 6 6 t ts rl K (some (a, b)) sz tk) hS hA rfl D fun fr s1 D1 => ?_
    exact code_ret (tRBl 1 prog P b1 b2 C _ _ _) hS hA rfl D1 fun fr s2 D2 => E _ _ _ _ _ _ _ hr D2
  | c + 1, k, rl, K, q, sz, tk, s, hn, hq, hr, D, E => by
    have hk : k < 6 := by omega
    have hl : (tagT ts).length ≤ 1000 := by simp only [tagT, List.length_map]; omega
    refine code_of_wp (S := SQ prog P b1 b2) ?_
    refine run_to (S := SQ prog P b1 b2) (laws_none (S := SQ prog P b1 b2) (lv := 2) (finP (model prog w) A R, fun e s' => R (.error e) s') hS hA) hS _ _ [0, 1, 2, 3, 4, 6, 7, 8, 9]
      (tRA 1 prog P b1 b2 Sc C O Dp r m0 k c k t ts rl K q sz tk hk hl) rfl (fun fr => ⟨fun _ h => (nomatch h), fun s2 D2 => ?_⟩) D
    refine means_call ?_
    have hA1 : Room 1 (A.under (codeRF C r)) := room_under hA (Nat.le_of_ble_eq_true (by kernel_rfl)) (Nat.le_of_ble_eq_true (by kernel_rfl))
    have D3 := D2.pick0 (led' := ledRa P (sz + 2) (sz + 1) (liO (sz + 1) 0) (tagT (slcI ts k)) 0 [] 0 none ++ [_, _, _, _, _]) [6, 5, 7, 8, 0, 1, 2, 3, 4] rfl
    have hsl := slc_len ts k
    refine row_comp_all hS hA1 (by omega) D3.start fun rs q' sz7 tk7 s7 hrs D5' => ?_
    have D5 := (D3.frame D5').pick0 (led' := [_, _, _, _, _, _, _]) [2, 3, 4, 5, 6, 0, 1] rfl
    have h1 : sumI rs = sumMod ts k := by unfold sumI sumMod; rw [hrs]
    have h2 : smallI rs := fun p hp => by
      have : p.1 ∈ rs.map (·.1) := List.mem_map_of_mem hp
      rw [hrs] at this
      obtain ⟨p', _, e⟩ := List.mem_map.mp this
      have a := Int.fmod_nonneg_of_pos p'.1 (show (0 : Int) < 840 by decide)
      have b := Int.fmod_lt_of_pos p'.1 (show (0 : Int) < 840 by decide)
      rw [← e]; omega
    have h3 : rs.length ≤ 1000 := by
      have := congrArg List.length hrs
      rw [List.length_map, List.length_map] at this
      omega
    have hrl : rl.length = k + 1 := by
      have := congrArg List.length hr
      simpa using this
    obtain ⟨p, ep⟩ : ∃ p, rl[k]? = some p := ⟨_, List.getElem?_eq_getElem (by omega)⟩
    have hp : p.1 = dR ts k := by
      have e : (rl.map (·.1))[k]? = some p.1 := by rw [List.getElem?_map, ep]; rfl
      rw [hr, List.getElem?_map, List.getElem?_range (by omega)] at e
      exact (Option.some.inj e).symm
    have hx : (tagT rl)[k]? = some (.int p.1 p.2) := by simp [tagT, ep]
    have hbd := dR_bd ts k
    have hls : (tagT rl).length ≤ sizeLine := by have := big_line; simp only [tagT, List.length_map]; omega
    refine run_to (S := SQ prog P b1 b2) (laws_none (S := SQ prog P b1 b2) (lv := 2) (finP (model prog w) A R, fun e s' => R (.error e) s') hS hA) hS _ _ [0, 1, 2, 3, 4]
      (tRB 1 prog P b1 b2 Sc C O Dp r m0 k c k t ts rl K q sz tk _ _ rs (sumMod ts k) h1 h2 h3 q' p.1 p.2 sz7 tk7 hk hl fr (by omega) hx (by rw [hp]; exact beq_eq_false_iff_ne.mpr (by omega)) (dR ts (k + 1)) (by rw [hp]; rfl) hls _) rfl (fun fr2 => ⟨fun _ h => (nomatch h), fun s8 D8 qt c' => wpAny_pure ⟨qt, ?_⟩⟩) D5
    have a1 : tagT rl ++ [.int (dR ts (k + 1)) ((fr2 0).n 1 + 4)] = tagT (rl ++ [(dR ts (k + 1), (fr2 0).n 1 + 4)]) := by simp [tagT]
    have ec : (((c + 1 : Nat) : Int) - 1) = ((c : Nat) : Int) := by omega
    rw [a1, ec] at D8
    refine row_loop1 hS hA hts c (k + 1) (rl ++ [(dR ts (k + 1), (fr2 0).n 1 + 4)]) _ _ _ _ s8 (by omega) (fun _ => ⟨_, _, rfl⟩) ?_ D8 E
    rw [List.map_append, hr, List.range_succ (n := k + 1), List.map_append]
    rfl
end
end Zd
namespace Zd
open PySem PySem.Spec PySem.Calls PyProof.Rows PySem.W PySem.W.X
open Builtin Builtin.Str
/-- the row that the depths make -/
noncomputable def rowGo : List Nat → List Nat → Nat → List Nat
  | [], rw, h => rw ++ List.replicate h 41
  | d :: ds, rw, h => rowGo ds (rw ++ List.replicate (h - d) 41 ++ [40]) (d + 1)
/-- each one at most the height -/
noncomputable def okGo : List Nat → Nat → Prop
  | [], h => h ≤ 50
  | d :: ds, h => d ≤ h ∧ h ≤ 50 ∧ okGo ds (d + 1)
section
variable {prog : Program} {P : Params} {b1 b2 : Bool} {w : World} {A : Around} {W : List (Bool × Nat)} {s₀ : Shared} {R : Result → Shared → Prop} {Sc C O Dp r m0 ml : Nat} {ts : List (Int × Nat)} {K : Ks} {a b : Value}
theorem row_loop2 (hS : w.params = pq P b1 b2) (hA : Room 2 A) {rl : List (Int × Nat)} {ds : List Nat} (hr : rl.map (·.1) = ds.map (fun d => ((d : Nat) : Int))) (hlen : ds.length ≤ 7) : ∀ (n i : Nat) (rw' : List Nat) (hh rt ht k7 : Nat) (q : Option Value) (sz tk : Nat) (s : Shared), i + n = ds.length → (i ≠ 0 → ∃ v, q = some v) → rw'.length ≤ 60 * i → okGo (ds.drop i) hh →
    Rep (stQ P b1 b2) W s₀ (ledW P Sc C Dp r m0 ts rl ml (frW P K k7 Sc O Dp a b (.str (stl rw') rt) (.int ((hh : Nat) : Int) ht) q) (liO Dp i)) sz tk s →
    (∀ rw2 h2 rt2 ht2 k72 q2 sz' tk' s', rw2 ++ List.replicate h2 41 = rowGo (ds.drop i) rw' hh → h2 ≤ 50 → rw2.length ≤ 500 → (ds ≠ [] → ∃ v, q2 = some v) → Rep (stQ P b1 b2) W s₀ [.o Sc (seqO (tagT ts) m0), .o C (frW P K k72 Sc O Dp a b (.str (stl rw2) rt2) (.int ((h2 : Nat) : Int) ht2) q2)] sz' tk' s' → R (.ok .next) s') →
    codeAny (model prog w) A (codeRG C r) R s
  | 0, i, rw', hh, rt, ht, k7, q, sz, tk, s, hn, hq, hw, hok, D, E => by
    have hi : i = ds.length := by omega
    subst hi
    have hrl : rl.length = ds.length := by
      have := congrArg List.length hr
      rwa [List.length_map, List.length_map] at this
    have hx : (tagT rl)[ds.length]? = none := by rw [List.getElem?_eq_none_iff]; simp [tagT, hrl]
    rw [List.drop_length] at E hok
    refine code_again (tRWe 1 prog P b1 b2 Sc C O Dp r m0 ml ds.length ts rl K sz tk k7 rw' rt ht _ a b q hx) hS hA rfl D fun fr s1 D1 => ?_
    refine code_ret (tRBl2 1 prog P b1 b2 C _ _ _) hS hA rfl D1 fun fr s2 D2 => E rw' hh _ _ _ q _ _ _ rfl hok (by omega) (fun h => hq (fun h0 => h (List.eq_nil_of_length_eq_zero h0))) D2
  | n + 1, i, rw', hh, rt, ht, k7, q, sz, tk, s, hn, hq, hw, hok, D, E => by
    have hlt : i < ds.length := by omega
    obtain ⟨d, ed⟩ : ∃ d, ds[i]? = some d := ⟨_, List.getElem?_eq_getElem hlt⟩
    have hdr : ds.drop i = d :: ds.drop (i + 1) := by
      rw [List.drop_eq_getElem_cons hlt]
      congr 1
      have := List.getElem?_eq_getElem hlt
      rw [ed] at this
      exact (Option.some.inj this).symm
    rw [hdr] at E hok
    obtain ⟨h1, h2, h3⟩ := hok
    have hx : ∃ dt, (tagT rl)[i]? = some (.int ((d : Nat) : Int) dt) := by
      have e : (rl.map (·.1))[i]? = some ((d : Nat) : Int) := by rw [hr, List.getElem?_map, ed]; rfl
      rw [List.getElem?_map] at e
      cases hrl : rl[i]? with
      | none => rw [hrl] at e; cases e
      | some p =>
        rw [hrl] at e
        have e2 : p.1 = ((d : Nat) : Int) := Option.some.inj e
        exact ⟨p.2, by simp [tagT, hrl, e2]⟩
    obtain ⟨dt, hx⟩ := hx
    have hl1 : (rw' ++ List.replicate (hh - d) 41).length ≤ 1000 := by simp; omega
    have hl2 : (rw' ++ List.replicate (hh - d) 41 ++ [40]).length ≤ 1000 := by simp; omega
    refine code_again (tRW 1 prog P b1 b2 Sc C O Dp r m0 ml i ts rl K sz tk k7 rw' rt ht dt ((hh : Nat) : Int) ((d : Nat) : Int) (hh - d) a b q hx (by omega) (by omega) _ _ rfl hl1 rfl hl2) hS hA rfl D fun fr s1 D1 => ?_
    exact row_loop2 hS hA hr hlen n (i + 1) _ (d + 1) _ _ _ _ _ _ s1 (by omega) (fun _ => ⟨_, rfl⟩) (by simp; omega) h3 D1 E
end
/-- the depths of a script, as numbers -/
noncomputable def dN (ts : List (Int × Nat)) (k : Nat) : Nat := (dR ts k).toNat
theorem dN_cast (ts : List (Int × Nat)) (k : Nat) : ((dN ts k : Nat) : Int) = dR ts k := Int.toNat_of_nonneg (dR_bd ts k).1
theorem dN_next (ts : List (Int × Nat)) (k : Nat) : dN ts (k + 1) ≤ dN ts k + 1 := by
  have h1 := dN_cast ts k
  have h2 := dN_cast ts (k + 1)
  have h3 := (dR_bd ts k).2.2
  omega
theorem dN_le (ts : List (Int × Nat)) (k : Nat) : dN ts k ≤ k := by
  have h1 := dN_cast ts k
  have h3 := (dR_bd ts k).2.1
  omega
theorem okGo_dl {d : Nat → Nat} (h0 : d 0 = 0) (h : ∀ k, k < 6 → d (k + 1) ≤ d k + 1) : okGo (dl d) 0 := by
  have h1 := h 0 (by decide)
  have h2 := h 1 (by decide)
  have h3 := h 2 (by decide)
  have h4 := h 3 (by decide)
  have h5 := h 4 (by decide)
  have h6 := h 5 (by decide)
  simp only [dl, okGo]
  simp only [Nat.zero_add, Nat.reduceAdd] at *
  omega
noncomputable def inst233 (Sc m0 : Nat) (ts : List (Int × Nat)) (z : List Nat) (cs : List (Tm × Tm)) : Inst := { lv := 3, cs, pre := [.o Sc (seqO (tagT ts) m0)], upd := fun _ _ _ => [.o Sc (seqO (tagT ts) m0)], res := fun _ _ f => .ok (.ret (.str (stl z) (f.n 2))), new := fun _ _ _ => [] }
section
variable {prog : Program} {P : Params} {b1 b2 : Bool}
theorem triple233 (Sc m0 : Nat) (ts : List (Int × Nat)) (hts : ts.length ≤ 100) (cs : List (Tm × Tm)) : Triple (stQ P b1 b2) (SQ prog P b1 b2) (code233 (.ref Sc)) (inst233 Sc m0 ts (rowGo (dl (dN ts)) [] 0) cs) := by
  intro w hS A s sz tk g l hA hst hpre hnd hlow hb hsz htk
  refine wp_of_code ?_
  have hA3 : Room 3 A := hA
  have D0 := rep_start (led := [.o Sc (seqO (tagT ts) m0)]) hst hpre hnd hlow hb hsz htk
  refine def_call (lv := 3) (call233 3 prog P b1 b2 (.ref Sc) sz tk) hS hA3 rfl rfl rfl (Rep.start (led := []) D0) fun s1 D1' => ?_
  have D1 := (Rep.frame (led := []) D0 D1').perm (led' := [.o Sc (seqO (tagT ts) m0), .o sz (frm [ent P "script" tk (.ref Sc)])]) (List.perm_append_comm (l₁ := [_]))
  have fin : ∀ t sz' tk' s', Rep (stQ P b1 b2) (([.o Sc (seqO (tagT ts) m0)] : Led).map Cell.key) s [.o Sc (seqO (tagT ts) m0)] sz' tk' s' → After (inst233 Sc m0 ts (rowGo (dl (dN ts)) [] 0) cs) sz tk s (.ok (.ret (.str (stl (rowGo (dl (dN ts)) [] 0)) t))) s' := fun t sz' tk' s' D9 =>
    rep_end (i := inst233 Sc m0 ts (rowGo (dl (dN ts)) [] 0) cs) { Fv.z with n := fun n => match n with | 0 => sz' | 1 => tk' | _ => t } D9 rfl rfl rfl rfl (fun _ h => (nomatch h))
  generalize After (inst233 Sc m0 ts (rowGo (dl (dN ts)) [] 0) cs) sz tk s = R at fin ⊢
  refine code_of_wp (S := SQ prog P b1 b2) ?_
  refine run_to (S := SQ prog P b1 b2) (laws_none (S := SQ prog P b1 b2) (lv := 3) (finP (model prog w) A R, fun e s' => R (.error e) s') hS hA3) hS _ _ [0, 1, 2, 3, 5]
    (tRb 2 prog P b1 b2 Sc sz m0 ts (sz + 1) (tk + 1) tk) rfl (fun fr => ⟨fun _ h => (nomatch h), fun s2 D2 => ?_⟩) D1
  refine means_call ?_
  have hA2 : Room 2 (A.under (body233 sz)) := room_under hA3 (Nat.le_of_ble_eq_true (by kernel_rfl)) (Nat.le_of_ble_eq_true (by kernel_rfl))
  refine row_loop1 hS hA2 hts 6 0 _ _ none _ _ s2 rfl (fun h => absurd rfl h) rfl D2 fun K' qa qb rl sz4 tk4 s4 hrl D4 => ?_
  refine run_to (S := SQ prog P b1 b2) (laws_none (S := SQ prog P b1 b2) (lv := 3) (finP (model prog w) A R, fun e s' => R (.error e) s') hS hA3) hS _ _ [0, 1, 2, 3]
    (tRm 2 prog P b1 b2 Sc sz _ _ m0 6 ts rl K' sz4 tk4 Sc m0 ts (sz + 1) (tk + 1) tk fr qa qb) rfl (fun fr2 => ⟨fun _ h => (nomatch h), fun s5 D5 => ?_⟩) D4
  refine means_call ?_
  have hr : rl.map (·.1) = (dl (dN ts)).map (fun d => ((d : Nat) : Int)) := by
    rw [hrl]
    simp only [dl, List.map_cons, List.map_nil, dN_cast]
    rfl
  have D6 := D5.pick0 (led' := [_, _, _, _]) [0, 1, 3, 2] rfl
  refine row_loop2 (ds := dl (dN ts)) hS hA2 hr (Nat.le_refl _) 7 0 [] 0 _ _ _ none _ _ s5 rfl (fun h => absurd rfl h) (Nat.zero_le _) (okGo_dl (Nat.le_zero.mp (dN_le ts 0)) fun k _ => dN_next ts k) D6 fun rw2 h2 rt2 ht2 k72 q2 sz7 tk7 s7 e7 hh2 hl2 hq2 D7 => ?_
  obtain ⟨qd, rfl⟩ := hq2 (by simp [dl])
  have e8 : rw2 ++ List.replicate h2 41 = rowGo (dl (dN ts)) [] 0 := e7
  refine run_to (S := SQ prog P b1 b2) (laws_none (S := SQ prog P b1 b2) (lv := 3) (finP (model prog w) A R, fun e s' => R (.error e) s') hS hA3) hS _ _ [0]
    (tRz 2 prog P b1 b2 Sc sz _ _ m0 ts _ sz7 tk7 k72 rw2 rt2 ht2 ((h2 : Nat) : Int) h2 _ _ Sc m0 ts (sz + 1) (tk + 1) tk fr sz _ _ m0 6 ts rl K' sz4 tk4 qa qb fr2 rfl (by omega) _ e8 (by rw [← e8]; simp; omega) qd) rfl (fun fr3 => ⟨fun _ h => (nomatch h), fun s8 D8 c' => wpAny_pure ?_⟩) D7
  exact fin _ _ _ _ D8
noncomputable def c233 (Sc0 m0 : Nat) (ts : List (Int × Nat)) (hts : ts.length ≤ 100) : Ctr (stQ P b1 b2) (SQ prog P b1 b2) :=
  ctrDef 233 (fun | [.ref a] => some (inst233 Sc0 m0 ts (rowGo (dl (dN ts)) [] 0) [(.a a, .a Sc0)]) | _ => none) fun args i hi hcs => by
    split at hi
    · cases hi
      obtain ⟨e, _⟩ := okA hcs
      subst e
      exact ⟨fun _ _ _ => rfl, triple233 _ _ _ hts _⟩
    · cases hi
end
end Zd
namespace Zd
open PySem PySem.Spec PySem.Calls PyProof.Rows PySem.W PySem.W.X
open Builtin Builtin.Str
noncomputable def Out.stk : Out → List (Code × Pos) → Sem Fin
  | .at _ _ (.stack k) _ _ _ _ => k
  | _ => fun _ => .raise .none
noncomputable def castL (d : Nat → Nat) : List Int := [((d 0 : Nat) : Int), ((d 1 : Nat) : Int), ((d 2 : Nat) : Int), ((d 3 : Nat) : Int), ((d 4 : Nat) : Int), ((d 5 : Nat) : Int), ((d 6 : Nat) : Int)]
/-- what is asked of the row that the depths make, and of the second one -/
structure RowA (d : Nat → Nat) (row sec : List Nat) (d2 : Nat → Nat) (rs : List (List Nat)) : Prop where
  er : rowGo (dl d) [] 0 = row
  pr : par (stl row)
  lr : (stl row).length = 14
  dr : dlx (stl row).cps.toList 14 0 (-1) = castL d
  d8 : ∀ k, k < 7 → d k + 1 < 8
  ph : PairsH d
  es : secL d = sec
  ps : par (stl sec)
  ls : (stl sec).length = 14
  cs : chkS (stl sec) = true
  ds : dlx (stl sec).cps.toList 14 0 (-1) = castL d2
  sp : SplitH (stl sec) rs
  st : StepsH rs
noncomputable def c233z {prog : Program} {P : Params} {b1 b2 : Bool} (Sc0 m0 : Nat) (ts : List (Int × Nat)) (hts : ts.length ≤ 100) (z : List Nat) (hz : rowGo (dl (dN ts)) [] 0 = z) : Ctr (stQ P b1 b2) (SQ prog P b1 b2) :=
  ctrDef 233 (fun | [.ref a] => some (inst233 Sc0 m0 ts z [(.a a, .a Sc0)]) | _ => none) fun args i hi hcs => by
    split at hi
    · cases hi
      obtain ⟨e, _⟩ := okA hcs
      subst e hz
      exact ⟨fun _ _ _ => rfl, triple233 _ _ _ hts _⟩
    · cases hi
noncomputable def frL (P : Params) (K : Ks) (Sc : Nat) (row : Value) (X : Nat) (q : Option Value) : Obj :=
  frm ([ent P "script" K.k0 (.ref Sc), ent P "row" K.k1 row, ent P "depths" K.k2 (.ref X)] ++ (match q with | some v => [ent P "second" K.k3 v] | none => []))
section
variable (lv : Nat) (prog : Program) (P : Params) (b1 b2 : Bool) (Sc C m0 k0 : Nat) (ts : List (Int × Nat)) (sz tk : Nat)
noncomputable def gL1 (hts : ts.length ≤ 100) (row : List Nat) (hrow : rowGo (dl (dN ts)) [] 0 = row) (ds : List Int) (hp : par (stl row)) (hx : (stl row).length = 14) (hd : dlx (stl row).cps.toList 14 0 (-1) = ds) (fr : Nat → Fv) : Out := run (stQ P b1 b2) (SQ prog P b1 b2) (lv + 9) 300
  [.s 3, .d 1, .s 233, .o (c233z Sc m0 ts hts row hrow) [0], .d 1, .d 1, .s 3, .d 1, .s 240, .o (c240 (stl row) ds hp hx hd) [], .d 1, .d 1, .s 3, .d 1, .s 245] fr (body276 C) [] (denZ (body276 C)) [.o Sc (seqO (tagT ts) m0), .o C (frm [ent P "script" k0 (.ref Sc)])] sz tk []
theorem tL1 (hts : ts.length ≤ 100) (row : List Nat) (hrow : rowGo (dl (dN ts)) [] 0 = row) (d : Nat → Nat) (hp : par (stl row)) (hx : (stl row).length = 14) (hd : dlx (stl row).cps.toList 14 0 (-1) = castL d) (fr : Nat → Fv) :
    let o := gL1 lv prog P b1 b2 Sc C m0 k0 ts sz tk hts row hrow (castL d) hp hx hd fr
    (o.sel [0, 1, 2], o.cs.map Prod.fst) = (.at (body276 C) [] (.call (code245 (.ref ((fr 1).n 2))) none o.cg o.cl o.ck) [.o Sc (seqO (tagT ts) m0), .o C (frL P ⟨k0, ftk2 1 1 o, ftk2 1 2 o, 0, 0, 0, 0⟩ Sc (.str (stl row) (vtk2 1 1 o)) ((fr 1).n 2) none), .o ((fr 1).n 2) (seqO (dvs d (fun i => (fr 1).n (i + 3))) 7)] o.gsz o.gtk [], o.cs.map Prod.snd) := by
  cases b2 <;> kernel_rfl
end
end Zd
namespace Zd
open PySem PySem.Spec PySem.Calls PyProof.Rows PySem.W PySem.W.X
open Builtin Builtin.Str
noncomputable def c207s {prog : Program} {P : Params} {b1 b2 : Bool} (sec : List Nat) (hp : par (stl sec)) (hc : chkS (stl sec) = true) : Ctr (stQ P b1 b2) (SQ prog P b1 b2) := c207 (stl sec) true (noQ_of_par hp) hp (ascii_of_par hp) hc
section
variable (lv : Nat) (prog : Program) (P : Params) (b1 b2 : Bool) (Sc C m0 k0 : Nat) (ts : List (Int × Nat)) (sz tk : Nat)
variable (row sec : List Nat) (d2 : Nat → Nat) (rs : List (List Nat)) (H : RowA (dN ts) row sec d2 rs) (hts : ts.length ≤ 100) (fr fr2 fr3 : Nat → Fv) (X : Nat) (u : Nat → Nat) (K K2 : Ks) (rt st : Nat) (z y z2 y2 : Nat) (cg cg2 : Bool) (cl cl2 : List Value)
noncomputable def gL2 (ck : Result → Sem Fin) : Out := run (stQ P b1 b2) (SQ prog P b1 b2) (lv + 9) 300
  [.o (c245 X (dN ts) u sec H.d8 H.es) [2], .d 1, .d 1, .s 3, .d 1, .s 207, .o (c207s sec H.ps H.cs) [], .s 3, .d 1, .s 257, .o (c257 X (dN ts) u H.ph) [2], .s 3, .s 3, .d 1, .s 240, .o (c240 (stl sec) (castL d2) H.ps H.ls H.ds) [], .s 3, .d 1, .s 252, .o (c252 (stl sec) rs H.sp H.st) [], .s 264]
  fr2 (body276 C) [] (.call (code245 (.ref X)) none cg cl ck) [.o Sc (seqO (tagT ts) m0), .o C (frL P K Sc (.str (stl row) rt) X none), .o X (seqO (dvs (dN ts) u) 7)] z y []
theorem tL2 :
    let o := gL2 lv prog P b1 b2 Sc C m0 ts row sec d2 rs H fr2 X u K rt z y cg cl (gL1 lv prog P b1 b2 Sc C m0 k0 ts sz tk hts row H.er (castL (dN ts)) H.pr H.lr H.dr fr).ck
    (o.sel [0, 1, 2, 3, 4, 5, 6], o.cs.map Prod.fst) = (.at (body276 C) [] (.call (code264 (.ref ((fr2 3).n 2)) (.ref ((fr2 4).n 2))) none o.cg o.cl o.ck) ([.o Sc (seqO (tagT ts) m0), .o C (frL P { K with k3 := ftk2 1 3 o } Sc (.str (stl row) rt) X (some (.str (stl sec) (vtk2 1 3 o)))), .o X (seqO (dvs (dN ts) u) 7)] ++ newBook P (nlP (dN ts) 7) (vP (dN ts) (fun _ => 1) 7) (bP (dN ts) 7) (fr2 2) ++ [.o ((fr2 3).n 2) (seqO (dvs d2 (fun i => (fr2 3).n (i + 3))) 7), .o ((fr2 4).n 2) (dctO P (kS rs 7) ⟨Tn (fr2 4).n, vS rs (kS rs 7), Un (fr2 4).n⟩)]) o.gsz o.gtk [], o.cs.map Prod.snd) := by
  cases b2 <;> kernel_rfl
end
end Zd
namespace Zd
open PySem PySem.Spec PySem.Calls PyProof.Rows PySem.W PySem.W.X
open Builtin Builtin.Str
section
variable (lv : Nat) (prog : Program) (P : Params) (b1 b2 : Bool) (Sc C m0 k0 : Nat) (ts : List (Int × Nat)) (sz tk : Nat)
variable (row sec : List Nat) (d2 : Nat → Nat) (rs : List (List Nat)) (H : RowA (dN ts) row sec d2 rs) (hts : ts.length ≤ 100) (fr fr2 fr3 : Nat → Fv) (X : Nat) (u : Nat → Nat) (K K2 : Ks) (rt st : Nat) (z y z2 y2 : Nat) (cg cg2 : Bool) (cl cl2 : List Value)
variable (D1 T1 X2 S2 n : Nat) (V1 V2 : Vs) (B1 : Bk) (u2 : Nat → Nat) (cN sN : Nat → Nat)
noncomputable abbrev ledL3 (P : Params) (Sc C m0 X D1 T1 X2 S2 n1 n : Nat) (ts : List (Int × Nat)) (row sec : List Nat) (K : Ks) (rt st : Nat) (u u2 d2 : Nat → Nat) (V1 V2 : Vs) (B1 : Bk) : Led := [.o Sc (seqO (tagT ts) m0), .o C (frL P K Sc (.str (stl row) rt) X (some (.str (stl sec) st))), .o X (seqO (dvs (dN ts) u) 7), .o D1 (dctO P n1 V1), .o T1 (bookO B1 D1), .o X2 (seqO (dvs d2 u2) 7), .o S2 (dctO P n V2)]
noncomputable def gL3 (n1 : Nat) (hB : BookH d2 V2.v n cN sN) (ck : Result → Sem Fin) : Out := run (stQ P b1 b2) (SQ prog P b1 b2) (lv + 9) 300
  [.o (c264 X2 S2 n d2 u2 V2 cN sN hB) [5, 6]]
  fr3 (body276 C) [] (.call (code264 (.ref X2) (.ref S2)) none cg2 cl2 ck) (ledL3 P Sc C m0 X D1 T1 X2 S2 n1 n ts row sec K2 rt st u u2 d2 V1 V2 B1) z2 y2 []
end
end Zd
namespace Zd
open PySem PySem.Spec PySem.Calls PyProof.Rows PySem.W PySem.W.X
open Builtin Builtin.Str
noncomputable def if276 : PySem.Expr × List Stmt × List Stmt := ifOf ((partsOf (topStmt 24)).2.1[4]?)
noncomputable def rest276 : List Stmt := (partsOf (topStmt 24)).2.1.drop 5
noncomputable def cmpZ (a b : Value) : Sem Bool := R.bindR (ZFast.zw8004119333741010377 [a, b] (ZFast.zw12886488535604756494 .NotEq a b)) fun c => @ZFast.zw17359229931016689406 Bool [c] (ZFast.zw15245631507167962100 c)
noncomputable def ctxL (C : Nat) (m : Sem Bool) : Sem Fin :=
  R.bindR (R.onRaiseR (R.bindR (R.bindR m fun b => X.condFn (Sem Flow) b (ZFast.zw12563942051412417395 if276.2.1 (env276 C)) (ZFast.zw12563942051412417395 if276.2.2 (env276 C))) fun f => match f with
    | .next => ZFast.zw12563942051412417395 rest276 (env276 C)
    | f => .pure f) (ZFast.zw9442747609961115081 (env276 C))) fun f => match f with
    | .ret v => ZFast.zw6905046200447255374 v
    | _ => ZFast.zw6905046200447255374 .none
section
variable (lv : Nat) (prog : Program) (P : Params) (b1 b2 : Bool) (Sc C m0 k0 : Nat) (ts : List (Int × Nat)) (sz tk : Nat)
variable (row sec : List Nat) (d2 : Nat → Nat) (rs : List (List Nat)) (H : RowA (dN ts) row sec d2 rs) (hts : ts.length ≤ 100) (fr fr2 fr3 : Nat → Fv) (X : Nat) (u : Nat → Nat) (K K2 : Ks) (rt st : Nat) (z y z2 y2 : Nat) (cg cg2 : Bool) (cl cl2 : List Value)
variable (D1 X2 S2 n : Nat) (V1 V2 : Vs) (B1 : Bk) (u2 : Nat → Nat) (cN sN : Nat → Nat)
theorem tL3 (n1 : Nat) (hB : BookH d2 V2.v n cN sN) :
    let o := gL3 lv prog P b1 b2 Sc C m0 ts row sec d2 fr3 X u K2 rt st z2 y2 cg2 cl2 D1 ((fr2 2).n 3) X2 S2 n V1 V2 B1 u2 cN sN n1 hB (gL2 lv prog P b1 b2 Sc C m0 ts row sec d2 rs H fr2 X u K rt z y cg cl (gL1 lv prog P b1 b2 Sc C m0 k0 ts sz tk hts row H.er (castL (dN ts)) H.pr H.lr H.dr fr).ck).ck
    (o.sel [0, 1, 3, 4, 7, 8], o.cs.map Prod.fst) = (.at (body276 C) [] (ctxL C (cmpZ (.ref ((fr2 2).n 3)) (.ref ((fr3 0).n 3)))) ([.o Sc (seqO (tagT ts) m0), .o C (frL P K2 Sc (.str (stl row) rt) X (some (.str (stl sec) st))), .o D1 (dctO P n1 V1), .o ((fr2 2).n 3) (bookO B1 D1)] ++ newBook P n (vB V2.v n) (bB d2 V2.v cN sN n) (fr3 0)) o.gsz o.gtk [], o.cs.map Prod.snd) := by
  cases b2 <;> kernel_rfl
end
end Zd
namespace Zd
open PySem PySem.Spec PySem.Calls PyProof.Rows PySem.W PySem.W.X
open Builtin Builtin.Str
section
variable {prog : Program} {w : World} {A : Around} {E : Value → Shared → Prop} {s : Shared}
/-- «x == y» comes out as true here -/
noncomputable def Same (prog : Program) (w : World) (A : Around) (s : Shared) (x y : Value) : Prop := ∀ (E : Value → Shared → Prop) (Q : Bool → Shared → Prop), Q true s → wpAny (model prog w) A (eqBool x y) Q E s
theorem tup_ne {T1 T2 : Nat} {xs ys : List Value} {Q : Value → Shared → Prop} (hl : s.heap.get? T1 = some (tupO xs)) (hb : s.heap.get? T2 = some (tupO ys)) (hlen : xs.length = ys.length) (he : ∀ p ∈ xs.zip ys, Same prog w A.in1 s p.1 p.2) (hu : A.units < cLine) (h : Q (.bool false) s) :
    wpAny (model prog w) A (compareOp .NotEq (.ref T1) (.ref T2)) Q E s := by
  have t1 : s.TypeIs (.ref T1) "tuple" := ⟨_, hl, rfl⟩
  have t2 : s.TypeIs (.ref T2) "tuple" := ⟨_, hb, rfl⟩
  refine wpAny_richCompare_same_room (op := .NotEq) t1 t2 F.slot_tuple_ne (wpAny_call_entry F.slot_tuple_ne t1 F.entry_tuple_ne ?_ (F.args_tuple_ne_2 _ _)) hu
  have f2 := AutoSeq1.sub_tuple_tuple
  obtain ⟨hp, g, d, tk, os⟩ := s
  wp_walk using AutoSeq1.wpAny_loadPart' hl, AutoSeq1.wpAny_loadPart' hb, wpAny_forIn_list _ (fun rest b s' => b.1 = none ∧ s' = ⟨hp, g, d, tk, os⟩ ∧ ∀ p ∈ rest, p ∈ xs.zip ys) _
  case turn =>
    rintro ⟨y, x⟩ rest b s' ⟨hb', rfl, hr⟩
    refine wpAny_bind (he (y, x) (hr _ (.head _)) _ _ ?_)
    wp_walk
    exact ⟨rfl, rfl, fun p hp => hr p (.tail _ hp)⟩
  case fin =>
    rintro ⟨b1, b2⟩ s' ⟨hb', rfl, hr⟩
    simp only at hb'
    subst hb'
    wp_walk
    refine ⟨.bool false, ?_, (fun x => nomatch x), h⟩
    have e : ∀ n : Nat, Builtin.Tuple.tupleCompareSizes .NotEq n n = .bool false := fun n => by simp [Builtin.Tuple.tupleCompareSizes]
    rw [show xs.toArray.size = ys.toArray.size by simpa using hlen, e]
  case h =>
    exact ⟨rfl, rfl, fun p hp => by simpa using hp⟩
theorem same_int (a b : Int) (t u : Nat) (h : a = b) : Same prog w A s (.int a t) (.int b u) := fun E Q hq => by
  subst h
  have := SeqAt.EqAt.int_int (A := A) (s := s) a t a u
  rw [beq_self_eq_true] at this
  exact this prog w E Q hq
noncomputable def kvD (V : Vs) : Nat → Nat → List (Str × Value)
  | 0, _ => []
  | k + 1, i => (ltr i, .int (V.v i) (V.u i)) :: kvD V k (i + 1)
theorem pairs_dct (P : Params) (V : Vs) : ∀ k i, Pairs (strKind prog w) (dctE P V k i) (kvD V k i)
  | 0, _ => .nil
  | k + 1, i => .cons (beq_self_eq_true (ltr i)) rfl (pairs_dct P V k (i + 1))
theorem kv_len (V : Vs) : ∀ k i, (kvD V k i).length = k
  | 0, _ => rfl
  | k + 1, i => by rw [kvD, List.length_cons, kv_len]
theorem ltr_inj {i j : Nat} (h : ltr i = ltr j) : i = j := by
  have : (#[97 + i] : Array Nat) = #[97 + j] := Str.mk.inj h
  have : 97 + i = 97 + j := by simpa using this
  omega
theorem kv_keys (V : Vs) : ∀ k i, ∀ x ∈ (kvD V k i).map (·.1), ∃ j, i ≤ j ∧ x = ltr j
  | 0, _, x, h => by cases h
  | k + 1, i, x, h => by
    rw [kvD, List.map_cons] at h
    rcases List.mem_cons.mp h with rfl | h
    · exact ⟨i, Nat.le_refl _, rfl⟩
    · obtain ⟨j, hj, e⟩ := kv_keys V k (i + 1) x h
      exact ⟨j, by omega, e⟩
theorem kv_nd (V : Vs) : ∀ k i, ((kvD V k i).map (·.1)).Nodup
  | 0, _ => List.nodup_nil
  | k + 1, i => by
    rw [kvD, List.map_cons]
    refine List.nodup_cons.mpr ⟨fun hm => ?_, kv_nd V k (i + 1)⟩
    obtain ⟨j, hj, e⟩ := kv_keys V k (i + 1) _ hm
    have := ltr_inj e
    omega
theorem kv_at (V : Vs) : ∀ (k i j : Nat), i ≤ j → j < i + k → valueAt (kvD V k i) (ltr j) = some (.int (V.v j) (V.u j))
  | 0, i, j, h1, h2 => by omega
  | k + 1, i, j, h1, h2 => by
    by_cases h : i = j
    · subst h
      simp [valueAt, kvD]
    · have ih := kv_at V k (i + 1) j (by omega) (by omega)
      have hne : ¬ (ltr i = ltr j) := fun e => h (ltr_inj e)
      unfold valueAt at ih ⊢
      rw [kvD, List.find?_cons_of_neg (by simpa using hne)]
      exact ih
theorem kv_hits (V1 V2 : Vs) (k : Nat) (h : ∀ i, i < k → V1.v i = V2.v i) : ∀ (n i : Nat), i + n = k → KeqHits A s (kvD V2 k 0) (kvD V1 n i) true
  | 0, i, e => .nil
  | n + 1, i, e => by
    have hi : i < k := by omega
    have z := KeqHits.hit (A := A) (s := s) (kb := kvD V2 k 0) (k := ltr i) (v := .int (V1.v i) (V1.u i)) (kv_at V2 k 0 i (Nat.zero_le _) (by omega)) (SeqAt.EqAt.int_int (V1.v i) (V1.u i) (V2.v i) (V2.u i)) (kv_hits V1 V2 k h n (i + 1) (by omega))
    have hb : (V1.v i == V2.v i) = true := by rw [h i hi]; exact beq_self_eq_true _
    rw [hb] at z
    exact z
theorem same_dct {P : Params} {b1 b2 : Bool} (hS : w.params = pq P b1 b2) {D1 D2 k : Nat} {V1 V2 : Vs} (h1 : s.heap.get? D1 = some (dctO P k V1)) (h2 : s.heap.get? D2 = some (dctO P k V2)) (l1 : 277 ≤ D1) (l2 : 277 ≤ D2) (hne : D1 ≠ D2) (hv : ∀ i, i < k → V1.v i = V2.v i) (hu : A.units < cLine) :
    Same prog w A s (.ref D1) (.ref D2) := fun E Q hq => by
  have a1 : (D1 == sysModules) = false := beq_eq_false_iff_ne.mpr (fun e => absurd l1 (by rw [e]; decide))
  have a2 : (D2 == sysModules) = false := beq_eq_false_iff_ne.mpr (fun e => absurd l2 (by rw [e]; decide))
  have d1 : s.heap.DictOf (strKind prog w) D1 (kvD V1 k 0) := ⟨_, (dctE P V1 k 0).toArray, k, h1, ⟨rfl, rfl, rfl⟩, rfl, (keysP_dct P V1 k 0).of hS, by simpa using pairs_dct P V1 k 0, kv_nd V1 k 0⟩
  have d2 : s.heap.DictOf (strKind prog w) D2 (kvD V2 k 0) := ⟨_, (dctE P V2 k 0).toArray, k, h2, ⟨rfl, rfl, rfl⟩, rfl, (keysP_dct P V2 k 0).of hS, by simpa using pairs_dct P V2 k 0, kv_nd V2 k 0⟩
  unfold eqBool
  refine wpAny_holding ?_
  refine wpAny_ite_split (fun hab => absurd (by have := eq_of_beq hab; injection this) hne) (fun _ => ?_)
  refine wpAny_bind ?_
  refine keq_eq (r := true) a1 a2 d1 d2 hu (fun _ => kv_hits V1 V2 k hv k 0 (by omega)) ?_
  rw [kv_len, kv_len, beq_self_eq_true]
  exact wpAny_truthy_bool hq
end
end Zd
namespace Zd
open PySem PySem.Spec PySem.Calls PyProof.Rows PySem.W PySem.W.X
open Builtin Builtin.Str
section
variable {M : Model} {prog : Program} {w : World} {A : Around} {Q : PySem.Fin → Shared → Prop} {E : Value → Shared → Prop} {s : Shared}
theorem ctx_step {C : Nat} {m : Sem Bool} (h : wpAny M A m (fun b s' => wpAny M A (ctxL C (.pure b)) Q E s') (fun _ _ => False) s) : wpAny M A (ctxL C m) Q E s := by
  intro Γ p hΓ
  have h1 := h Γ p hΓ
  unfold ctxL at h1 ⊢
  rw [← R.bindR_eq, ← R.onRaiseR_eq, Sem.wp_bind, Sem.wp_onRaise, Sem.wp_bind, Sem.wp_bind]
  refine Sem.wp_mono M Γ m (fun b p' s' h' => ?_) (fun _ _ _ h' => h'.elim) p s h1
  have h2 := h' Γ p' hΓ
  rw [← R.bindR_eq, ← R.onRaiseR_eq, Sem.wp_bind, Sem.wp_onRaise, Sem.wp_bind, Sem.wp_bind] at h2
  exact h2
theorem cmp_eq (a b : Value) : cmpZ a b = (operate [a, b] (compareOp .NotEq a b) >>= fun c => holding [c] (truthy c)) := by
  unfold cmpZ
  rw [← ZFast.ze8004119333741010377, ← ZFast.ze12886488535604756494, ← ZFast.ze17359229931016689406, ← ZFast.ze15245631507167962100, ← R.bindR_eq]
  rfl
end
end Zd
namespace Zd
open PySem PySem.Spec PySem.Calls PyProof.Rows PySem.W PySem.W.X
open Builtin Builtin.Str
structure LawH (d : Nat → Nat) (row sec : List Nat) (d2 : Nat → Nat) (rs : List (List Nat)) (cN sN : Nat → Nat) : Prop where
  a : RowA d row sec d2 rs
  b : BookH d2 (vS rs (kS rs 7)) (kS rs 7) cN sN
  n : nlP d 7 = kS rs 7
  v : ∀ i, i < kS rs 7 → vP d (fun _ => 1) 7 i = vB (vS rs (kS rs 7)) (kS rs 7) i
  s : ∀ i, i < 4 → bP d 7 i = bB d2 (vS rs (kS rs 7)) cN sN (kS rs 7) i
  k : backF rs 9 0 = some row
  l : (rs.map List.length).sum ≤ 1000
section
variable {prog : Program} {P : Params} {b1 b2 : Bool}
noncomputable def c269 (L : Nat) (l : List (List Nat × Nat)) (z : List Nat) (hz : backF (l.map (·.1)) 9 0 = some z) (hz2 : z.length ≤ 1000) (hb : l.length ≤ 1000) (hsum : (l.map fun p => p.1.length).sum ≤ 1000) : Ctr (stQ P b1 b2) (SQ prog P b1 b2) :=
  ctrDef 269 (fun | [.ref a, .int i t] => some (inst269 L l z [(.a a, .a L), (.i i, .i ((0 : Nat) : Int))]) | _ => none) fun args i hi hcs => by
    split at hi
    · cases hi
      obtain ⟨e, hcs⟩ := okA hcs
      obtain ⟨e2, _⟩ := okI hcs
      subst e e2
      exact ⟨fun _ _ _ => rfl, triple269 _ _ _ _ _ hz hz2 hb hsum _⟩
    · cases hi
end
section
variable {prog : Program} {P : Params} {b1 b2 : Bool} {w : World} {A : Around} {W : List (Bool × Nat)} {s₀ s : Shared} {F : Post} {sz tk : Nat}
theorem means_cmp (hS : w.params = pq P b1 b2) (hA : Room 1 A) {C D1 D2 T1 T2 n : Nat} {V1 V2 : Vs} {B1 B2 : Bk} (D : Rep (stQ P b1 b2) W s₀ [.o D1 (dctO P n V1), .o T1 (bookO B1 D1), .o D2 (dctO P n V2), .o T2 (bookO B2 D2)] sz tk s)
    (hv : ∀ i, i < n → V1.v i = V2.v i) (hb : ∀ i, i < 4 → B1.v i = B2.v i) (h : Means (model prog w) A F (body276 C) [] (ctxL C (.pure false)) s) : Means (model prog w) A F (body276 C) [] (ctxL C (cmpZ (.ref T1) (.ref T2))) s := by
  have hd1 : s.heap.get? D1 = some (dctO P n V1) := D.cells _ (.head _)
  have ht1 : s.heap.get? T1 = some (bookO B1 D1) := D.cells _ (.tail _ (.head _))
  have hd2 : s.heap.get? D2 = some (dctO P n V2) := D.cells _ (.tail _ (.tail _ (.head _)))
  have ht2 : s.heap.get? T2 = some (bookO B2 D2) := D.cells _ (.tail _ (.tail _ (.tail _ (.head _))))
  have l1 : 277 ≤ D1 := D.low _ (.head _)
  have l2 : 277 ≤ D2 := D.low _ (.tail _ (.tail _ (.head _)))
  have hne : D1 ≠ D2 := fun e => by
    have nd := (List.nodup_cons.mp D.nd).1
    exact nd (by rw [e]; exact .tail _ (.head _))
  have hwu : (body276 C).cUnits ≤ 20 := Nat.le_of_ble_eq_true (by kernel_rfl)
  have hu : ((A.under (body276 C))).units + 300 < cLine := by
    have := hA.2.2
    show A.units + (body276 C).cUnits + 300 < 9900
    omega
  have hu1 : ((A.under (body276 C)).in1).units < cLine := by
    show (A.under (body276 C)).units + 1 < cLine
    omega
  unfold Means
  refine ctx_step ?_
  rw [cmp_eq]
  refine wpAny_bind (wpAny_operating (tup_ne ht1 ht2 rfl (fun p hp => ?_) (show (A.under (body276 C)).units < cLine by omega) ?_))
  · simp only [List.zip_cons_cons, List.zip_nil_right, List.mem_cons, List.not_mem_nil, or_false] at hp
    rcases hp with rfl | rfl | rfl | rfl | rfl
    · exact same_int _ _ _ _ (hb 0 (by decide))
    · exact same_int _ _ _ _ (hb 1 (by decide))
    · exact same_int _ _ _ _ (hb 2 (by decide))
    · exact same_int _ _ _ _ (hb 3 (by decide))
    · exact same_dct hS hd1 hd2 l1 l2 hne hv hu1
  · refine wpAny_holding ?_
    exact wpAny_truthy_bool h
end
section
variable (lv : Nat) (prog : Program) (P : Params) (b1 b2 : Bool) (Sc C m0 X : Nat) (ts : List (Int × Nat)) (row sec : List Nat) (rs : List (List Nat)) (K : Ks) (rt st : Nat) (z y : Nat)
theorem numb_sum (t : Nat) (rs : List (List Nat)) : ((numb t rs).map fun p => p.1.length) = rs.map List.length := by
  have e : (fun p : List Nat × Nat => p.1.length) = List.length ∘ (fun p : List Nat × Nat => p.1) := rfl
  rw [e, ← List.map_map, numb_fst]
noncomputable def c269n {prog : Program} {P : Params} {b1 b2 : Bool} (L t : Nat) (rs : List (List Nat)) (z : List Nat) (hz : backF rs 9 0 = some z) (hz2 : z.length ≤ 1000) (hb : rs.length ≤ 1000) (hsum : (rs.map List.length).sum ≤ 1000) : Ctr (stQ P b1 b2) (SQ prog P b1 b2) :=
  c269 L (numb t rs) z (by rw [numb_fst]; exact hz) hz2 (by rw [numb_len]; exact hb) (by rw [numb_sum]; exact hsum)
theorem tL5 (hs : SplitH (stl sec) rs) (hz : backF rs 9 0 = some row) (hz2 : row.length ≤ 1000) (hb : rs.length ≤ 1000) (hsum : (rs.map List.length).sum ≤ 1000) (he : ((stl row).cps.toList == (stl row).cps.toList) = true) (fr : Nat → Fv) :
    let o := run (stQ P b1 b2) (SQ prog P b1 b2) (lv + 9) 300 [.s 3, .d 1, .o (cSplit (stl sec) rs hs) [], .s 269, .o (c269n z (y + 1) rs row hz hz2 hb hsum) [2], .d 1, .o (cStrEq (stl row) (stl row) true he) []] fr (body276 C) [] (ctxL C (.pure false)) [.o Sc (seqO (tagT ts) m0), .o C (frL P K Sc (.str (stl row) rt) X (some (.str (stl sec) st)))] z y []
    (o.sel [0], o.cs.map Prod.fst) = (.ret (.ok (.ret (.bool true))) [.o Sc (seqO (tagT ts) m0)] o.gsz o.gtk [], o.cs.map Prod.snd) := by
  cases b2 <;> kernel_rfl
end
end Zd
namespace Zd
open PySem PySem.Spec PySem.Calls PyProof.Rows PySem.W PySem.W.X
open Builtin Builtin.Str
section
variable {prog : Program} {P : Params} {b1 b2 : Bool}
theorem code276_ok (Sc m0 : Nat) (ts : List (Int × Nat)) (hts : ts.length ≤ 100) {row sec : List Nat} {d2 : Nat → Nat} {rs : List (List Nat)} {cN sN : Nat → Nat} (H : LawH (dN ts) row sec d2 rs cN sN) {w : World} (hS : w.params = pq P b1 b2) {A : Around} {s : Shared} {sz tk : Nat} (hAT : Room 10 A)
    (hst : Stat (stQ P b1 b2) s) (hh : s.heap.get? Sc = some (seqO (tagT ts) m0)) (hlow : N0 ≤ Sc) (hb : N0 ≤ sz) (hsz : s.heap.objs.size = sz) (htk : s.toks = tk) {R : Result → Shared → Prop}
    (fin0 : ∀ s', s'.heap.get? Sc = some (seqO (tagT ts) m0) → Kept [(true, Sc)] s s' → R (.ok (.ret (.bool true))) s') : codeAny (model prog w) A (code276 (.ref Sc)) R s := by
  have D0 := rep_start (led := [.o Sc (seqO (tagT ts) m0)]) hst (fun x hx => by
    rw [List.mem_singleton] at hx
    subst hx
    exact hh) (List.nodup_cons.mpr ⟨fun h => (nomatch h), List.nodup_nil⟩) (fun x hx => by
    rw [List.mem_singleton] at hx
    subst hx
    exact hlow) hb hsz htk
  refine def_call (lv := 10) (call276 10 prog P b1 b2 (.ref Sc) sz tk) hS hAT rfl rfl rfl (Rep.start (led := []) D0) fun s1 D1' => ?_
  have D1 := (Rep.frame (led := []) D0 D1').perm (led' := [.o Sc (seqO (tagT ts) m0), .o sz (frm [ent P "script" tk (.ref Sc)])]) (List.perm_append_comm (l₁ := [_]))
  have fin : ∀ sz' tk' s', Rep (stQ P b1 b2) (([.o Sc (seqO (tagT ts) m0)] : Led).map Cell.key) s [.o Sc (seqO (tagT ts) m0)] sz' tk' s' → R (.ok (.ret (.bool true))) s' := fun sz' tk' s' D9 =>
    fin0 s' (D9.cells _ (.head _)) D9.kept
  refine code_of_wp (S := SQ prog P b1 b2) ?_
  refine run_to (S := SQ prog P b1 b2) (laws_none (S := SQ prog P b1 b2) (lv := 10) (finP (model prog w) A R, fun e s' => R (.error e) s') hS hAT) hS _ _ [0, 1, 2]
    (tL1 1 prog P b1 b2 Sc sz m0 tk ts (sz + 1) (tk + 1) hts row H.a.er (dN ts) H.a.pr H.a.lr H.a.dr) rfl (fun fr => ⟨fun _ h => (nomatch h), fun s2 D2 => ?_⟩) D1
  refine run_to (S := SQ prog P b1 b2) (laws_none (S := SQ prog P b1 b2) (lv := 10) (finP (model prog w) A R, fun e s' => R (.error e) s') hS hAT) hS _ _ [0, 1, 2, 3, 4, 5, 6]
    (tL2 1 prog P b1 b2 Sc sz m0 tk ts (sz + 1) (tk + 1) row sec d2 rs H.a hts fr · _ _ _ _ _ _ _ _) rfl (fun fr2 => ⟨fun _ h => (nomatch h), fun s3 D3 => ?_⟩) D2
  refine run_to (S := SQ prog P b1 b2) (laws_none (S := SQ prog P b1 b2) (lv := 10) (finP (model prog w) A R, fun e s' => R (.error e) s') hS hAT) hS _ _ [0, 1, 3, 4, 7, 8]
    (tL3 1 prog P b1 b2 Sc sz m0 tk ts (sz + 1) (tk + 1) row sec d2 rs H.a hts fr fr2 · _ _ _ _ _ _ _ _ _ _ _ _ _ _ ((fr2 2).n 2) ((fr2 3).n 2) ((fr2 4).n 2) (kS rs 7) ⟨Tn (fun i => (fr2 2).n (i + 8)), vP (dN ts) (fun _ => 1) 7, Un (fun i => (fr2 2).n (i + 8))⟩ ⟨Tn (fr2 4).n, vS rs (kS rs 7), Un (fr2 4).n⟩ ⟨bP (dN ts) 7, fun i => (fr2 2).n (i + 4)⟩ (fun i => (fr2 3).n (i + 3)) cN sN (nlP (dN ts) 7) H.b) rfl (fun fr3 => ⟨fun _ h => (nomatch h), fun s4 D4 => ?_⟩) D3
  have hA1 : Room 1 A := room_le hAT (by decide)
  rw [H.n] at D4
  refine means_cmp (n := kS rs 7) (D1 := (fr2 2).n 2) (D2 := (fr3 0).n 2) hS hA1 (D4.pick0 (led' := [_, _, _, _]) [2, 3, 4, 5] rfl) (fun i hi => H.v i hi) (fun i hi => H.s i hi) ?_
  have D5 := D4.pick0 (led' := [_, _]) [0, 1] rfl
  have hrow : row.length ≤ 1000 := by
    have := H.a.lr
    rw [stl_len] at this
    omega
  refine run_to (S := SQ prog P b1 b2) (laws_none (S := SQ prog P b1 b2) (lv := 10) (finP (model prog w) A R, fun e s' => R (.error e) s') hS hAT) hS _ _ [0]
    (tL5 1 prog P b1 b2 Sc sz m0 _ ts row sec rs _ _ _ _ _ H.a.sp H.k hrow H.a.st.all H.l (beq_self_eq_true _)) rfl (fun fr4 => ⟨fun _ h => (nomatch h), fun s6 D6 c' => wpAny_pure (fin _ _ _ D6)⟩) D5
end
end Zd
namespace Zd
open PySem PySem.Spec PySem.Calls PyProof.Rows PySem.W PySem.W.X
open Builtin Builtin.Str PySem.StrLaws
noncomputable def cut41 : List Nat → List Nat → List (List Nat)
  | [], a => [a]
  | c :: l, a => match Nat.beq c 41 with | true => a :: cut41 l [] | false => cut41 l (a ++ [c])
/-- the places of the closing signs -/
noncomputable def posL : List Nat → Nat → List Nat
  | [], _ => []
  | c :: l, i => match Nat.beq c 41 with | true => i :: posL l (i + 1) | false => posL l (i + 1)
theorem sub_at (l : List Nat) (i : Nat) (h : i < l.length) : subAt (stl l) ")" i = Nat.beq l[i] 41 := by
  have e : (stl l).cps.extract i (i + 1) = #[l[i]] := by
    apply Array.ext'
    show ((l.toArray).extract i (i + 1)).toList = [l[i]]
    rw [Array.toList_extract]
    show (l.drop i).take (i + 1 - i) = _
    rw [Nat.add_sub_cancel_left, List.drop_eq_getElem_cons h]
    rfl
  unfold subAt
  show ((stl l).cps.extract i (i + 1) == #[41]) = _
  rw [e, Bool.eq_iff_iff, Nat.beq_eq, beq_iff_eq]
  constructor
  · intro h
    injection h with h
    injection h
  · intro h
    rw [h]
theorem occ_pos (l : List Nat) : ∀ (m i : Nat) (found : Array Nat) (free : Nat), i + m = l.length + 1 → found.size ≤ i → free ≤ i →
    (forIn (List.range' i m) (found, free) (occBody (stl l) ")" l.length (l.length + 1))).run.fst.toList = found.toList ++ posL (l.drop i) i
  | 0, i, found, free, hm, hf, hfr => by
    have : l.drop i = [] := List.drop_eq_nil_of_le (by omega)
    rw [this]
    show found.toList = found.toList ++ []
    rw [List.append_nil]
  | m + 1, i, found, free, hm, hf, hfr => by
    rw [List.range'_succ, List.forIn_cons]
    unfold occBody
    by_cases hi : i < l.length
    · rw [List.drop_eq_getElem_cons hi]
      unfold posL
      cases hb : Nat.beq l[i] 41 with
      | true =>
        have hc : ((found.size < l.length + 1 ∧ free ≤ i) ∧ i + (")" : Str).length ≤ l.length) ∧ subAt (stl l) ")" i = true := ⟨⟨⟨by omega, hfr⟩, hi⟩, by rw [sub_at l i hi]; exact hb⟩
        rw [if_pos hc]
        have := occ_pos l m (i + 1) (found.push i) (i + 1) (by omega) (by rw [Array.size_push]; omega) (Nat.le_refl _)
        rw [Array.toList_push, List.append_assoc] at this
        exact this
      | false =>
        have hc : ¬ (((found.size < l.length + 1 ∧ free ≤ i) ∧ i + (")" : Str).length ≤ l.length) ∧ subAt (stl l) ")" i = true) := fun h => by
          have h2 := h.2
          rw [sub_at l i hi, hb] at h2
          cases h2
        rw [if_neg hc]
        exact occ_pos l m (i + 1) found free (by omega) (by omega) (by omega)
    · have hc : ¬ (((found.size < l.length + 1 ∧ free ≤ i) ∧ i + (")" : Str).length ≤ l.length) ∧ subAt (stl l) ")" i = true) := fun h => by
        have h2 : i + 1 ≤ l.length := h.1.2
        omega
      rw [if_neg hc]
      have e1 : l.drop i = [] := List.drop_eq_nil_of_le (by omega)
      have e2 : l.drop (i + 1) = [] := List.drop_eq_nil_of_le (by omega)
      have := occ_pos l m (i + 1) found free (by omega) (by omega) (by omega)
      rw [e2] at this
      rw [e1]
      exact this
theorem occ_stl (l : List Nat) : occurrences (stl l) ")" 0 (stl l).length ((stl l).length + 1) = posL l 0 := by
  rw [occ_eq, stl_len]
  exact occ_pos l (l.length + 1) 0 #[] 0 (by omega) (Nat.le_refl _) (Nat.le_refl _)
theorem parts_cut (L : List Nat) : ∀ (l : List Nat) (i a : Nat), L.drop i = l → a ≤ i → i ≤ L.length →
    ((a :: (posL l i).map (· + 1)).zip (posL l i ++ [L.length])).map (fun p => (L.drop p.1).take (p.2 - p.1)) = cut41 l ((L.drop a).take (i - a))
  | [], i, a, hd, ha, hi => by
    have h : L.length ≤ i := List.drop_eq_nil_iff.mp hd
    obtain rfl : i = L.length := by omega
    rfl
  | c :: l, i, a, hd, ha, hi => by
    have hlt : i < L.length := by
      have := congrArg List.length hd
      rw [List.length_drop, List.length_cons] at this
      omega
    have hd2 := hd
    rw [List.drop_eq_getElem_cons hlt] at hd2
    injection hd2 with hc hl
    unfold posL cut41
    cases hb : Nat.beq c 41 with
    | true =>
      have := parts_cut L l (i + 1) (i + 1) hl (Nat.le_refl _) hlt
      rw [Nat.sub_self, List.take_zero] at this
      show (L.drop a).take (i - a) :: ((((i + 1) :: (posL l (i + 1)).map (· + 1)).zip (posL l (i + 1) ++ [L.length])).map (fun p => (L.drop p.1).take (p.2 - p.1))) = _ :: cut41 l []
      rw [this]
    | false =>
      have := parts_cut L l (i + 1) a hl (by omega) hlt
      have e : (L.drop a).take (i + 1 - a) = (L.drop a).take (i - a) ++ [c] := by
        have e1 : i + 1 - a = (i - a) + 1 := by omega
        have e2 : (L.drop a)[i - a]? = some c := by
          rw [List.getElem?_drop, show a + (i - a) = i by omega, List.getElem?_eq_getElem hlt, hc]
        rw [e1, List.take_add_one, e2]
        rfl
      rw [e] at this
      exact this
theorem split_cut {l : List Nat} (hp : par (stl l)) (h41 : (posL l 0).isEmpty = false) (hl : l.length ≤ 900) (hn : (cut41 l []).length ≤ 1000) : SplitH (stl l) (cut41 l []) where
  h1 := by
    have h0 : 0 < l.length := by
      cases l with
      | nil => cases h41
      | cons c l => exact Nat.succ_pos _
    have k1 : Builtin.Str.strKind (stl l) = 1 := by
      unfold Builtin.Str.strKind
      rw [if_pos]
      rw [Array.all_eq_true']
      intro c hc
      have hc' : c ∈ (stl l).cps.toList := Array.mem_def.mp hc
      rcases hp c hc' with rfl | rfl <;> decide
    have e1 : decide ((stl l).length < (")" : Str).length) = false := decide_eq_false (by
      rw [stl_len]
      show ¬ l.length < 1
      omega)
    have e2 : decide (Builtin.Str.strKind (stl l) < Builtin.Str.strKind ")") = false := decide_eq_false (by
      rw [k1]
      show ¬ 1 < Builtin.Str.strKind ")"
      decide +kernel)
    rw [e1, e2]; rfl
  hf := by rw [occ_stl]; exact h41
  hp := by
    rw [occ_stl]
    have := parts_cut l l 0 0 rfl (Nat.le_refl _) (Nat.zero_le _)
    rw [Nat.sub_self, List.take_zero] at this
    unfold partsBetween
    rw [← this, List.map_map, stl_len]
    refine List.map_congr_left fun p hp => ?_
    show strSub (stl l) p.1 p.2 = stl ((l.drop p.1).take (p.2 - p.1))
    rw [strSub_mk]
    rfl
  hl := by rw [stl_len]; omega
  hn := hn
end Zd
namespace Zd
open PySem PySem.Spec PySem.Calls PyProof.Rows PySem.W PySem.W.X
open Builtin Builtin.Str
noncomputable def atL (l : List Nat) (k : Nat) : Nat := l.getD k 0
noncomputable def parB (l : List Nat) : Bool := l.all fun c => Nat.beq c 40 || Nat.beq c 41
noncomputable def stepsB (R : List (List Nat)) : Bool := decide ((∀ i : Nat, i < 7 → comeS R i < 7 → comeS R i + 1 ≤ R.length) ∧ (∀ i : Nat, i < 7 → comeS R i < 7 → kS R i = i) ∧ (∀ i : Nat, i < 8 → kS R i < 8) ∧ (∀ i : Nat, i < 7 → sumTo (vS R (kS R i)) (kS R i) = (comeS R i : Nat)) ∧ (∀ c : Nat, c < 8 → aheadS R c ≤ 1000) ∧ R.length ≤ 1000)
theorem stepsB_ok {R : List (List Nat)} (h : stepsB R = true) : StepsH R :=
  have ⟨a, b, c, d, e, f⟩ := of_decide_eq_true h
  ⟨a, b, c, d, e, f⟩
/-- let1 by Nat.beq -/
noncomputable def let1F (i0 : Nat) : List (Nat × Nat) → List Nat
  | [] => []
  | p :: l => match Nat.beq (p.1 % 8) i0 with | true => (40 + p.2) :: let1F i0 l | false => let1F i0 l
theorem let1F_eq (i0 : Nat) : ∀ l : List (Nat × Nat), let1 i0 l = let1F i0 l
  | [] => rfl
  | p :: l => by
    have ih := let1F_eq i0 l
    unfold let1 at ih ⊢
    unfold let1F
    cases h : Nat.beq (p.1 % 8) i0 with
    | true =>
      rw [Nat.beq_eq] at h
      rw [List.filter_cons_of_pos (by rw [beq_iff_eq]; exact h), List.map_cons, ih]
    | false =>
      have h2 : ¬ (p.1 % 8 == i0) = true := fun e => by
        rw [beq_iff_eq, ← Nat.beq_eq, h] at e
        cases e
      rw [List.filter_cons_of_neg (p := fun p : Nat × Nat => p.1 % 8 == i0) h2, ih]
noncomputable def letsF (ps : List (Nat × Nat)) : Nat → List Nat
  | 0 => []
  | j + 1 => letsF ps j ++ let1F j ps
theorem letsF_eq (ps : List (Nat × Nat)) : ∀ j, lets ps j = letsF ps j
  | 0 => rfl
  | j + 1 => by
    unfold lets letsF
    rw [letsF_eq ps j, let1F_eq]
noncomputable def secF (l : List Nat) : List Nat := letsF (hpat (atL l) 7) 8
theorem secF_eq (l : List Nat) : secL (atL l) = secF l := letsF_eq _ _
noncomputable def bookB (d : Nat → Nat) (v : Nat → Int) (n : Nat) (cN sN : Nat → Nat) : Bool := decide ((∀ i : Nat, i < n → v i = (sN i : Nat)) ∧ (∀ i : Nat, i < n → sumTo (vB v i) i = (cN i : Nat)) ∧ (∀ i : Nat, i < n → cN i + sN i ≤ 7) ∧ n < 8 ∧ 0 < n ∧ (∀ k : Nat, k < 7 → d k ≤ 1000))
theorem bookB_ok {d : Nat → Nat} {v : Nat → Int} {n : Nat} {cN sN : Nat → Nat} (h : bookB d v n cN sN = true) : BookH d v n cN sN :=
  have ⟨a, b, c, e, f, g⟩ := of_decide_eq_true h
  ⟨a, b, c, e, f, g⟩
noncomputable def pairsB (d : Nat → Nat) : Bool := decide ((∀ k : Nat, k < 7 → d k < 7) ∧ (∀ k : Nat, k < 7 → d k ≤ nlP d k) ∧ (∀ k : Nat, k < 8 → nlP d k < 8))
theorem pairsB_ok {d : Nat → Nat} (h : pairsB d = true) : PairsH d :=
  have ⟨a, b, c⟩ := of_decide_eq_true h
  ⟨a, b, fun k h => c k (by omega)⟩
noncomputable def rowL (l : List Nat) : List Nat := rowGo (dl (atL l)) [] 0
noncomputable def dsL (sec : List Nat) : List Nat := (dlx (stl sec).cps.toList 14 0 (-1)).map Int.toNat
noncomputable def vL (rs : List (List Nat)) : Nat → Int := vS rs (kS rs 7)
noncomputable def cL (rs : List (List Nat)) (i : Nat) : Nat := (sumTo (vB (vL rs) i) i).toNat
noncomputable def sL (rs : List (List Nat)) (i : Nat) : Nat := (vL rs i).toNat
/-- the law's terms, the row and its second one computed -/
noncomputable def okL1 (l row sec d2 : List Nat) (rs : List (List Nat)) : Bool :=
  parB row && decide (row.length = 14) && decide (dlx (stl row).cps.toList 14 0 (-1) = castL (atL l)) && decide (∀ k : Nat, k < 7 → atL l k + 1 < 8) && pairsB (atL l) &&
  parB sec && decide (sec.length = 14) && chkS (stl sec) && decide (dlx (stl sec).cps.toList 14 0 (-1) = castL (atL d2)) && (posL sec 0).isEmpty.not && Nat.ble rs.length 1000 && stepsB rs
noncomputable def okL2 (l row d2 : List Nat) (rs : List (List Nat)) : Bool :=
  bookB (atL d2) (vS rs (kS rs 7)) (kS rs 7) (cL rs) (sL rs) && decide (nlP (atL l) 7 = kS rs 7) && decide (∀ i, i < kS rs 7 → vP (atL l) (fun _ => 1) 7 i = vB (vS rs (kS rs 7)) (kS rs 7) i) &&
  decide (∀ i : Nat, i < 4 → bP (atL l) 7 i = bB (atL d2) (vS rs (kS rs 7)) (cL rs) (sL rs) (kS rs 7) i) && decide (backF rs 9 0 = some row) && decide ((rs.map List.length).sum ≤ 1000)
noncomputable def okL (l : List Nat) : Bool :=
  okL1 l (rowL l) (secF l) (dsL (secF l)) (cut41 (secF l) []) && okL2 l (rowL l) (dsL (secF l)) (cut41 (secF l) [])
noncomputable def okAll : Nat → Nat → List Nat → Bool
  | 0, _, acc => okL acc
  | n + 1, d, acc => (List.range (d + 2)).all fun e => okAll n e (acc ++ [e])
end Zd
namespace Zd
theorem ok00000 : okAll 2 0 [0, 0, 0, 0, 0] = true := by decide +kernel
theorem ok00001 : okAll 2 1 [0, 0, 0, 0, 1] = true := by decide +kernel
theorem ok00010 : okAll 2 0 [0, 0, 0, 1, 0] = true := by decide +kernel
theorem ok00011 : okAll 2 1 [0, 0, 0, 1, 1] = true := by decide +kernel
theorem ok00012 : okAll 2 2 [0, 0, 0, 1, 2] = true := by decide +kernel
theorem ok00100 : okAll 2 0 [0, 0, 1, 0, 0] = true := by decide +kernel
theorem ok00101 : okAll 2 1 [0, 0, 1, 0, 1] = true := by decide +kernel
theorem ok00110 : okAll 2 0 [0, 0, 1, 1, 0] = true := by decide +kernel
theorem ok00111 : okAll 2 1 [0, 0, 1, 1, 1] = true := by decide +kernel
theorem ok00112 : okAll 2 2 [0, 0, 1, 1, 2] = true := by decide +kernel
theorem ok00120 : okAll 2 0 [0, 0, 1, 2, 0] = true := by decide +kernel
theorem ok00121 : okAll 2 1 [0, 0, 1, 2, 1] = true := by decide +kernel
theorem ok00122 : okAll 2 2 [0, 0, 1, 2, 2] = true := by decide +kernel
theorem ok00123 : okAll 2 3 [0, 0, 1, 2, 3] = true := by decide +kernel
theorem ok01000 : okAll 2 0 [0, 1, 0, 0, 0] = true := by decide +kernel
theorem ok01001 : okAll 2 1 [0, 1, 0, 0, 1] = true := by decide +kernel
theorem ok01010 : okAll 2 0 [0, 1, 0, 1, 0] = true := by decide +kernel
theorem ok01011 : okAll 2 1 [0, 1, 0, 1, 1] = true := by decide +kernel
theorem ok01012 : okAll 2 2 [0, 1, 0, 1, 2] = true := by decide +kernel
theorem ok01100 : okAll 2 0 [0, 1, 1, 0, 0] = true := by decide +kernel
theorem ok01101 : okAll 2 1 [0, 1, 1, 0, 1] = true := by decide +kernel
theorem ok01110 : okAll 2 0 [0, 1, 1, 1, 0] = true := by decide +kernel
theorem ok01111 : okAll 2 1 [0, 1, 1, 1, 1] = true := by decide +kernel
theorem ok01112 : okAll 2 2 [0, 1, 1, 1, 2] = true := by decide +kernel
theorem ok01120 : okAll 2 0 [0, 1, 1, 2, 0] = true := by decide +kernel
theorem ok01121 : okAll 2 1 [0, 1, 1, 2, 1] = true := by decide +kernel
theorem ok01122 : okAll 2 2 [0, 1, 1, 2, 2] = true := by decide +kernel
theorem ok01123 : okAll 2 3 [0, 1, 1, 2, 3] = true := by decide +kernel
theorem ok01200 : okAll 2 0 [0, 1, 2, 0, 0] = true := by decide +kernel
theorem ok01201 : okAll 2 1 [0, 1, 2, 0, 1] = true := by decide +kernel
theorem ok01210 : okAll 2 0 [0, 1, 2, 1, 0] = true := by decide +kernel
theorem ok01211 : okAll 2 1 [0, 1, 2, 1, 1] = true := by decide +kernel
theorem ok01212 : okAll 2 2 [0, 1, 2, 1, 2] = true := by decide +kernel
theorem ok01220 : okAll 2 0 [0, 1, 2, 2, 0] = true := by decide +kernel
theorem ok01221 : okAll 2 1 [0, 1, 2, 2, 1] = true := by decide +kernel
theorem ok01222 : okAll 2 2 [0, 1, 2, 2, 2] = true := by decide +kernel
theorem ok01223 : okAll 2 3 [0, 1, 2, 2, 3] = true := by decide +kernel
theorem ok01230 : okAll 2 0 [0, 1, 2, 3, 0] = true := by decide +kernel
theorem ok01231 : okAll 2 1 [0, 1, 2, 3, 1] = true := by decide +kernel
theorem ok01232 : okAll 2 2 [0, 1, 2, 3, 2] = true := by decide +kernel
theorem ok01233 : okAll 2 3 [0, 1, 2, 3, 3] = true := by decide +kernel
theorem ok01234 : okAll 2 4 [0, 1, 2, 3, 4] = true := by decide +kernel
theorem ok_mk {n d : Nat} {acc : List Nat} (h : ∀ e, e ≤ d + 1 → okAll n e (acc ++ [e]) = true) : okAll (n + 1) d acc = true :=
  List.all_eq_true.mpr fun e he => h e (by have := List.mem_range.mp he; omega)
theorem ok0000 : okAll 3 0 [0, 0, 0, 0] = true := ok_mk fun e he => match e, he with
  | 0, _ => ok00000
  | 1, _ => ok00001
  | e + 2, h => absurd h (by omega)
theorem ok0001 : okAll 3 1 [0, 0, 0, 1] = true := ok_mk fun e he => match e, he with
  | 0, _ => ok00010
  | 1, _ => ok00011
  | 2, _ => ok00012
  | e + 3, h => absurd h (by omega)
theorem ok0010 : okAll 3 0 [0, 0, 1, 0] = true := ok_mk fun e he => match e, he with
  | 0, _ => ok00100
  | 1, _ => ok00101
  | e + 2, h => absurd h (by omega)
theorem ok0011 : okAll 3 1 [0, 0, 1, 1] = true := ok_mk fun e he => match e, he with
  | 0, _ => ok00110
  | 1, _ => ok00111
  | 2, _ => ok00112
  | e + 3, h => absurd h (by omega)
theorem ok0012 : okAll 3 2 [0, 0, 1, 2] = true := ok_mk fun e he => match e, he with
  | 0, _ => ok00120
  | 1, _ => ok00121
  | 2, _ => ok00122
  | 3, _ => ok00123
  | e + 4, h => absurd h (by omega)
theorem ok0100 : okAll 3 0 [0, 1, 0, 0] = true := ok_mk fun e he => match e, he with
  | 0, _ => ok01000
  | 1, _ => ok01001
  | e + 2, h => absurd h (by omega)
theorem ok0101 : okAll 3 1 [0, 1, 0, 1] = true := ok_mk fun e he => match e, he with
  | 0, _ => ok01010
  | 1, _ => ok01011
  | 2, _ => ok01012
  | e + 3, h => absurd h (by omega)
theorem ok0110 : okAll 3 0 [0, 1, 1, 0] = true := ok_mk fun e he => match e, he with
  | 0, _ => ok01100
  | 1, _ => ok01101
  | e + 2, h => absurd h (by omega)
theorem ok0111 : okAll 3 1 [0, 1, 1, 1] = true := ok_mk fun e he => match e, he with
  | 0, _ => ok01110
  | 1, _ => ok01111
  | 2, _ => ok01112
  | e + 3, h => absurd h (by omega)
theorem ok0112 : okAll 3 2 [0, 1, 1, 2] = true := ok_mk fun e he => match e, he with
  | 0, _ => ok01120
  | 1, _ => ok01121
  | 2, _ => ok01122
  | 3, _ => ok01123
  | e + 4, h => absurd h (by omega)
theorem ok0120 : okAll 3 0 [0, 1, 2, 0] = true := ok_mk fun e he => match e, he with
  | 0, _ => ok01200
  | 1, _ => ok01201
  | e + 2, h => absurd h (by omega)
theorem ok0121 : okAll 3 1 [0, 1, 2, 1] = true := ok_mk fun e he => match e, he with
  | 0, _ => ok01210
  | 1, _ => ok01211
  | 2, _ => ok01212
  | e + 3, h => absurd h (by omega)
theorem ok0122 : okAll 3 2 [0, 1, 2, 2] = true := ok_mk fun e he => match e, he with
  | 0, _ => ok01220
  | 1, _ => ok01221
  | 2, _ => ok01222
  | 3, _ => ok01223
  | e + 4, h => absurd h (by omega)
theorem ok0123 : okAll 3 3 [0, 1, 2, 3] = true := ok_mk fun e he => match e, he with
  | 0, _ => ok01230
  | 1, _ => ok01231
  | 2, _ => ok01232
  | 3, _ => ok01233
  | 4, _ => ok01234
  | e + 5, h => absurd h (by omega)
theorem ok000 : okAll 4 0 [0, 0, 0] = true := ok_mk fun e he => match e, he with
  | 0, _ => ok0000
  | 1, _ => ok0001
  | e + 2, h => absurd h (by omega)
theorem ok001 : okAll 4 1 [0, 0, 1] = true := ok_mk fun e he => match e, he with
  | 0, _ => ok0010
  | 1, _ => ok0011
  | 2, _ => ok0012
  | e + 3, h => absurd h (by omega)
theorem ok010 : okAll 4 0 [0, 1, 0] = true := ok_mk fun e he => match e, he with
  | 0, _ => ok0100
  | 1, _ => ok0101
  | e + 2, h => absurd h (by omega)
theorem ok011 : okAll 4 1 [0, 1, 1] = true := ok_mk fun e he => match e, he with
  | 0, _ => ok0110
  | 1, _ => ok0111
  | 2, _ => ok0112
  | e + 3, h => absurd h (by omega)
theorem ok012 : okAll 4 2 [0, 1, 2] = true := ok_mk fun e he => match e, he with
  | 0, _ => ok0120
  | 1, _ => ok0121
  | 2, _ => ok0122
  | 3, _ => ok0123
  | e + 4, h => absurd h (by omega)
theorem ok00 : okAll 5 0 [0, 0] = true := ok_mk fun e he => match e, he with
  | 0, _ => ok000
  | 1, _ => ok001
  | e + 2, h => absurd h (by omega)
theorem ok01 : okAll 5 1 [0, 1] = true := ok_mk fun e he => match e, he with
  | 0, _ => ok010
  | 1, _ => ok011
  | 2, _ => ok012
  | e + 3, h => absurd h (by omega)
theorem ok0 : okAll 6 0 [0] = true := ok_mk fun e he => match e, he with
  | 0, _ => ok00
  | 1, _ => ok01
  | e + 2, h => absurd h (by omega)
end Zd
namespace Zd
open PySem PySem.Spec PySem.Calls PyProof.Rows PySem.W PySem.W.X
open Builtin Builtin.Str
section
variable {d e : Nat → Nat} (h : ∀ k, k < 7 → d k = e k)
include h
theorem dl_congr : dl d = dl e := by
  unfold dl
  rw [h 0 (by decide), h 1 (by decide), h 2 (by decide), h 3 (by decide), h 4 (by decide), h 5 (by decide), h 6 (by decide)]
theorem castL_congr : castL d = castL e := by
  unfold castL
  rw [h 0 (by decide), h 1 (by decide), h 2 (by decide), h 3 (by decide), h 4 (by decide), h 5 (by decide), h 6 (by decide)]
theorem nlP_congr : ∀ k, k ≤ 7 → nlP d k = nlP e k
  | 0, _ => rfl
  | k + 1, hk => by
    unfold nlP
    rw [nlP_congr k (by omega), h k (by omega)]
theorem vP_congr (v : Nat → Int) : ∀ k, k ≤ 7 → vP d v k = vP e v k
  | 0, _ => rfl
  | k + 1, hk => by
    unfold vP
    rw [vP_congr v k (by omega), nlP_congr h k (by omega), h k (by omega)]
theorem metP_congr (k : Nat) (hk : k < 7) : metP d k = metP e k := by
  unfold metP
  rw [dl_congr h, h k hk]
theorem bP_congr : ∀ k, k ≤ 7 → bP d k = bP e k
  | 0, _ => rfl
  | k + 1, hk => by
    unfold bP
    rw [bP_congr k (by omega), metP_congr h k (by omega), h k (by omega)]
theorem hpat_congr : ∀ k, k ≤ 7 → hpat d k = hpat e k
  | 0, _ => rfl
  | k + 1, hk => by
    unfold hpat
    rw [hpat_congr k (by omega), h k (by omega)]
theorem secL_congr : secL d = secL e := by
  unfold secL
  rw [hpat_congr h 7 (Nat.le_refl _)]
theorem LawH.congr {row sec : List Nat} {d2 : Nat → Nat} {rs : List (List Nat)} {cN sN : Nat → Nat} (H : LawH d row sec d2 rs cN sN) : LawH e row sec d2 rs cN sN where
  a := {
    er := dl_congr h ▸ H.a.er
    pr := H.a.pr
    lr := H.a.lr
    dr := castL_congr h ▸ H.a.dr
    d8 := fun k hk => h k hk ▸ H.a.d8 k hk
    ph := {
      lt := fun k hk => h k hk ▸ H.a.ph.lt k hk
      le := fun k hk => by rw [← h k hk, ← nlP_congr h k (by omega)]; exact H.a.ph.le k hk
      nl := fun k hk => by rw [← nlP_congr h k hk]; exact H.a.ph.nl k hk }
    es := secL_congr h ▸ H.a.es
    ps := H.a.ps
    ls := H.a.ls
    cs := H.a.cs
    ds := H.a.ds
    sp := H.a.sp
    st := H.a.st }
  b := H.b
  n := nlP_congr h 7 (Nat.le_refl _) ▸ H.n
  v := fun i hi => by rw [← vP_congr h _ 7 (Nat.le_refl _)]; exact H.v i hi
  s := fun i hi => by rw [← bP_congr h 7 (Nat.le_refl _)]; exact H.s i hi
  k := H.k
  l := H.l
end
theorem parB_par {l : List Nat} (h : parB l = true) : par (stl l) := fun c hc => by
  have hc' : c ∈ l := hc
  have := List.all_eq_true.mp h c hc'
  rw [Bool.or_eq_true, Nat.beq_eq, Nat.beq_eq] at this
  exact this
theorem ok1_row {l row sec d2 : List Nat} {rs : List (List Nat)} (h : okL1 l row sec d2 rs = true) (er : rowL l = row) (es : secF l = sec) (ers : cut41 sec [] = rs) : RowA (atL l) row sec (atL d2) rs := by
  unfold okL1 at h
  simp only [Bool.and_eq_true, decide_eq_true_eq] at h
  obtain ⟨⟨⟨⟨⟨⟨⟨⟨⟨⟨⟨h1, h2⟩, h3⟩, h4⟩, h5⟩, h6⟩, h7⟩, h8⟩, h9⟩, h10⟩, h10b⟩, h11⟩ := h
  rw [Bool.not_eq_true'] at h10
  have h12 := Nat.le_of_ble_eq_true h10b
  subst ers
  exact { er, pr := parB_par h1, lr := by rw [stl_len]; exact h2, dr := h3, d8 := h4, ph := pairsB_ok h5, es := (secF_eq l).trans es, ps := parB_par h6, ls := by rw [stl_len]; exact h7, cs := h8, ds := h9, sp := split_cut (parB_par h6) h10 (by omega) h12, st := stepsB_ok h11 }
theorem ok_law {l : List Nat} (h : okL l = true) : ∃ row sec d2 rs cN sN, LawH (atL l) row sec d2 rs cN sN := by
  unfold okL at h
  rw [Bool.and_eq_true] at h
  obtain ⟨ha, hb⟩ := h
  refine ⟨rowL l, secF l, atL (dsL (secF l)), cut41 (secF l) [], cL (cut41 (secF l) []), sL (cut41 (secF l) []), ?_⟩
  have A := ok1_row ha rfl rfl rfl
  generalize dsL (secF l) = d2 at A hb ⊢
  generalize cut41 (secF l) [] = rs at A hb ⊢
  generalize secF l = sec at A ⊢
  generalize rowL l = row at A hb ⊢
  unfold okL2 at hb
  simp only [Bool.and_eq_true, decide_eq_true_eq] at hb
  obtain ⟨⟨⟨⟨⟨h1, h2⟩, h3⟩, h4⟩, h5⟩, h6⟩ := hb
  exact { a := A, b := bookB_ok h1, n := h2, v := h3, s := h4, k := h5, l := h6 }
theorem ok_step {n d : Nat} {acc : List Nat} (h : okAll (n + 1) d acc = true) {e : Nat} (he : e ≤ d + 1) : okAll n e (acc ++ [e]) = true :=
  List.all_eq_true.mp h e (List.mem_range.mpr (by omega))
theorem ok_dN (ts : List (Int × Nat)) : okL (dl (dN ts)) = true := by
  have h0 : dN ts 0 = 0 := Nat.le_zero.mp (dN_le ts 0)
  have b1 := dN_next ts 0
  rw [h0] at b1
  have s6 := ok_step (ok_step (ok_step (ok_step (ok_step (ok_step ok0 b1) (dN_next ts 1)) (dN_next ts 2)) (dN_next ts 3)) (dN_next ts 4)) (dN_next ts 5)
  unfold dl
  rw [h0]
  exact s6
theorem law_dN (ts : List (Int × Nat)) : ∃ row sec d2 rs cN sN, LawH (dN ts) row sec d2 rs cN sN := by
  obtain ⟨row, sec, d2, rs, cN, sN, H⟩ := ok_law (ok_dN ts)
  refine ⟨row, sec, d2, rs, cN, sN, H.congr fun k hk => ?_⟩
  match k, hk with
  | 0, _ => rfl
  | 1, _ => rfl
  | 2, _ => rfl
  | 3, _ => rfl
  | 4, _ => rfl
  | 5, _ => rfl
  | 6, _ => rfl
  | k + 7, h => exact absurd h (by omega)
end Zd
namespace Zd
open PySem PySem.Spec PySem.Calls PyProof.Rows PySem.W PySem.W.X
theorem pq_self (w : World) : w.params = pq w.params (w.params.followText "comprehension-iter-twice") (w.params.followText "special-get-raises") := (congrArg World.params (wq_self w)).symm
theorem look_mem {o : Obj} {a : Nat} : ∀ {l : List (Nat × Obj)}, lookS l a = some o → (a, o) ∈ l
  | [], h => nomatch h
  | p :: l, h => by
    have h' : (match Nat.beq p.1 a with | true => some p.2 | false => lookS l a) = some o := h
    cases e : Nat.beq p.1 a with
    | true =>
      rw [e] at h'
      cases h'
      rw [Nat.beq_eq] at e
      subst e
      exact .head _
    | false =>
      rw [e] at h'
      exact .tail _ (look_mem h')
theorem stat_of {P : Params} {b1 b2 : Bool} {t : KT} {s : Shared} (ZH : KT.Holds s.heap 1 0 t) (hP : P = pq P b1 b2)
    (e : (statL P).map (fun p => t.get p.1) = (statL P).map (fun p => some p.2)) (l : ((statL P).all fun p => Nat.blt p.1 277) = true) : Stat (stQ P b1 b2) s := by
  intro a o h
  have h2 : lookS (statL P) a = some o := by
    rw [hP]
    exact h
  have hm := look_mem h2
  refine ⟨?_, ?_⟩
  · have := List.all_eq_true.mp l _ hm
    rw [Nat.blt_eq] at this
    exact this
  · refine kt_at ZH ?_
    have := List.map_inj_left.mp e _ hm
    exact this
theorem ints_tag : ∀ {vs : List Value} {ns : List Int}, IntsAre vs ns → ∃ ts : List (Int × Nat), vs = tagT ts ∧ ts.length = ns.length
  | _, _, .nil => ⟨[], rfl, rfl⟩
  | _, _, .cons n t h => by
    obtain ⟨ts, e1, e2⟩ := ints_tag h
    refine ⟨(n, t) :: ts, ?_, ?_⟩
    · rw [e1]; rfl
    · rw [List.length_cons, List.length_cons, e2]
theorem law_end {c : ClaimW} {cl : Str → Option Addr} {mean : ExcName → Option Value} {args : List WData} {s s' : Shared} {Sc : Nat} {o : Obj} (h : s.heap.get? Sc = some o) (h' : s'.heap.get? Sc = some o) (K : Kept [(true, Sc)] s s') (hg : s.gens = #[])
    (hr : ∀ cls, c.raises args cls = false) (hp : c.post args (.bool true) args = true) : GoodWG c cl mean args s (.ok (.ret (.bool true))) s' := by
  refine ⟨.inl ⟨_, _, [], rfl, hr, ReadsW.bool true, hp, fun _ => ⟨List.nodup_nil, fun _ hm => (nomatch hm)⟩⟩, OldK.of_keep fun b ob hb => ?_, K.os, K.bare (.of_eq hg)⟩
  by_cases e : b = Sc
  · subst e
    rw [h] at hb
    cases hb
    exact h'
  · refine K.keep b ob (fun hm => ?_) hb
    rw [List.mem_singleton] at hm
    cases hm
    exact e rfl
theorem caller_room : Room 10 callerA := ⟨rfl, by decide +kernel, by decide +kernel⟩
end Zd
open PySem PySem.W PyProof.Rows PySem.W.X PySem.W.ZRun
set_option maxRecDepth 100000 in
set_option maxHeartbeats 0 in
theorem PySem.Challenge.cw_zd0015_01_holds : PySem.Challenge.rw_zd0015_01.Holds := by
  w_on
  o_law
  z_head
  case hw => w_witness2
  k_fill
  intro w s₀ s₁ mg mb G y fa o pm cd doc dV kV ho hd hcd hD hmg hg args vals as L hpre hlay hrd hwl hlo
  z_open y L KX ZH ZN ZT
  have hst := Zd.stat_of (P := w.params) (s := s₁) ZH (Zd.pq_self w) (by kernel_rfl) (by kernel_rfl)
  refine Ground.open G ?_
  intro T B D TE TW
  wrow_args hpre hlay hrd hwl hlo
  obtain ⟨hat, hsz⟩ := script_at L
  rw [ZN] at hat hsz
  subst hat
  x_fa T KX hmg
  rename IntsAre _ _ => hI
  rename Heap.IsList _ _ _ => hL
  rename (¬ (63 : Int) < _) => hc
  have hob := script_obj L hL
  obtain ⟨ts, ets, hlen⟩ := Zd.ints_tag hI
  have hts : ts.length ≤ 100 := by omega
  obtain ⟨row, sec, d2, rs, cN, sN, H⟩ := Zd.law_dN ts
  have hh : s₁.heap.get? 277 = some (Zd.seqO (Zd.tagT ts) 0) := by
    rw [hob, ets]
    rfl
  show wpAny _ callerA (PySem.call (.ref 276) [.ref 277] []) _ _ s₁
  refine wpAny_call ?_
  refine Zd.code276_ok 277 0 ts hts H (Zd.pq_self w) Zd.caller_room hst hh (Nat.le_refl _) (by decide) hsz rfl (fun s' h' K => ?_)
  exact Zd.law_end hh h' K hg (fun _ => rfl) (by first | rfl | wrow_post)
