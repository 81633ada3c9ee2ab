import PyProof.Rows.All
import Wide.All
import OpenK.AllK
import Wide.FinOn
import PySem.Challenge.RW_rs0147_01
open PySem PySem.W PySem.W.X PyProof.Rows
set_option Elab.async false
set_option maxRecDepth 100000
set_option maxHeartbeats 0
set_option linter.all false
set_option genSizeOfSpec false
set_option genSizeOf false
set_option genInjectivity false
set_option maxErrors 10000
namespace Mine
theorem cf {a b c : Nat} (h : a + (b + 1) = c := by with_reducible assumption) : a < c := by omega
theorem cJ {a b c : Nat} (h : a + (b + 1) = c := by with_reducible assumption) : a + 1 + b = c := by omega
theorem c6 {a b : Nat} (h : a + 0 = b := by with_reducible assumption) : b ≤ a := by omega
theorem km {a b : Nat} (h : a + 0 = b := by with_reducible assumption) : b = a := h.symm
theorem LQ {a b c d : Nat} (h : c + d ≤ b := by with_reducible assumption) (g : a ≤ c := by with_reducible assumption) : a ≤ b := by omega
theorem LM {a b c d : Nat} (h : c + (d + 1) ≤ b := by with_reducible assumption) (g : a ≤ c := by with_reducible assumption) : a ≤ b := by omega
theorem gm {a b c : Nat} (h : a + (b + 1) ≤ c := by with_reducible assumption) : a + 1 + b ≤ c := by omega
theorem j7 {a b : Nat} (h : a < b := by with_reducible assumption) : (a : Int) < (b : Int) := by omega
theorem aO {a k m : Nat} (h : a ≤ k := by with_reducible assumption) (e : Nat.ble k m = true := by decide) : a ≤ m := Nat.le_trans h (Nat.le_of_ble_eq_true e)
theorem gA {a b k m : Nat} (h : a + (b + 1) ≤ k := by with_reducible assumption) (e : Nat.ble k m = true := by decide) : a ≤ m := Nat.le_trans (Nat.le_add_right _ _) (aO h e)
theorem i4 {a : Nat} (h : 1 ≤ a := by with_reducible assumption) : ¬ a = 0 := by omega
theorem Bc {a : Nat} (h : 0 < a := by with_reducible assumption) : ¬ a = 0 := by omega
theorem qR {a c k m : Nat} (h : a < c := by with_reducible assumption) (g : c ≤ k := by with_reducible assumption) (e : Nat.ble k m = true := by decide) : a ≤ m := Nat.le_trans (Nat.le_of_lt h) (aO g e)
theorem lD {a b k m : Nat} (h : a = b := by with_reducible assumption) (g : b ≤ k := by with_reducible assumption) (e : Nat.ble k m = true := by decide) : a ≤ m := h ▸ aO g e
theorem o4 {a b c k m : Nat} (h : a + (c + 1) = b := by with_reducible assumption) (g : b ≤ k := by with_reducible assumption) (e : Nat.ble k m = true := by decide) : a ≤ m := by have := aO g e; omega
theorem wZ {a b c : Nat} (h : b < a := by with_reducible assumption) (g : a - b = c + 1 := by with_reducible assumption) : a - (b + 1) = c := by omega
theorem w0 {a b : Nat} (h : b < a := by with_reducible assumption) : a - b = a - b - 1 + 1 := by omega
theorem rN {a b : Nat} (h : ¬ b ≤ a := by with_reducible assumption) : a ≤ b := by omega
theorem IP {a b : Nat} (h : ¬ b < a := by with_reducible assumption) : a ≤ b := by omega
theorem w1 {a b c : Nat} (h : a = b := by with_reducible assumption) (g : c < b := by with_reducible assumption) : c < a := h ▸ g
theorem IQ {a b : Nat} (h : ¬ (a : Int) < b := by with_reducible assumption) : b ≤ a := by omega
theorem Kd {a b : Nat} (h : (a : Int) < b := by with_reducible assumption) : a ≤ b := by omega
theorem Hg {a b : Nat} (h : (a : Int) < b := by with_reducible assumption) : a < b := by omega
theorem sP {a k : Nat} (h : a ≤ k := by with_reducible assumption) (e : Nat.ble k 1000000 = true := by decide) : (a : Int) < 2 ^ 63 := by have := aO h e; omega
theorem nS {a k : Nat} (h : a ≤ k := by with_reducible assumption) (e : Nat.ble k 1000000 = true := by decide) : ¬ (a : Int) ≥ 2 ^ 63 := by have := aO h e; omega
theorem Bd {a k : Nat} (h : a ≤ k := by with_reducible assumption) (e : Nat.ble k 1000000 = true := by decide) : ¬ (a : Int) < -2 ^ 63 := by have := aO h e; omega
theorem sR {a b : Nat} (h : ¬ a = b := by with_reducible assumption) : ¬ (a : Int) = b := fun e => h (Int.ofNat.inj e)
theorem Be (a : Nat) : ¬ (a : Int) < 0 := by omega
theorem LR {a b c d : Nat} (h : a + 1 + b = c := by with_reducible assumption) (g : c ≤ d := by with_reducible assumption) : a + b ≤ d := by omega
theorem Bf {a b c : Nat} (h : a + (b + 1) ≤ c := by with_reducible assumption) : a < c := by omega
theorem LS {a c : Nat} (h : a + 0 = c := by with_reducible assumption) : ¬ a < c := by omega
theorem sT {a b c : Nat} (h : a + (b + 1) + 1 = c := by with_reducible assumption) : a < c := by omega
theorem LU {a b : Nat} (h : a + 1 = b := by with_reducible assumption) : ¬ b = 0 := by omega
noncomputable def den : Code → Sem Fin := PySem.W.ZFast.zw11892475500146522536 PySem.W.ZFast.tableZ
theorem jA : denote table = den := by
 unfold den
 rw [← PySem.W.ZFast.tableZ_eq, ← PySem.W.ZFast.ze11892475500146522536]
noncomputable def sV : Code → Bool := PySem.W.ZFast.zw17772548960776305114
theorem o5 : Code.quiet = sV := PySem.W.ZFast.ze17772548960776305114
noncomputable abbrev KS := List (Addr × Obj)
noncomputable def slot : KS → Nat → Option (Addr × Obj)
 | [], _ => none
 | x :: _, 0 => some x
 | _ :: l, j + 1 => slot l j
noncomputable def setSlot (f : Obj → Obj) : KS → Nat → KS
 | [], _ => []
 | x :: l, 0 => (x.1, f x.2) :: l
 | x :: l, j + 1 => x :: setSlot f l j
noncomputable def snoc : KS → Addr × Obj → KS
 | [], x => [x]
 | y :: l, x => y :: snoc l x
theorem yY (K : KS) (x : Addr × Obj) : snoc K x = K ++ [x] := by
 induction K with
 | nil => rfl
 | cons y l ih => simp [snoc, ih]
theorem slot_get (K : KS) (j : Nat) : slot K j = K[j]? := by
 induction K generalizing j with
 | nil => simp [slot]
 | cons y l ih => cases j with
  | zero => simp [slot]
  | succ j => simp [slot, ih]
theorem ma (f : Obj → Obj) (K : KS) (j : Nat) : setSlot f K j = K.modify j (fun x => (x.1, f x.2)) := by
 induction K generalizing j with
 | nil => simp [setSlot]
 | cons y l ih => cases j with
  | zero => simp [setSlot]
  | succ j => simp [setSlot, ih]
theorem jv (f : Obj → Obj) (K : KS) (j : Nat) : (setSlot f K j).map (·.1) = K.map (·.1) := by
 induction K generalizing j with
 | nil => rfl
 | cons y l ih => cases j with
  | zero => rfl
  | succ j => simp [setSlot, ih]
theorem g8 {f : Obj → Obj} {K : KS} {j : Nat} {a : Addr} {o : Obj} (hj : slot K j = some (a, o)) (nd : (K.map (·.1)).Nodup) {p : Addr × Obj} (hp : p ∈ setSlot f K j) : (p = (a, f o)) ∨ (p ∈ K ∧ p.1 ≠ a) := by
 induction K generalizing j with
 | nil => cases hj
 | cons y l ih =>
  rw [List.map_cons, List.nodup_cons] at nd
  cases j with
  | zero =>
   simp only [slot, Option.some.injEq] at hj
   subst hj
   simp only [setSlot, List.mem_cons] at hp
   rcases hp with rfl | hp
   ·exact .inl rfl
   ·refine .inr ⟨List.mem_cons_of_mem _ hp, fun e => nd.1 ?_⟩
    have z : p.1 ∈ l.map (·.1) := List.mem_map_of_mem hp
    rw [e] at z; exact z
  | succ j =>
   simp only [slot] at hj
   simp only [setSlot, List.mem_cons] at hp
   rcases hp with rfl | hp
   ·refine .inr ⟨List.mem_cons_self, fun e => nd.1 ?_⟩
    rw [slot_get] at hj
    have := List.mem_of_getElem? hj
    rw [e]
    exact List.mem_map_of_mem (f := (·.1)) this
   ·rcases ih hj nd.2 hp with h | ⟨h, h'⟩
    ·exact .inl h
    ·exact .inr ⟨List.mem_cons_of_mem _ h, h'⟩
structure RV where
 prog : Program
 w : World
 A₀ : Around
 R₀ : Result → Shared → Prop
 P₀ : End → Shared → Prop
 d : Drawn
 os : OsState
 kt : KT
 h₀ : Heap
 ms : List Addr
 n₀ : Nat
 t₀ : Nat
 G : List GenState
 sg : Bool
noncomputable def RV.s (V : RV) (h : Heap) (gl : List GenState) (i : Nat) : Shared := ⟨h, ⟨V.G ++ gl⟩, V.d, V.t₀ + i, V.os⟩
structure Rep (V : RV) (h : Heap) (K : KS) (n : Nat) : Prop where
 size : h.objs.size = n
 st : ∀ a o, V.kt.get a = some o → h.get? a = some o
 mem : ∀ p ∈ K, h.get? p.1 = some p.2
 nd : (K.map (·.1)).Nodup
 lo : ∀ p ∈ K, V.kt.get p.1 = none
 own : ∀ p ∈ K, p.1 ∈ V.ms ∨ V.h₀.get? p.1 = none
 keep : ∀ b o, V.h₀.get? b = some o → b ∉ V.ms → h.get? b = some o
 big : V.h₀.objs.size ≤ n
section
variable {V : RV} {h : Heap} {K : KS} {n : Nat}
theorem Rep.slot (D : Rep V h K n) {j : Nat} {a : Addr} {o : Obj} (e : slot K j = some (a, o)) : h.get? a = some o := by
 rw [slot_get] at e
 exact D.mem _ (List.mem_of_getElem? e)
theorem fT {h : Heap} {a : Addr} (e : h.objs.size ≤ a) : h.get? a = none := by
 cases q : h.get? a with
 | none => rfl
 | some o => exact absurd (Heap.lt_size q) (Nat.not_lt.mpr e)
theorem Rep.alloc (D : Rep V h K n) {o : Obj} (hf : o.isFreed = false) : Rep V (h.push o) (snoc K (n, o)) (n + 1) := by
 have hn : h.get? n = none := fT (Nat.le_of_eq D.size)
 have e0 : (h.push o).get? n = some o := by rw [← D.size]; exact Heap.get?_push_size _ hf
 rw [yY]
 refine ⟨by rw [Heap.size_push, D.size], fun a o' e => Heap.get?_push_of_some _ (D.st a o' e), fun p hp => ?_, ?_, fun p hp => ?_, fun p hp => ?_, fun b o' e q => Heap.get?_push_of_some _ (D.keep b o' e q), Nat.le_succ_of_le D.big⟩
 ·rcases List.mem_append.mp hp with hp | hp
  ·exact Heap.get?_push_of_some _ (D.mem p hp)
  ·rw [List.mem_singleton.mp hp]; exact e0
 ·rw [List.map_append, List.nodup_append]
  refine ⟨D.nd, by simp, fun a ha b hb => ?_⟩
  obtain ⟨p, hp, rfl⟩ := List.mem_map.mp ha
  rw [List.map_cons, List.map_nil, List.mem_singleton] at hb
  subst hb
  intro q
  have z := D.mem p hp
  rw [q, hn] at z
  cases z
 ·rcases List.mem_append.mp hp with hp | hp
  ·exact D.lo p hp
  ·rw [List.mem_singleton.mp hp]
   cases q : V.kt.get n with
   | none => rfl
   | some o' => have z := D.st n o' q; rw [hn] at z; cases z
 ·rcases List.mem_append.mp hp with hp | hp
  ·exact D.own p hp
  ·rw [List.mem_singleton.mp hp]
   exact .inr (fT D.big)
theorem Rep.update (D : Rep V h K n) {j : Nat} {a : Addr} {o : Obj} {f : Obj → Obj} (e : Mine.slot K j = some (a, o)) (hf : (f o).isFreed = false) : Rep V (h.update a f) (setSlot f K j) n := by
 have hs : Heap.SameBut a h (h.update a f) := Heap.SameBut.update ..
 have ho := D.slot e
 have hm : (a, o) ∈ K := by rw [slot_get] at e; exact List.mem_of_getElem? e
 refine ⟨by rw [hs.1, D.size], fun b o' q => ?_, fun p hp => ?_, by rw [jv]; exact D.nd, fun p hp => ?_, fun p hp => ?_, fun b o' q q' => ?_, D.big⟩
 ·have ne : b ≠ a := fun z => by have := D.lo _ hm; rw [z] at q; rw [q] at this; cases this
  exact (hs.2 b ne).trans (D.st b o' q)
 ·rcases g8 e D.nd hp with rfl | ⟨hp, ne⟩
  ·exact Heap.get?_update_self f ho hf
  ·exact (hs.2 _ ne).trans (D.mem p hp)
 ·rcases g8 e D.nd hp with rfl | ⟨hp, _⟩
  ·exact D.lo (a, o) hm
  ·exact D.lo p hp
 ·rcases g8 e D.nd hp with rfl | ⟨hp, _⟩
  ·exact D.own (a, o) hm
  ·exact D.own p hp
 ·have ne : b ≠ a := fun z => by
   rcases D.own _ hm with y | y
   ·exact q' (z ▸ y)
   ·rw [z] at q; rw [q] at y; cases y
  exact (hs.2 b ne).trans (D.keep b o' q q')
end
@[reducible] def eqs (E : List (Nat × Nat)) : Prop := E.map (·.1) = E.map (·.2)
theorem o6 {a b : Nat} {E : List (Nat × Nat)} (h : eqs ((a, b) :: E)) : a = b := by
 unfold eqs at h; rw [List.map_cons, List.map_cons] at h; injection h
theorem o7 {a b : Nat} {E : List (Nat × Nat)} (h : eqs ((a, b) :: E)) : eqs E := by
 unfold eqs at h; rw [List.map_cons, List.map_cons] at h; injection h
inductive Kn where
 | base
 | ret (c : Code) (hd : Option Value) (k : Result → Sem Fin) (κ : Kn)
 | d8 (c : Code) (hd : Option Value) (k : Result → Sem Fin)
noncomputable def dA (A₀ : Around) : Kn → Around
 | .base => A₀
 | .ret c hd _ κ => ((dA A₀ κ).under c).mark hd
 | .d8 c hd _ => (A₀.over c []).mark hd
noncomputable def ee (V : RV) : Kn → Result → Shared → Prop
 | .base => V.R₀
 | .ret c _ k κ => postR V.prog V.w (dA V.A₀ κ) c (postC V.prog V.w (dA V.A₀ κ) (ee V κ)) (postE (ee V κ)) k
 | .d8 c _ k => fun r s => SegX (model V.prog V.w) V.A₀ c (k r) [] s V.P₀
noncomputable def cw (V : RV) (c : Code) (md : Option (List Frame)) (κ : Kn) (t : Sem Fin) (s : Shared) : Prop := match md with
 | none => wpOwn (model V.prog V.w) (dA V.A₀ κ) c t (postC V.prog V.w (dA V.A₀ κ) (ee V κ)) (postE (ee V κ)) s
 | some fs => SegX (model V.prog V.w) V.A₀ c t fs s V.P₀
noncomputable def fA (V : RV) (c : Code) (md : Option (List Frame)) (κ : Kn) : Around := match md with
 | none => (dA V.A₀ κ).under c
 | some fs => V.A₀.over c fs
noncomputable def iH (V : RV) (r : Result) (K : KS) (m i : Nat) (gl : List GenState) (E : List (Nat × Nat)) : Prop :=
 eqs E ∧ ∀ h, Rep V h K (V.n₀ + m) → V.R₀ r (V.s h gl i)
noncomputable def Bg (V : RV) (r : Result) (K : KS) (m i : Nat) (gl : List GenState) (E : List (Nat × Nat)) : Prop :=
 eqs E ∧ ∀ h, Rep V h K (V.n₀ + m) → V.P₀ (.ret r) (V.s h gl i)
noncomputable def Bh (V : RV) (v : Value) (l : List Value) (k : Resume → Sem Fin) (c : Code) (fs : List Frame) (K : KS) (m i : Nat) (gl : List GenState) (E : List (Nat × Nat)) : Prop :=
 eqs E ∧ splitAtGen fs = none ∧ fs.any Frame.guarded = false ∧ ∀ p h, Rep V h K (V.n₀ + m) → V.P₀ (.susp v false l k c p fs) (V.s h gl i)
noncomputable def w2 (V : RV) (c' : Code) (hd : Option Value) (c : Code) (md : Option (List Frame)) (κ : Kn) (k : Result → Sem Fin) (K : KS) (m i : Nat) (gl : List GenState) (E : List (Nat × Nat)) : Prop :=
 eqs E ∧ hd ≠ some byPass ∧ ∀ h, Rep V h K (V.n₀ + m) → codeAny (model V.prog V.w) ((fA V c md κ).mark hd) c' (fun r s' => cw V c md κ (k r) s') (V.s h gl i)
noncomputable def o8 (V : RV) (c' : Code) (md : Option (List Frame)) (κ : Kn) (K : KS) (m i : Nat) (gl : List GenState) (E : List (Nat × Nat)) : Prop :=
 eqs E ∧ ∀ h, Rep V h K (V.n₀ + m) → match md with
  | none => codeAny (model V.prog V.w) (dA V.A₀ κ) c' (ee V κ) (V.s h gl i)
  | some fs => SegX (model V.prog V.w) V.A₀ c' (denote table c') fs (V.s h gl i) V.P₀
noncomputable def br (V : RV) (c : Code) (md : Option (List Frame)) (κ : Kn) (t : Sem Fin) (K : KS) (m i : Nat) (gl : List GenState) (E : List (Nat × Nat)) : Prop :=
 eqs E ∧ ∀ h, Rep V h K (V.n₀ + m) → cw V c md κ t (V.s h gl i)
theorem Fg (prog : Program) (w : World) (A : Around) (c : Code) (fs : List Frame) (P : End → Shared → Prop) (s : Shared) (c' : Code) (hd : Option Value) (g : Bool) (l : List Value) (k : Result → Sem Fin) (Ke : hd ≠ some byPass)
  (x : codeAny (model prog w) ((A.over c fs).mark hd) c' (fun r s' => SegX (model prog w) A c (k r) fs s' P) s) : SegX (model prog w) A c (.call c' hd g l k) fs s P :=
 s_cmd prog w A c fs P (m := Sem.call c' hd g l Sem.pure) (k := k) (x_call (codeAny_mono x fun _ _ h => wpAny_pure h) Ke)
theorem rc {α β : Type} {m1 m2 m3 m4 m5 m6 m7 m8 m9 Hh Hi Hj Hk Hl Hm Hn Ho Hp Hq Hr Hs Ht Hu Hv Hw Hx} {M M' : Sem α} (h : M = M') : @Sem.rec α (fun _ => Sem β) m1 m2 m3 m4 m5 m6 m7 m8 m9 Hh Hi Hj Hk Hl Hm Hn Ho Hp Hq Hr Hs Ht Hu Hv Hw Hx M = @Sem.rec α (fun _ => Sem β) m1 m2 m3 m4 m5 m6 m7 m8 m9 Hh Hi Hj Hk Hl Hm Hn Ho Hp Hq Hr Hs Ht Hu Hv Hw Hx M' := by rw [h]
theorem bf {α : Type} {b : Bool} {F T : Sem α} (h : b = false) : @Bool.rec (fun _ => Sem α) F T b = F := by rw [h]
theorem bt {α : Type} {b : Bool} {F T : Sem α} (h : b = true) : @Bool.rec (fun _ => Sem α) F T b = T := by rw [h]
theorem os {α β : Type} {d : Option β} {F : Sem α} {S : β → Sem α} {v : β} (h : d = some v) : @Option.rec β (fun _ => Sem α) F S d = S v := by rw [h]
theorem on {α β : Type} {d : Option β} {F : Sem α} {S : β → Sem α} (h : d = none) : @Option.rec β (fun _ => Sem α) F S d = F := by rw [h]
theorem df {α : Type} {p : Prop} {d : Decidable p} {F : ¬ p → Sem α} {T : p → Sem α} (h : ¬ p) : @Decidable.rec p (fun _ => Sem α) F T d = F h := by
 cases d with
 | isTrue h' => exact absurd h' h
 | isFalse h' => rfl
theorem ao {V : RV} {c : Code} {md : Option (List Frame)} {κ : Kn} {t t' : Sem Fin} {K : KS} {m i : Nat} {gl : List GenState} {E : List (Nat × Nat)} (h : t = t') (H : br V c md κ t' K m i gl E) : br V c md κ t K m i gl E := by rw [h]; exact H
structure Qs where
 K : KS
 m : Nat
 i : Nat
 gl : List GenState
 E : List (Nat × Nat)
inductive Ou where
 | stop (n : Nat)
 | fin (r : Result) (q : Qs)
 | call (c' c : Code) (κ : Kn) (k : Result → Sem Fin) (q : Qs)
 | again (c' : Code) (κ : Kn) (q : Qs)
 | stack (c : Code) (κ : Kn) (k : List (Code × Pos) → Sem Fin) (q : Qs)
 | tree (c : Code) (κ : Kn) (t : Sem Fin) (q : Qs)
 | yield (v : Value) (l : List Value) (k : Resume → Sem Fin) (c : Code) (q : Qs)
noncomputable def cA (V : RV) (κ : Kn) : Option (List Frame) := cond V.sg (match κ with
 | .base => some []
 | _ => none) none
noncomputable def Means (V : RV) : Ou → Prop
 | .stop _ => False
 | .fin r q => cond V.sg (Bg V r q.K q.m q.i q.gl q.E) (iH V r q.K q.m q.i q.gl q.E)
 | .call c' c κ k q => w2 V c' none c (cA V κ) κ k q.K q.m q.i q.gl q.E
 | .again c' κ q => o8 V c' (cA V κ) κ q.K q.m q.i q.gl q.E
 | .stack c κ k q => eqs q.E ∧ ∀ (p : Pos) (below : List (Code × Pos)), Lies (fA V c (cA V κ) κ) ((c, p) :: below) → br V c (cA V κ) κ (k ((c, p) :: below)) q.K q.m q.i q.gl []
 | .tree c κ t q => br V c (cA V κ) κ t q.K q.m q.i q.gl q.E
 | .yield v l k c q => V.sg = true ∧ Bh V v l k c [] q.K q.m q.i q.gl q.E
noncomputable abbrev rO {α β : Type} (o : Option α) (d : β) (f : α → β) : β := match o with
 | none => d
 | some x => f x
noncomputable abbrev kZ := List Nat → Code → Kn → Sem Fin → KS → Nat → Nat → List GenState → List (Nat × Nat) → Ou
noncomputable abbrev fW (b : Bool) (x y : Ou) : Ou := match b with
 | true => x
 | false => y
noncomputable abbrev vi (V : RV) (ih : kZ) (hs : List Nat) (r : Result) (κ : Kn) (K : KS) (m i : Nat) (gl : List GenState) (E : List (Nat × Nat)) : Ou := match κ with
 | .base => .fin r ⟨K, m, i, gl, E⟩
 | .ret c _ k κ => fW V.sg (match κ with
  | .base => .stop 12
  | κ => ih hs c κ (k r) K m i gl E) (ih hs c κ (k r) K m i gl E)
 | .d8 c _ k => fW V.sg (ih hs c .base (k r) K m i gl E) (.stop 11)
noncomputable abbrev Fh (V : RV) (ih : kZ) (hs : List Nat) (c' c : Code) (hd : Option Value) (k : Result → Sem Fin) (κ : Kn) (K : KS) (m i : Nat) (gl : List GenState) (E : List (Nat × Nat)) : Ou := fW V.sg (match κ with
 | .base => ih hs c' (.d8 c hd k) (den c') K m i gl E
 | κ => ih hs c' (.ret c hd k κ) (den c') K m i gl E) (ih hs c' (.ret c hd k κ) (den c') K m i gl E)
noncomputable abbrev Bi (V : RV) (ih : kZ) (hs : List Nat) (a : Addr) (c : Code) (κ : Kn) (k : Obj → Sem Fin) (K : KS) (m i : Nat) (gl : List GenState) (E : List (Nat × Nat)) : Ou := match hs with
 | [] => .stop 51
 | b :: hs => match b with
  | 0 => rO (V.kt.get a) (.stop 1) fun o => ih hs c κ (k o) K m i gl E
  | j + 1 => rO (slot K j) (.stop 2) fun p => match p with
   | (b, o) => ih hs c κ (k o) K m i gl ((a, b) :: E)
noncomputable def qS (V : RV) (ih : kZ) (hs : List Nat) (c : Code) (κ : Kn) (t : Sem Fin) (K : KS) (m i : Nat) (gl : List GenState) (E : List (Nat × Nat)) : Ou := match t with
 | .pure fin => match fin with
  | .done f => vi V ih hs (.ok f) κ K m i gl E
  | .again c' => fW (sV c') (match hs with
   | [] => .stop 50
   | b :: hs => match b with
    | 0 => ih hs c' κ (den c') K m i gl E
    | _ + 1 => .again c' κ ⟨K, m, i, gl, E⟩) (.stop 5)
 | .raise e => vi V ih hs (.error e) κ K m i gl E
 | .rule _ k => ih hs c κ (k ()) K m i gl E
 | .at _ k => ih hs c κ (k ()) K m i gl E
 | .point _ k => ih hs c κ (k ()) K m i gl E
 | .ask k => ih hs c κ (k ⟨V.prog, V.w.params⟩) K m i gl E
 | .load a _ k => Bi V ih hs a c κ k K m i gl E
 | .loadIfAlive a k => Bi V ih hs a c κ (fun o => k (some o)) K m i gl E
 | .alloc o k => fW o.isFreed (.stop 3) (ih hs c κ (k (V.n₀ + m)) (snoc K (V.n₀ + m, o)) (m + 1) i gl E)
 | .update a _ f k => match hs with
  | [] => .stop 53
  | b :: hs => match b with
   | 0 => .stop 4
   | j + 1 => rO (slot K j) (.stop 2) fun p => match p with
    | (b, o) => fW (f o).isFreed (.stop 3) (ih hs c κ (k ()) (setSlot f K j) m i gl ((a, b) :: E))
 | .fresh k => ih hs c κ (k (V.t₀ + i)) K m (i + 1) gl E
 | .handled own k => fW own (.stop 7) (ih hs c κ (k (fA V c (cA V κ) κ).handled) K m i gl E)
 | .stack k => .stack c κ k ⟨K, m, i, gl, E⟩
 | .call c' hd g l k => match hs with
  | [] => .stop 54
  | b :: hs => match b with
   | _ + 1 => match hd with
    | none => .call c' c κ k ⟨K, m, i, gl, E⟩
    | some _ => .stop 9
   | 0 => fW (okMark hd) (Fh V ih hs c' c hd k κ K m i gl E) (.stop 8)
 | .newGen c' k => ih hs c κ (k (V.G.length + gl.length)) K m i (gl ++ [.fresh c']) E
 | .yield v gd l k => match κ with
  | .base => fW (V.sg && !gd) (.yield v l k c ⟨K, m, i, gl, E⟩) (.tree c κ t ⟨K, m, i, gl, E⟩)
  | _ => .stop 14
 | t => .tree c κ t ⟨K, m, i, gl, E⟩
noncomputable def run (V : RV) : Nat → kZ
 | 0 => fun _ c κ t K m i gl E => .tree c κ t ⟨K, m, i, gl, E⟩
 | n + 1 => qS V (run V n)
section
variable {V : RV} {c : Code} {κ : Kn} {h : Heap} {gl : List GenState} {i : Nat}
theorem mc (e : V.sg = true) : cA V .base = some [] := by unfold cA; rw [e]; rfl
theorem i5 (e : V.sg = false) : cA V κ = none := by unfold cA; rw [e]; rfl
theorem jP {hd k} : cA V (.ret c hd k κ) = none := by unfold cA; cases V.sg <;> rfl
theorem me {hd k} : cA V (.d8 c hd k) = none := by unfold cA; cases V.sg <;> rfl
variable {md : Option (List Frame)} {t : Sem Fin} {s : Shared}
theorem mf (z : cw V c md κ (skim ⟨V.prog, V.w.params⟩ 1 t) s) : cw V c md κ t s := by
 cases md with
 | none => exact y_skim _ _ _ _ _ _ _ _ _ 1 z
 | some fs => exact s_skim _ _ _ _ _ _ _ _ 1 z
theorem Bj {a : Addr} {q} {k : Obj → Sem Fin} {o : Obj} (ho : h.get? a = some o) (z : cw V c md κ (k o) (V.s h gl i)) : cw V c md κ (.load a q k) (V.s h gl i) := by
 cases md with
 | none => exact y_load _ _ _ _ _ _ _ _ _ _ _ _ _ _ _ _ ho z
 | some fs => exact s_load _ _ _ _ _ _ _ _ _ _ _ _ _ _ _ ho z
theorem yZ {a : Addr} {k : Option Obj → Sem Fin} {o : Obj} (ho : h.get? a = some o) (z : cw V c md κ (k (some o)) (V.s h gl i)) : cw V c md κ (.loadIfAlive a k) (V.s h gl i) := by
 cases md with
 | none => exact y_alive _ _ _ _ _ _ _ _ _ _ _ _ _ _ _ ho z
 | some fs => exact s_alive _ _ _ _ _ _ _ _ _ _ _ _ _ _ ho z
theorem za {o : Obj} {k : Addr → Sem Fin} {n : Nat} (ea : h.objs.size = n) (z : cw V c md κ (k n) (V.s (h.push o) gl i)) : cw V c md κ (.alloc o k) (V.s h gl i) := by
 subst ea
 cases md with
 | none => exact wpOwn_bind (m := PySem.alloc o) (f := k) (wpOwn_of_wpAny (wpAny_alloc z))
 | some fs => exact s_cmd _ _ _ _ _ _ (m := PySem.alloc o) (k := k) (wpAny_alloc z)
theorem vj {a : Addr} {q} {f : Obj → Obj} {k : Unit → Sem Fin} {o : Obj} (ho : h.get? a = some o) (z : cw V c md κ (k ()) (V.s (h.update a f) gl i)) : cw V c md κ (.update a q f k) (V.s h gl i) := by
 cases md with
 | none => exact wpOwn_bind (m := updatePart a q f) (f := k) (wpOwn_of_wpAny (wpAny_updatePart ho z))
 | some fs => exact s_cmd _ _ _ _ _ _ (m := updatePart a q f) (k := k) (wpAny_updatePart ho z)
theorem zb {k : Tok → Sem Fin} (z : cw V c md κ (k (V.t₀ + i)) (V.s h gl (i + 1))) : cw V c md κ (.fresh k) (V.s h gl i) := by
 cases md with
 | none => exact y_fresh _ _ _ _ _ _ _ _ _ _ _ _ _ z
 | some fs => exact s_fresh _ _ _ _ _ _ _ _ _ _ _ _ z
theorem sY {k} (z : cw V c md κ (k (fA V c md κ).handled) (V.s h gl i)) : cw V c md κ (.handled false k) (V.s h gl i) := by
 cases md with
 | none => exact y_handled _ _ _ _ _ _ _ _ _ z
 | some fs => exact s_handled _ _ _ _ _ _ _ _ z
theorem ze {k} (z : ∀ (p : Pos) (below : List (Code × Pos)), Lies (fA V c md κ) ((c, p) :: below) → cw V c md κ (k ((c, p) :: below)) (V.s h gl i)) : cw V c md κ (.stack k) (V.s h gl i) := by
 cases md with
 | none => exact y_stack _ _ _ _ _ _ _ _ _ z
 | some fs => exact s_stack _ _ _ _ _ _ _ _ z
theorem sZ {c' : Code} {hd : Option Value} {g : Bool} {l : List Value} {k : Result → Sem Fin} (hn : hd ≠ some byPass) (z : codeAny (model V.prog V.w) ((fA V c md κ).mark hd) c' (fun r s' => cw V c md κ (k r) s') (V.s h gl i)) : cw V c md κ (.call c' hd g l k) (V.s h gl i) := by
 cases md with
 | none => exact y_call Fin V.prog V.w (dA V.A₀ κ) c (postC V.prog V.w (dA V.A₀ κ) (ee V κ)) (postE (ee V κ)) (V.s h gl i) c' hd g l k hn z
 | some fs => exact Fg _ _ _ _ _ _ _ _ _ _ _ _ hn z
theorem vk {c' : Code} {k : Nat → Sem Fin} (z : cw V c md κ (k (V.G.length + gl.length)) (V.s h (gl ++ [.fresh c']) i)) : cw V c md κ (.newGen c' k) (V.s h gl i) := by
 have e1 : (⟨V.G ++ gl⟩ : Array GenState).size = V.G.length + gl.length := by simp
 have e2 : (⟨V.G ++ gl⟩ : Array GenState).push (.fresh c') = ⟨V.G ++ (gl ++ [.fresh c'])⟩ := by simp
 cases md with
 | none => exact y_newGen _ _ _ _ _ _ _ _ _ _ _ _ _ _ (by rw [e1, e2]; exact z)
 | some fs => exact s_newGen _ _ _ _ _ _ _ _ _ _ _ _ _ (by rw [e1, e2]; exact z)
theorem zf {c' : Code} (hq : sV c' = true) (z : cw V c' md κ (den c') (V.s h gl i)) : cw V c md κ (.pure (.again c')) (V.s h gl i) := by
 have hq : c'.quiet = true := by rw [o5]; exact hq
 rw [← jA] at z
 cases md with
 | none => exact y_pure _ _ _ _ _ _ _ _ _ (y_again _ _ _ _ _ _ hq (y_code _ _ _ _ _ _ z))
 | some fs => exact s_again _ _ _ _ _ _ _ _ hq z
theorem vl {c' : Code} {K : KS} {m : Nat} {E : List (Nat × Nat)} (hq : sV c' = true) (H : o8 V c' md κ K m i gl E) (D : Rep V h K (V.n₀ + m)) : cw V c md κ (.pure (.again c')) (V.s h gl i) := by
 have hq : c'.quiet = true := by rw [o5]; exact hq
 have z := H.2 h D
 cases md with
 | none => exact y_pure _ _ _ _ _ _ _ _ _ (y_again _ _ _ _ _ _ hq z)
 | some fs => exact s_again _ _ _ _ _ _ _ _ hq z
theorem o9 {p : Bool} {x : Nat} {o : Ou} (H : Means V (fW p (.stop x) o)) : p = false ∧ Means V o := by
 cases p with
 | true => exact H.elim
 | false => exact ⟨rfl, H⟩
theorem pb {p : Bool} {x : Nat} {o : Ou} (H : Means V (fW p o (.stop x))) : p = true ∧ Means V o := by
 cases p with
 | true => exact ⟨rfl, H⟩
 | false => exact H.elim
theorem pd {α : Type} {p : Option α} {x : Nat} {f : α → Ou} (H : Means V (rO p (.stop x) f)) : ∃ y, p = some y ∧ Means V (f y) := by
 cases p with
 | none => exact H.elim
 | some y => exact ⟨y, rfl, H⟩
end
section
variable {V : RV} (ih : kZ)
 (IH : ∀ hs c κ t K m i gl E h, Means V (ih hs c κ t K m i gl E) → Rep V h K (V.n₀ + m) → eqs E ∧ cw V c (cA V κ) κ t (V.s h gl i))
include IH
theorem mh {r : Result} {c : Code} {κ : Kn} {t : Sem Fin} (ht : t = leafOf r) {hs : List Nat} {K : KS} {m i : Nat} {gl : List GenState} {E : List (Nat × Nat)} {h : Heap}
  (H : Means V (vi V ih hs r κ K m i gl E)) (D : Rep V h K (V.n₀ + m)) : eqs E ∧ cw V c (cA V κ) κ t (V.s h gl i) := by
 have fin : cA V κ = none → eqs E ∧ ee V κ r (V.s h gl i) → eqs E ∧ cw V c (cA V κ) κ t (V.s h gl i) := fun e key => by
  rw [e]
  refine ⟨key.1, ?_⟩
  cases r with
  | ok f => subst ht; exact y_pure _ _ _ _ _ _ _ _ _ (y_done _ _ _ _ _ _ key.2)
  | error e => subst ht; exact y_raise _ _ _ _ _ _ _ _ _ (y_err _ _ _ key.2)
 cases κ with
 | base =>
  have H' : cond V.sg _ _ := H
  cases e : V.sg with
  | true =>
   rw [e] at H'
   rw [mc e]
   exact ⟨H'.1, s_end _ _ _ _ _ _ r t ht (H'.2 h D)⟩
  | false =>
   rw [e] at H'
   exact fin (i5 e) ⟨H'.1, H'.2 h D⟩
 | ret c₁ hd k κ' =>
  refine fin jP ?_
  cases e : V.sg with
  | false =>
   have H' : Means V (fW V.sg _ (ih hs c₁ κ' (k r) K m i gl E)) := H
   rw [e] at H'
   have z := IH _ _ _ _ _ _ _ _ _ h H' D
   rw [i5 e] at z
   exact z
  | true =>
   cases κ' with
   | base =>
    have H' : Means V (fW V.sg (.stop 12) _) := H
    rw [e] at H'
    exact H'.elim
   | ret c2 h2 k2 κ2 =>
    have H' : Means V (fW V.sg (ih hs c₁ (.ret c2 h2 k2 κ2) (k r) K m i gl E) _) := H
    rw [e] at H'
    have z := IH _ _ _ _ _ _ _ _ _ h H' D; rw [jP] at z; exact z
   | d8 c2 h2 k2 =>
    have H' : Means V (fW V.sg (ih hs c₁ (.d8 c2 h2 k2) (k r) K m i gl E) _) := H
    rw [e] at H'
    have z := IH _ _ _ _ _ _ _ _ _ h H' D; rw [me] at z; exact z
 | d8 c₁ hd k =>
  obtain ⟨e, H⟩ := pb H
  have z := IH _ _ _ _ _ _ _ _ _ h H D
  rw [mc e] at z
  exact fin me z
theorem nT {a : Addr} {c : Code} {κ : Kn} {k : Obj → Sem Fin} {t : Sem Fin} {hs : List Nat} {K : KS} {m i : Nat} {gl : List GenState} {E : List (Nat × Nat)} {h : Heap}
  (fin : ∀ o, h.get? a = some o → cw V c (cA V κ) κ (k o) (V.s h gl i) → cw V c (cA V κ) κ t (V.s h gl i))
  (H : Means V (Bi V ih hs a c κ k K m i gl E)) (D : Rep V h K (V.n₀ + m)) : eqs E ∧ cw V c (cA V κ) κ t (V.s h gl i) := by
 match hs, H with
 | 0 :: hs, H =>
  obtain ⟨o, e, H⟩ := pd H
  exact (IH _ _ _ _ _ _ _ _ _ h H D).imp id (fin o (D.st _ _ e))
 | (j + 1) :: hs, H =>
  obtain ⟨⟨b, o⟩, e, H⟩ := pd H
  obtain ⟨he, z⟩ := IH _ _ _ _ _ _ _ _ _ h H D
  refine ⟨o7 he, fin o ?_ z⟩
  rw [o6 he]; exact D.slot e
theorem oK : ∀ hs c κ t K m i gl E h, Means V (qS V ih hs c κ t K m i gl E) → Rep V h K (V.n₀ + m) → eqs E ∧ cw V c (cA V κ) κ t (V.s h gl i) := by
 intro hs c κ t K m i gl E h H D
 cases t with
 | pure fin =>
  cases fin with
  | done f => exact mh ih IH rfl H D
  | again c' =>
   obtain ⟨hq, H⟩ := pb H
   match hs, H with
   | 0 :: hs, H => exact (IH _ _ _ _ _ _ _ _ _ h H D).imp id (zf hq)
   | (b + 1) :: hs, H => exact ⟨H.1, vl hq H D⟩
 | raise e => exact mh ih IH rfl H D
 | rule tag k => exact (IH _ _ _ _ _ _ _ _ _ h H D).imp id mf
 | «at» q k => exact (IH _ _ _ _ _ _ _ _ _ h H D).imp id mf
 | point l k => exact (IH _ _ _ _ _ _ _ _ _ h H D).imp id mf
 | ask k => exact (IH _ _ _ _ _ _ _ _ _ h H D).imp id mf
 | load a q k => exact nT ih IH (fun o ho z => Bj ho z) H D
 | loadIfAlive a k => exact nT ih IH (fun o ho z => yZ ho z) H D
 | alloc o k =>
  obtain ⟨hf, H⟩ := o9 H
  exact (IH _ _ _ _ _ _ _ _ _ (h.push o) H (D.alloc hf)).imp id (za D.size)
 | update a q f k =>
  match hs, H with
  | (j + 1) :: hs, H =>
   obtain ⟨⟨b, o⟩, e, H⟩ := pd H
   obtain ⟨hf, H⟩ := o9 H
   obtain ⟨he, z⟩ := IH _ _ _ _ _ _ _ _ _ _ H (D.update e hf)
   have ho := D.slot e
   rw [← (o6 he : a = b)] at ho z
   exact ⟨o7 he, vj ho z⟩
 | fresh k => exact (IH _ _ _ _ _ _ _ _ _ h H D).imp id zb
 | handled own k =>
  obtain ⟨rfl, H⟩ := o9 H
  exact (IH _ _ _ _ _ _ _ _ _ h H D).imp id sY
 | stack k => exact ⟨H.1, ze fun p below l => (H.2 p below l).2 h D⟩
 | call c' hd g l k =>
  match hs, hd, H with
  | (b + 1) :: hs, none, H => exact ⟨H.1, sZ H.2.1 (H.2.2 h D)⟩
  | 0 :: hs, hd, H =>
   obtain ⟨q, H⟩ := pb H
   have hb : hd ≠ some byPass := by rintro rfl; simp [okMark] at q
   have fin : ∀ κ', cA V κ' = none → dA V.A₀ κ' = (fA V c (cA V κ) κ).mark hd → ee V κ' = (fun r s' => cw V c (cA V κ) κ (k r) s') → Means V (ih hs c' κ' (den c') K m i gl E) → eqs E ∧ cw V c (cA V κ) κ (.call c' hd g l k) (V.s h gl i) := fun κ' e1 e2 e3 H => by
    refine (IH _ _ _ _ _ _ _ _ _ h H D).imp id fun z => sZ hb ?_
    rw [e1, ← jA] at z
    have z := y_code _ _ _ _ _ _ z
    rw [e2, e3] at z
    exact z
   cases e : V.sg with
   | false =>
    have H' : Means V (fW V.sg _ (ih hs c' (.ret c hd k κ) (den c') K m i gl E)) := H
    rw [e] at H'
    exact fin _ jP (by rw [i5 e]; rfl) (by rw [i5 e]; rfl) H'
   | true =>
    cases κ with
    | base =>
     have H' : Means V (fW V.sg (ih hs c' (.d8 c hd k) (den c') K m i gl E) _) := H
     rw [e] at H'
     exact fin _ me (by rw [mc e]; rfl) (by rw [mc e]; rfl) H'
    | ret c2 h2 k2 κ2 =>
     have H' : Means V (fW V.sg (ih hs c' (.ret c hd k (.ret c2 h2 k2 κ2)) (den c') K m i gl E) _) := H
     rw [e] at H'
     exact fin _ jP (by rw [jP]; rfl) (by rw [jP]; rfl) H'
    | d8 c2 h2 k2 =>
     have H' : Means V (fW V.sg (ih hs c' (.ret c hd k (.d8 c2 h2 k2)) (den c') K m i gl E) _) := H
     rw [e] at H'
     exact fin _ jP (by rw [me]; rfl) (by rw [me]; rfl) H'
 | newGen c' k => exact (IH _ _ _ _ _ _ _ _ _ h H D).imp id vk
 | yield v gd l k =>
  cases κ with
  | base =>
   cases e : V.sg && !gd with
   | true =>
    have H' : Means V (fW (V.sg && !gd) _ _) := H
    rw [e] at H'
    have eg : gd = false := by cases gd with
     | true => rw [Bool.not_true, Bool.and_false] at e; cases e
     | false => rfl
    subst eg
    rw [mc H'.1]
    exact ⟨H'.2.1, s_yield _ _ _ _ _ _ _ _ _ _ H'.2.2.1 H'.2.2.2.1 fun p => H'.2.2.2.2 p h D⟩
   | false =>
    have H' : Means V (fW (V.sg && !gd) _ _) := H
    rw [e] at H'
    exact ⟨H'.1, H'.2 h D⟩
  | ret => exact H.elim
  | d8 => exact H.elim
 | _ => exact ⟨H.1, H.2 h D⟩
end
theorem nU {V : RV} : ∀ n hs c κ t K m i gl E h, Means V (run V n hs c κ t K m i gl E) → Rep V h K (V.n₀ + m) → eqs E ∧ cw V c (cA V κ) κ t (V.s h gl i)
 | 0 => fun _ _ _ _ _ _ _ _ _ h H D => ⟨H.1, H.2 h D⟩
 | n + 1 => oK (run V n) (nU n)
theorem go {V : RV} {c : Code} {κ : Kn} {t : Sem Fin} {K : KS} {m i : Nat} {gl : List GenState} (n : Nat) (hs : List Nat) (H : Means V (run V n hs c κ t K m i gl [])) : br V c (cA V κ) κ t K m i gl [] :=
 ⟨rfl, fun h D => (nU n hs c κ t K m i gl [] h H D).2⟩
namespace Ou
noncomputable def qs : Ou → Qs
 | .stop _ => ⟨[], 0, 0, [], []⟩
 | .fin _ q => q
 | .call _ _ _ _ q => q
 | .again _ _ q => q
 | .stack _ _ _ q => q
 | .tree _ _ _ q => q
 | .yield _ _ _ _ q => q
noncomputable def cd : Ou → Code
 | .call _ c _ _ _ => c
 | .stack c _ _ _ => c
 | .tree c _ _ _ => c
 | _ => .call .none ⟨[], []⟩
noncomputable def kn : Ou → Kn
 | .call _ _ κ _ _ => κ
 | .again _ κ _ => κ
 | .stack _ κ _ _ => κ
 | .tree _ κ _ _ => κ
 | _ => .base
noncomputable def kr : Ou → Result → Sem Fin
 | .call _ _ _ k _ => k
 | _ => fun _ => .raise .none
noncomputable def ks : Ou → List (Code × Pos) → Sem Fin
 | .stack _ _ k _ => k
 | _ => fun _ => .raise .none
noncomputable def tr : Ou → Sem Fin
 | .tree _ _ t _ => t
 | _ => .raise .none
noncomputable def hH : Ou → Option (Code × List GenState)
 | .call c' _ _ _ q => some (c', q.gl)
 | _ => none
noncomputable def gU : Ou → Option (Code × List GenState)
 | .again c' .base q => some (c', q.gl)
 | _ => none
noncomputable def oN : Ou → Option (Result × List GenState)
 | .fin r q => some (r, q.gl)
 | _ => none
noncomputable def jB : Ou → Bool
 | .stack _ _ _ _ => true
 | _ => false
noncomputable def iI : Ou → Bool
 | .tree _ _ _ _ => true
 | _ => false
end Ou
theorem nf {V : RV} {o : Ou} (c' : Code) (gl : List GenState) (h : o.hH = some (c', gl)) (H : w2 V c' none o.cd (cA V o.kn) o.kn o.kr o.qs.K o.qs.m o.qs.i gl o.qs.E) : Means V o := by
 cases o with
 | call => simp only [Ou.hH, Option.some.injEq, Prod.mk.injEq] at h; obtain ⟨rfl, rfl⟩ := h; exact H
 | _ => cases h
theorem iJ {V : RV} {o : Ou} (c' : Code) (gl : List GenState) (h : o.gU = some (c', gl)) (H : o8 V c' (cA V .base) .base o.qs.K o.qs.m o.qs.i gl o.qs.E) : Means V o := by
 cases o with
 | again c κ q => cases κ with
  | base => simp only [Ou.gU, Option.some.injEq, Prod.mk.injEq] at h; obtain ⟨rfl, rfl⟩ := h; exact H
  | ret => cases h
  | d8 => cases h
 | _ => cases h
theorem mi {V : RV} {o : Ou} (r : Result) (gl : List GenState) (h : o.oN = some (r, gl)) (H : cond V.sg (Bg V r o.qs.K o.qs.m o.qs.i gl o.qs.E) (iH V r o.qs.K o.qs.m o.qs.i gl o.qs.E)) : Means V o := by
 cases o with
 | fin => simp only [Ou.oN, Option.some.injEq, Prod.mk.injEq] at h; obtain ⟨rfl, rfl⟩ := h; exact H
 | _ => cases h
theorem vm {V : RV} {o : Ou} (h : o.jB = true) (hE : eqs o.qs.E) (H : ∀ (p : Pos) (below : List (Code × Pos)), Lies (fA V o.cd (cA V o.kn) o.kn) ((o.cd, p) :: below) → br V o.cd (cA V o.kn) o.kn (o.ks ((o.cd, p) :: below)) o.qs.K o.qs.m o.qs.i o.qs.gl []) : Means V o := by
 cases o with
 | stack => exact ⟨hE, H⟩
 | _ => cases h
theorem ng {V : RV} {o : Ou} (h : o.iI = true) (hE : eqs o.qs.E) (H : br V o.cd (cA V o.kn) o.kn o.tr o.qs.K o.qs.m o.qs.i o.qs.gl []) : Means V o := by
 cases o with
 | tree => exact ⟨hE, H.2⟩
 | _ => cases h
noncomputable def top (i : Nat) : Stmt := PySem.Challenge.pw_rs0147_01.main.body.getD i (.Pass default)
noncomputable def kids : Stmt → List Stmt
 | .ClassDef _ _ _ b _ _ _ _ _ _ _ => b
 | _ => []
noncomputable def jC (i j : Nat) : Stmt := (kids (top i)).getD j (.Pass default)
noncomputable def Fi : Stmt → List Stmt
 | .FunctionDef _ _ body _ _ _ _ _ _ _ => body
 | _ => []
noncomputable def Fj : Stmt → Arguments
 | .FunctionDef _ args _ _ _ _ _ _ _ _ => args
 | _ => default
noncomputable def Fm : Stmt → Str
 | .FunctionDef name _ _ _ _ _ _ _ _ _ => name
 | _ => Str.empty
noncomputable def Bk : Stmt → Scope
 | .FunctionDef _ _ _ _ _ _ scope _ _ _ => scope
 | _ => default
noncomputable def dq (st : Stmt) (k : Nat) : Stmt := (Fi st).getD k (.Pass default)
noncomputable def jQ (st : Stmt) : Nat → Nat → List Stmt
 | _, 0 => []
 | k, n + 1 => dq st k :: jQ st (k + 1) n
noncomputable def fQ (st : Stmt) (len : Nat) (q : Str) (Kg : List (Str × Addr)) (df md cd ct : Value) : FuncData :=
 { name := Fm st, qualname := q, params := Fj st, body := .stmts (jQ st 0 len), scope := Bk st, globals := 3, closure := Kg, defaults := df, kwdefaults := .none, doc := .none, pyModule := md, annotations := none, code := cd, closureTuple := ct, builtins := 0 }
noncomputable abbrev en (P : Params) (x : String) (t : Tok) (v : Value) : DictEntry := ⟨PyData.keyHash P (Str.ofString x), .str (Str.ofString x) t, v⟩
noncomputable def Hy (P : Params) : Obj := ⟨(.type SZ.s14018661285674007319x4), none, (.dict ⟨[en P "__name__" 1 (.str (Str.ofString "builtins") 160),
 en P "__doc__" 2 (.builtin "builtins.__doc__:str#opaque"),
 en P "__package__" 3 (.builtin "builtins.__package__:str#opaque"),
 en P "__loader__" 4 (.builtin "builtins.__loader__:shared#opaque"),
 en P "__spec__" 5 (.builtin SZ.s11665532747177232413x24),
 en P "__build_class__" 6 (.builtin SZ.s15183661809925369436x15),
 en P "__import__" 7 (.builtin SZ.s13915890719876406383x10),
 en P "abs" 8 (.builtin SZ.s13459172003223722735x3),
 en P "all" 9 (.builtin SZ.s10557405761357834076x3),
 en P "any" 10 (.builtin SZ.s4233737765568776869x3),
 en P "ascii" 11 (.builtin SZ.s2508922471967985374x5),
 en P "bin" 12 (.builtin SZ.s15574269061696679450x3),
 en P "breakpoint" 13 (.builtin SZ.s6016482663378992977x10),
 en P "callable" 14 (.builtin SZ.s5596568736180474577x8),
 en P "chr" 15 (.builtin SZ.s2839554839881490554x3),
 en P "compile" 16 (.builtin SZ.s725004073602090463x7),
 en P "delattr" 17 (.builtin SZ.s9436932552931045734x7),
 en P "dir" 18 (.builtin SZ.s2754603736356183583x3),
 en P "divmod" 19 (.builtin SZ.s15185746759980889043x6),
 en P "eval" 20 (.builtin SZ.s8192189862530294059x4),
 en P "exec" 21 (.builtin SZ.s7038307821325472102x4),
 en P "format" 22 (.builtin SZ.s5662562618415449548x6),
 en P "getattr" 23 (.builtin SZ.s15281542589158584767x7),
 en P "globals" 24 (.builtin SZ.s17651547275483570877x7),
 en P "hasattr" 25 (.builtin SZ.s4036449017235975746x7),
 en P "hash" 26 (.builtin SZ.s8879979712987360175x4),
 en P "hex" 27 (.builtin SZ.s1801250619170735830x3),
 en P "id" 28 (.builtin SZ.s17659931425627118568x2),
 en P "input" 29 (.builtin SZ.s6063217899685152688x5),
 en P "isinstance" 30 (.builtin SZ.s8008927332132565319x10),
 en P "issubclass" 31 (.builtin SZ.s3544116645089599534x10),
 en P "iter" 32 (.builtin SZ.s13761710972054866084x4),
 en P "aiter" 33 (.builtin SZ.s12896375587409280029x5),
 en P "len" 34 (.builtin SZ.s13014049009108672802x3),
 en P "locals" 35 (.builtin SZ.s13935586738268321596x6),
 en P "max" 36 (.builtin SZ.s8200498257699607233x3),
 en P "min" 37 (.builtin SZ.s14114244577727609259x3),
 en P "next" 38 (.builtin SZ.s1499430450269397089x4),
 en P "anext" 39 (.builtin SZ.s8755793994789770505x5),
 en P "oct" 40 (.builtin SZ.s15725212667919936108x3),
 en P "ord" 41 (.builtin SZ.s15791221867095933363x3),
 en P "pow" 42 (.builtin SZ.s81309575031448614x3),
 en P "print" 43 (.builtin SZ.s8069831620301644142x5),
 en P "repr" 44 (.builtin SZ.s10061844253413749634x4),
 en P "round" 45 (.builtin SZ.s9496514870978017513x5),
 en P "setattr" 46 (.builtin SZ.s8899691144933366716x7),
 en P "sorted" 47 (.builtin SZ.s15201008993051130160x6),
 en P "sum" 48 (.builtin SZ.s741896355592496720x3),
 en P "vars" 49 (.builtin SZ.s17925004256654032244x4),
 en P "None" 50 .none,
 en P "Ellipsis" 51 .ellipsis,
 en P "NotImplemented" 52 .notImplemented,
 en P "False" 53 (.bool false),
 en P "True" 54 (.bool true),
 en P "bool" 55 (.type SZ.s11695548795398191787x4),
 en P "memoryview" 56 (.type SZ.s4156966113859768872x10),
 en P "bytearray" 57 (.type SZ.s9501651726347032510x9),
 en P "bytes" 58 (.type SZ.s15722918466584999320x5),
 en P "classmethod" 59 (.type SZ.s591115383303110208x11),
 en P "complex" 60 (.type SZ.s15721156781594690315x7),
 en P "dict" 61 (.type SZ.s14018661285674007319x4),
 en P "enumerate" 62 (.type SZ.s14340494229221121180x9),
 en P "filter" 63 (.type SZ.s13429844117177748173x6),
 en P "float" 64 (.type SZ.s16463266125957815391x5),
 en P "frozenset" 65 (.type SZ.s4922535414793169389x9),
 en P "property" 66 (.type SZ.s8101838861749082086x8),
 en P "int" 67 (.type SZ.s7066276694103001551x3),
 en P "list" 68 (.type SZ.s9222952809800978799x4),
 en P "map" 69 (.type SZ.s462964344163437139x3),
 en P "object" 70 (.type SZ.s2742458400755230247x6),
 en P "range" 71 (.type SZ.s1438033511350832697x5),
 en P "reversed" 72 (.type SZ.s14365286008749172514x8),
 en P "set" 73 (.type SZ.s3642769012341782148x3),
 en P "slice" 74 (.type SZ.s4674234679698826739x5),
 en P "staticmethod" 75 (.type SZ.s16656946322747308186x12),
 en P "str" 76 (.type SZ.s10796804682411823810x3),
 en P "super" 77 (.type SZ.s4290257624100764138x5),
 en P "tuple" 78 (.type SZ.s2766695959194262286x5),
 en P "type" 79 (.type SZ.s17162191345867700912x4),
 en P "zip" 80 (.type SZ.s14339709457334898076x3),
 en P "__debug__" 81 (.bool true),
 en P "BaseException" 82 (.type SZ.s4278001404047624695x13),
 en P "BaseExceptionGroup" 83 (.type SZ.s6585700554429387442x18),
 en P "Exception" 84 (.type SZ.s5946037652744460706x9),
 en P "GeneratorExit" 85 (.type SZ.s7410770068591931388x13),
 en P "KeyboardInterrupt" 86 (.type SZ.s11817881795495490833x17),
 en P "SystemExit" 87 (.type SZ.s15679963881808890155x10),
 en P "ArithmeticError" 88 (.type SZ.s3871700062485845797x15),
 en P "AssertionError" 89 (.type SZ.s7689518266570723881x14),
 en P "AttributeError" 90 (.type SZ.s9001593270443806431x14),
 en P "BufferError" 91 (.type SZ.s6882542574934516792x11),
 en P "EOFError" 92 (.type SZ.s14403400214490484960x8),
 en P "ImportError" 93 (.type SZ.s14457978657717015782x11),
 en P "LookupError" 94 (.type SZ.s1753610191782819921x11),
 en P "MemoryError" 95 (.type SZ.s14119380538032626715x11),
 en P "NameError" 96 (.type SZ.s11437920000406562045x9),
 en P "OSError" 97 (.type SZ.s10852414792293593619x7),
 en P "ReferenceError" 98 (.type SZ.s14816307405966870543x14),
 en P "RuntimeError" 99 (.type SZ.s8682627914449686677x12),
 en P "StopAsyncIteration" 100 (.type SZ.s4428170145600203450x18),
 en P "StopIteration" 101 (.type SZ.s5991306692159431302x13),
 en P "SyntaxError" 102 (.type SZ.s16067994140765818257x11),
 en P "SystemError" 103 (.type SZ.s2327743974964600596x11),
 en P "TypeError" 104 (.type SZ.s2804747833354056582x9),
 en P "ValueError" 105 (.type SZ.s6070975301684473832x10),
 en P "Warning" 106 (.type SZ.s14270485950484850486x7),
 en P "FloatingPointError" 107 (.type SZ.s12041534306414923332x18),
 en P "OverflowError" 108 (.type SZ.s2531307568338490285x13),
 en P "ZeroDivisionError" 109 (.type SZ.s631175304937289666x17),
 en P "BytesWarning" 110 (.type SZ.s5144983644357021410x12),
 en P "DeprecationWarning" 111 (.type SZ.s18039099521571816885x18),
 en P "EncodingWarning" 112 (.type SZ.s6011586214260557989x15),
 en P "FutureWarning" 113 (.type SZ.s5430567037509283100x13),
 en P "ImportWarning" 114 (.type SZ.s8117915138073963741x13),
 en P "PendingDeprecationWarning" 115 (.type SZ.s3423317712779056401x25),
 en P "ResourceWarning" 116 (.type SZ.s2007317383269046180x15),
 en P "RuntimeWarning" 117 (.type SZ.s17481586968713580700x14),
 en P "SyntaxWarning" 118 (.type SZ.s2450899226349176912x13),
 en P "UnicodeWarning" 119 (.type SZ.s16626165730633575011x14),
 en P "UserWarning" 120 (.type SZ.s14288496050688921416x11),
 en P "BlockingIOError" 121 (.type SZ.s5735081916595925998x15),
 en P "ChildProcessError" 122 (.type SZ.s3865607918536308442x17),
 en P "ConnectionError" 123 (.type SZ.s13337502604062700212x15),
 en P "FileExistsError" 124 (.type SZ.s13114017843053701147x15),
 en P "FileNotFoundError" 125 (.type SZ.s17467278006356818441x17),
 en P "InterruptedError" 126 (.type SZ.s17722149559621369488x16),
 en P "IsADirectoryError" 127 (.type SZ.s7855274175708717672x17),
 en P "NotADirectoryError" 128 (.type SZ.s13351283678309829046x18),
 en P "PermissionError" 129 (.type SZ.s6668348653404991179x15),
 en P "ProcessLookupError" 130 (.type SZ.s12913350958174193794x18),
 en P "TimeoutError" 131 (.type SZ.s16115879512475548326x12),
 en P "IndentationError" 132 (.type SZ.s15920661018069861047x16),
 en P "_IncompleteInputError" 133 (.type SZ.s10779130036587390575x21),
 en P "IndexError" 134 (.type SZ.s7801419657504700863x10),
 en P "KeyError" 135 (.type SZ.s1688129525768580628x8),
 en P "ModuleNotFoundError" 136 (.type SZ.s1031832959479892071x19),
 en P "NotImplementedError" 137 (.type SZ.s8991790508128307865x19),
 en P "PythonFinalizationError" 138 (.type SZ.s14539662485746970245x23),
 en P "RecursionError" 139 (.type SZ.s11643622729373238714x14),
 en P "UnboundLocalError" 140 (.type SZ.s3386828779285465597x17),
 en P "UnicodeError" 141 (.type SZ.s13042696260734638735x12),
 en P "BrokenPipeError" 142 (.type SZ.s18239426817015966623x15),
 en P "ConnectionAbortedError" 143 (.type SZ.s1270395311379034370x22),
 en P "ConnectionRefusedError" 144 (.type SZ.s10696252587037064777x22),
 en P "ConnectionResetError" 145 (.type SZ.s7852717498200857586x20),
 en P "TabError" 146 (.type SZ.s6377248116197321094x8),
 en P "UnicodeDecodeError" 147 (.type SZ.s3834378056692298002x18),
 en P "UnicodeEncodeError" 148 (.type SZ.s17586630440231065808x18),
 en P "UnicodeTranslateError" 149 (.type SZ.s15234114252648025395x21),
 en P "ExceptionGroup" 150 (.type SZ.s8496462677383758984x14),
 en P "EnvironmentError" 151 (.type SZ.s10852414792293593619x7),
 en P "IOError" 152 (.type SZ.s10852414792293593619x7),
 en P "open" 153 (.builtin SZ.s16789243406116112673x4),
 en P "quit" 154 (.builtin SZ.s14400166428656793546x20),
 en P "exit" 155 (.builtin SZ.s5857708277339239366x20),
 en P "copyright" 156 (.builtin "builtins.copyright#opaque"),
 en P "credits" 157 (.builtin "builtins.credits#opaque"),
 en P "license" 158 (.builtin "builtins.license#opaque"),
 en P "help" 159 (.builtin SZ.s7804999707787243718x20)]⟩ 159), ⟨[]⟩⟩
noncomputable def Bl (P : Params) : Obj := ⟨.none, none, (.dict ⟨[]⟩ 0), ⟨[]⟩⟩
noncomputable def Hz (P : Params) : Obj := ⟨(.type SZ.s14018661285674007319x4), none, (.dict ⟨[en P "__name__" 165 (.str (Str.ofString "law_rs0147_01") 440),
 en P "__doc__" 166 .none,
 en P "__package__" 167 .none,
 en P "__loader__" 168 (.builtin SZ.s7097527257260152453x26),
 en P "__spec__" 169 .none,
 en P "__annotations__" 170 (.ref 6),
 en P "__builtins__" 171 (.ref 4),
 en P "__file__" 173 (.str (Str.ofString "/claim/cut.py") 172),
 en P "__cached__" 174 .none,
 en P "_wall" 193 (.ref 21),
 en P "NL" 197 (.str (Str.ofString "\n") 196),
 en P "EMPTYSTRING" 199 (.str (Str.ofString "") 198),
 en P "_ValueFormatter" 307 (.ref 94),
 en P "_Accumulator" 403 (.ref 178),
 en P "StatisticsError" 423 (.ref 192),
 en P "median_low" 431 (.ref 202),
 en P "median_high" 439 (.ref 209),
 en P "_law_rows" 447 (.ref 214),
 en P "_law_fits" 453 (.ref 219),
 en P "_law_written" 465 (.ref 226),
 en P "_law_middles" 474 (.ref 233),
 en P "_law_code" 483 (.ref 240),
 en P "_law_far" 489 (.ref 245),
 en P "law" 495 (.ref 250)]⟩ 24), ⟨[]⟩⟩
noncomputable def HA (P : Params) : Obj := ⟨(.type SZ.s6658869562736209489x6), (some 0), .plain, ⟨[]⟩⟩
noncomputable def Bm (P : Params) : Obj := ⟨(.type SZ.s5856160107412720595x4), none, (.fields ⟨[(.str (Str.ofString "__init__") 212), (.str (Str.ofString "_ValueFormatter.__init__") 213), (.str (Str.ofString "/claim/cut.py") 214), (.int (9) 0), (.int (5) 0), (.int (0) 0), (.int (0) 0), (.int (3) 0), (.ref 29), (.bool true), (.int (181) 0), (.ref 30), .none, (.ref 31), (.ref 32), (.ref 33), (.int (220) 0), (.int (9) 0), (.str (Str.ofString "/claim/cut.py") 221)]⟩), ⟨[]⟩⟩
noncomputable def Fn : Stmt := (jC 4 0)
noncomputable def Bn : FuncData := fQ Fn 6 (Str.ofString "_ValueFormatter.__init__") [] .none (.str (Str.ofString "cpy313.email.header") 194) (.ref 34) .none
noncomputable def Bo (P : Params) : Obj := ⟨(.type SZ.s7174869446012820540x8), none, .func Bn, ⟨[]⟩⟩
noncomputable def Bp (P : Params) : Obj := ⟨(.type SZ.s5856160107412720595x4), none, (.fields ⟨[(.str (Str.ofString "_str") 223), (.str (Str.ofString "_ValueFormatter._str") 224), (.str (Str.ofString "/claim/cut.py") 225), (.int (17) 0), (.int (2) 0), (.int (0) 0), (.int (0) 0), (.int (3) 0), (.ref 36), (.bool true), (.int (181) 0), (.ref 37), .none, (.ref 38), (.ref 39), (.ref 40), (.int (228) 0), (.int (17) 0), (.str (Str.ofString "/claim/cut.py") 229)]⟩), ⟨[]⟩⟩
noncomputable def Fo : Stmt := (jC 4 1)
noncomputable def Bq : FuncData := fQ Fo 2 (Str.ofString "_ValueFormatter._str") [] .none (.str (Str.ofString "cpy313.email.header") 194) (.ref 41) .none
noncomputable def Br (P : Params) : Obj := ⟨(.type SZ.s7174869446012820540x8), none, .func Bq, ⟨[]⟩⟩
noncomputable def Bs (P : Params) : Obj := ⟨(.type SZ.s5856160107412720595x4), none, (.fields ⟨[(.str (Str.ofString "newline") 238), (.str (Str.ofString "_ValueFormatter.newline") 239), (.str (Str.ofString "/claim/cut.py") 240), (.int (24) 0), (.int (1) 0), (.int (0) 0), (.int (0) 0), (.int (3) 0), (.ref 50), (.bool true), (.int (181) 0), (.ref 51), .none, (.ref 52), (.ref 53), (.ref 54), (.int (243) 0), (.int (24) 0), (.str (Str.ofString "/claim/cut.py") 244)]⟩), ⟨[]⟩⟩
noncomputable def Fp : Stmt := (jC 4 3)
noncomputable def Bt : FuncData := fQ Fp 4 (Str.ofString "_ValueFormatter.newline") [] .none (.str (Str.ofString "cpy313.email.header") 194) (.ref 55) .none
noncomputable def Bu (P : Params) : Obj := ⟨(.type SZ.s7174869446012820540x8), none, .func Bt, ⟨[]⟩⟩
noncomputable def Bv (P : Params) : Obj := ⟨(.type SZ.s5856160107412720595x4), none, (.fields ⟨[(.str (Str.ofString "_append_chunk") 280), (.str (Str.ofString "_ValueFormatter._append_chunk") 281), (.str (Str.ofString "/claim/cut.py") 282), (.int (47) 0), (.int (3) 0), (.int (0) 0), (.int (0) 0), (.int (3) 0), (.ref 85), (.bool true), (.int (181) 0), (.ref 86), .none, (.ref 87), (.ref 88), (.ref 89), (.int (291) 0), (.int (47) 0), (.str (Str.ofString "/claim/cut.py") 292)]⟩), ⟨[]⟩⟩
noncomputable def Fq : Stmt := (jC 4 8)
noncomputable def lL : FuncData := fQ Fq 2 (Str.ofString "_ValueFormatter._append_chunk") [] .none (.str (Str.ofString "cpy313.email.header") 194) (.ref 90) .none
noncomputable def Bw (P : Params) : Obj := ⟨(.type SZ.s7174869446012820540x8), none, .func lL, ⟨[]⟩⟩
noncomputable def Bx (P : Params) : Obj := ⟨(.type SZ.s14018661285674007319x4), none, (.dict ⟨[en P "__module__" 207 (.str (Str.ofString "cpy313.email.header") 194),
 en P "__firstlineno__" 211 (.int (7) 210),
 en P "__init__" 222 (.ref 35),
 en P "_str" 230 (.ref 42),
 en P "__str__" 237 (.ref 49),
 en P "newline" 245 (.ref 56),
 en P "add_transition" 252 (.ref 63),
 en P "feed" 262 (.ref 70),
 en P "_maxlengths" 269 (.ref 77),
 en P "_ascii_split" 279 (.ref 84),
 en P "_append_chunk" 293 (.ref 91),
 en P "__static_attributes__" 300 (.ref 92),
 en P "__dict__" 302 (.ref 95),
 en P "__weakref__" 304 (.ref 96),
 en P "__doc__" 305 .none]⟩ 4), ⟨[]⟩⟩
noncomputable def By (P : Params) : Obj := ⟨(.type SZ.s17162191345867700912x4), none, (.cls { name := (Str.ofString "_ValueFormatter"), bases := [(.type SZ.s2742458400755230247x6)], mro := [(.ref 94), (.type SZ.s2742458400755230247x6)], ns := 93, qualname := (Str.ofString "_ValueFormatter"), hasDict := true, slotNames := [], subclasses := [], abstract := false, collection := none, hasDel := false }), ⟨[none, none, (some (.str (Str.ofString "_ValueFormatter") 200)), (some (.str (Str.ofString "_ValueFormatter") 208)), (some (.builtin SZ.s11443829558043349243x14)), (some (.bool true))]⟩⟩
noncomputable def w3 (P : Params) : Obj := ⟨(.type SZ.s15660640913423913556x4), none, (.cell (some (.ref 178))), ⟨[]⟩⟩
noncomputable def w4 (P : Params) : Obj := ⟨(.type SZ.s2766695959194262286x5), none, (.seq ⟨[(.int (0) 320)]⟩ 0), ⟨[]⟩⟩
noncomputable def w5 (P : Params) : Obj := ⟨(.type SZ.s5856160107412720595x4), none, (.fields ⟨[(.str (Str.ofString "__init__") 321), (.str (Str.ofString "_Accumulator.__init__") 322), (.str (Str.ofString "/claim/cut.py") 323), (.int (75) 0), (.int (2) 0), (.int (0) 0), (.int (0) 0), (.int (3) 0), (.ref 109), (.bool true), (.int (181) 0), (.ref 110), .none, (.ref 111), (.ref 112), (.ref 113), (.int (327) 0), (.int (75) 0), (.str (Str.ofString "/claim/cut.py") 328)]⟩), ⟨[]⟩⟩
noncomputable def Bz : Stmt := (jC 5 0)
noncomputable def rP : FuncData := fQ Bz 2 (Str.ofString "_Accumulator.__init__") [((Str.ofString "__class__"), 102)] (.ref 107) (.str (Str.ofString "cpy313.email.header") 194) (.ref 114) (.ref 108)
noncomputable def w6 (P : Params) : Obj := ⟨(.type SZ.s7174869446012820540x8), none, .func rP, ⟨[]⟩⟩
noncomputable def w7 (P : Params) : Obj := ⟨(.type SZ.s5856160107412720595x4), none, (.fields ⟨[(.str (Str.ofString "push") 330), (.str (Str.ofString "_Accumulator.push") 331), (.str (Str.ofString "/claim/cut.py") 332), (.int (79) 0), (.int (3) 0), (.int (0) 0), (.int (0) 0), (.int (3) 0), (.ref 116), (.bool true), (.int (181) 0), (.ref 117), .none, (.ref 118), (.ref 119), (.ref 120), (.int (336) 0), (.int (79) 0), (.str (Str.ofString "/claim/cut.py") 337)]⟩), ⟨[]⟩⟩
noncomputable def BA : Stmt := (jC 5 1)
noncomputable def w8 : FuncData := fQ BA 1 (Str.ofString "_Accumulator.push") [] .none (.str (Str.ofString "cpy313.email.header") 194) (.ref 121) .none
noncomputable def w9 (P : Params) : Obj := ⟨(.type SZ.s7174869446012820540x8), none, .func w8, ⟨[]⟩⟩
noncomputable def xa (P : Params) : Obj := ⟨(.type SZ.s2766695959194262286x5), none, (.seq ⟨[(.int (0) 339)]⟩ 0), ⟨[]⟩⟩
noncomputable def xb (P : Params) : Obj := ⟨(.type SZ.s5856160107412720595x4), none, (.fields ⟨[(.str (Str.ofString "pop_from") 340), (.str (Str.ofString "_Accumulator.pop_from") 341), (.str (Str.ofString "/claim/cut.py") 342), (.int (82) 0), (.int (2) 0), (.int (0) 0), (.int (0) 0), (.int (3) 0), (.ref 124), (.bool true), (.int (181) 0), (.ref 125), .none, (.ref 126), (.ref 127), (.ref 128), (.int (346) 0), (.int (82) 0), (.str (Str.ofString "/claim/cut.py") 347)]⟩), ⟨[]⟩⟩
noncomputable def BB : Stmt := (jC 5 2)
noncomputable def xc : FuncData := fQ BB 3 (Str.ofString "_Accumulator.pop_from") [] (.ref 123) (.str (Str.ofString "cpy313.email.header") 194) (.ref 129) .none
noncomputable def xd (P : Params) : Obj := ⟨(.type SZ.s7174869446012820540x8), none, .func xc, ⟨[]⟩⟩
noncomputable def xe (P : Params) : Obj := ⟨(.type SZ.s5856160107412720595x4), none, (.fields ⟨[(.str (Str.ofString "pop") 349), (.str (Str.ofString "_Accumulator.pop") 350), (.str (Str.ofString "/claim/cut.py") 351), (.int (87) 0), (.int (1) 0), (.int (0) 0), (.int (0) 0), (.int (3) 0), (.ref 132), (.bool true), (.int (181) 0), (.ref 133), .none, (.ref 134), (.ref 135), (.ref 136), (.int (354) 0), (.int (87) 0), (.str (Str.ofString "/claim/cut.py") 355)]⟩), ⟨[]⟩⟩
noncomputable def BC : Stmt := (jC 5 3)
noncomputable def rQ : FuncData := fQ BC 2 (Str.ofString "_Accumulator.pop") [((Str.ofString "__class__"), 102)] .none (.str (Str.ofString "cpy313.email.header") 194) (.ref 137) (.ref 131)
noncomputable def xf (P : Params) : Obj := ⟨(.type SZ.s7174869446012820540x8), none, .func rQ, ⟨[]⟩⟩
noncomputable def mj (P : Params) : Obj := ⟨(.type SZ.s5856160107412720595x4), none, (.fields ⟨[(.str (Str.ofString "__len__") 357), (.str (Str.ofString "_Accumulator.__len__") 358), (.str (Str.ofString "/claim/cut.py") 359), (.int (92) 0), (.int (1) 0), (.int (0) 0), (.int (0) 0), (.int (3) 0), (.ref 139), (.bool true), (.int (181) 0), (.ref 140), .none, (.ref 141), (.ref 142), (.ref 143), (.int (361) 0), (.int (92) 0), (.str (Str.ofString "/claim/cut.py") 362)]⟩), ⟨[]⟩⟩
noncomputable def fX : Stmt := (jC 5 4)
noncomputable def xg : FuncData := fQ fX 1 (Str.ofString "_Accumulator.__len__") [] .none (.str (Str.ofString "cpy313.email.header") 194) (.ref 144) .none
noncomputable def xh (P : Params) : Obj := ⟨(.type SZ.s7174869446012820540x8), none, .func xg, ⟨[]⟩⟩
noncomputable def mn (P : Params) : Obj := ⟨(.type SZ.s5856160107412720595x4), none, (.fields ⟨[(.str (Str.ofString "__str__") 364), (.str (Str.ofString "_Accumulator.__str__") 365), (.str (Str.ofString "/claim/cut.py") 366), (.int (95) 0), (.int (1) 0), (.int (0) 0), (.int (0) 0), (.int (3) 0), (.ref 146), (.bool true), (.int (181) 0), (.ref 147), .none, (.ref 148), (.ref 149), (.ref 150), (.int (368) 0), (.int (95) 0), (.str (Str.ofString "/claim/cut.py") 369)]⟩), ⟨[]⟩⟩
noncomputable def fY : Stmt := (jC 5 5)
noncomputable def xi : FuncData := fQ fY 1 (Str.ofString "_Accumulator.__str__") [] .none (.str (Str.ofString "cpy313.email.header") 194) (.ref 151) .none
noncomputable def xj (P : Params) : Obj := ⟨(.type SZ.s7174869446012820540x8), none, .func xi, ⟨[]⟩⟩
noncomputable def xk (P : Params) : Obj := ⟨(.type SZ.s2766695959194262286x5), none, (.seq ⟨[.none]⟩ 0), ⟨[]⟩⟩
noncomputable def xl (P : Params) : Obj := ⟨(.type SZ.s5856160107412720595x4), none, (.fields ⟨[(.str (Str.ofString "reset") 371), (.str (Str.ofString "_Accumulator.reset") 372), (.str (Str.ofString "/claim/cut.py") 373), (.int (98) 0), (.int (2) 0), (.int (0) 0), (.int (0) 0), (.int (3) 0), (.ref 154), (.bool true), (.int (181) 0), (.ref 155), .none, (.ref 156), (.ref 157), (.ref 158), (.int (376) 0), (.int (98) 0), (.str (Str.ofString "/claim/cut.py") 377)]⟩), ⟨[]⟩⟩
noncomputable def BD : Stmt := (jC 5 6)
noncomputable def rR : FuncData := fQ BD 3 (Str.ofString "_Accumulator.reset") [] (.ref 153) (.str (Str.ofString "cpy313.email.header") 194) (.ref 159) .none
noncomputable def xm (P : Params) : Obj := ⟨(.type SZ.s7174869446012820540x8), none, .func rR, ⟨[]⟩⟩
noncomputable def xn (P : Params) : Obj := ⟨(.type SZ.s5856160107412720595x4), none, (.fields ⟨[(.str (Str.ofString "is_onlyws") 379), (.str (Str.ofString "_Accumulator.is_onlyws") 380), (.str (Str.ofString "/claim/cut.py") 381), (.int (104) 0), (.int (1) 0), (.int (0) 0), (.int (0) 0), (.int (3) 0), (.ref 161), (.bool true), (.int (181) 0), (.ref 162), .none, (.ref 163), (.ref 164), (.ref 165), (.int (383) 0), (.int (104) 0), (.str (Str.ofString "/claim/cut.py") 384)]⟩), ⟨[]⟩⟩
noncomputable def BE : Stmt := (jC 5 7)
noncomputable def rS : FuncData := fQ BE 1 (Str.ofString "_Accumulator.is_onlyws") [] .none (.str (Str.ofString "cpy313.email.header") 194) (.ref 166) .none
noncomputable def xo (P : Params) : Obj := ⟨(.type SZ.s7174869446012820540x8), none, .func rS, ⟨[]⟩⟩
noncomputable def xp (P : Params) : Obj := ⟨(.type SZ.s5856160107412720595x4), none, (.fields ⟨[(.str (Str.ofString "part_count") 386), (.str (Str.ofString "_Accumulator.part_count") 387), (.str (Str.ofString "/claim/cut.py") 388), (.int (107) 0), (.int (1) 0), (.int (0) 0), (.int (0) 0), (.int (3) 0), (.ref 169), (.bool true), (.int (181) 0), (.ref 170), .none, (.ref 171), (.ref 172), (.ref 173), (.int (391) 0), (.int (107) 0), (.str (Str.ofString "/claim/cut.py") 392)]⟩), ⟨[]⟩⟩
noncomputable def BF : Stmt := (jC 5 8)
noncomputable def rT : FuncData := fQ BF 1 (Str.ofString "_Accumulator.part_count") [((Str.ofString "__class__"), 102)] .none (.str (Str.ofString "cpy313.email.header") 194) (.ref 174) (.ref 168)
noncomputable def xr (P : Params) : Obj := ⟨(.type SZ.s7174869446012820540x8), none, .func rT, ⟨[]⟩⟩
noncomputable def xt (P : Params) : Obj := ⟨(.type SZ.s14018661285674007319x4), none, (.dict ⟨[en P "__module__" 315 (.str (Str.ofString "cpy313.email.header") 194),
 en P "__firstlineno__" 319 (.int (73) 318),
 en P "__init__" 329 (.ref 115),
 en P "push" 338 (.ref 122),
 en P "pop_from" 348 (.ref 130),
 en P "pop" 356 (.ref 138),
 en P "__len__" 363 (.ref 145),
 en P "__str__" 370 (.ref 152),
 en P "reset" 378 (.ref 160),
 en P "is_onlyws" 385 (.ref 167),
 en P "part_count" 393 (.ref 175),
 en P "__static_attributes__" 395 (.ref 176),
 en P "__dict__" 398 (.ref 179),
 en P "__weakref__" 400 (.ref 180),
 en P "__doc__" 401 .none]⟩ 5), ⟨[]⟩⟩
noncomputable def xu (P : Params) : Obj := ⟨(.type SZ.s17162191345867700912x4), none, (.cls { name := (Str.ofString "_Accumulator"), bases := [(.type SZ.s9222952809800978799x4)], mro := [(.ref 178), (.type SZ.s9222952809800978799x4), (.type SZ.s2742458400755230247x6)], ns := 177, qualname := (Str.ofString "_Accumulator"), hasDict := true, slotNames := [], subclasses := [], abstract := false, collection := none, hasDel := false }), ⟨[(some (.ref 99)), none, (some (.str (Str.ofString "_Accumulator") 308)), (some (.str (Str.ofString "_Accumulator") 316)), (some (.builtin SZ.s896114127876100448x12)), (some (.bool true))]⟩⟩
noncomputable def xv (P : Params) : Obj := ⟨(.type SZ.s14018661285674007319x4), none, (.dict ⟨[en P "__module__" 413 (.str (Str.ofString "cpy313.statistics") 404),
 en P "__firstlineno__" 417 (.int (110) 416),
 en P "__static_attributes__" 418 (.ref 190),
 en P "__weakref__" 420 (.ref 193),
 en P "__doc__" 421 .none]⟩ 3), ⟨[]⟩⟩
noncomputable def xw (P : Params) : Obj := ⟨(.type SZ.s17162191345867700912x4), none, (.cls { name := (Str.ofString "StatisticsError"), bases := [(.type SZ.s6070975301684473832x10)], mro := [(.ref 192), (.type SZ.s6070975301684473832x10), (.type SZ.s5946037652744460706x9), (.type SZ.s4278001404047624695x13), (.type SZ.s2742458400755230247x6)], ns := 191, qualname := (Str.ofString "StatisticsError"), hasDict := true, slotNames := [], subclasses := [], abstract := false, collection := none, hasDel := false }), ⟨[(some (.ref 183)), none, (some (.str (Str.ofString "StatisticsError") 406)), (some (.str (Str.ofString "StatisticsError") 414)), (some (.builtin SZ.s4209523147560561109x18)), (some (.bool true))]⟩⟩
noncomputable def xx (P : Params) : Obj := ⟨(.type SZ.s5856160107412720595x4), none, (.fields ⟨[(.str (Str.ofString "median_low") 424), (.str (Str.ofString "median_low") 425), (.str (Str.ofString "/claim/cut.py") 426), (.int (112) 0), (.int (1) 0), (.int (0) 0), (.int (0) 0), (.int (3) 0), (.ref 196), (.bool true), (.int (181) 0), (.ref 197), .none, (.ref 198), (.ref 199), (.ref 200), (.int (429) 0), (.int (112) 0), (.str (Str.ofString "/claim/cut.py") 430)]⟩), ⟨[]⟩⟩
noncomputable def pe : Stmt := (top 8)
noncomputable def fM : FuncData := fQ pe 4 (Str.ofString "median_low") [] .none (.str (Str.ofString "cpy313.statistics") 404) (.ref 201) .none
noncomputable def xy (P : Params) : Obj := ⟨(.type SZ.s7174869446012820540x8), none, .func fM, ⟨[]⟩⟩
noncomputable def xA (P : Params) : Obj := ⟨(.type SZ.s5856160107412720595x4), none, (.fields ⟨[(.str (Str.ofString "median_high") 432), (.str (Str.ofString "median_high") 433), (.str (Str.ofString "/claim/cut.py") 434), (.int (121) 0), (.int (1) 0), (.int (0) 0), (.int (0) 0), (.int (3) 0), (.ref 203), (.bool true), (.int (181) 0), (.ref 204), .none, (.ref 205), (.ref 206), (.ref 207), (.int (437) 0), (.int (121) 0), (.str (Str.ofString "/claim/cut.py") 438)]⟩), ⟨[]⟩⟩
noncomputable def s6 : Stmt := (top 9)
noncomputable def iz : FuncData := fQ s6 4 (Str.ofString "median_high") [] .none (.str (Str.ofString "cpy313.statistics") 404) (.ref 208) .none
noncomputable def xB (P : Params) : Obj := ⟨(.type SZ.s7174869446012820540x8), none, .func iz, ⟨[]⟩⟩
noncomputable def xC (P : Params) : Obj := ⟨(.type SZ.s5856160107412720595x4), none, (.fields ⟨[(.str (Str.ofString "_law_rows") 442), (.str (Str.ofString "_law_rows") 443), (.str (Str.ofString "/claim/cut.py") 444), (.int (128) 0), (.int (2) 0), (.int (0) 0), (.int (0) 0), (.int (3) 0), (.ref 210), (.bool true), (.int (181) 0), (.ref 211), .none, .none, .none, (.ref 212), (.int (445) 0), (.int (128) 0), (.str (Str.ofString "/claim/cut.py") 446)]⟩), ⟨[]⟩⟩
noncomputable def s7 : Stmt := (top 11)
noncomputable def oO : FuncData := fQ s7 2 (Str.ofString "_law_rows") [] .none (.str (Str.ofString "law_rs0147_01") 440) (.ref 213) .none
noncomputable def xD (P : Params) : Obj := ⟨(.type SZ.s7174869446012820540x8), none, .func oO, ⟨[]⟩⟩
noncomputable def xE (P : Params) : Obj := ⟨(.type SZ.s5856160107412720595x4), none, (.fields ⟨[(.str (Str.ofString "_law_fits") 448), (.str (Str.ofString "_law_fits") 449), (.str (Str.ofString "/claim/cut.py") 450), (.int (131) 0), (.int (3) 0), (.int (0) 0), (.int (0) 0), (.int (3) 0), (.ref 215), (.bool true), (.int (181) 0), (.ref 216), .none, .none, .none, (.ref 217), (.int (451) 0), (.int (131) 0), (.str (Str.ofString "/claim/cut.py") 452)]⟩), ⟨[]⟩⟩
noncomputable def s8 : Stmt := (top 12)
noncomputable def rU : FuncData := fQ s8 1 (Str.ofString "_law_fits") [] .none (.str (Str.ofString "law_rs0147_01") 440) (.ref 218) .none
noncomputable def xF (P : Params) : Obj := ⟨(.type SZ.s7174869446012820540x8), none, .func rU, ⟨[]⟩⟩
noncomputable def xG (P : Params) : Obj := ⟨(.type SZ.s5856160107412720595x4), none, (.fields ⟨[(.str (Str.ofString "_law_written") 454), (.str (Str.ofString "_law_written") 455), (.str (Str.ofString "/claim/cut.py") 456), (.int (133) 0), (.int (4) 0), (.int (0) 0), (.int (0) 0), (.int (3) 0), (.ref 220), (.bool true), (.int (181) 0), (.ref 221), .none, (.ref 222), (.ref 223), (.ref 224), (.int (463) 0), (.int (133) 0), (.str (Str.ofString "/claim/cut.py") 464)]⟩), ⟨[]⟩⟩
noncomputable def jD : Stmt := (top 13)
noncomputable def jR : FuncData := fQ jD 3 (Str.ofString "_law_written") [] .none (.str (Str.ofString "law_rs0147_01") 440) (.ref 225) .none
noncomputable def xH (P : Params) : Obj := ⟨(.type SZ.s7174869446012820540x8), none, .func jR, ⟨[]⟩⟩
noncomputable def xI (P : Params) : Obj := ⟨(.type SZ.s5856160107412720595x4), none, (.fields ⟨[(.str (Str.ofString "_law_middles") 466), (.str (Str.ofString "_law_middles") 467), (.str (Str.ofString "/claim/cut.py") 468), (.int (140) 0), (.int (1) 0), (.int (0) 0), (.int (0) 0), (.int (3) 0), (.ref 227), (.bool true), (.int (181) 0), (.ref 228), .none, (.ref 229), (.ref 230), (.ref 231), (.int (472) 0), (.int (140) 0), (.str (Str.ofString "/claim/cut.py") 473)]⟩), ⟨[]⟩⟩
noncomputable def s9 : Stmt := (top 14)
noncomputable def dR : FuncData := fQ s9 4 (Str.ofString "_law_middles") [] .none (.str (Str.ofString "law_rs0147_01") 440) (.ref 232) .none
noncomputable def xJ (P : Params) : Obj := ⟨(.type SZ.s7174869446012820540x8), none, .func dR, ⟨[]⟩⟩
noncomputable def xK (P : Params) : Obj := ⟨(.type SZ.s5856160107412720595x4), none, (.fields ⟨[(.str (Str.ofString "_law_code") 475), (.str (Str.ofString "_law_code") 476), (.str (Str.ofString "/claim/cut.py") 477), (.int (151) 0), (.int (1) 0), (.int (0) 0), (.int (0) 0), (.int (3) 0), (.ref 234), (.bool true), (.int (181) 0), (.ref 235), .none, (.ref 236), (.ref 237), (.ref 238), (.int (481) 0), (.int (151) 0), (.str (Str.ofString "/claim/cut.py") 482)]⟩), ⟨[]⟩⟩
noncomputable def BG : Stmt := (top 15)
noncomputable def la : FuncData := fQ BG 3 (Str.ofString "_law_code") [] .none (.str (Str.ofString "law_rs0147_01") 440) (.ref 239) .none
noncomputable def xM (P : Params) : Obj := ⟨(.type SZ.s7174869446012820540x8), none, .func la, ⟨[]⟩⟩
noncomputable def xN (P : Params) : Obj := ⟨(.type SZ.s5856160107412720595x4), none, (.fields ⟨[(.str (Str.ofString "_law_far") 484), (.str (Str.ofString "_law_far") 485), (.str (Str.ofString "/claim/cut.py") 486), (.int (156) 0), (.int (3) 0), (.int (0) 0), (.int (0) 0), (.int (3) 0), (.ref 241), (.bool true), (.int (181) 0), (.ref 242), .none, .none, .none, (.ref 243), (.int (487) 0), (.int (156) 0), (.str (Str.ofString "/claim/cut.py") 488)]⟩), ⟨[]⟩⟩
noncomputable def ph : Stmt := (top 16)
noncomputable def i6 : FuncData := fQ ph 4 (Str.ofString "_law_far") [] .none (.str (Str.ofString "law_rs0147_01") 440) (.ref 244) .none
noncomputable def xO (P : Params) : Obj := ⟨(.type SZ.s7174869446012820540x8), none, .func i6, ⟨[]⟩⟩
noncomputable def xP (P : Params) : Obj := ⟨(.type SZ.s5856160107412720595x4), none, (.fields ⟨[(.str (Str.ofString "law") 490), (.str (Str.ofString "law") 491), (.str (Str.ofString "/claim/cut.py") 492), (.int (168) 0), (.int (1) 0), (.int (0) 0), (.int (0) 0), (.int (3) 0), (.ref 246), (.bool true), (.int (181) 0), (.ref 247), .none, .none, .none, (.ref 248), (.int (493) 0), (.int (168) 0), (.str (Str.ofString "/claim/cut.py") 494)]⟩), ⟨[]⟩⟩
noncomputable def cn : Stmt := (top 17)
noncomputable def cU : FuncData := fQ cn 28 (Str.ofString "law") [] .none (.str (Str.ofString "law_rs0147_01") 440) (.ref 249) .none
noncomputable def rV (P : Params) : Obj := ⟨(.type SZ.s7174869446012820540x8), none, .func cU, ⟨[]⟩⟩
noncomputable def gV (P : Params) : KT := (.node (some (Hy P)) (.node none (.node (some (Hz P)) (.node none (.node none (.node none (.node none .nil (.node (some (xv P)) .nil .nil)) (.node none (.node (some (xl P)) .nil .nil) .nil)) (.node none .nil (.node none (.node (some (xr P)) .nil .nil) (.node (some (xK P)) .nil .nil)))) (.node none (.node none .nil (.node none (.node (some (xo P)) .nil .nil) .nil)) (.node (some (Bs P)) (.node none (.node (some (mn P)) .nil .nil) .nil) .nil))) (.node none (.node none (.node (some (Bo P)) .nil .nil) (.node none .nil (.node (some (w6 P)) .nil .nil))) (.node none (.node none .nil (.node (some (w4 P)) .nil .nil)) (.node none (.node (some (Bw P)) .nil (.node (some (xF P)) .nil .nil)) (.node (some (xa P)) .nil .nil))))) (.node none (.node none (.node none (.node none (.node none (.node (some (xb P)) .nil .nil) .nil) (.node none .nil (.node (some (xG P)) .nil .nil))) (.node none (.node none (.node (some (xh P)) .nil .nil) (.node (some (xB P)) .nil .nil)) (.node none (.node (some (xt P)) .nil .nil) .nil))) (.node none (.node (some (Bp P)) (.node none (.node (some (xe P)) .nil .nil) (.node (some (xx P)) .nil .nil)) (.node none .nil (.node (some (xJ P)) .nil .nil))) (.node none (.node none (.node (some (xk P)) .nil .nil) .nil) (.node (some (w7 P)) .nil (.node (some (xP P)) .nil .nil))))) (.node none (.node none .nil (.node none (.node none .nil (.node (some (xC P)) .nil .nil)) (.node none .nil (.node (some (xO P)) .nil .nil)))) (.node none .nil (.node none (.node (some (Bx P)) .nil .nil) .nil))))) (.node (some (Bl P)) (.node (some (HA P)) (.node none (.node none (.node none (.node none .nil (.node (some (xw P)) .nil .nil)) (.node none (.node (some (xm P)) .nil .nil) .nil)) (.node none (.node none (.node (some (mj P)) .nil .nil) (.node (some (xA P)) .nil .nil)) (.node none .nil (.node (some (xM P)) .nil .nil)))) (.node none (.node none .nil (.node none .nil (.node (some (xI P)) .nil .nil))) (.node (some (Bu P)) (.node none (.node (some (xj P)) .nil .nil) .nil) .nil))) (.node none (.node none .nil (.node none .nil (.node none .nil (.node (some (xN P)) .nil .nil)))) .nil)) (.node none (.node none (.node none (.node (some (Bm P)) (.node none (.node (some (xd P)) .nil .nil) .nil) (.node none .nil (.node (some (xH P)) .nil .nil))) (.node none .nil (.node (some (w5 P)) (.node (some (xu P)) .nil .nil) .nil))) (.node none (.node (some (Br P)) (.node none (.node (some (xf P)) .nil .nil) (.node (some (xy P)) .nil .nil)) .nil) (.node none (.node (some (Bv P)) .nil (.node (some (xE P)) .nil .nil)) (.node (some (w9 P)) .nil (.node (some (rV P)) .nil .nil))))) (.node none (.node none (.node none .nil (.node (some (w3 P)) (.node (some (xn P)) .nil .nil) .nil)) (.node none (.node none .nil (.node (some (xD P)) .nil .nil)) .nil)) (.node none (.node none .nil (.node none (.node (some (xp P)) .nil .nil) .nil)) (.node none (.node (some (By P)) .nil .nil) .nil))))))
noncomputable abbrev prog : Program := PySem.Challenge.pw_rs0147_01
noncomputable def dE (w : World) (b : Bool) : World := { w with params := { w.params with followText := fun r => cond (PySem.W.S.eqLit 10139888712337904147300001983332972444938612 r) b (w.params.followText r) } }
theorem BH (w : World) : w = dE w (w.params.followText "special-get-raises") := by
 have e := PySem.W.S.eqLit_eq "special-get-raises" 10139888712337904147300001983332972444938612 (by decide +kernel)
 exact congrArg (fun F => ({ w with params := { w.params with followText := F } } : World)) (show w.params.followText = _ from by
  funext r
  rw [← congrFun e r]
  cases q : (r == "special-get-raises") with
  | true => rw [eq_of_beq q]; rfl
  | false => rfl)
noncomputable def az (w : World) (b : Bool) (A : Around) (R : Result → Shared → Prop) (s : Shared) (K : KS) (n t : Nat) (G : List GenState) : RV :=
 ⟨prog, dE w b, A, R, fun _ _ => False, s.drawn, s.os, gV w.params, s.heap, K.map (·.1), n, t, G, false⟩
noncomputable def BI (id : String) : Nat := cond (PySem.W.S.eqLit 35714603318786955769505017188 id) 1000 5
noncomputable def pj : Code → Nat
 | .builtin id _ => BI id
 | .call .. => 0
 | .func .. => 1
 | .expr .. => 1
 | .body .. => 1
 | .compStart .. => 1
 | .compLoop .. => 1
 | _ => 0
theorem dl {p : Prop} {d : Decidable p} {a : p → Nat} {b : ¬p → Nat} (ha : ∀ h, a h ≤ 3) (hb : ∀ h, b h ≤ 3) : @dite Nat p d a b ≤ 3 := by
 cases d with
 | isTrue h => exact ha h
 | isFalse h => exact hb h
theorem d1 {b : Bool} : (if b = true then 1 else 0) ≤ 1 := by cases b <;> decide
theorem mq (c : Code) : c.frames ≤ 3 := by
 cases c
 case builtin id args =>
  delta Code.frames Code.frames.match_1 Code.frames._sparseCasesOn_1
  dsimp only
  iterate 9
   refine dl (fun h => ?_) (fun _ => ?_)
   ·subst h; decide
  exact Nat.le_trans d1 (by decide)
 all_goals (delta Code.frames Code.frames.match_1 Code.frames._sparseCasesOn_1; dsimp only; exact Nat.le_trans d1 (by decide))
theorem vn {id : String} {args : Args} (h : id ≠ "claim.caller") : (Code.builtin id args).isCaller = false := by
 delta Code.isCaller Code.isCaller.match_1 Code.isGuard._sparseCasesOn_1
 dsimp only
 exact dif_neg h
theorem hM (c : Code) : c.weight ≤ pj c := by
 cases c
 case builtin id args =>
  have h3 : (if (Code.builtin id args).isCaller = true then claimMargin else 0) + 5 ≤ BI id := by
   unfold BI
   rw [← congrFun (PySem.W.S.eqLit_eq "claim.caller" 35714603318786955769505017188 (by decide +kernel)) id]
   cases q : (id == "claim.caller") with
   | true => rw [eq_of_beq q]; exact Nat.le_of_ble_eq_true rfl
   | false => rw [vn (fun h => by rw [h, beq_self_eq_true] at q; cases q)]; exact Nat.le_refl _
  exact Nat.le_trans (Nat.add_le_add_right (Nat.add_le_add (Nat.add_le_add (mq _) d1) d1) _) (by rw [Nat.add_comm]; exact h3)
 case compStart => exact d1
 case compLoop => exact d1
 all_goals exact Nat.le_of_ble_eq_true rfl
theorem gC (c : Code) : c.cUnits ≤ 10 := by
 have h := mq c
 unfold Code.cUnits
 split <;> lia
noncomputable def pk : Kn → Nat
 | .base => 0
 | .ret c _ _ κ => pj c + pk κ
 | .d8 c _ _ => pj c
noncomputable def nh : Kn → Nat
 | .base => 0
 | .ret _ _ _ κ => 1 + nh κ
 | .d8 _ _ _ => 1
noncomputable def oP : Kn → Bool
 | .base => true
 | .ret _ hd _ κ => match hd with
  | none => oP κ
  | some _ => false
 | .d8 _ hd _ => match hd with
  | none => true
  | some _ => false
noncomputable def hO (c : Code) (κ : Kn) : Bool := Nat.ble (pj c + pk κ) 24 && (Nat.ble (nh κ) 8 && oP κ)
structure Lv (n : Nat) (A : Around) : Prop where
 hd : A.handled = none
 fr : ∃ l, A.frames = some l
 dp : A.depth + 24 * n ≤ 990
 un : A.units + 100 * n ≤ 9000
 tp : n ≤ 28 ∧ (n = 28 → A.frames = some [])
theorem nV (A : Around) (κ : Kn) : (dA A κ).depth ≤ A.depth + pk κ := by
 induction κ with
 | base => exact Nat.le_refl _
 | ret c hd k κ ih =>
  show (dA A κ).depth + c.weight ≤ A.depth + (pj c + pk κ)
  have := hM c
  lia
 | d8 c hd k => exact Nat.add_le_add_left (hM c) A.depth
theorem nW (A : Around) (κ : Kn) : (dA A κ).units ≤ A.units + 10 * nh κ := by
 induction κ with
 | base => exact Nat.le_refl _
 | ret c hd k κ ih =>
  show (dA A κ).units + c.cUnits ≤ A.units + 10 * (1 + nh κ)
  have := gC c
  lia
 | d8 c hd k => exact Nat.add_le_add_left (gC c) A.units
theorem rW (A : Around) (κ : Kn) (h : ∃ l, A.frames = some l) : ∃ l, (dA A κ).frames = some l := by
 induction κ with
 | base => exact h
 | ret c hd k κ ih =>
  obtain ⟨l, hl⟩ := ih
  refine ⟨c.envs ++ l, ?_⟩
  show pushEnvs c.envs (dA A κ).frames = _
  rw [pushEnvs_eq, hl]; rfl
 | d8 c hd k =>
  obtain ⟨l, hl⟩ := h
  refine ⟨c.envs ++ l, ?_⟩
  show pushEnvs c.envs (pushEnvs [] A.frames) = _
  rw [show pushEnvs [] A.frames = A.frames from rfl, pushEnvs_eq, hl]; rfl
theorem qK (A : Around) (κ : Kn) (h : A.handled = none) (hn : oP κ = true) : (dA A κ).handled = none := by
 induction κ with
 | base => exact h
 | ret c hd k κ ih =>
  cases hd with
  | some e => cases hn
  | none => show (none : Option Value).or (dA A κ).handled = none; rw [ih hn]; rfl
 | d8 c hd k =>
  cases hd with
  | some e => cases hn
  | none => show (none : Option Value).or A.handled = none; rw [h]; rfl
theorem nX {c : Code} {κ : Kn} (h : hO c κ = true) : pj c + pk κ ≤ 24 ∧ nh κ ≤ 8 ∧ oP κ = true := by
 unfold hO at h
 rw [Bool.and_eq_true, Bool.and_eq_true] at h
 exact ⟨Nat.le_of_ble_eq_true h.1, Nat.le_of_ble_eq_true h.2.1, h.2.2⟩
theorem Lv.fR {n : Nat} {V : RV} {c : Code} {κ : Kn} (L : Lv (n + 1) V.A₀) (h : hO c κ = true) : Lv n (fA V c none κ) := by
 obtain ⟨h1, h2, h3⟩ := nX h
 refine ⟨qK _ _ L.hd h3, ?_, ?_, ?_, by have := L.tp.1; exact gA, fun e => by have := L.tp.1; lia⟩
 ·obtain ⟨l, hl⟩ := rW V.A₀ κ L.fr
  refine ⟨c.envs ++ l, ?_⟩
  show pushEnvs c.envs (dA V.A₀ κ).frames = _
  rw [pushEnvs_eq, hl]; rfl
 ·show (dA V.A₀ κ).depth + c.weight + 24 * n ≤ 990
  have := L.dp
  have := nV V.A₀ κ
  have := hM c
  lia
 ·show (dA V.A₀ κ).units + c.cUnits + 100 * n ≤ 9000
  have := L.un
  have := nW V.A₀ κ
  have := gC c
  lia
theorem Lv.mark {n : Nat} {A : Around} (L : Lv n A) : Lv n (A.mark none) := by
 obtain ⟨h, d, f, g, u⟩ := A
 exact ⟨L.hd, L.fr, L.dp, L.un, L.tp⟩
theorem Lv.less {n m : Nat} {A : Around} (L : Lv n A) (h : m ≤ n) : Lv m A := ⟨L.hd, L.fr, by have := L.dp; lia, by have := L.un; lia, by have := L.tp.1; lia, fun e => L.tp.2 (by have := L.tp.1; lia)⟩
theorem zh {A : Around} {st : List (Code × Pos)} (l : Lies A st) (L : Lv 0 A) (own : Nat) : oNear.1 st own recursionLimit = false := l.near' (by have := L.dp; unfold recursionLimit; lia) own
theorem zi {A : Around} {st : List (Code × Pos)} (l : Lies A st) (L : Lv 0 A) (own : Nat) : oOver.1 st own recursionLimit = false := l.over (by have := L.dp; unfold recursionLimit; lia) own
theorem zj {A : Around} {st : List (Code × Pos)} (l : Lies A st) (L : Lv 0 A) (own : Nat) : oWarm.1 st own recursionLimit = false := l.warm (by have := L.dp; unfold recursionLimit; lia) own
theorem zk {A : Around} {st : List (Code × Pos)} (l : Lies A st) (L : Lv 0 A) : oRoom.1 st = false := l.room (by have := L.un; unfold cLine; lia)
theorem pn {V : RV} {c : Code} {κ : Kn} {n : Nat} {st : List (Code × Pos)} (l : Lies (fA V c none κ) st) (L : Lv (n + 1) V.A₀) (h : hO c κ = true) (own : Nat) : oNear.1 st own recursionLimit = false := zh l ((L.fR h).less (Nat.zero_le _)) own
theorem BJ {V : RV} {c : Code} {κ : Kn} {n : Nat} {st : List (Code × Pos)} (l : Lies (fA V c none κ) st) (L : Lv (n + 1) V.A₀) (h : hO c κ = true) (own : Nat) : oOver.1 st own recursionLimit = false := zi l ((L.fR h).less (Nat.zero_le _)) own
theorem pq {V : RV} {c : Code} {κ : Kn} {n : Nat} {st : List (Code × Pos)} (l : Lies (fA V c none κ) st) (L : Lv (n + 1) V.A₀) (h : hO c κ = true) (own : Nat) : oWarm.1 st own recursionLimit = false := zj l ((L.fR h).less (Nat.zero_le _)) own
theorem d5 {V : RV} {c : Code} {κ : Kn} {n : Nat} {st : List (Code × Pos)} (l : Lies (fA V c none κ) st) (L : Lv (n + 1) V.A₀) (h : hO c κ = true) : oRoom.1 st = false := zk l ((L.fR h).less (Nat.zero_le _))
structure In (w : World) (s : Shared) (K : KS) : Prop where
 st : ∀ a o, (gV w.params).get a = some o → s.heap.get? a = some o
 mem : ∀ p ∈ K, s.heap.get? p.1 = some p.2
 nd : (K.map (·.1)).Nodup
 lo : ∀ p ∈ K, (gV w.params).get p.1 = none
theorem In.lt {w : World} {s : Shared} {K : KS} (I : In w s K) : ∀ p ∈ K, p.1 < s.heap.objs.size := fun p hp => Heap.lt_size (I.mem p hp)
def IS (l : List GenState) : Prop := ∀ x ∈ l, x = .finished
def gW (g g' : List GenState) : Prop := ∃ l, g' = g ++ l ∧ IS l
theorem gW.refl (g : List GenState) : gW g g := ⟨[], (List.append_nil g).symm, fun _ h => nomatch h⟩
theorem gW.trans {a b c : List GenState} (h : gW a b) (k : gW b c) : gW a c := by
 obtain ⟨l, rfl, hl⟩ := h
 obtain ⟨m, rfl, hm⟩ := k
 exact ⟨l ++ m, List.append_assoc _ _ _, fun x hx => (List.mem_append.mp hx).elim (hl x) (hm x)⟩
structure OutH (w : World) (s : Shared) (K : KS) (s' : Shared) (K' N : KS) : Prop where
 fR : In w s' (K' ++ N)
 pre : K'.map (·.1) = K.map (·.1)
 new : ∀ p ∈ N, s.heap.objs.size ≤ p.1
 keep : ∀ b o, s.heap.get? b = some o → b ∉ K.map (·.1) → s'.heap.get? b = some o
 size : s.heap.objs.size ≤ s'.heap.objs.size
 dr : s'.drawn = s.drawn
 os : s'.os = s.os
 toks : s.toks ≤ s'.toks
structure Out (w : World) (s : Shared) (K : KS) (s' : Shared) (K' N : KS) : Prop extends OutH w s K s' K' N where
 gens : gW s.gens.toList s'.gens.toList
structure Ro (w : World) (s : Shared) (K T : KS) : Prop where
 mem : ∀ p ∈ T, s.heap.get? p.1 = some p.2
 nd : (T.map (·.1)).Nodup
 lo : ∀ p ∈ T, (gV w.params).get p.1 = none
 off : ∀ p ∈ T, p.1 ∉ K.map (·.1)
 lt : ∀ p ∈ K, p.1 < s.heap.objs.size
theorem eX {A B : KS} : ((A ++ B).map (·.1)).Nodup ↔ (A.map (·.1)).Nodup ∧ (B.map (·.1)).Nodup ∧ ∀ p ∈ A, ∀ q ∈ B, p.1 ≠ q.1 := by
 rw [List.map_append, List.nodup_append]
 exact and_congr_right fun _ => and_congr_right fun _ => ⟨fun h p hp q hq => h _ (List.mem_map_of_mem hp) _ (List.mem_map_of_mem hq), fun h x hx y hy => by
  obtain ⟨p, hp, rfl⟩ := List.mem_map.mp hx
  obtain ⟨q, hq, rfl⟩ := List.mem_map.mp hy
  exact h p hp q hq⟩
theorem pre_of {A B C : KS} (h : (A ++ C).map (·.1) = (B ++ C).map (·.1)) : A.map (·.1) = B.map (·.1) := by
 rw [List.map_append, List.map_append] at h
 exact List.append_cancel_right h
abbrev ml {A B : KS} {p : Addr × Obj} (h : p ∈ A) : p ∈ A ++ B := List.mem_append_left B h
abbrev mr {A B : KS} {p : Addr × Obj} (h : p ∈ B) : p ∈ A ++ B := List.mem_append_right A h
theorem pv {A B : KS} (h : A.map (·.1) = B.map (·.1)) {p : Addr × Obj} (hp : p ∈ A) : ∃ q ∈ B, q.1 = p.1 := by
 have := List.mem_map_of_mem (f := (·.1)) hp
 rw [h] at this
 exact List.mem_map.mp this
structure Of (K' K : KS) : Prop where
 m : ∀ p ∈ K', p ∈ K
 nd : (K.map (·.1)).Nodup → (K'.map (·.1)).Nodup
theorem Of.sub {K' K : KS} (h : K'.Sublist K) : Of K' K := ⟨fun _ hp => h.subset hp, fun nd => (h.map _).nodup nd⟩
theorem Rep.of {V : RV} {h : Heap} {K K' : KS} {n : Nat} (D : Rep V h K n) (hs : Of K' K) : Rep V h K' n :=
 ⟨D.size, D.st, fun p hp => D.mem p (hs.m p hp), hs.nd D.nd, fun p hp => D.lo p (hs.m p hp), fun p hp => D.own p (hs.m p hp), D.keep, D.big⟩
theorem In.split {w : World} {s : Shared} {K T : KS} (I : In w s (K ++ T)) : In w s K ∧ Ro w s K T := by
 obtain ⟨n1, n2, n3⟩ := eX.mp I.nd
 exact ⟨⟨I.st, fun p hp => I.mem p (ml hp), n1, fun p hp => I.lo p (ml hp)⟩, fun p hp => I.mem p (mr hp), n2, fun p hp => I.lo p (mr hp), fun p hp hk => by
  obtain ⟨q, hq, e⟩ := List.mem_map.mp hk
  exact n3 q hq p hp e, fun p hp => I.lt p (ml hp)⟩
theorem In.perm {w : World} {s : Shared} {K K' : KS} (h : K.Perm K') (I : In w s K) : In w s K' :=
 ⟨I.st, fun p hp => I.mem p (h.mem_iff.mpr hp), (h.map _).nodup_iff.mp I.nd, fun p hp => I.lo p (h.mem_iff.mpr hp)⟩
section
variable {w : World} {b : Bool} {A : Around} {R : Result → Shared → Prop} {s : Shared} {K0 T : KS} {n t m i : Nat} {G gl : List GenState} {h : Heap} {K : KS}
theorem Rep.rd (D : Rep (az w b A R s K0 n t G) h K m) (ro : Ro w s K0 T) : (∀ p ∈ T, h.get? p.1 = some p.2) ∧ ∀ p ∈ K, ∀ q ∈ T, p.1 ≠ q.1 :=
 ⟨fun p hp => D.keep p.1 p.2 (ro.mem p hp) (ro.off p hp), fun p hp q hq e => by
  rcases D.own p hp with z | z
  ·exact ro.off q hq (e ▸ z)
  ·have y := ro.mem q hq
   rw [← e, show s.heap.get? p.1 = none from z] at y
   cases y⟩
theorem Rep.out {K₂ K' N : KS} (ro : Ro w s K0 T) (D : Rep (az w b A R s K0 n t G) h K₂ m) (hm : Of (K' ++ N) K₂) (hp : K'.map (·.1) = K0.map (·.1)) (hN : ∀ p ∈ N, s.heap.objs.size ≤ p.1) (ht : s.toks ≤ t) :
  OutH w s (K0 ++ T) ((az w b A R s K0 n t G).s h gl i) (K' ++ T) N := by
 have D' := D.of hm
 obtain ⟨hT, hd⟩ := D'.rd ro
 obtain ⟨n1, n2, n3⟩ := eX.mp D'.nd
 refine ⟨⟨D'.st, fun p q => ?_, eX.mpr ⟨eX.mpr ⟨n1, ro.nd, fun p q r z => hd p (ml q) r z⟩, n2, fun p q r z => ?_⟩, fun p q => ?_⟩, by rw [List.map_append, List.map_append, hp], hN, fun c o e q => D.keep c o e fun hc => q (by rw [List.map_append]; exact List.mem_append_left _ hc), D.size ▸ D.big, rfl, rfl, Nat.le_add_right_of_le ht⟩
 ·rw [List.mem_append, List.mem_append] at q
  exact q.elim (·.elim (fun q => D'.mem p (ml q)) (hT p)) fun q => D'.mem p (mr q)
 ·exact (List.mem_append.mp q).elim (fun q => n3 p q r z) fun q => Nat.ne_of_lt (Nat.lt_of_lt_of_le (Heap.lt_size (ro.mem p q)) (hN r z))
 ·rw [List.mem_append, List.mem_append] at q
  exact q.elim (·.elim (fun q => D'.lo p (ml q)) (ro.lo p)) fun q => D'.lo p (mr q)
theorem Rep.ask {K1 Ks T1 : KS} (ro : Ro w s K0 T) (D : Rep (az w b A R s K0 n t G) h K m) (hs : Of (K1 ++ Ks) K) (hT : ∀ p ∈ T1, p ∈ Ks ++ T) (BK : (T1.map (·.1)).Nodup) : In w ((az w b A R s K0 n t G).s h gl i) (K1 ++ T1) := by
 have D' := D.of hs
 obtain ⟨ht, hd⟩ := D'.rd ro
 obtain ⟨n1, _, n3⟩ := eX.mp D'.nd
 have f : ∀ p ∈ T1, h.get? p.1 = some p.2 ∧ (gV w.params).get p.1 = none ∧ ∀ q ∈ K1, q.1 ≠ p.1 := fun p hp => (List.mem_append.mp (hT p hp)).elim
  (fun z => ⟨D'.mem p (mr z), D'.lo p (mr z), fun q hq => n3 q hq p z⟩) fun z => ⟨ht p z, ro.lo p z, fun q hq => hd q (ml hq) p z⟩
 exact ⟨D.st, fun p q => (List.mem_append.mp q).elim (fun q => D'.mem p (ml q)) fun q => (f p q).1, eX.mpr ⟨n1, BK, fun p hp q hq => (f q hq).2.2 p hp⟩, fun p q => (List.mem_append.mp q).elim (fun q => D'.lo p (ml q)) fun q => (f p q).2.1⟩
theorem Rep.call {n' t' : Nat} {G' : List GenState} {K1 Ks T1 U N : KS} {s₁ s' : Shared} (Kh : s₁.heap = h) (D : Rep (az w b A R s K0 n t G) h K m) (hs : Of (K1 ++ Ks) K) (hT : ∀ p ∈ T1, h.get? p.1 = some p.2) (O : OutH w s₁ (K1 ++ T1) s' (U ++ T1) N) :
  Rep (az w b A R s K0 n' t' G') s'.heap (U ++ Ks ++ N) s'.heap.objs.size := by
 subst Kh
 have D' := D.of hs
 obtain ⟨n1, n2, n3⟩ := eX.mp D'.nd
 have pre := pre_of O.pre
 have kept : ∀ c o, s₁.heap.get? c = some o → (∀ q ∈ K1, q.1 ≠ c) → s'.heap.get? c = some o := fun c o e q => by
  by_cases hc : c ∈ T1.map (·.1)
  ·obtain ⟨p, hp, rfl⟩ := List.mem_map.mp hc
   have z := O.fR.mem p (ml (mr hp))
   rw [hT p hp] at e
   cases e
   exact z
  ·refine O.keep c o e fun hx => ?_
   rw [List.map_append] at hx
   rcases List.mem_append.mp hx with h | h
   ·obtain ⟨p, hp, e⟩ := List.mem_map.mp h
    exact q p hp e
   ·exact hc h
 obtain ⟨m1, m2, m3⟩ := eX.mp O.fR.nd
 have lt : ∀ p ∈ K1 ++ Ks, p.1 < s₁.heap.objs.size := fun p hp => Heap.lt_size (D'.mem p hp)
 have big : s.heap.objs.size ≤ s₁.heap.objs.size := D.size ▸ D.big
 refine ⟨rfl, O.fR.st, fun p hp => ?_, eX.mpr ⟨eX.mpr ⟨(eX.mp m1).1, n2, fun p hp q hq e => ?_⟩, m2, fun p hp q hq => Nat.ne_of_lt (Nat.lt_of_lt_of_le ?_ (O.new q hq))⟩, fun p hp => ?_, fun p hp => ?_, fun c o e q => kept c o (D.keep c o e q) fun r hr e' => ?_, Nat.le_trans big O.size⟩
 ·rw [List.mem_append, List.mem_append] at hp
  exact hp.elim (·.elim (fun q => O.fR.mem p (ml (ml q))) fun q => kept _ _ (D'.mem p (mr q)) fun r hr => n3 r hr p q) fun q => O.fR.mem p (mr q)
 ·obtain ⟨r, hr, e'⟩ := pv pre hp
  exact n3 r hr q hq (e'.trans e)
 ·rcases List.mem_append.mp hp with hp | hp
  ·obtain ⟨r, hr, e'⟩ := pv pre hp
   exact e' ▸ lt r (ml hr)
  ·exact lt p (mr hp)
 ·rw [List.mem_append, List.mem_append] at hp
  exact hp.elim (·.elim (fun q => O.fR.lo p (ml (ml q))) fun q => D'.lo p (mr q)) fun q => O.fR.lo p (mr q)
 ·rw [List.mem_append, List.mem_append] at hp
  rcases hp with (hp | hp) | hp
  ·obtain ⟨r, hr, e'⟩ := pv pre hp
   exact e' ▸ D'.own r (ml hr)
  ·exact D'.own p (mr hp)
  ·exact .inr (fT (Nat.le_trans big (O.new p hp)))
 ·rcases D'.own r (ml hr) with y | y
  ·exact q (e' ▸ y)
  ·rw [e', show (az w b A R s K0 n t G).h₀.get? c = some o from e] at y
   cases y
end
noncomputable def sel : KS → List Bool → KS
 | [], _ => []
 | _ :: _, [] => []
 | x :: K, true :: m => x :: sel K m
 | _ :: K, false :: m => sel K m
theorem ni : ∀ (K : KS) (m : List Bool), (sel K m).Sublist K
 | [], _ => by unfold sel; exact List.Sublist.slnil
 | x :: K, [] => List.nil_sublist _
 | x :: K, true :: m => List.Sublist.cons_cons _ (ni K m)
 | x :: K, false :: m => List.Sublist.cons _ (ni K m)
noncomputable def bk : Nat → KS → KS
 | 0, _ => []
 | _ + 1, [] => []
 | n + 1, x :: K => x :: bk n K
noncomputable def cu : Nat → KS → KS
 | 0, K => K
 | _ + 1, [] => []
 | n + 1, _ :: K => cu n K
theorem fZ (j : Nat) (K : KS) : bk j K ++ cu j K = K := by
 induction j generalizing K with
 | zero => rfl
 | succ j ih => cases K with
  | nil => rfl
  | cons x K => exact congrArg (x :: ·) (ih K)
theorem ko (j : Nat) (K : KS) : (bk j K).Sublist K := by
 have h := List.sublist_append_left (bk j K) (cu j K)
 rwa [fZ] at h
theorem dy (n : Nat) (K : KS) (m : List Bool) : (bk n K ++ sel (cu n K) m).Sublist K := by
 have h := (ni (cu n K) m).append_left (bk n K)
 rwa [fZ] at h
theorem pw (j : Nat) (K : KS) : bk j K = K.take j := by
 induction j generalizing K with
 | zero => rfl
 | succ j ih => cases K with
  | nil => rfl
  | cons x K => exact congrArg (x :: ·) (ih K)
theorem kp (j : Nat) (K K' : KS) (h : K.map (·.1) = K'.map (·.1)) : (bk j K).map (·.1) = (bk j K').map (·.1) := by
 rw [pw, pw, List.map_take, List.map_take, h]
noncomputable def picks (K : KS) : List Nat → Option KS
 | [] => some []
 | j :: l => match slot K j with
  | none => none
  | some p => match picks K l with
   | none => none
   | some r => some (p :: r)
noncomputable def gD : KS → Nat → Obj → KS
 | [], _, _ => []
 | x :: K, 0, o => (x.1, o) :: K
 | x :: K, j + 1, o => x :: gD K j o
noncomputable def putL : List Nat → KS → KS → KS
 | [], K, _ => K
 | j :: l, K, u => match u with
  | [] => K
  | p :: u => putL l (gD K j p.2) u
noncomputable abbrev da (K : KS) (l : List Nat) (u : KS) : KS := putL l K u
theorem gF {K K₁ : KS} {j : Nat} {l : List Nat} (h : picks K (j :: l) = some K₁) : ∃ p r, slot K j = some p ∧ picks K l = some r ∧ K₁ = p :: r := by
 simp only [picks] at h
 split at h
 ·cases h
 ·split at h
  ·cases h
  ·cases h
   exact ⟨_, _, ‹_›, ‹_›, rfl⟩
theorem jE (K : KS) (j : Nat) (o : Obj) : gD K j o = setSlot (fun _ => o) K j := by
 induction K generalizing j with
 | nil => rfl
 | cons x K ih => cases j with
  | zero => rfl
  | succ j => exact congrArg (x :: ·) (ih j)
theorem vo (K : KS) (l : List Nat) (u : KS) : (da K l u).map (·.1) = K.map (·.1) := by
 induction l generalizing K u with
 | nil => rfl
 | cons j l ih => cases u with
  | nil => rfl
  | cons p u => exact (ih (gD K j p.2) u).trans (by rw [jE, jv])
theorem nY {K : KS} {j j' : Nat} {o : Obj} (h : j' ≠ j) : slot (gD K j o) j' = slot K j' := by
 rw [jE, ma, slot_get, slot_get, List.getElem?_modify]
 simp [Ne.symm h]
theorem mu {K : KS} {j : Nat} {o : Obj} {l : List Nat} (h : j ∉ l) : picks (gD K j o) l = picks K l := by
 induction l with
 | nil => rfl
 | cons j' l ih => simp only [picks, nY (fun e : j' = j => h (e ▸ List.mem_cons_self)), ih fun e => h (List.mem_cons_of_mem _ e)]
theorem vp {K u K₁ : KS} {l : List Nat} (hl : l.Nodup) (nd : (K.map (·.1)).Nodup) (hk : picks K l = some K₁) (hu : u.map (·.1) = K₁.map (·.1)) {p : Addr × Obj} (hp : p ∈ da K l u) : p ∈ u ∨ (p ∈ K ∧ p.1 ∉ K₁.map (·.1)) := by
 induction l generalizing K u K₁ with
 | nil =>
  cases hk
  exact .inr ⟨hp, fun h => nomatch h⟩
 | cons j l ih =>
  rw [List.nodup_cons] at hl
  obtain ⟨q, r, hs, hr, rfl⟩ := gF hk
  cases u with
  | nil => cases hu
  | cons q' u =>
   injection hu with BL BM
   replace hp : p ∈ da (gD K j q'.2) l u := hp
   have qT : ((gD K j q'.2).map (·.1)).Nodup := by rw [jE, jv]; exact nd
   rcases ih hl.2 qT (by rw [mu hl.1]; exact hr) BM hp with h | ⟨h, h'⟩
   ·exact .inl (List.mem_cons_of_mem _ h)
   ·rw [jE] at h
    rcases g8 hs nd h with h2 | ⟨h2, h3⟩
    ·refine .inl ?_
     rw [h2, ← show q' = (q.1, q'.2) from Prod.ext BL rfl]
     exact List.mem_cons_self
    ·refine .inr ⟨h2, ?_⟩
     rw [List.map_cons, List.mem_cons]
     exact fun h4 => h4.elim h3 h'
theorem nZ {K K₁ : KS} {l : List Nat} (hk : picks K l = some K₁) : ∀ p ∈ K₁, ∃ j ∈ l, slot K j = some p := by
 induction l generalizing K₁ with
 | nil => cases hk; exact fun _ h => nomatch h
 | cons j l ih =>
  obtain ⟨q, r, hs, hr, rfl⟩ := gF hk
  intro p hp
  rcases List.mem_cons.mp hp with rfl | hp
  ·exact ⟨j, List.mem_cons_self, hs⟩
  ·obtain ⟨j', h1, h2⟩ := ih hr p hp
   exact ⟨j', List.mem_cons_of_mem _ h1, h2⟩
theorem slot_mem {K : KS} {j : Nat} {p : Addr × Obj} (h : slot K j = some p) : p ∈ K := by
 rw [slot_get] at h; exact List.mem_of_getElem? h
theorem vq {K : KS} (nd : (K.map (·.1)).Nodup) {j j' : Nat} {p q : Addr × Obj} (h : slot K j = some p) (h' : slot K j' = some q) (e : p.1 = q.1) : j = j' := by
 rw [slot_get] at h h'
 have a1 : (K.map (·.1))[j]? = some p.1 := by rw [List.getElem?_map, h]; rfl
 have a2 : (K.map (·.1))[j']? = some q.1 := by rw [List.getElem?_map, h']; rfl
 exact (List.getElem?_inj (List.getElem?_eq_some_iff.mp a1).1 nd).mp (by rw [a1, a2, e])
theorem jw {K : KS} (nd : (K.map (·.1)).Nodup) {l : List Nat} {K₁ : KS} (hl : l.Nodup) (hk : picks K l = some K₁) : (K₁.map (·.1)).Nodup := by
 induction l generalizing K₁ with
 | nil => cases hk; exact List.nodup_nil
 | cons j l ih =>
  rw [List.nodup_cons] at hl
  obtain ⟨q, r, hs, hr, rfl⟩ := gF hk
  rw [List.map_cons, List.nodup_cons]
  refine ⟨fun h => ?_, ih hl.2 hr⟩
  obtain ⟨p, hp, e⟩ := List.mem_map.mp h
  obtain ⟨j', h1, h2⟩ := nZ hr p hp
  exact hl.1 (vq nd hs h2 e.symm ▸ h1)
theorem iK {K : KS} {i j : List Nat} {A B : KS} (hA : picks K i = some A) (hB : picks K j = some B) : picks K (i ++ j) = some (A ++ B) := by
 induction i generalizing A with
 | nil => cases hA; exact hB
 | cons x i ih =>
  obtain ⟨q, r, hs, hr, rfl⟩ := gF hA
  show picks K (x :: (i ++ j)) = _
  simp only [picks, hs, ih hr]
  rfl
theorem Of.picks {K K1 : KS} {l : List Nat} (h : Mine.picks K l = some K1) (hd : l.Nodup) : Of K1 K := ⟨fun p hp => by
 obtain ⟨j, _, e⟩ := nZ h p hp
 exact slot_mem e, fun nd => jw nd hd h⟩
noncomputable def ta (K K1 : KS) : KS := K.filter fun p => decide (p.1 ∉ K1.map (·.1))
theorem lb {K K1 : KS} {p : Addr × Obj} : p ∈ ta K K1 ↔ p ∈ K ∧ p.1 ∉ K1.map (·.1) := by
 unfold ta
 rw [List.mem_filter, decide_eq_true_eq]
theorem pz {K K1 : KS} {l : List Nat} (h : picks K l = some K1) (hd : l.Nodup) : Of (K1 ++ ta K K1) K := ⟨fun p hp => (List.mem_append.mp hp).elim ((Of.picks h hd).m p) fun q => (lb.mp q).1, fun nd =>
 eX.mpr ⟨jw nd hd h, (List.filter_sublist.map _).nodup nd, fun p hp q hq e => (lb.mp hq).2 (e ▸ List.mem_map_of_mem hp)⟩⟩
theorem zl {K K1 U N : KS} {l : List Nat} (h : picks K l = some K1) (hd : l.Nodup) (nd : (K.map (·.1)).Nodup) (hu : U.map (·.1) = K1.map (·.1)) : Of (da K l U ++ N) (U ++ ta K K1 ++ N) := by
 have f : ∀ p ∈ da K l U, p ∈ U ++ ta K K1 := fun p hp => (vp hd nd h hu hp).elim (fun q => ml q) fun q => mr (lb.mpr q)
 refine ⟨fun p hp => (List.mem_append.mp hp).elim (fun q => ml (f p q)) fun q => mr q, fun qT => ?_⟩
 obtain ⟨_, n2, n3⟩ := eX.mp qT
 exact eX.mpr ⟨by rw [vo]; exact nd, n2, fun p hp q hq => n3 p (f p hp) q hq⟩
abbrev News (n : Nat) (N : KS) : Prop := ∀ p ∈ N, n ≤ p.1
theorem ak {n : Nat} : News n [] := fun _ h => nomatch h
theorem ar {n a : Nat} {o : Obj} {N : KS} (h : n ≤ a) (r : News n N) : News n ((a, o) :: N) := fun p hp => by
 rcases List.mem_cons.mp hp with rfl | hp
 ·exact h
 ·exact r p hp
structure AtH (s : Shared) (n t : Nat) : Prop where
 n : s.heap.objs.size ≤ n
 t : s.toks ≤ t
structure At (s : Shared) (n t : Nat) (G : List GenState) : Prop extends AtH s n t where
 G : gW s.gens.toList G
theorem AtH.start (s : Shared) : AtH s s.heap.objs.size s.toks := ⟨Nat.le_refl _, Nat.le_refl _⟩
theorem At.start (s : Shared) : At s s.heap.objs.size s.toks s.gens.toList := ⟨.start s, .refl _⟩
theorem Lv.A {n : Nat} {A : Around} (L : Lv n A) : ∃ d fr gd u, A = ⟨none, d, some fr, gd, u⟩ := by
 obtain ⟨hd, d, fr, gd, u⟩ := A
 obtain ⟨f, e⟩ := L.fr
 have h := L.hd
 dsimp only at e h
 exact ⟨d, f, gd, u, by rw [e, h]⟩
abbrev cC (w : World) (s : Shared) (R : Result → Shared → Prop) (K0 T : KS) {X : Type} (P : X → Prop) (rf : X → Result) (Kf Nf : X → KS) : Prop :=
 ∀ x s', P x → Out w s (K0 ++ T) s' (Kf x ++ T) (Nf x) → R (rf x) s'
abbrev kq (w : World) (s : Shared) (R : Result → Shared → Prop) (K0 T : KS) (G : List GenState) {X : Type} (P : X → Prop) (rf : X → Result) (Kf Nf : X → KS) (gf : X → GenState) : Prop :=
 ∀ x s', P x → OutH w s (K0 ++ T) s' (Kf x ++ T) (Nf x) → s'.gens.toList = G ++ [gf x] → R (rf x) s'
def lM (Φ : Around → Prop) (Γ : List GenState → Prop) (w : World) (b : Bool) (c : Code) (K T : KS) {X : Type} (P : X → Prop) (rf : X → Result) (Kf Nf : X → KS) (Δ : X → List GenState → List GenState → Prop) : Prop :=
 ∀ (A : Around) (R : Result → Shared → Prop) (s : Shared), Φ A → Γ s.gens.toList → In w s (K ++ T) → (∀ x s', P x → OutH w s (K ++ T) s' (Kf x ++ T) (Nf x) → Δ x s.gens.toList s'.gens.toList → R (rf x) s') → codeAny (model prog (dE w b)) A c R s
abbrev nj (Φ : Around → Prop) (w : World) (b : Bool) (c : Code) (K T : KS) {X : Type} (P : X → Prop) (rf : X → Result) (Kf Nf : X → KS) : Prop := lM Φ (fun _ => True) w b c K T P rf Kf Nf fun _ => gW
def af (w : World) (b : Bool) (n : Nat) (c : Code) (K T : KS) {X : Type} (P : X → Prop) (rf : X → Result) (Kf Nf : X → KS) : Prop := nj (Lv n) w b c K T P rf Kf Nf
def dh (fr : List Env) (w : World) (b : Bool) (n : Nat) (c : Code) (K T : KS) {X : Type} (P : X → Prop) (rf : X → Result) (Kf Nf : X → KS) : Prop := nj (fun A => A.frames = some fr ∧ Lv n A) w b c K T P rf Kf Nf
structure jF (n : Nat) (A : Around) : Prop where
 dp : A.depth + 24 * n ≤ 990
 un : A.units + 100 * n ≤ 9000
def pA (w : World) (b : Bool) (n : Nat) (c : Code) (K T : KS) {X : Type} (P : X → Prop) (rf : X → Result) (Kf Nf : X → KS) : Prop := nj (jF n) w b c K T P rf Kf Nf
def b9 (w : World) (b : Bool) (n : Nat) (c : Code) (K T : KS) (g : Nat) (gs : GenState) {X : Type} (P : X → Prop) (rf : X → Result) (Kf Nf : X → KS) (gf : X → GenState) : Prop :=
 lM (Lv n) (fun l => ∃ Gp : List GenState, l = Gp ++ [gs] ∧ Gp.length = g) w b c K T P rf Kf Nf fun x l l' => ∃ Gp : List GenState, l = Gp ++ [gs] ∧ l' = Gp ++ [gf x]
def gg (w : World) (b : Bool) (n : Nat) (c : Code) (K T : KS) (Q : Result → KS → KS → Prop) : Prop := lM (Lv n) (fun _ => True) w b c K T (X := Result × KS × KS) (fun y => Q y.1 y.2.1 y.2.2) (fun y => y.1) (fun y => y.2.1) (fun y => y.2.2) fun _ l l' => l' = l
section
variable {w : World} {b : Bool} {n : Nat} {c : Code} {K T : KS} {X Y : Type} {P : X → Prop} {rf : X → Result} {Kf Nf : X → KS} {P' : Y → Prop} {dJ : Y → Result} {dK dO : Y → KS} {Φ : Around → Prop} {Γ : List GenState → Prop} {Δ : List GenState → List GenState → Prop}
theorem lM.imp (H : lM Φ Γ w b c K T P rf Kf Nf fun _ => Δ) (h : ∀ x, P x → ∃ y, P' y ∧ rf x = dJ y ∧ Kf x = dK y ∧ Nf x = dO y) : lM Φ Γ w b c K T P' dJ dK dO fun _ => Δ :=
 fun A R s hA hG I post => H A R s hA hG I fun x s' hp O g => by
  obtain ⟨y, k1, k2, k3, k4⟩ := h x hp
  rw [k3, k4] at O
  rw [k2]
  exact post y s' k1 O g
theorem af.imp' (H : af w b n c K T P rf Kf Nf) (h : ∀ x, P x → ∃ y, P' y ∧ rf x = dJ y ∧ Kf x = dK y ∧ Nf x = dO y) : af w b n c K T P' dJ dK dO := lM.imp (Φ := Lv n) (Γ := fun _ => True) (Δ := gW) H h
theorem af.map (H : af w b n c K T P rf Kf Nf) (f : X → Y) (hP : ∀ x, P x → P' (f x)) (hr : ∀ x, rf x = dJ (f x)) (hK : ∀ x, Kf x = dK (f x)) (hN : ∀ x, Nf x = dO (f x)) : af w b n c K T P' dJ dK dO :=
 H.imp' fun x hp => ⟨f x, hP x hp, hr x, hK x, hN x⟩
theorem gg.bq {Q : Result → KS → KS → Prop} (H : gg w b n c K T Q) (h : ∀ r K' N, Q r K' N → ∃ x, P x ∧ r = rf x ∧ K' = Kf x ∧ N = Nf x) : af w b n c K T P rf Kf Nf := fun A R s hA hG I post => H A R s hA hG I fun ⟨r, K', N⟩ s' hp O g => by
 obtain ⟨x, k1, rfl, rfl, rfl⟩ := h _ _ _ hp
 exact post x s' k1 O ((show s'.gens.toList = s.gens.toList from g) ▸ .refl _)
theorem af.perm {T' : KS} (h : T.Perm T') (H : af w b n c K T P rf Kf Nf) : af w b n c K T' P rf Kf Nf := fun A R s hA hG I post => by
 refine H A R s hA hG (I.perm (List.Perm.append_left K h.symm)) fun x s' hp O g => post x s' hp ⟨O.fR.perm (List.Perm.append_right _ (List.Perm.append_left _ h)), ?_, O.new, fun c o e hc => O.keep c o e fun hx => hc ?_, O.size, O.dr, O.os, O.toks⟩ g
 ·rw [List.map_append, List.map_append, pre_of O.pre]
 ·exact (((List.Perm.append_left K h).map _).mem_iff).mp hx
theorem af.iL {T1 : KS} (H : af w b n c (K ++ T1) T P rf (fun x => Kf x ++ T1) Nf) : af w b n c K (T1 ++ T) P rf Kf Nf := fun A R s hA hG I post =>
 H A R s hA hG (by rw [List.append_assoc]; exact I) fun x s' hp O g => post x s' hp (by rw [List.append_assoc, List.append_assoc] at O; exact O) g
end
section
variable {w : World} {b : Bool} {A : Around} {R : Result → Shared → Prop} {s : Shared} {K T : KS} {n t : Nat} {G gl : List GenState} {c : Code} {κ : Kn} {tr : Sem Fin}
theorem mv {s' : Shared} {K0 : KS} (h1 : s'.drawn = s.drawn) (h2 : s'.os = s.os) (hg : s'.gens.toList = G ++ gl) : (az w b A R s K0 s'.heap.objs.size s'.toks G).s s'.heap gl 0 = s' := by
 unfold RV.s az
 rw [← h1, ← h2, ← hg]
 simp
theorem In.rep (I : In w s K) : Rep (az w b A R s K s.heap.objs.size s.toks G) s.heap K s.heap.objs.size :=
 ⟨rfl, I.st, I.mem, I.nd, I.lo, fun p hp => .inl (List.mem_map_of_mem hp), fun _ _ e _ => e, Nat.le_refl _⟩
theorem td (I : In w s (K ++ T)) (hg : s.gens.toList = G ++ gl) (H : Ro w s K T → br (az w b A R s K s.heap.objs.size s.toks G) c none κ tr K 0 0 gl []) : cw (az w b A R s K s.heap.objs.size s.toks G) c none κ tr s := by
 have z := (H I.split.2).2 s.heap I.split.1.rep
 rw [mv rfl rfl hg] at z
 exact z
theorem hV (I : In w s (K ++ T)) (H : Ro w s K T → br (az w b A R s K s.heap.objs.size s.toks s.gens.toList) c none κ tr K 0 0 [] []) : cw (az w b A R s K s.heap.objs.size s.toks s.gens.toList) c none κ tr s := td I (List.append_nil _).symm H
theorem cw.code {s' : Shared} (h : cw (az w b A R s K n t G) c none .base (den c) s') : codeAny (model prog (dE w b)) A c R s' := by
 rw [← jA] at h
 exact y_code _ _ _ _ _ _ h
theorem zm {s' : Shared} {K' : KS} {n' t' : Nat} {G' : List GenState} (κ : Kn) : ee (az w b A R s K n t G) κ = ee (az w b A R s' K' n' t' G') κ := by
 induction κ with
 | base => rfl
 | ret c hd k κ ih =>
  show postR prog (dE w b) (dA A κ) c (postC prog (dE w b) (dA A κ) (ee (az w b A R s K n t G) κ)) (postE (ee (az w b A R s K n t G) κ)) k = postR prog (dE w b) (dA A κ) c (postC prog (dE w b) (dA A κ) (ee (az w b A R s' K' n' t' G') κ)) (postE (ee (az w b A R s' K' n' t' G') κ)) k
  rw [ih]
 | d8 => rfl
theorem jG {s' u : Shared} {K' : KS} {n' t' : Nat} {G' : List GenState} (h : cw (az w b A R s K n t G) c none κ tr u) : cw (az w b A R s' K' n' t' G') c none κ tr u := by
 have e := zm (w := w) (b := b) (A := A) (R := R) (s := s) (s' := s') (K := K) (K' := K') (n := n) (t := t) (n' := n') (t' := t') (G := G) (G' := G') κ
 show wpOwn (model prog (dE w b)) (dA A κ) c tr (postC prog (dE w b) (dA A κ) (ee (az w b A R s' K' n' t' G') κ)) (postE (ee (az w b A R s' K' n' t' G') κ)) u
 rw [← e]
 exact h
end
section
variable {w : World} {b : Bool} {A : Around} {R : Result → Shared → Prop} {s : Shared} {K0 T : KS} {n t : Nat} {G gl : List GenState} {o : Ou} {X : Type} {P : X → Prop} {rf : X → Result} {Kf Nf : X → KS} {Φ : Around → Prop} {Γ : List GenState → Prop} {Δ : X → List GenState → List GenState → Prop} {c₁ : Code} {K₁ Ta : KS}
theorem use {h : Heap} {K : KS} {m i : Nat} {Z : Shared → Prop} {F : X → Shared → Prop} {idx di : List Nat} {Tb : KS} (ro : Ro w s K0 T) (ht : s.toks ≤ t) (D : Rep (az w b A R s K0 n t G) h K (n + m)) (bq : ∀ s, Γ s.gens.toList → In w s (K₁ ++ (Ta ++ Tb)) → (∀ x s', P x → OutH w s (K₁ ++ (Ta ++ Tb)) s' (Kf x ++ (Ta ++ Tb)) (Nf x) → Δ x s.gens.toList s'.gens.toList → F x s') → Z s) (hG : Γ (G ++ gl))
  (hK : picks K idx = some K₁) (hJ : picks K di = some Ta) (hd : (idx ++ di).Nodup) (hB : ∀ p ∈ Tb, p ∈ T) (ez : (Tb.map (·.1)).Nodup)
  (next : ∀ x s', P x → (Kf x).map (·.1) = K₁.map (·.1) → AtH s s'.heap.objs.size s'.toks → News s.heap.objs.size (Nf x) → Δ x (G ++ gl) s'.gens.toList → (∀ G', Rep (az w b A R s K0 s'.heap.objs.size s'.toks G') s'.heap (da K idx (Kf x) ++ Nf x) s'.heap.objs.size) → (∀ G' BN, s'.gens.toList = G' ++ BN → (az w b A R s K0 s'.heap.objs.size s'.toks G').s s'.heap BN 0 = s') → F x s') :
  Z ((az w b A R s K0 n t G).s h gl i) := by
 have eC := (List.nodup_append.mp hd).1
 have n3 := (eX.mp (jw D.nd hd (iK hK hJ))).2
 have J := Of.picks hJ (List.nodup_append.mp hd).2.1
 have I : In w ((az w b A R s K0 n t G).s h gl i) (K₁ ++ (Ta ++ Tb)) := Rep.ask ro D (pz hK eC) (fun p hp => (List.mem_append.mp hp).elim (fun q => ml (lb.mpr ⟨J.m p q, fun z => by
  obtain ⟨r, hr, e⟩ := List.mem_map.mp z
  exact n3.2 r hr p q e⟩)) fun q => mr (hB p q)) (eX.mpr ⟨n3.1, ez, fun p hp q hq => (D.rd ro).2 p (J.m p hp) q (hB q hq)⟩)
 refine bq _ hG I fun x s' hp O g => ?_
 have big : s.heap.objs.size ≤ ((az w b A R s K0 n t G).s h gl i).heap.objs.size := (show ((az w b A R s K0 n t G).s h gl i).heap.objs.size = n + m from D.size) ▸ D.big
 exact next x s' hp (pre_of O.pre) ⟨Nat.le_trans big O.size, Nat.le_trans (Nat.le_add_right_of_le ht) (show t + i ≤ s'.toks from O.toks)⟩ (fun p hp => Nat.le_trans big (O.new p hp)) g
  (fun G' => (Rep.call rfl D (pz hK eC) (fun p hp => I.mem p (mr hp)) O).of (zl hK eC D.nd (pre_of O.pre))) fun G' BN e => mv O.dr O.os e
theorem cM {idx di : List Nat} {Tb : KS} (ro : Ro w s K0 T) (a : At s n t G) (bq : nj Φ w b c₁ K₁ (Ta ++ Tb) P rf Kf Nf) (h : o.hH = some (c₁, [])) (hE : eqs o.qs.E) (hA : Φ ((fA (az w b A R s K0 n t G) o.cd none o.kn).mark none))
  (hK : picks o.qs.K idx = some K₁) (hJ : picks o.qs.K di = some Ta) (hd : (idx ++ di).Nodup) (hB : ∀ p ∈ Tb, p ∈ T) (ez : (Tb.map (·.1)).Nodup)
  (next : ∀ x n' t' {G'} {_ : At s n' t' G'} {_ : P x} {_ : News s.heap.objs.size (Nf x)}, br (az w b A R s K0 n' t' G') o.cd none o.kn (o.kr (rf x)) (da o.qs.K idx (Kf x) ++ Nf x) 0 0 [] []) : Means (az w b A R s K0 n t G) o :=
 nf c₁ [] h ⟨hE, nofun, fun _ D => use (Γ := fun _ => True) (Δ := fun _ => gW) (gl := []) (Z := codeAny (model prog (dE w b)) _ c₁ _) ro a.t D (fun s₁ _ I p => bq _ (fun r s' => cw (az w b A R s K0 n t G) o.cd none o.kn (o.kr r) s') s₁ hA trivial I p) trivial hK hJ hd hB ez fun x s' hp _ a' hN g D2 e => by
  have z := (@next x _ _ s'.gens.toList ⟨a', by rw [List.append_nil] at g; exact a.G.trans g⟩ hp hN).2 s'.heap (D2 _)
  rw [e _ _ (List.append_nil _).symm] at z
  exact jG z⟩
theorem aM {idx di : List Nat} {Tb : KS} (ro : Ro w s K0 T) (a : At s n t G) (bq : nj Φ w b c₁ K₁ (Ta ++ Tb) P rf Kf Nf) (h : o.gU = some (c₁, [])) (hE : eqs o.qs.E) (hA : Φ A)
  (hK : picks o.qs.K idx = some K₁) (hJ : picks o.qs.K di = some Ta) (hd : (idx ++ di).Nodup) (hB : ∀ p ∈ Tb, p ∈ T) (ez : (Tb.map (·.1)).Nodup)
  (next : ∀ x n' t' G', At s n' t' G' → P x → News s.heap.objs.size (Nf x) → iH (az w b A R s K0 n' t' G') (rf x) (da o.qs.K idx (Kf x) ++ Nf x) 0 0 [] []) : Means (az w b A R s K0 n t G) o :=
 iJ c₁ [] h ⟨hE, fun _ D => use (Γ := fun _ => True) (Δ := fun _ => gW) (gl := []) (Z := codeAny (model prog (dE w b)) A c₁ R) ro a.t D (fun s _ I p => bq A R s hA trivial I p) trivial hK hJ hd hB ez fun x s' hp _ a' hN g D2 e => by
  have z := (next x _ _ s'.gens.toList ⟨a', by rw [List.append_nil] at g; exact a.G.trans g⟩ hp hN).2 s'.heap (D2 _)
  rw [e _ _ (List.append_nil _).symm] at z
  exact z⟩
theorem vr {K₂ : KS} {m i : Nat} {E : List (Nat × Nat)} (post : cC w s R K0 T P rf Kf Nf) (ro : Ro w s K0 T) (a : At s n t G) (hE : eqs E) {x : X} (hx : P x) (hs : Of (Kf x ++ Nf x) K₂) (hp : (Kf x).map (·.1) = K0.map (·.1)) (hN : News s.heap.objs.size (Nf x)) : iH (az w b A R s K0 n t G) (rf x) K₂ m i [] E :=
 ⟨hE, fun _ D => post x _ hx ⟨Rep.out ro D hs hp hN a.t, by
  show gW s.gens.toList (G ++ [])
  rw [List.append_nil]
  exact a.G⟩⟩
theorem eA {K₂ : KS} {m i : Nat} {r : Result} (post : cC w s R K0 T P rf Kf Nf) (ro : Ro w s K0 T) (a : At s n t G) (j : Nat) (mask : List Bool) (x : X) (hx : P x) (hr : r = rf x) (hK : bk j K₂ = Kf x) (hN : sel (cu j K₂) mask = Nf x) (hp : (Kf x).map (·.1) = K0.map (·.1)) (hs : News s.heap.objs.size (Nf x)) : iH (az w b A R s K0 n t G) r K₂ m i [] [] :=
 hr ▸ vr post ro a rfl hx (Of.sub (hK ▸ hN ▸ dy j K₂ mask)) hp hs
theorem eS {K₂ : KS} {m i : Nat} {r : Result} (post : cC w s R K0 T P rf Kf Nf) (ro : Ro w s K0 T) (a : At s n t G) (j : Nat) (x : X) (hx : P x) (hr : r = rf x) (hK : bk j K₂ = Kf x) (hN : (Nf x).Sublist (cu j K₂)) (hp : (Kf x).map (·.1) = K0.map (·.1)) (hs : News s.heap.objs.size (Nf x)) : iH (az w b A R s K0 n t G) r K₂ m i [] [] :=
 hr ▸ vr post ro a rfl hx (Of.sub (by
  have h := hN.append_left (bk j K₂)
  rw [fZ] at h
  exact hK ▸ h)) hp hs
theorem IT (p j : Nat) (mask : List Bool) (K : KS) : (bk j (bk p K) ++ sel (cu j (bk p K)) mask ++ cu p K).Sublist K := by
 have h := (dy j (bk p K) mask).append_right (cu p K)
 rw [fZ] at h
 exact h
theorem te {K₂ : KS} {m i : Nat} {r : Result} (post : cC w s R K0 T P rf Kf Nf) (ro : Ro w s K0 T) (a : At s n t G) (j q : Nat) (mask : List Bool) (x : X) (hx : P x) (hr : r = rf x) (hK : bk j K₂ = Kf x)
  (hN : sel (bk q (cu j K₂)) mask ++ cu q (cu j K₂) = Nf x) (hp : (Kf x).map (·.1) = K0.map (·.1)) (hs : News s.heap.objs.size (Nf x)) : iH (az w b A R s K0 n t G) r K₂ m i [] [] :=
 eS post ro a j x hx hr hK (hN ▸ IT q 0 mask (cu j K₂)) hp hs
end
noncomputable def HB {α : Type} : Sem α → List (Code × Pos) → Sem α
 | .stack k => k
 | t => fun _ => t
noncomputable def ldK {α : Type} : Sem α → Obj → Sem α
 | .load _ _ k => k
 | t => fun _ => t
noncomputable def BO (own : Nat) (st : List (Code × Pos)) (o : Obj) : Sem Unit := ldK (HB (ZFast.enterX own) st) o
set_option smartUnfolding false
theorem lN {V : RV} {c : Code} {κ : Kn} {n own : Nat} {st : List (Code × Pos)} {P : Params} (l : Lies (fA V c none κ) st) (L : Lv (n + 1) V.A₀) (h : hO c κ = true) : BO own st (Bl P) = .pure () := by
 with_unfolding_all conv => (lhs; whnf)
 with_unfolding_all refine (bf (pn l L h own)).trans ?_
 with_unfolding_all refine (bf (BJ l L h own)).trans ?_
 with_unfolding_all refine (bf (pq l L h own)).trans ?_
 rfl
set_option smartUnfolding true
noncomputable def vt (own : Nat) (c' : Code) (st : List (Code × Pos)) : Sem Fin := @Bind.bind Sem (@Monad.toBind Sem ZFast.zw12456147031677567982) _ _ (HB (ZFast.enterX own) st) (fun _ => ZFast.zw12377390311714414960 c')
noncomputable def bB (fd : FuncData) (a L : Addr) (cells : List (Str × Addr)) : Code :=
 .func (match fd.body with | .stmts b => b | _ => []) { scope := fd.scope, locals := L, globals := fd.globals, cells := cells, qual := fd.qualname ++ Str.ofString ".<locals>.", func := some a, code := fd.code, frame := some L, builtins := fd.builtins }
noncomputable def oa : List Comprehension → Comprehension × List Comprehension
 | c :: g => (c, g)
 | _ => (default, [])
structure Mn (V : RV) (o : Ou) : Prop where
 h : Means V o
noncomputable def eE : Nat → Nat → List Nat
 | 0, _ => []
 | f + 1, x => match x with
  | 0 => []
  | x + 1 => ((x + 1) % 50 - 1) :: eE f ((x + 1) / 50)
theorem zg {V : RV} {c : Code} {κ : Kn} {t : Sem Fin} {K : KS} {m i : Nat} {gl : List GenState} (n x : Nat) (H : let o := run V n (eE n x) c κ t K m i gl []; Mn V o) : br V c (cA V κ) κ t K m i gl [] := go n _ H.h
noncomputable abbrev E1 (o : Ou) : List Nat := o.qs.E.map (·.1)
noncomputable abbrev E2 (o : Ou) : List Nat := o.qs.E.map (·.2)
theorem dM {V : RV} {o : Ou} (H : br V o.cd (cA V o.kn) o.kn o.tr o.qs.K o.qs.m o.qs.i o.qs.gl []) (h : o.iI = true := by kernel_rfl) (hE : E1 o = E2 o := by kernel_rfl) : Mn V o := ⟨ng h hE H⟩
theorem sM {V : RV} {o : Ou} (h : o.jB = true) (hE : eqs o.qs.E) (H : ∀ (p : Pos) (below : List (Code × Pos)), Lies (fA V o.cd (cA V o.kn) o.kn) ((o.cd, p) :: below) → br V o.cd (cA V o.kn) o.kn (o.ks ((o.cd, p) :: below)) o.qs.K o.qs.m o.qs.i o.qs.gl []) : Mn V o := ⟨vm h hE H⟩
theorem zo {K : KS} {j : Nat} {p : Addr × Obj} {o' : Obj} (hs : slot K j = some p) (e : p.2 = o') : gD K j o' = K := by
 subst e
 induction K generalizing j with
 | nil => rfl
 | cons x K ih => cases j with
  | zero => cases hs; rfl
  | succ j => exact congrArg (x :: ·) (ih hs)
theorem xQ {V : RV} {c : Code} {md : Option (List Frame)} {κ : Kn} {t : Sem Fin} {K : KS} {m i : Nat} {gl : List GenState} {E : List (Nat × Nat)} (j : Nat) (p : Addr × Obj) {o' : Obj} (e : p.2 = o') (H : br V c md κ t (gD K j o') m i gl E) (hs : slot K j = some p := by kernel_rfl) : br V c md κ t K m i gl E := zo hs e ▸ H
theorem sQ {V : RV} {o : Ou} (H : ∀ (p : Pos) (below : List (Code × Pos)), Lies (fA V o.cd (cA V o.kn) o.kn) ((o.cd, p) :: below) → br V o.cd (cA V o.kn) o.kn (o.ks ((o.cd, p) :: below)) o.qs.K o.qs.m o.qs.i o.qs.gl []) (h : o.jB = true := by kernel_rfl) (hE : eqs o.qs.E := by kernel_rfl) : Mn V o := sM h hE H
theorem dT {V : RV} {o : Ou} {t' : Sem Fin} (e : o.tr = t') (H : br V o.cd (cA V o.kn) o.kn t' o.qs.K o.qs.m o.qs.i o.qs.gl []) (h : o.iI = true := by kernel_rfl) (hE : E1 o = E2 o := by kernel_rfl) : Mn V o := dM (ao e H) h hE
theorem BP {V : RV} {o : Ou} (c : Code) (h : o.jB = true) (hc : o.cd = c) (hE : eqs o.qs.E) (H : ∀ (p : Pos) (below : List (Code × Pos)), Lies (fA V o.cd (cA V o.kn) o.kn) ((c, p) :: below) → br V c (cA V o.kn) o.kn (o.ks ((c, p) :: below)) o.qs.K o.qs.m o.qs.i o.qs.gl []) : Mn V o := by
 subst hc
 exact sM h hE H
noncomputable def pB (x : Nat) : List Nat → Bool
 | [] => false
 | y :: l => cond (Nat.beq x y) true (pB x l)
noncomputable def jS : List Nat → Bool
 | [] => true
 | x :: l => cond (pB x l) false (jS l)
theorem zp (x : Nat) (l : List Nat) : pB x l = decide (x ∈ l) := by
 induction l with
 | nil => rfl
 | cons y l ih =>
  show cond (Nat.beq x y) true (pB x l) = _
  rw [ih]
  cases e : Nat.beq x y with
  | true => simp [Nat.eq_of_beq_eq_true e]
  | false => simp [show x ≠ y from fun h => by rw [h, Nat.beq_refl] at e; cases e]
theorem jH : ∀ {l : List Nat}, jS l = true → l.Nodup
 | [], _ => List.nodup_nil
 | x :: l, e => by
  have e : cond (pB x l) false (jS l) = true := e
  rw [zp] at e
  by_cases h : x ∈ l <;> simp only [h, decide_true, decide_false, cond_true, cond_false] at e
  ·cases e
  ·exact List.nodup_cons.mpr ⟨h, jH e⟩
structure bG where
 c : Option (Code × List GenState)
 e : List Nat
 ok : Bool
 k : Option KS
 t : Option KS
structure dD where
 c : Option (Result × List GenState)
 e : List Nat
 k : KS
 n : KS
noncomputable def i7 (o : Ou) (j : Nat) (mask : List Bool) : dD := ⟨o.oN, E1 o, bk j o.qs.K, sel (cu j o.qs.K) mask⟩
noncomputable def oQ (o : Ou) (nL nA : Nat) (idx di : List Nat) : bG := ⟨o.hH, E1 o, cond (hO o.cd o.kn) (cond (Nat.ble nL nA) (jS (idx ++ di)) false) false, picks o.qs.K idx, picks o.qs.K di⟩
noncomputable def oR (o : Ou) (idx di : List Nat) : bG := ⟨o.gU, E1 o, jS (idx ++ di), picks o.qs.K idx, picks o.qs.K di⟩
theorem tA {k : Bool} {nL nA : Nat} {l : List Nat} (h : cond k (cond (Nat.ble nL nA) (jS l) false) false = true) : k = true ∧ nL ≤ nA ∧ l.Nodup := by
 cases k with
 | false => cases h
 | true => cases e : Nat.ble nL nA with
  | false => rw [e] at h; cases h
  | true => rw [e] at h; exact ⟨rfl, Nat.le_of_ble_eq_true e, jH h⟩
noncomputable def xR (c : Code) (κ : Kn) : Bool := Nat.ble (pj c + pk κ) 24 && Nat.ble (nh κ) 8
theorem jF.fR {n : Nat} {V : RV} {c : Code} {κ : Kn} (L : jF (n + 1) V.A₀) (h : xR c κ = true) : jF n ((fA V c none κ).mark none) := by
 unfold xR at h
 rw [Bool.and_eq_true] at h
 have h1 := Nat.le_of_ble_eq_true h.1
 have h2 := Nat.le_of_ble_eq_true h.2
 have d := L.dp
 have u := L.un
 refine ⟨?_, ?_⟩
 ·show (dA V.A₀ κ).depth + c.weight + 24 * n ≤ 990
  have := nV V.A₀ κ
  have := hM c
  lia
 ·show (dA V.A₀ κ).units + c.cUnits + 100 * n ≤ 9000
  have := nW V.A₀ κ
  have := gC c
  lia
theorem jF.less {n m : Nat} {A : Around} (L : jF n A) (h : m ≤ n) : jF m A := ⟨by have := L.dp; lia, by have := L.un; lia⟩
theorem Lv.h {n : Nat} {A : Around} (L : Lv n A) : jF n A := ⟨L.dp, L.un⟩
theorem BQ {V : RV} {c : Code} {κ : Kn} {n : Nat} {st : List (Code × Pos)} (l : Lies (fA V c none κ) st) (L : jF (n + 1) V.A₀) (h : xR c κ = true) : oRoom.1 st = false :=
 l.room (by have : (fA V c none κ).units + 100 * n ≤ 9000 := (jF.fR L h).un; unfold cLine; lia)
section
variable {w : World} {b : Bool} {A : Around} {R : Result → Shared → Prop} {s : Shared} {K0 T : KS} {n t : Nat} {G : List GenState} {o : Ou} {X : Type} {P : X → Prop} {rf : X → Result} {Kf Nf : X → KS} {c₁ : Code} {K₁ Ta : KS} {nL nA : Nat}
theorem dC (idx di : List Nat) (Tb : KS) (bq : af w b nL c₁ K₁ (Ta ++ Tb) P rf Kf Nf) (hB : ∀ p ∈ Tb, p ∈ T) (ez : (Tb.map (·.1)).Nodup)
  (next : ∀ x n' t' {G'} {_ : At s n' t' G'} {_ : P x} {_ : News s.heap.objs.size (Nf x)}, br (az w b A R s K0 n' t' G') o.cd none o.kn (o.kr (rf x)) (da o.qs.K idx (Kf x) ++ Nf x) 0 0 [] [])
  (ro : Ro w s K0 T := by assumption) (a : At s n t G := by assumption) (hL : Lv (nA + 1) A := by assumption) (h : oQ o nL nA idx di = ⟨some (c₁, []), E2 o, true, some K₁, some Ta⟩ := by kernel_rfl) : Mn (az w b A R s K0 n t G) o :=
 have h3 := tA (congrArg bG.ok h)
 ⟨cM ro a bq (congrArg bG.c h) (congrArg bG.e h) ((Lv.fR (V := az w b A R s K0 n t G) hL h3.1).less h3.2.1).mark (congrArg bG.k h) (congrArg bG.t h) h3.2.2 hB ez next⟩
theorem d0 (idx : List Nat) (bq : af w b nL c₁ K₁ [] P rf Kf Nf)
  (next : ∀ x n' t' {G'} {_ : At s n' t' G'} {_ : P x} {_ : News s.heap.objs.size (Nf x)}, br (az w b A R s K0 n' t' G') o.cd none o.kn (o.kr (rf x)) (da o.qs.K idx (Kf x) ++ Nf x) 0 0 [] [])
  (ro : Ro w s K0 T := by assumption) (a : At s n t G := by assumption) (hL : Lv (nA + 1) A := by assumption) (h : oQ o nL nA idx [] = ⟨some (c₁, []), E2 o, true, some K₁, some []⟩ := by kernel_rfl) : Mn (az w b A R s K0 n t G) o :=
 dC idx [] [] bq (fun _ h => nomatch h) List.nodup_nil next ro a hL h
theorem cF {fr : List Env} (idx : List Nat) (Tb : KS) (bq : dh fr w b nL c₁ K₁ Tb P rf Kf Nf) (hB : ∀ p ∈ Tb, p ∈ T) (ez : (Tb.map (·.1)).Nodup) (hf : (fA (az w b A R s K0 n t G) o.cd none o.kn).frames = some fr)
  (next : ∀ x n' t' {G'} {_ : At s n' t' G'} {_ : P x} {_ : News s.heap.objs.size (Nf x)}, br (az w b A R s K0 n' t' G') o.cd none o.kn (o.kr (rf x)) (da o.qs.K idx (Kf x) ++ Nf x) 0 0 [] [])
  (ro : Ro w s K0 T := by assumption) (a : At s n t G := by assumption) (hL : Lv (nA + 1) A := by assumption) (h : oQ o nL nA idx [] = ⟨some (c₁, []), E2 o, true, some K₁, some []⟩ := by kernel_rfl) : Mn (az w b A R s K0 n t G) o :=
 have h3 := tA (congrArg bG.ok h)
 ⟨cM (Ta := []) (di := []) ro a bq (congrArg bG.c h) (congrArg bG.e h) ⟨hf, ((Lv.fR (V := az w b A R s K0 n t G) hL h3.1).less h3.2.1).mark⟩ (congrArg bG.k h) (congrArg bG.t h) h3.2.2 hB ez next⟩
noncomputable def Fs (o : Ou) (nL nA : Nat) (idx : List Nat) : bG := ⟨o.hH, E1 o, cond (xR o.cd o.kn) (cond (Nat.ble nL nA) (jS (idx ++ [])) false) false, picks o.qs.K idx, some []⟩
theorem cH (idx : List Nat) (bq : pA w b nL c₁ K₁ T P rf Kf Nf) (hL : jF (nA + 1) A)
  (next : ∀ x n' t' {G'} {_ : At s n' t' G'} {_ : P x} {_ : News s.heap.objs.size (Nf x)}, br (az w b A R s K0 n' t' G') o.cd none o.kn (o.kr (rf x)) (da o.qs.K idx (Kf x) ++ Nf x) 0 0 [] [])
  (ro : Ro w s K0 T := by assumption) (a : At s n t G := by assumption) (h : Fs o nL nA idx = ⟨some (c₁, []), E2 o, true, some K₁, some []⟩ := by kernel_rfl) : Mn (az w b A R s K0 n t G) o :=
 have h3 := tA (congrArg bG.ok h)
 ⟨cM (Ta := []) (di := []) ro a bq (congrArg bG.c h) (congrArg bG.e h) ((jF.fR (V := az w b A R s K0 n t G) hL h3.1).less h3.2.1) (congrArg bG.k h) rfl h3.2.2 (fun _ h => h) ro.nd next⟩
theorem aZ (ro : Ro w s K0 T) (a : At s n t G) (hL : Lv nA A) (idx di : List Nat) (Tb : KS) (bq : af w b nL c₁ K₁ (Ta ++ Tb) P rf Kf Nf) (h : oR o idx di = ⟨some (c₁, []), E2 o, true, some K₁, some Ta⟩) (hn : Nat.ble nL nA = true) (hB : ∀ p ∈ Tb, p ∈ T) (ez : (Tb.map (·.1)).Nodup)
  (next : ∀ x n' t' G', At s n' t' G' → P x → News s.heap.objs.size (Nf x) → iH (az w b A R s K0 n' t' G') (rf x) (da o.qs.K idx (Kf x) ++ Nf x) 0 0 [] []) : Mn (az w b A R s K0 n t G) o :=
 ⟨aM ro a bq (congrArg bG.c h) (congrArg bG.e h) (hL.less (Nat.le_of_ble_eq_true hn)) (congrArg bG.k h) (congrArg bG.t h) (jH (congrArg bG.ok h)) hB ez next⟩
theorem aF {fr : List Env} (ro : Ro w s K0 T) (a : At s n t G) (hL : Lv nA A) (hf : A.frames = some fr) (idx : List Nat) (bq : dh fr w b nL c₁ K₁ T P rf Kf Nf) (h : oR o idx [] = ⟨some (c₁, []), E2 o, true, some K₁, some []⟩) (hn : Nat.ble nL nA = true)
  (next : ∀ x n' t' G', At s n' t' G' → P x → News s.heap.objs.size (Nf x) → iH (az w b A R s K0 n' t' G') (rf x) (da o.qs.K idx (Kf x) ++ Nf x) 0 0 [] []) : Mn (az w b A R s K0 n t G) o :=
 ⟨aM (Ta := []) (di := []) ro a bq (congrArg bG.c h) (congrArg bG.e h) ⟨hf, hL.less (Nat.le_of_ble_eq_true hn)⟩ (congrArg bG.k h) (congrArg bG.t h) (jH (congrArg bG.ok h)) (fun _ h => h) ro.nd next⟩
theorem eZ (post : cC w s R K0 T P rf Kf Nf) (ro : Ro w s K0 T) (a : At s n t G) (j : Nat) (mask : List Bool) (x : X) (hx : P x) (h : i7 o j mask = ⟨some (rf x, []), E2 o, Kf x, Nf x⟩) (hp : (Kf x).map (·.1) = K0.map (·.1)) (hs : News s.heap.objs.size (Nf x)) : Mn (az w b A R s K0 n t G) o := by
 have h3 : bk j o.qs.K = Kf x := congrArg dD.k h
 have h4 : sel (cu j o.qs.K) mask = Nf x := congrArg dD.n h
 exact ⟨mi _ [] (congrArg dD.c h) (vr post ro a (congrArg dD.e h) hx (Of.sub (h3 ▸ h4 ▸ dy j _ mask)) hp hs)⟩
theorem dF (post : cC w s R K0 T P rf Kf Nf) (j : Nat) (mask : List Bool) (fx : Ou → X) (hx : P (fx o) := by exact True.intro) (hs : News s.heap.objs.size (Nf (fx o)) := by exact ak)
  (ro : Ro w s K0 T := by assumption) (a : At s n t G := by assumption) (h : i7 o j mask = ⟨some (rf (fx o), []), E2 o, Kf (fx o), Nf (fx o)⟩ := by kernel_rfl) (hp : (Kf (fx o)).map (·.1) = K0.map (·.1) := by kernel_rfl) : Mn (az w b A R s K0 n t G) o := eZ post ro a j mask (fx o) hx h hp hs
theorem od (post : cC w s R K0 T P rf Kf Nf) (ro : Ro w s K0 T) (a : At s n t G) (j : Nat) (mask : List Bool) (fx : Ou → X) (hx : P (fx o)) (Kq : Ou → KS) (h : i7 o j mask = ⟨some (rf (fx o), []), E2 o, Kq o, Nf (fx o)⟩) (hq : Kq o = Kf (fx o)) (hp : (Kf (fx o)).map (·.1) = K0.map (·.1)) (hs : News s.heap.objs.size (Nf (fx o))) : Mn (az w b A R s K0 n t G) o :=
 eZ post ro a j mask (fx o) hx (hq ▸ h) hp hs
structure mw where
 s : Bool
 e : List Nat
 ok : Bool
 k : List (Code × Pos) → Sem Fin
noncomputable def xS (o : Ou) : mw := ⟨o.jB, E1 o, hO o.cd o.kn, o.ks⟩
theorem dN (c' : Code) (H : br (az w b A R s K0 n t G) o.cd none o.kn (.pure (.again c')) o.qs.K o.qs.m o.qs.i o.qs.gl []) (hL : Lv (nA + 1) A := by assumption) (h : xS o = ⟨true, E2 o, true, vt 0 c'⟩ := by kernel_rfl) : Mn (az w b A R s K0 n t G) o := by
 refine sM (congrArg mw.s h) (congrArg mw.e h) fun p below l => ?_
 rw [show o.ks = vt 0 c' from congrArg mw.k h]
 refine zg 1 1 ?_
 intro ou
 refine dM (ao (t' := .pure (.again c')) ?_ H)
 with_unfolding_all conv => (lhs; whnf)
 with_unfolding_all refine (rc (lN (own := 0) (P := w.params) l hL (congrArg mw.ok h))).trans ?_
 kernel_rfl
noncomputable def Kk : Sem Fin → Option Value
 | .load _ q _ => q
 | _ => none
noncomputable abbrev QL (o : Ou) (a : Addr) : Prop := (o.iI, E1 o, o.tr) = (true, E2 o, .load a (Kk o.tr) (ldK o.tr))
theorem HC (p : Addr × Obj) (hp : p ∈ T) (H : br (az w b A R s K0 n t G) o.cd none o.kn (ldK o.tr p.2) o.qs.K o.qs.m o.qs.i o.qs.gl []) (ro : Ro w s K0 T := by assumption) (h : QL o p.1 := by kernel_rfl) : Mn (az w b A R s K0 n t G) o := by
 refine dM ?_ (congrArg (·.1) h) (congrArg (·.2.1) h)
 rw [show o.tr = _ from congrArg (·.2.2) h]
 exact ⟨H.1, fun h' D => y_load _ _ _ _ _ _ _ _ _ _ _ _ _ _ _ _ ((D.rd ro).1 p hp) (H.2 h' D)⟩
theorem toG {X1 : Type} {P1 : X1 → Prop} {i8 : X1 → Result} {gn hW : X1 → KS} {K1 Ks T1 KK : KS} {hp : Heap} {i m : Nat} {Z : Shared → Prop} (post : cC w s R K0 T P rf Kf Nf) (ro : Ro w s K0 T) (a : At s n t G) (D : Rep (az w b A R s K0 n t G) hp KK (n + m)) (hs : Of (K1 ++ Ks) KK) (hT : ∀ p ∈ T1, p ∈ Ks ++ T) (BK : (T1.map (·.1)).Nodup)
  (bq : ∀ s₂, s.heap.objs.size ≤ s₂.heap.objs.size → In w s₂ (K1 ++ T1) → cC w s₂ R K1 T1 P1 i8 gn hW → Z s₂)
  (hX : ∀ x1, P1 x1 → (gn x1).map (·.1) = K1.map (·.1) → News s.heap.objs.size (hW x1) → ∃ x, P x ∧ rf x = i8 x1 ∧ (Kf x).map (·.1) = K0.map (·.1) ∧ Of (Kf x ++ Nf x) (gn x1 ++ Ks ++ hW x1) ∧ News s.heap.objs.size (Nf x)) : Z ((az w b A R s K0 n t G).s hp [] i) := by
 have big : s.heap.objs.size ≤ ((az w b A R s K0 n t G).s hp [] i).heap.objs.size := (show ((az w b A R s K0 n t G).s hp [] i).heap.objs.size = n + m from D.size) ▸ D.big
 have I : In w ((az w b A R s K0 n t G).s hp [] i) (K1 ++ T1) := Rep.ask ro D hs hT BK
 refine bq _ big I fun x1 s' h1 O => ?_
 obtain ⟨x, px, er, hk, ho, hN⟩ := hX x1 h1 (pre_of O.pre) fun p q => Nat.le_trans big (O.new p q)
 have z := Rep.out (gl := []) (i := 0) ro (Rep.call (n' := s'.heap.objs.size) (t' := s'.toks) (G' := s'.gens.toList) rfl D hs (fun p q => I.mem p (mr q)) O.toOutH) ho hk hN (Nat.le_trans (Nat.le_add_right_of_le a.t) (show t + i ≤ s'.toks from O.toks))
 rw [mv (R := R) (s := s) O.dr O.os (List.append_nil _).symm] at z
 have g := O.gens
 rw [show ((az w b A R s K0 n t G).s hp [] i).gens.toList = G ++ [] from rfl, List.append_nil] at g
 exact er ▸ post x s' px ⟨z, a.G.trans g⟩
abbrev HD {X1 : Type} {K1 : KS} (Ks : KS) (P1 : X1 → Prop) (i8 : X1 → Result) (gn hW : X1 → KS) (hk : K1.map (·.1) = K0.map (·.1)) : ∀ x1, P1 x1 → (gn x1).map (·.1) = K1.map (·.1) → News s.heap.objs.size (hW x1) → ∃ x, P1 x ∧ i8 x = i8 x1 ∧ (gn x).map (·.1) = K0.map (·.1) ∧ Of (gn x ++ hW x) (gn x1 ++ Ks ++ hW x1) ∧ News s.heap.objs.size (hW x) :=
 fun x h1 h2 h3 => ⟨x, h1, rfl, h2.trans hk, Of.sub ((List.sublist_append_left _ _).append_right _), h3⟩
noncomputable def mx (o : Ou) (nL nA : Nat) (idx : List Nat) : bG := ⟨o.gU, E1 o, cond (Nat.ble nL nA) (jS idx) false, picks o.qs.K idx, some []⟩
theorem tΦ {Φ : Around → Prop} {idx : List Nat} (post : cC w s R K0 T P rf Kf Nf) (ro : Ro w s K0 T) (a : At s n t G) (hA : nL ≤ nA → Φ A) (bq : nj Φ w b c₁ K₁ T P rf Kf Nf) (h : mx o nL nA idx = ⟨some (c₁, []), E2 o, true, some K₁, some []⟩) (jT : K₁.map (·.1) = K0.map (·.1)) : Mn (az w b A R s K0 n t G) o := by
 obtain ⟨_, h5, h6⟩ := tA (k := true) (congrArg bG.ok h)
 exact ⟨iJ c₁ [] (congrArg bG.c h) ⟨congrArg bG.e h, fun _ D => toG (Z := codeAny (model prog (dE w b)) A c₁ R) post ro a D (pz (congrArg bG.k h) h6) (fun _ q => mr q) ro.nd (fun s' _ I p2 => bq A R s' (hA h5) trivial I fun x s2 hx O g => p2 x s2 hx ⟨O, g⟩) (HD _ P rf Kf Nf jT)⟩⟩
theorem dZ (idx : List Nat) (bq : af w b nL c₁ K₁ T P rf Kf Nf) (post : cC w s R K0 T P rf Kf Nf := by assumption) (ro : Ro w s K0 T := by assumption) (a : At s n t G := by assumption) (hL : Lv nA A := by assumption)
  (h : mx o nL nA idx = ⟨some (c₁, []), E2 o, true, some K₁, some []⟩ := by kernel_rfl) (jT : K₁.map (·.1) = K0.map (·.1) := by kernel_rfl) : Mn (az w b A R s K0 n t G) o := tΦ post ro a hL.less bq h jT
theorem tF {fr : List Env} (idx : List Nat) (hf : A.frames = some fr) (bq : dh fr w b nL c₁ K₁ T P rf Kf Nf) (post : cC w s R K0 T P rf Kf Nf := by assumption) (ro : Ro w s K0 T := by assumption) (a : At s n t G := by assumption) (hL : Lv nA A := by assumption)
  (h : mx o nL nA idx = ⟨some (c₁, []), E2 o, true, some K₁, some []⟩ := by kernel_rfl) (jT : K₁.map (·.1) = K0.map (·.1) := by kernel_rfl) : Mn (az w b A R s K0 n t G) o := tΦ post ro a (fun h => ⟨hf, hL.less h⟩) bq h jT
theorem zq {U : KS} (Kc E S : KS) {c : Code} {κ : Kn} {tr : Sem Fin} (post : cC w s R K0 T P rf Kf Nf) (ro : Ro w s K0 T) (a : At s n t G) (hU : U = Kc ++ E) (LV : Kc.map (·.1) = K0.map (·.1))
  (H : ∀ s₂ : Shared, Ro w s₂ (Kc ++ E) (S ++ T) → At s₂ s₂.heap.objs.size s₂.toks s₂.gens.toList → s.heap.objs.size ≤ s₂.heap.objs.size →
   cC w s₂ R (Kc ++ E) (S ++ T) (X := X × KS × KS) (fun y => P y.1 ∧ (Kf y.1).map (·.1) = K0.map (·.1) ∧ (Nf y.1).Sublist (y.2.1 ++ (S ++ y.2.2)) ∧ News s.heap.objs.size (Nf y.1)) (fun y => rf y.1) (fun y => Kf y.1 ++ y.2.1) (fun y => y.2.2) →
   br (az w b A R s₂ (Kc ++ E) s₂.heap.objs.size s₂.toks s₂.gens.toList) c none κ tr (Kc ++ E) 0 0 [] []) : br (az w b A R s K0 n t G) c none κ tr (U ++ S) 0 0 [] [] := by
 subst hU
 refine ⟨rfl, fun h D => toG (Z := cw (az w b A R s K0 n t G) c none κ tr) post ro a D ⟨fun _ h => h, id⟩ (fun _ h => h) (eX.mpr ⟨(eX.mp D.nd).2.1, ro.nd, fun p hp q hq => (D.rd ro).2 p (mr hp) q hq⟩) (fun s₂ hs I p2 => jG (hV I fun Kl => H s₂ Kl (At.start s₂) hs p2)) fun y ⟨h1, h2, h4, h5⟩ _ _ => ⟨y.1, h1, rfl, h2, Of.sub ?_, h5⟩⟩
 have := h4.append_left (Kf y.1)
 rwa [← List.append_assoc, ← List.append_assoc] at this
end
structure Fa (w : World) (s : Shared) (K : KS) : Prop where
 lt : ∀ p ∈ K, p.1 < s.heap.objs.size
 lo : ∀ p ∈ K, (gV w.params).get p.1 = none
 nd : (K.map (·.1)).Nodup
theorem nk {w : World} {s : Shared} {K : KS} (h : Fa w s K) {a : Addr} {o : Obj} (k : Addr) (hk : (gV w.params).get k = some o) (hm : a ∈ K.map (·.1)) : a ≠ k := by
 obtain ⟨p, hp, rfl⟩ := List.mem_map.mp hm
 intro e
 have := h.lo p hp
 rw [e, hk] at this
 cases this
noncomputable def Km : Obj → Nat
 | ⟨_, _, .seq _ e, _⟩ => e
 | ⟨_, _, .dict _ e, _⟩ => e
 | _ => 0
noncomputable def HF (K : KS) (j : Nat) : Obj := match slot K j with | some p => p.2 | none => default
noncomputable def IU : Value → Tok
 | .int _ t => t
 | .str _ t => t
 | _ => 0
namespace Ou
noncomputable def ep (o : Ou) (j : Nat) : Nat := Km (HF o.qs.K j)
noncomputable def ob (o : Ou) (j : Nat) : Obj := HF o.qs.K j
noncomputable def res : Ou → Value
 | .fin (.ok (.ret v)) _ => v
 | .fin (.error v) _ => v
 | _ => .none
noncomputable def rt (o : Ou) : Tok := IU o.res
end Ou
theorem rX (n : Nat) : @Bool.rec (fun _ => Bool) true false (@Decidable.rec (n = n) (fun _ => Bool) (fun _ => false) (fun _ => true) (instDecidableEqNat n n)) = false := by
 have : (@Decidable.rec (n = n) (fun _ => Bool) (fun _ => false) (fun _ => true) (instDecidableEqNat n n)) = true := by
  cases instDecidableEqNat n n with
  | isTrue h => rfl
  | isFalse h => exact absurd rfl h
 rw [this]
theorem bb {α : Type} {b : Bool} {F T : Sem α} (h : F = T) : @Bool.rec (fun _ => Sem α) F T b = T := by cases b; exact h; rfl
noncomputable def xT {α β : Type} (f : α → Sem β) (g : Value → Sem β) (L : List Value → List Value) (γ : Bool → Bool) (M : Sem α) : Sem β := @Sem.rec α (fun _ => Sem β) (fun a => f a) (fun e => g e) (fun w => Sem.unsupported w) (fun e => Sem.finish e) (fun t x ih => Sem.rule t ih) (fun p x ih => Sem.at p ih) (fun a p x ih => Sem.load a p ih) (fun a p g x ih => Sem.update a p g ih) (fun o x ih => Sem.alloc o ih) (fun a x ih => Sem.loadIfAlive a ih) (fun l x ih => Sem.point (L l) ih) (fun a x ih => Sem.register a ih) (fun x ih => Sem.fresh ih) (fun x ih => Sem.ask ih) (fun s n x ih => Sem.choose s n ih) (fun q l x ih => Sem.os q (L l) ih) (fun c h g l x ih => Sem.call c h (γ g) (L l) ih) (fun o x ih => Sem.handled o ih) (fun c x ih => Sem.newGen c ih) (fun g x ih => Sem.genState g ih) (fun g r l x ih => Sem.resume g r (L l) ih) (fun v g l x ih => Sem.yield v (γ g) (L l) ih) (fun x ih => Sem.stack ih) (fun c x ih => Sem.fork c ih) (fun x ih => Sem.thread ih) (fun a t d l x ih => Sem.await a t d (L l) ih) M
noncomputable abbrev HG {α β : Type} (f : α → Sem β) (M : Sem α) : Sem β := xT f (fun e => Sem.raise e) (fun l => l) (fun g => g) M
noncomputable abbrev HH {α β : Type} (f : α → Sem β) (g : Value → Sem β) (M : Sem α) : Sem β := xT f g (fun l => l) (fun g => g) M
noncomputable abbrev HI {α β : Type} (f : α → Sem β) (g : Value → Sem β) (M : Sem α) : Sem β := xT f g (fun l => l) (fun _ => true) M
noncomputable abbrev HJ {α : Type} (L : List Value) (M : Sem α) : Sem α := xT (fun a => Sem.pure a) (fun e => Sem.raise e) (fun l => L ++ l) (fun g => g) M
theorem ah {α β : Type} {f : α → Sem β} {M M' : Sem α} (h : M = M') : HG f M = HG f M' := by rw [h]
theorem dG {α β : Type} {f : α → Sem β} {g : Value → Sem β} {M M' : Sem α} (h : M = M') : HH f g M = HH f g M' := by rw [h]
theorem fB {α : Type} {L : List Value} {M M' : Sem α} (h : M = M') : HJ L M = HJ L M' := by rw [h]
theorem Ko {α β : Type} {f : α → Sem β} {g : Value → Sem β} {M M' : Sem α} (h : M = M') : HI f g M = HI f g M' := by rw [h]
structure gG where
 b : Bool
 e : List Nat
 c : Code
 k : Kn
 t : Sem Fin
 s : KS
 m : Nat
 i : Nat
 g : List GenState
noncomputable def my (o : Ou) : gG := ⟨o.iI, E1 o, o.cd, o.kn, o.tr, o.qs.K, o.qs.m, o.qs.i, o.qs.gl⟩
noncomputable def ku (o' o : Ou) : gG := ⟨true, E2 o', o.cd, o.kn, o.tr, o.qs.K, o.qs.m, o.qs.i, o.qs.gl⟩
theorem bM {V : RV} {o o' : Ou} (h : my o = ku o o') (hm : cA V o'.kn = none) (H : br V o'.cd none o'.kn o'.tr o'.qs.K o'.qs.m o'.qs.i o'.qs.gl []) : Mn V o := by
 refine dM ?_ (congrArg gG.b h) (congrArg gG.e h)
 rw [show o.cd = o'.cd from congrArg gG.c h, show o.kn = o'.kn from congrArg gG.k h, show o.tr = o'.tr from congrArg gG.t h, show o.qs.K = o'.qs.K from congrArg gG.s h, show o.qs.m = o'.qs.m from congrArg gG.m h, show o.qs.i = o'.qs.i from congrArg gG.i h, show o.qs.gl = o'.qs.gl from congrArg gG.g h, hm]
 exact H
noncomputable abbrev bO (w : World) (A : Around) (R : Result → Shared → Prop) (s : Shared) (K0 : KS) (n t : Nat) (G : List GenState) (N x : Nat) (c : Code) (κ : Kn) (tr : Sem Fin) (K : KS) (m i : Nat) (gl : List GenState) (b : Bool) : Ou := run (az w b A R s K0 n t G) N (eE N x) c κ tr K m i gl []
theorem gB {w : World} {b : Bool} {A : Around} {R : Result → Shared → Prop} {s : Shared} {K0 : KS} {n t : Nat} {G : List GenState} {c : Code} {κ : Kn} {tr : Sem Fin} {K : KS} {m i : Nat} {gl : List GenState} (N x : Nat)
  (H : let o := bO w A R s K0 n t G N x c κ tr K m i gl true; br (az w b A R s K0 n t G) o.cd none o.kn o.tr o.qs.K o.qs.m o.qs.i o.qs.gl [])
  (h : my (bO w A R s K0 n t G N x c κ tr K m i gl false) = ku (bO w A R s K0 n t G N x c κ tr K m i gl false) (bO w A R s K0 n t G N x c κ tr K m i gl true) := by kernel_rfl)
  (h2 : my (bO w A R s K0 n t G N x c κ tr K m i gl true) = ku (bO w A R s K0 n t G N x c κ tr K m i gl true) (bO w A R s K0 n t G N x c κ tr K m i gl true) := by kernel_rfl) : br (az w b A R s K0 n t G) c none κ tr K m i gl [] :=
 go N (eE N x) (by
  cases b
  ·exact (bM h rfl H).h
  ·exact (bM h2 rfl H).h)
def BR (Φ : Around → Prop) (w : World) (b : Bool) (c : Code) (κ : Kn) (t : Sem Fin) (K T : KS) {X : Type} (P : X → Prop) (rf : X → Result) (Kf Nf : X → KS) : Prop :=
 ∀ (A : Around) (R : Result → Shared → Prop) (s : Shared), Φ A → In w s (K ++ T) → cC w s R K T P rf Kf Nf → cw (az w b A R s K s.heap.objs.size s.toks s.gens.toList) c none κ t s
def og (w : World) (b : Bool) (n : Nat) (c : Code) (κ : Kn) (t : Sem Fin) (K T : KS) {X : Type} (P : X → Prop) (rf : X → Result) (Kf Nf : X → KS) : Prop := BR (Lv n) w b c κ t K T P rf Kf Nf
def iM (fr : List Env) (w : World) (b : Bool) (n : Nat) (c : Code) (κ : Kn) (t : Sem Fin) (K T : KS) {X : Type} (P : X → Prop) (rf : X → Result) (Kf Nf : X → KS) : Prop := BR (fun A => A.frames = some fr ∧ Lv n A) w b c κ t K T P rf Kf Nf
structure iN where
 n : Nat
 c : Code
 K : KS
 T : KS
 X : Type
 P : X → Prop
 rf : X → Result
 Kf : X → KS
 Nf : X → KS
structure Cx (w : World) (D : iN) where
 d : Nat
 fr : List Env
 gd : Option (List Code)
 u : Nat
 R : Result → Shared → Prop
 s : Shared
 hL : Lv D.n ⟨none, d, some fr, gd, u⟩
 ro : Ro w s D.K D.T
 post : cC w s R D.K D.T D.P D.rf D.Kf D.Nf
noncomputable abbrev Cx.A {w : World} {D : iN} (C : Cx w D) : Around := ⟨none, C.d, some C.fr, C.gd, C.u⟩
noncomputable abbrev Cx.S {w : World} {D : iN} (C : Cx w D) : Nat := C.s.heap.objs.size
section
variable {w : World} {D : iN}
noncomputable abbrev Cx.V (C : Cx w D) (b : Bool) (n t : Nat) (G : List GenState) : RV := az w b C.A C.R C.s D.K n t G
noncomputable abbrev Cx.W (C : Cx w D) (b : Bool) : RV := C.V b C.S C.s.toks C.s.gens.toList
noncomputable abbrev Cx.T (C : Cx w D) (b : Bool) : Prop := br (C.W b) D.c none .base (den D.c) D.K 0 0 [] []
noncomputable abbrev Cx.a (C : Cx w D) : Prop := At C.s C.S C.s.toks C.s.gens.toList
noncomputable def Cx.q0 (C : Cx w D) (b : Bool) (N x : Nat) : Ou := run (C.W b) N (eE N x) D.c .base (den D.c) D.K 0 0 [] []
noncomputable def Cx.q1 (C : Cx w D) (b : Bool) (κ : Kn) (t : Sem Fin) (N x : Nat) : Ou := run (C.W b) N (eE N x) D.c κ t D.K 0 0 [] []
section
variable {b : Bool} {n : Nat} {c : Code} {K T : KS} {X : Type} {P : X → Prop} {rf : X → Result} {Kf Nf : X → KS} {s : Shared}
theorem In.sz (I : In w s K) : 250 < s.heap.objs.size := Heap.lt_size (I.st 250 (rV w.params) (by kernel_rfl))
theorem zz (H : ∀ C : Cx w ⟨n, c, K, T, X, P, rf, Kf, Nf⟩, In w C.s (K ++ T) → C.a → C.T b) : af w b n c K T P rf Kf Nf := fun A R s hL _ I post => by
 obtain ⟨d, fr, gd, u, rfl⟩ := hL.A
 exact (hV I fun ro => H ⟨d, fr, gd, u, R, s, hL, ro, fun x s' hp O => post x s' hp O.toOutH O.gens⟩ I (At.start s)).code
theorem zA (N x : Nat) (H : let D : iN := ⟨n, c, K, T, X, P, rf, Kf, Nf⟩; ∀ C : Cx w D, C.a → let o := C.q0 b N x; Mn (C.W b) o) : af w b n c K T P rf Kf Nf := zz fun C _ a => go N (eE N x) (H C a).h
theorem zB (H : let D : iN := ⟨n, c, K, T, X, P, rf, Kf, Nf⟩; ∀ C : Cx w D, C.a → C.T b) : af w b n c K T P rf Kf Nf := zz fun C _ a => H C a
theorem zD (H : let D : iN := ⟨n, c, K, T, X, P, rf, Kf, Nf⟩; ∀ C : Cx w D, Fa w C.s (K ++ T) → C.a → C.T b) : af w b n c K T P rf Kf Nf := zz fun C I a => H C ⟨I.lt, I.lo, I.nd⟩ a
theorem zU (N x : Nat) (H : let D : iN := ⟨n, c, K, T, X, P, rf, Kf, Nf⟩; ∀ C : Cx w D, 250 < C.S → C.a → let o := C.q0 b N x; Mn (C.W b) o) : af w b n c K T P rf Kf Nf := zz fun C I a => go N (eE N x) (H C I.sz a).h
variable {κ : Kn} {t : Sem Fin}
theorem zF (H : let D : iN := ⟨n, c, K, T, X, P, rf, Kf, Nf⟩; ∀ C : Cx w D, 250 < C.S → C.a → br (C.W b) D.c none κ t D.K 0 0 [] []) : og w b n c κ t K T P rf Kf Nf := fun A R s hL I post => by
 obtain ⟨d, fr, gd, u, rfl⟩ := hL.A
 exact hV I fun ro => H ⟨d, fr, gd, u, R, s, hL, ro, post⟩ I.sz (At.start s)
theorem zE (N x : Nat) (H : let D : iN := ⟨n, c, K, T, X, P, rf, Kf, Nf⟩; ∀ C : Cx w D, 250 < C.S → C.a → let o := C.q1 b κ t N x; Mn (C.W b) o) : og w b n c κ t K T P rf Kf Nf := zF fun C h a => go N (eE N x) (H C h a).h
end
variable {C : Cx w D} {b : Bool} {n t : Nat} {G : List GenState} {o : Ou} {X : Type} {P : X → Prop} {rf : X → Result} {Kf Nf : X → KS}
noncomputable abbrev QC (D : iN) (o : Ou) (nL : Nat) (idx di : List Nat) (c₁ : Code) (K₁ Ta : KS) : Prop := oQ o (nL + 1) D.n idx di = ⟨some (c₁, []), E2 o, true, some K₁, some Ta⟩
noncomputable def nC (V : RV) (o : Ou) (idx : List Nat) (r : Result) (Kf Nf : KS) (N x : Nat) : Ou := run V N (eE N x) o.cd o.kn (o.kr r) (da o.qs.K idx Kf ++ Nf) 0 0 [] []
theorem zJ {c₁ : Code} {K₁ Ta : KS} {nL : Nat} (idx di : List Nat) (Tb : KS) (bq : af w b nL c₁ K₁ (Ta ++ Tb) P rf Kf Nf) (hB : ∀ p ∈ Tb, p ∈ D.T) (ez : (Tb.map (·.1)).Nodup)
  (next : ∀ y n' t' {G'} {_ : At C.s n' t' G'} {_ : P y} {_ : News C.S (Nf y)}, br (C.V b n' t' G') o.cd none o.kn (o.kr (rf y)) (da o.qs.K idx (Kf y) ++ Nf y) 0 0 [] [])
  (a : At C.s n t G := by assumption) (h : QC D o nL idx di c₁ K₁ Ta := by kernel_rfl) : Mn (C.V b n t G) o :=
 have h3 := tA (congrArg bG.ok h)
 ⟨cM C.ro a bq (congrArg bG.c h) (congrArg bG.e h) (Lv.fR (V := C.V b n t G) (C.hL.less h3.2.1) h3.1).mark (congrArg bG.k h) (congrArg bG.t h) h3.2.2 hB ez next⟩
theorem zG {c₁ : Code} {K₁ Ta : KS} {nL : Nat} (N x : Nat) (idx di : List Nat) (Tb : KS) (bq : af w b nL c₁ K₁ (Ta ++ Tb) P rf Kf Nf) (hB : ∀ p ∈ Tb, p ∈ D.T) (ez : (Tb.map (·.1)).Nodup)
  (next : ∀ y n' t' {G'} {_ : At C.s n' t' G'} {_ : P y} {_ : News C.S (Nf y)}, let o' := nC (C.V b n' t' G') o idx (rf y) (Kf y) (Nf y) N x; Mn (C.V b n' t' G') o')
  (a : At C.s n t G := by assumption) (h : QC D o nL idx di c₁ K₁ Ta := by kernel_rfl) : Mn (C.V b n t G) o :=
 zJ idx di Tb bq hB ez (fun y n' t' {G'} {h6} {h7} {h8} => go N (eE N x) (@next y n' t' G' h6 h7 h8).h) a h
theorem zH {c₁ : Code} {K₁ : KS} {nL : Nat} (N x : Nat) (idx : List Nat) (bq : af w b nL c₁ K₁ [] P rf Kf Nf)
  (next : ∀ y n' t' {G'} {_ : At C.s n' t' G'} {_ : P y} {_ : News C.S (Nf y)}, let o' := nC (C.V b n' t' G') o idx (rf y) (Kf y) (Nf y) N x; Mn (C.V b n' t' G') o')
  (a : At C.s n t G := by assumption) (h : QC D o nL idx [] c₁ K₁ [] := by kernel_rfl) : Mn (C.V b n t G) o :=
 zG N x idx [] [] bq (fun _ h => nomatch h) List.nodup_nil next a h
theorem zI {c₁ : Code} {K₁ : KS} {nL : Nat} (N x : Nat) (idx : List Nat) (bq : af w b nL c₁ K₁ D.T P rf Kf Nf)
  (next : ∀ y n' t' {G'} {_ : At C.s n' t' G'} {_ : P y} {_ : News C.S (Nf y)}, let o' := nC (C.V b n' t' G') o idx (rf y) (Kf y) (Nf y) N x; Mn (C.V b n' t' G') o')
  (a : At C.s n t G := by assumption) (h : QC D o nL idx [] c₁ K₁ [] := by kernel_rfl) : Mn (C.V b n t G) o :=
 zG (Ta := []) N x idx [] D.T bq (fun _ h => h) C.ro.nd next a h
theorem zK {c₁ : Code} {K₁ : KS} {nL : Nat} (idx : List Nat) (bq : af w b nL c₁ K₁ [] P rf Kf Nf)
  (next : ∀ y n' t' {G'} {_ : At C.s n' t' G'} {_ : P y} {_ : News C.S (Nf y)}, br (C.V b n' t' G') o.cd none o.kn (o.kr (rf y)) (da o.qs.K idx (Kf y) ++ Nf y) 0 0 [] [])
  (a : At C.s n t G := by assumption) (h : QC D o nL idx [] c₁ K₁ [] := by kernel_rfl) : Mn (C.V b n t G) o :=
 zJ idx [] [] bq (fun _ h => nomatch h) List.nodup_nil next a h
theorem zL {c₁ : Code} {K₁ : KS} {nL : Nat} (idx : List Nat) (bq : af w b nL c₁ K₁ D.T P rf Kf Nf)
  (next : ∀ y n' t' {G'} {_ : At C.s n' t' G'} {_ : P y} {_ : News C.S (Nf y)}, br (C.V b n' t' G') o.cd none o.kn (o.kr (rf y)) (da o.qs.K idx (Kf y) ++ Nf y) 0 0 [] [])
  (a : At C.s n t G := by assumption) (h : QC D o nL idx [] c₁ K₁ [] := by kernel_rfl) : Mn (C.V b n t G) o :=
 zJ (Ta := []) idx [] D.T bq (fun _ h => h) C.ro.nd next a h
noncomputable abbrev QA (D : iN) (o : Ou) (nL : Nat) (idx : List Nat) (c₁ : Code) (K₁ : KS) : Prop := mx o nL D.n idx = ⟨some (c₁, []), E2 o, true, some K₁, some []⟩
noncomputable abbrev QP (D : iN) (K : KS) : Prop := K.map (·.1) = D.K.map (·.1)
theorem zO {c₁ : Code} {K₁ : KS} {nL : Nat} (idx : List Nat) (bq : af w b nL c₁ K₁ D.T D.P D.rf D.Kf D.Nf) (a : At C.s n t G := by assumption)
  (h : QA D o nL idx c₁ K₁ := by kernel_rfl) (jT : QP D K₁ := by kernel_rfl) : Mn (C.V b n t G) o :=
 dZ idx bq C.post C.ro a C.hL h jT
noncomputable abbrev QE (D : iN) (o : Ou) (j : Nat) (mask : List Bool) (x : D.X) : Prop := i7 o j mask = ⟨some (D.rf x, []), E2 o, D.Kf x, D.Nf x⟩
theorem zN (j : Nat) (mask : List Bool) (x : D.X) (hx : D.P x := by exact True.intro) (hs : News C.S (D.Nf x) := by exact ak) (a : At C.s n t G := by assumption)
  (h : QE D o j mask x := by kernel_rfl) (hp : QP D (D.Kf x) := by kernel_rfl) : Mn (C.V b n t G) o :=
 eZ C.post C.ro a j mask x hx h hp hs
theorem zM (j : Nat) (mask : List Bool) (fx : Ou → D.X) (hx : D.P (fx o) := by exact True.intro) (hs : News C.S (D.Nf (fx o)) := by exact ak) (a : At C.s n t G := by assumption)
  (h : QE D o j mask (fx o) := by kernel_rfl) (hp : QP D (D.Kf (fx o)) := by kernel_rfl) : Mn (C.V b n t G) o :=
 eZ C.post C.ro a j mask (fx o) hx h hp hs
theorem zV (j : Nat) (mask : List Bool) (fx : Ou → D.X) (r : Result) (hr : r = D.rf (fx o)) (hx : D.P (fx o) := by exact True.intro) (hs : News C.S (D.Nf (fx o)) := by exact ak) (a : At C.s n t G := by assumption)
  (h : i7 o j mask = ⟨some (r, []), E2 o, D.Kf (fx o), D.Nf (fx o)⟩ := by kernel_rfl) (hp : QP D (D.Kf (fx o)) := by kernel_rfl) : Mn (C.V b n t G) o :=
 eZ C.post C.ro a j mask (fx o) hx (hr ▸ h) hp hs
noncomputable abbrev QN (o : Ou) (c' : Code) : Prop := xS o = ⟨true, E2 o, true, vt 0 c'⟩
noncomputable def nN (V : RV) (o : Ou) (c' : Code) (N x : Nat) : Ou := run V N (eE N x) o.cd o.kn (.pure (.again c')) o.qs.K o.qs.m o.qs.i o.qs.gl []
theorem zP (N x : Nat) (c' : Code) (H : let o' := nN (C.V b n t G) o c' N x; Mn (C.V b n t G) o') (h : QN o c' := by kernel_rfl) (hn : Nat.ble 1 D.n = true := by kernel_rfl) : Mn (C.V b n t G) o :=
 dN (nA := 0) c' (go N (eE N x) H.h) (C.hL.less (Nat.le_of_ble_eq_true hn)) h
theorem zW {c₁ : Code} {nL : Nat} {p : Prop} [d : Decidable p] (bq : af w b nL c₁ [] [] (X := Bool) (fun v => v = true ↔ p) (fun v => .ok (.ret (.bool v))) (fun _ => []) (fun _ => [])) (N x M y : Nat)
  (hT : p → ∀ n' t' {G'} {_ : At C.s n' t' G'}, let o' := nC (C.V b n' t' G') o [] (.ok (.ret (.bool true))) [] [] N x; Mn (C.V b n' t' G') o')
  (hF : ¬ p → ∀ n' t' {G'} {_ : At C.s n' t' G'}, let o' := nC (C.V b n' t' G') o [] (.ok (.ret (.bool false))) [] [] M y; Mn (C.V b n' t' G') o')
  (a : At C.s n t G := by assumption) (h : QC D o nL [] [] c₁ [] [] := by kernel_rfl) : Mn (C.V b n t G) o := by
 refine zK [] bq (fun v n' t' {G'} {h6} {h7} {h8} => ?_) a h
 cases v with
 | true => exact go N (eE N x) (@hT (h7.mp rfl) n' t' G' h6).h
 | false => exact go M (eE M y) (@hF (fun q => nomatch h7.mpr q) n' t' G' h6).h
theorem zQ (N x : Nat) (p : Addr × Obj) (hp : p ∈ D.T) (H : let o' := run (C.V b n t G) N (eE N x) o.cd o.kn (ldK o.tr p.2) o.qs.K o.qs.m o.qs.i o.qs.gl []; Mn (C.V b n t G) o') (h : QL o p.1 := by kernel_rfl) : Mn (C.V b n t G) o := HC p hp (go N (eE N x) H.h) C.ro h
theorem zX (p : Addr × Obj) (hp : p ∈ D.T) (H : br (C.V b n t G) o.cd none o.kn (ldK o.tr p.2) o.qs.K o.qs.m o.qs.i o.qs.gl []) (h : QL o p.1 := by kernel_rfl) : Mn (C.V b n t G) o := HC p hp H C.ro h
noncomputable abbrev QB (C : Cx w D) (n t : Nat) (G : List GenState) (N x : Nat) (c : Code) (κ : Kn) (tr : Sem Fin) (K : KS) (m i : Nat) (gl : List GenState) (b : Bool) : Ou := run (C.V b n t G) N (eE N x) c κ tr K m i gl []
theorem zR {c : Code} {κ : Kn} {tr : Sem Fin} {K : KS} {m i : Nat} {gl : List GenState} (N x : Nat)
  (H : let o := QB C n t G N x c κ tr K m i gl true; br (C.V b n t G) o.cd none o.kn o.tr o.qs.K o.qs.m o.qs.i o.qs.gl [])
  (h : my (QB C n t G N x c κ tr K m i gl false) = ku (QB C n t G N x c κ tr K m i gl false) (QB C n t G N x c κ tr K m i gl true) := by kernel_rfl)
  (h2 : my (QB C n t G N x c κ tr K m i gl true) = ku (QB C n t G N x c κ tr K m i gl true) (QB C n t G N x c κ tr K m i gl true) := by kernel_rfl) : br (C.V b n t G) c none κ tr K m i gl [] :=
 go N (eE N x) (by
  cases b
  ·exact (bM h rfl H).h
  ·exact (bM h2 rfl H).h)
noncomputable abbrev hY (o : Ou) : Ou := @Ou.rec (fun _ => Ou) .stop .fin .call .again .stack .tree .yield o
theorem tB (o : Ou) : hY o = o := by cases o <;> rfl
theorem yg {c : Code} {κ : Kn} {tr : Sem Fin} {K : KS} {m i : Nat} {gl : List GenState} (N x : Nat) (H : let o := QB C n t G N x c κ tr K m i gl true; Mn (C.V b n t G) o)
  (h : hY (QB C n t G N x c κ tr K m i gl false) = hY (QB C n t G N x c κ tr K m i gl true) := by kernel_rfl) : br (C.V b n t G) c none κ tr K m i gl [] := go N (eE N x) (by
 cases b
 ·exact (Eq.mpr (congrArg (Mn (C.V false n t G)) ((tB _).symm.trans (h.trans (tB _)))) H).h
 ·exact H.h)
theorem yG {c₁ : Code} {K₁ Ta : KS} {nL : Nat} (N x : Nat) (idx di : List Nat) (Tb : KS) (bq : af w b nL c₁ K₁ (Ta ++ Tb) P rf Kf Nf) (hB : ∀ p ∈ Tb, p ∈ D.T) (ez : (Tb.map (·.1)).Nodup)
  (next : ∀ y n' t' {G'} {_ : At C.s n' t' G'} {_ : P y} {_ : News C.S (Nf y)}, let o' := nC (C.V true n' t' G') o idx (rf y) (Kf y) (Nf y) N x; Mn (C.V b n' t' G') o')
  (a : At C.s n t G := by assumption) (h : QC D o nL idx di c₁ K₁ Ta := by kernel_rfl)
  (hb : ∀ y n' t' G', hY (nC (C.V false n' t' G') o idx (rf y) (Kf y) (Nf y) N x) = hY (nC (C.V true n' t' G') o idx (rf y) (Kf y) (Nf y) N x) := by intro _ _ _ _; kernel_rfl) : Mn (C.V b n t G) o :=
 zJ idx di Tb bq hB ez (fun y n' t' {G'} {h6} {h7} {h8} => yg N x (@next y n' t' G' h6 h7 h8) (hb y n' t' G')) a h
theorem yH {c₁ : Code} {K₁ : KS} {nL : Nat} (N x : Nat) (idx : List Nat) (bq : af w b nL c₁ K₁ [] P rf Kf Nf)
  (next : ∀ y n' t' {G'} {_ : At C.s n' t' G'} {_ : P y} {_ : News C.S (Nf y)}, let o' := nC (C.V true n' t' G') o idx (rf y) (Kf y) (Nf y) N x; Mn (C.V b n' t' G') o')
  (a : At C.s n t G := by assumption) (h : QC D o nL idx [] c₁ K₁ [] := by kernel_rfl)
  (hb : ∀ y n' t' G', hY (nC (C.V false n' t' G') o idx (rf y) (Kf y) (Nf y) N x) = hY (nC (C.V true n' t' G') o idx (rf y) (Kf y) (Nf y) N x) := by intro _ _ _ _; kernel_rfl) : Mn (C.V b n t G) o :=
 yG N x idx [] [] bq (fun _ h => nomatch h) List.nodup_nil next a h hb
theorem yI {c₁ : Code} {K₁ : KS} {nL : Nat} (N x : Nat) (idx : List Nat) (bq : af w b nL c₁ K₁ D.T P rf Kf Nf)
  (next : ∀ y n' t' {G'} {_ : At C.s n' t' G'} {_ : P y} {_ : News C.S (Nf y)}, let o' := nC (C.V true n' t' G') o idx (rf y) (Kf y) (Nf y) N x; Mn (C.V b n' t' G') o')
  (a : At C.s n t G := by assumption) (h : QC D o nL idx [] c₁ K₁ [] := by kernel_rfl)
  (hb : ∀ y n' t' G', hY (nC (C.V false n' t' G') o idx (rf y) (Kf y) (Nf y) N x) = hY (nC (C.V true n' t' G') o idx (rf y) (Kf y) (Nf y) N x) := by intro _ _ _ _; kernel_rfl) : Mn (C.V b n t G) o :=
 yG (Ta := []) N x idx [] D.T bq (fun _ h => h) C.ro.nd next a h hb
theorem yP (N x : Nat) (c' : Code) (H : let o' := nN (C.V true n t G) o c' N x; Mn (C.V b n t G) o') (h : QN o c' := by kernel_rfl) (hn : Nat.ble 1 D.n = true := by kernel_rfl)
  (hb : hY (nN (C.V false n t G) o c' N x) = hY (nN (C.V true n t G) o c' N x) := by kernel_rfl) : Mn (C.V b n t G) o :=
 dN (nA := 0) c' (yg N x H hb) (C.hL.less (Nat.le_of_ble_eq_true hn)) h
theorem yA {n : Nat} {c : Code} {K T : KS} {X : Type} {P : X → Prop} {rf : X → Result} {Kf Nf : X → KS} (N x : Nat) (H : let D : iN := ⟨n, c, K, T, X, P, rf, Kf, Nf⟩; ∀ C : Cx w D, C.a → let o := C.q0 true N x; Mn (C.W b) o)
  (h : ∀ C : Cx w ⟨n, c, K, T, X, P, rf, Kf, Nf⟩, hY (C.q0 false N x) = hY (C.q0 true N x) := by intro _; kernel_rfl) : af w b n c K T P rf Kf Nf := zz fun C _ a => yg N x (H C a) (h C)
theorem yW {c₁ : Code} {nL : Nat} {p : Prop} [d : Decidable p] (bq : af w b nL c₁ [] [] (X := Bool) (fun v => v = true ↔ p) (fun v => .ok (.ret (.bool v))) (fun _ => []) (fun _ => [])) (N x M y : Nat)
  (hT : p → ∀ n' t' {G'} {_ : At C.s n' t' G'}, let o' := nC (C.V true n' t' G') o [] (.ok (.ret (.bool true))) [] [] N x; Mn (C.V b n' t' G') o')
  (hF : ¬ p → ∀ n' t' {G'} {_ : At C.s n' t' G'}, let o' := nC (C.V true n' t' G') o [] (.ok (.ret (.bool false))) [] [] M y; Mn (C.V b n' t' G') o')
  (a : At C.s n t G := by assumption) (h : QC D o nL [] [] c₁ [] [] := by kernel_rfl)
  (h1 : ∀ n' t' G', hY (nC (C.V false n' t' G') o [] (.ok (.ret (.bool true))) [] [] N x) = hY (nC (C.V true n' t' G') o [] (.ok (.ret (.bool true))) [] [] N x) := by intro _ _ _; kernel_rfl)
  (h2 : ∀ n' t' G', hY (nC (C.V false n' t' G') o [] (.ok (.ret (.bool false))) [] [] M y) = hY (nC (C.V true n' t' G') o [] (.ok (.ret (.bool false))) [] [] M y) := by intro _ _ _; kernel_rfl) : Mn (C.V b n t G) o := by
 refine zK [] bq (fun v n' t' {G'} {h6} {h7} {h8} => ?_) a h
 cases v with
 | true => exact yg N x (@hT (h7.mp rfl) n' t' G' h6) (h1 n' t' G')
 | false => exact yg M y (@hF (fun q => nomatch h7.mpr q) n' t' G' h6) (h2 n' t' G')
theorem zS {c₁ : Code} {nL : Nat} (bq : af w b nL c₁ D.K D.T D.P D.rf D.Kf D.Nf) (hn : Nat.ble nL D.n = true := by kernel_rfl) (a : At C.s n t G := by assumption)
  (h : oR o [] [] = ⟨some (c₁, []), E2 o, true, some [], some []⟩ := by kernel_rfl) (hk : o.qs.K = D.K := by kernel_rfl) : Mn (C.V b n t G) o :=
 ⟨iJ c₁ [] (congrArg bG.c h) ⟨congrArg bG.e h, fun _ Dp => toG (Z := codeAny (model prog (dE w b)) C.A c₁ C.R) (Ks := []) C.post C.ro a Dp (by
  rw [hk, List.append_nil]
  exact ⟨fun _ h => h, id⟩) (fun _ q => mr q) C.ro.nd (fun s' _ I p2 => bq C.A C.R s' (C.hL.less (Nat.le_of_ble_eq_true hn)) trivial I fun x s2 hx O g => p2 x s2 hx ⟨O, g⟩) (HD [] D.P D.rf D.Kf D.Nf rfl)⟩⟩
end
theorem Of.perm {A B : KS} (h : A.Perm B) : Of A B := ⟨fun _ => h.mem_iff.mp, ((h.map _).nodup_iff).mpr⟩
theorem Of.trans {A B C : KS} (h : Of A B) (k : Of B C) : Of A C := ⟨fun p q => k.m p (h.m p q), fun nd => h.nd (k.nd nd)⟩
theorem Of.app {A B C : KS} (h : Of A B) : Of (A ++ C) (B ++ C) := ⟨fun p q => (List.mem_append.mp q).elim (fun q => ml (h.m p q)) fun q => mr q, fun nd => by
 obtain ⟨n1, n2, n3⟩ := eX.mp nd
 exact eX.mpr ⟨h.nd n1, n2, fun p hp => n3 p (h.m p hp)⟩⟩
section
variable {w : World} {b : Bool} {A : Around} {R : Result → Shared → Prop} {s : Shared} {K0 T : KS} {n t : Nat} {G : List GenState} {o : Ou} {X : Type} {P : X → Prop} {rf : X → Result} {Kf Nf : X → KS}
noncomputable def Ou.rest : Ou → Option (Code × Kn × Sem Fin)
 | .tree c κ t _ => some (c, κ, t)
 | .again c κ _ => some (c, κ, den c)
 | .call c' c κ k _ => some (c', .ret c none k κ, den c')
 | _ => none
structure mz where
 r : Option (Code × Kn × Sem Fin)
 e : List Nat
 g : List GenState
 s : Option KS
 j : Option KS
 d : Option KS
 z : KS
 n : Bool
noncomputable def pC (o : Ou) (p : Nat) (ii jj dd : List Nat) : mz := ⟨o.rest, E1 o, o.qs.gl, picks (bk p o.qs.K) ii, picks (bk p o.qs.K) jj, picks (bk p o.qs.K) dd, cu p o.qs.K, jS (ii ++ jj ++ dd)⟩
theorem zr {V : RV} (sg : V.sg = false) {c : Code} {κ : Kn} {tr : Sem Fin} (h : o.rest = some (c, κ, tr)) (hE : eqs o.qs.E) (hg : o.qs.gl = []) (H : ∀ hp, Rep V hp o.qs.K (V.n₀ + o.qs.m) → cw V c none κ tr (V.s hp [] o.qs.i)) : Means V o := by
 cases o with
 | tree c' κ' t' q =>
  injection h with h; injection h with h1 h; injection h with h2 h3; subst h1 h2 h3
  refine ⟨hE, fun h D => ?_⟩
  rw [i5 sg, show q.gl = [] from hg]; exact H h D
 | again c' κ' q =>
  injection h with h; injection h with h1 h; injection h with h2 h3; subst h1 h2 h3
  refine ⟨hE, fun h D => ?_⟩
  have z := H h D
  rw [← jA] at z
  rw [i5 sg, show q.gl = [] from hg]; exact y_code _ _ _ _ _ _ z
 | call c' c₁ κ' k q =>
  injection h with h; injection h with h1 h; injection h with h2 h3; subst h1 h2 h3
  refine ⟨hE, nofun, fun h D => ?_⟩
  have z := H h D
  rw [← jA] at z
  rw [i5 sg, show q.gl = [] from hg]; exact y_code _ _ _ _ _ _ z
 | _ => cases h
theorem lO {Φ : Around → Prop} {c : Code} {κ : Kn} {tr : Sem Fin} {K1 S1 S2 Dr T1 : KS} {X1 : Type} {P1 : X1 → Prop} {i8 : X1 → Result} {gn hW : X1 → KS}
  (post : cC w s R K0 T P rf Kf Nf) (ro : Ro w s K0 T) (a : At s n t G) (hA : Φ A) (p : Nat) (ii jj dd : List Nat) (bq : BR Φ w b c κ tr K1 T1 P1 i8 gn hW)
  (h : pC o p ii jj dd = ⟨some (c, κ, tr), E2 o, [], some K1, some S1, some Dr, S2, true⟩) (qU : T1.Sublist (S1 ++ S2 ++ T))
  (hX : ∀ x1, P1 x1 → (gn x1).map (·.1) = K1.map (·.1) → News s.heap.objs.size (hW x1) → ∃ x, P x ∧ rf x = i8 x1 ∧ (Kf x).map (·.1) = K0.map (·.1) ∧ Of (Kf x ++ Nf x) (gn x1 ++ (S1 ++ S2 ++ Dr) ++ hW x1) ∧ News s.heap.objs.size (Nf x)) : Mn (az w b A R s K0 n t G) o := by
 have hz : cu p o.qs.K = S2 := congrArg mz.z h
 have hs : Of (K1 ++ (S1 ++ S2 ++ Dr)) o.qs.K := by
  have k := (Of.picks (iK (iK (congrArg mz.s h) (congrArg mz.j h)) (congrArg mz.d h)) (jH (congrArg mz.n h))).app (C := S2)
  rw [← hz, fZ] at k
  refine Of.trans (Of.perm ?_) k
  rw [hz, List.append_assoc, List.append_assoc, List.append_assoc]
  exact (List.perm_append_comm.append_left S1).append_left K1
 refine ⟨zr rfl (congrArg mz.r h) (congrArg mz.e h) (congrArg mz.g h) fun hp D => ?_⟩
 have nd := (eX.mp (eX.mp (D.of hs).nd).2.1).1
 refine toG (Z := cw (az w b A R s K0 n t G) c none κ tr) post ro a D hs (fun q hq => ?_) ((qU.map _).nodup (eX.mpr ⟨nd, ro.nd, fun q hq r hr => ((D.of hs).rd ro).2 q (mr (ml hq)) r hr⟩)) (fun s2 _ I p2 => jG (bq A R s2 hA I p2)) hX
 exact (List.mem_append.mp (qU.subset hq)).elim (fun q => ml (ml q)) fun q => mr q
noncomputable def vu : Nat → List Bool → List Nat
 | _, [] => []
 | j, true :: m => j :: vu (j + 1) m
 | j, false :: m => vu (j + 1) m
noncomputable abbrev xU (j : Nat) (m : List Bool) : List Nat := List.range' 0 j ++ vu j m
theorem iO {nL nA : Nat} {c : Code} {κ : Kn} {tr : Sem Fin} {K1 Sy T1 : KS} {X1 : Type} {P1 : X1 → Prop} {i8 : X1 → Result} {gn hW : X1 → KS}
  (post : cC w s R K0 T P rf Kf Nf) (ro : Ro w s K0 T) (a : At s n t G) (hL : Lv nA A) (p j : Nat) (mask : List Bool)
  (bq : og w b nL c κ tr K1 T1 P1 i8 gn hW) (h : pC o p (xU j mask) [] [] = ⟨some (c, κ, tr), E2 o, [], some K1, some [], some [], Sy, true⟩) (hj : (bk j K1).map (·.1) = K0.map (·.1))
  (qU : T1.Sublist (Sy ++ T)) (hn : Nat.ble nL nA = true)
  (hX : ∀ x1, P1 x1 → ∃ x, P x ∧ rf x = i8 x1 ∧ Kf x = bk j (gn x1) ∧ Nf x = []) : Mn (az w b A R s K0 n t G) o :=
 lO (S1 := []) (S2 := Sy) (Dr := []) post ro a (hL.less (Nat.le_of_ble_eq_true hn)) p _ [] [] bq h qU fun x1 h1 h2 _ => by
  obtain ⟨x, px, er, ek, en⟩ := hX x1 h1
  exact ⟨x, px, er, by rw [ek, kp j _ _ h2, hj], Of.sub (by rw [ek, en, List.append_nil]; exact (ko j _).trans ((List.sublist_append_left _ _).trans (List.sublist_append_left _ _))), by rw [en]; exact ak⟩
end
noncomputable def Kp {α : Type} : Sem α → Sem α
 | .point _ k => k ()
 | t => t
noncomputable def pD (body : List Stmt) (env : Env) : Sem Fin := Kp (den (.func body env))
theorem jx {A B C : KS} (h : A.Sublist B) (e : C = B) : A.Sublist C := e ▸ h
section
variable {w : World} {b : Bool} {n : Nat} {c : Code} {K T : KS}
theorem af.bool {p : Prop} {Kf : KS} (H : af w b n c K T (X := Bool) (fun v => v = true ↔ p) (fun v => .ok (.ret (.bool v))) (fun _ => Kf) (fun _ => [])) (v : Bool) (hv : v = true ↔ p) :
  af w b n c K T (X := Unit) (fun _ => True) (fun _ => .ok (.ret (.bool v))) (fun _ => Kf) (fun _ => []) := H.imp' fun _ bj => ⟨(), trivial, by rw [Bool.eq_iff_iff.mpr (bj.trans hv.symm)], rfl, rfl⟩
theorem af.ck {p : Prop} {Kf : KS} (H : af w b n c K T (X := Bool) (fun v => v = true ↔ p) (fun v => .ok (.ret (.bool v))) (fun _ => Kf) (fun _ => [])) (hp : p) :
  af w b n c K T (X := Unit) (fun _ => True) (fun _ => .ok (.ret (.bool true))) (fun _ => Kf) (fun _ => []) := H.bool true (iff_of_true rfl hp)
theorem af.cO {p : Prop} {Kf : KS} (H : af w b n c K T (X := Bool) (fun v => v = true ↔ p) (fun v => .ok (.ret (.bool v))) (fun _ => Kf) (fun _ => [])) (hp : ¬ p) :
  af w b n c K T (X := Unit) (fun _ => True) (fun _ => .ok (.ret (.bool false))) (fun _ => Kf) (fun _ => []) := H.bool false (iff_of_false (fun h => nomatch h) hp)
theorem af.HK {T1 : KS} {X : Type} {P : X → Prop} {rf : X → Result} {Kf Nf : X → KS} (H : af w b n c K (T1 ++ T) P rf Kf Nf) : af w b n c (K ++ T1) T P rf (fun x => Kf x ++ T1) Nf := fun A R s hA hG I post =>
 H A R s hA hG (by rw [← List.append_assoc]; exact I) fun x s' hp O g => post x s' hp (by rw [List.append_assoc, List.append_assoc]; exact O) g
end
set_option hygiene false
local macro_rules
 | `(tactic| exists $xs,*) => do
  let a := xs.getElems
  let n := a.size
  if n == 2 then return ← `(tactic| with_unfolding_all refine $(a[0]!) $(a[1]!) ?_)
  let h := Lean.mkHole a[0]!
  let k := if n < 8 then 3 else 5
  `(tactic| (refine $(a[0]!) $(a.extract 1 k)* ?_; intro $(if n == 8 then a.extract 5 n ++ #[h, h, h, h] else a.extract k n)* ou))
set_option hygiene true
variable {w : World} {b : Bool}
noncomputable abbrev jU : Value := .type SZ.s14018661285674007319x4
noncomputable abbrev BS : Value := .type SZ.s2766695959194262286x5
noncomputable abbrev i9 : Value := .type SZ.s9222952809800978799x4
noncomputable abbrev aj (l : List Value) : Obj := ⟨BS, none, .seq ⟨l⟩ 0, ⟨[]⟩⟩
noncomputable abbrev aa (l : List Value) (ep : Nat) : Obj := ⟨i9, none, .seq ⟨l⟩ ep, ⟨[]⟩⟩
noncomputable abbrev aq (aD : Addr) (items : List Value) (ep : Nat) : Obj := ⟨.ref 178, some aD, .seq ⟨items⟩ ep, ⟨[]⟩⟩
noncomputable abbrev bJ (hz : Int) (tk tz : Tok) (z : Int) : Obj := ⟨jU, none, .dict ⟨[⟨hz, .str (Str.ofString "_initial_size") tk, .int z tz⟩]⟩ 1, ⟨[]⟩⟩
noncomputable abbrev tC : Value := .type SZ.s658472552662922059x5
noncomputable abbrev bx (a : Addr) (j : Int) : Obj := ⟨.type SZ.s3492446563574874994x13, none, .fields ⟨[.ref a, .int j 0]⟩, ⟨[]⟩⟩
noncomputable abbrev cK (l : List DictEntry) (ep : Nat) : Obj := ⟨tC, none, .dict ⟨l⟩ ep, ⟨[]⟩⟩
noncomputable abbrev av (h : Int) (x : String) (t : Tok) (v : Value) : DictEntry := ⟨h, .str (Str.ofString x) t, v⟩
noncomputable abbrev eJ (l : List Value) : Obj := ⟨.none, none, .fields ⟨l⟩, ⟨[]⟩⟩
noncomputable abbrev lg (a : Addr) : Obj := ⟨.type SZ.s5991306692159431302x13, none, .fields ⟨[.ref a, .none, .none, .none, .bool false, .none]⟩, ⟨[]⟩⟩
noncomputable abbrev cV (g : Nat) (n1 n2 : Value) : Obj := ⟨.type SZ.s7929333955151719606x9, none, .fields ⟨[.int g 0, n1, n2]⟩, ⟨[]⟩⟩
noncomputable def zt : Stmt → List Expr
 | .Return (some (.Call _ args _ _)) _ => args
 | _ => []
noncomputable def gX (st : Stmt) : Expr := (zt (dq st 0)).getD 0 (.Name Str.empty default)
noncomputable def BU : Expr → Scope
 | .GeneratorExp _ _ sc _ => sc
 | .ListComp _ _ sc _ => sc
 | _ => default
noncomputable def nq (st : Stmt) (q : String) (L cb : Addr) : Env := { scope := BU (gX st), locals := L, globals := 3, cells := [], qual := Str.ofString q, func := none, code := .ref cb, frame := some L, builtins := 0 }
noncomputable abbrev iP (it L cb : Addr) : Code := .compLoop (gX fX) 0 (.ref it) .none (nq fX "_Accumulator.__len__.<locals>.<genexpr>." L cb)
noncomputable abbrev gY (it L cb : Addr) : Code := .compLoop (gX fY) 0 (.ref it) .none (nq fY "_Accumulator.__str__.<locals>.<genexpr>." L cb)
noncomputable def jI (w : World) (b : Bool) (A : Around) (P : End → Shared → Prop) (s : Shared) (K : KS) (n t : Nat) (G : List GenState) : RV :=
 ⟨prog, dE w b, A, fun _ _ => False, P, s.drawn, s.os, gV w.params, s.heap, K.map (·.1), n, t, G, true⟩
theorem Rep.toV {w : World} {b : Bool} {A : Around} {P : End → Shared → Prop} {R : Result → Shared → Prop} {s : Shared} {K0 : KS} {n t : Nat} {G : List GenState} {h : Heap} {K : KS} {m : Nat} (D : Rep (jI w b A P s K0 n t G) h K m) : Rep (az w b A R s K0 n t G) h K m :=
 ⟨D.size, D.st, D.mem, D.nd, D.lo, D.own, D.keep, D.big⟩
theorem Rep.toS {w : World} {b : Bool} {A : Around} {P : End → Shared → Prop} {R : Result → Shared → Prop} {s : Shared} {K0 : KS} {n t : Nat} {G : List GenState} {h : Heap} {K : KS} {m : Nat} (D : Rep (az w b A R s K0 n t G) h K m) : Rep (jI w b A P s K0 n t G) h K m :=
 ⟨D.size, D.st, D.mem, D.nd, D.lo, D.own, D.keep, D.big⟩
abbrev mA (w : World) (s : Shared) (P : End → Shared → Prop) (K T : KS) (Q : End → KS → KS → Prop) : Prop := ∀ e K' N s', Q e K' N → OutH w s (K ++ T) s' (K' ++ T) N → s'.gens = s.gens → P e s'
def fg (w : World) (b : Bool) (n : Nat) (c : Code) (K T : KS) (Q : End → KS → KS → Prop) : Prop :=
 ∀ (A : Around) (P : End → Shared → Prop) (s : Shared), Lv n A → In w s (K ++ T) → mA w s P K T Q → SegX (model prog (dE w b)) A c (denote table c) [] s P
theorem Lv.over {n : Nat} {A : Around} {c : Code} (L : Lv (n + 1) A) (h : hO c .base = true) : Lv n (A.over c []) := by
 obtain ⟨h1, _, _⟩ := nX h
 obtain ⟨l, hl⟩ := L.fr
 have e1 : (A.over c []).frames = pushEnvs c.envs A.frames := rfl
 have := L.tp.1
 refine ⟨L.hd, ⟨c.envs ++ l, by rw [e1, pushEnvs_eq, hl]; rfl⟩, ?_, ?_, by exact gA, fun e => by lia⟩
 ·show A.depth + 0 + c.weight + 24 * n ≤ 990
  have := L.dp
  have := hM c
  have : pk .base = 0 := rfl
  lia
 ·show A.units + 0 + c.cUnits + 100 * n ≤ 9000
  have := L.un
  have := gC c
  lia
section
variable {w : World} {b : Bool} {A : Around} {s : Shared} {K0 K T : KS} {n t m i : Nat} {c c₁ : Code} {κ : Kn} {K₁ : KS} {nL nA : Nat} {o : Ou} {G : List GenState}
theorem tD {s s' : Shared} (h : s'.gens = s.gens) : s'.gens.toList = s.gens.toList := by rw [h]
theorem mB {s s' : Shared} (h : s'.gens.toList = s.gens.toList) : s'.gens = s.gens := Array.toList_inj.mp h
theorem fg.ofM {Q : End → KS → KS → Prop} (H : ∀ (d : Nat) (fr : List Env) (gd : Option (List Code)) (u : Nat) (P : End → Shared → Prop) (s : Shared), let K0 := K; let A : Around := ⟨none, d, some fr, gd, u⟩; Lv n A → Ro w s K0 T → mA w s P K0 T Q →
  br (jI w b A P s K0 s.heap.objs.size s.toks s.gens.toList) c (cA (jI w b A P s K0 s.heap.objs.size s.toks s.gens.toList) .base) .base (den c) K 0 0 [] []) : fg w b n c K T Q := fun A P s hL I post => by
 obtain ⟨d, fr, gd, u, rfl⟩ := hL.A
 have z := (H d fr gd u P s hL I.split.2 post).2 s.heap (I.split.1.rep (b := b) (A := ⟨none, d, some fr, gd, u⟩) (R := fun _ _ => False)).toS
 rw [show (jI w b ⟨none, d, some fr, gd, u⟩ P s K s.heap.objs.size s.toks s.gens.toList).s s.heap [] 0 = s from mv (w := w) (b := b) (A := ⟨none, d, some fr, gd, u⟩) (R := fun _ _ => False) (s := s) (K0 := K) rfl rfl (List.append_nil _).symm] at z
 rw [jA]
 exact z
theorem fg.BV {Q Q' : End → KS → KS → Prop} (H : fg w b n c (K ++ T) [] Q) (hQ : ∀ e K' N, Q e K' N → ∃ xV, K' = xV ++ T ∧ Q' e xV N) : fg w b n c K T Q' := fun A P s hL I post =>
 H A P s hL (by rw [List.append_nil]; exact I) fun e K' N s' q O hg => by
  obtain ⟨xV, rfl, q'⟩ := hQ e K' N q
  rw [List.append_nil, List.append_nil] at O
  exact post e xV N s' q' O hg
section
variable {R : Result → Shared → Prop} {Q : Result → KS → KS → Prop}
theorem gg.of (H : ∀ (d : Nat) (fr : List Env) (gd : Option (List Code)) (u : Nat) (R : Result → Shared → Prop) (s : Shared), Lv n ⟨none, d, some fr, gd, u⟩ → Ro w s K T → (∀ r K' N s', Q r K' N → OutH w s (K ++ T) s' (K' ++ T) N → s'.gens = s.gens → R r s') →
  br (az w b ⟨none, d, some fr, gd, u⟩ R s K s.heap.objs.size s.toks s.gens.toList) c none .base (den c) K 0 0 [] []) : gg w b n c K T Q := fun A R s hL _ I post => by
 obtain ⟨d, fr, gd, u, rfl⟩ := hL.A
 exact (hV I fun ro => H d fr gd u R s hL ro fun r K' N s' q O g => post (r, K', N) s' q O (tD g)).code
theorem eQ (post : ∀ r K' N s', Q r K' N → OutH w s (K0 ++ T) s' (K' ++ T) N → s'.gens = s.gens → R r s') (ro : Ro w s K0 T) (ht : s.toks ≤ t) (j : Nat) (mask : List Bool) {r : Result} {K' N : KS} (q : Q r K' N) (h : i7 o j mask = ⟨some (r, []), E2 o, K', N⟩)
  (hp : K'.map (·.1) = K0.map (·.1)) (hN : News s.heap.objs.size N) : Mn (az w b A R s K0 n t s.gens.toList) o := by
 have h3 : bk j o.qs.K = K' := congrArg dD.k h
 have h4 : sel (cu j o.qs.K) mask = N := congrArg dD.n h
 exact ⟨mi r [] (congrArg dD.c h) ⟨congrArg dD.e h, fun _ D => post r _ _ _ q (Rep.out ro D (Of.sub (h3 ▸ h4 ▸ dy j _ mask)) hp hN ht) (mB (List.append_nil _))⟩⟩
end
section
variable {P : End → Shared → Prop} {Q : End → KS → KS → Prop}
theorem Kr (post : mA w s P K0 T Q) (ro : Ro w s K0 T) (ht : s.toks ≤ t) (j : Nat) (mask : List Bool) {r : Result} {K' N : KS} (q : Q (.ret r) K' N) (h : i7 o j mask = ⟨some (r, []), E2 o, K', N⟩)
  (hp : K'.map (·.1) = K0.map (·.1)) (hN : News s.heap.objs.size N) : Mn (jI w b A P s K0 n t s.gens.toList) o := by
 have h3 : bk j o.qs.K = K' := congrArg dD.k h
 have h4 : sel (cu j o.qs.K) mask = N := congrArg dD.n h
 exact ⟨mi r [] (congrArg dD.c h) ⟨congrArg dD.e h, fun _ D => post _ _ _ _ q (Rep.out (b := b) (A := A) (R := fun _ _ => False) (i := o.qs.i) (gl := []) ro D.toV (Of.sub (h3 ▸ h4 ▸ dy j _ mask)) hp hN ht) (mB (List.append_nil _))⟩⟩
noncomputable def Ou.yl : Ou → List Value
 | .yield _ l _ _ _ => l
 | _ => []
noncomputable def Ou.yk : Ou → Resume → Sem Fin
 | .yield _ _ k _ _ => k
 | _ => fun _ => .raise .none
noncomputable def Ou.yc : Ou → Code
 | .yield _ _ _ c _ => c
 | _ => .call .none ⟨[], []⟩
noncomputable def Ou.HL : Ou → Option (Result × List GenState)
 | .yield v _ _ _ q => some (.ok (.ret v), q.gl)
 | _ => none
noncomputable def Ft (o : Ou) (j : Nat) (mask : List Bool) : dD := ⟨o.HL, E1 o, bk j o.qs.K, sel (cu j o.qs.K) mask⟩
theorem oh (post : mA w s P K0 T Q) (ro : Ro w s K0 T) (ht : s.toks ≤ t) (j : Nat) (mask : List Bool) {v : Value} {K' N : KS} (q : ∀ p, Q (.susp v false o.yl o.yk o.yc p []) K' N) (h : Ft o j mask = ⟨some (.ok (.ret v), []), E2 o, K', N⟩)
  (hp : K'.map (·.1) = K0.map (·.1)) (hN : News s.heap.objs.size N) : Mn (jI w b A P s K0 n t s.gens.toList) o := by
 have h1 : o.HL = some (.ok (.ret v), []) := congrArg dD.c h
 have h2 : E1 o = E2 o := congrArg dD.e h
 have h3 : bk j o.qs.K = K' := congrArg dD.k h
 have h4 : sel (cu j o.qs.K) mask = N := congrArg dD.n h
 cases o with
 | yield v' l k c qs =>
  obtain ⟨K, m, i, gl, E⟩ := qs
  cases h1
  exact ⟨⟨rfl, h2, rfl, rfl, fun p _ D => post _ _ _ _ (q p) (Rep.out (b := b) (A := A) (R := fun _ _ => False) (i := i) (gl := []) ro D.toV (Of.sub (h3 ▸ h4 ▸ dy j _ mask)) hp hN ht) (mB (List.append_nil _))⟩⟩
 | _ => cases h1
noncomputable def BW : Kn → Bool
 | .base => true
 | _ => false
theorem Fu {κ : Kn} (h : BW κ = true) : κ = .base := by cases κ with
 | base => rfl
 | _ => cases h
noncomputable def BX (o : Ou) (idx : List Nat) : bG := ⟨o.hH, E1 o, BW o.kn && hO o.cd .base, picks o.qs.K idx, some []⟩
theorem pE {Qc : Result → KS → KS → Prop} (ro : Ro w s K0 T) (a : AtH s n t) (hL : Lv (nA + 1) A) (idx : List Nat) (bq : gg w b nL c₁ K₁ [] Qc) (h : BX o idx = ⟨some (c₁, []), E2 o, true, some K₁, some []⟩) (hn : Nat.ble nL nA = true) (gh : idx.Nodup)
  (next : ∀ r U N n' t', AtH s n' t' → Qc r U N → br (jI w b A P s K0 n' t' s.gens.toList) o.cd (cA (jI w b A P s K0 n' t' s.gens.toList) .base) .base (o.kr r) (da o.qs.K idx U ++ N) 0 0 [] []) : Mn (jI w b A P s K0 n t s.gens.toList) o := by
 have h3 : (BW o.kn && hO o.cd .base) = true := congrArg bG.ok h
 rw [Bool.and_eq_true] at h3
 refine ⟨nf c₁ [] (congrArg bG.c h) ?_⟩
 rw [Fu h3.1]
 refine ⟨congrArg bG.e h, nofun, fun hp D => ?_⟩
 refine use (b := b) (A := A) (R := fun _ _ => False) (X := Result × KS × KS) (Γ := fun _ => True) (Δ := fun _ l l' => l' = l) (gl := []) (Ta := []) (di := []) (Z := codeAny (model prog (dE w b)) ((A.over o.cd []).mark none) c₁ fun r s' => SegX (model prog (dE w b)) A o.cd (o.kr r) [] s' P) ro a.t D.toV
  (fun s₁ _ I p => bq _ _ s₁ (((Lv.over hL h3.2).less (Nat.le_of_ble_eq_true hn)).mark) trivial I p) trivial (congrArg bG.k h) rfl (by rw [List.append_nil]; exact gh) (fun _ h => nomatch h) List.nodup_nil fun x s' hp _ a' hN g D2 e => ?_
 have z := (next x.1 x.2.1 x.2.2 _ _ a' hp).2 s'.heap (D2 s.gens.toList).toS
 rw [List.append_nil] at g
 rw [show (jI w b A P s K0 s'.heap.objs.size s'.toks s.gens.toList).s s'.heap [] 0 = s' from e s.gens.toList [] (by rw [List.append_nil]; exact g)] at z
 exact z
theorem BY (post : mA w s P K0 T Q) (ro : Ro w s K0 T) (hL : Lv nA A) (ht : s.toks ≤ t) (bq : fg w b nL c₁ K0 T Q) (h : oR o [] [] = ⟨some (c₁, []), E2 o, true, some [], some []⟩) (hk : o.qs.K = K0) (hm : o.qs.m = 0)
  (hn : Nat.ble nL nA = true) : Mn (jI w b A P s K0 s.heap.objs.size t s.gens.toList) o := by
 refine ⟨iJ c₁ [] (congrArg bG.c h) ?_⟩
 rw [hk, hm]
 refine ⟨congrArg bG.e h, fun hp D => bq A P _ (hL.less (Nat.le_of_ble_eq_true hn)) (Rep.ask (Ks := []) (R := fun _ _ => False) (gl := []) ro D.toV (by rw [List.append_nil]; exact ⟨fun _ h => h, id⟩) (fun _ q => mr q) ro.nd) fun e U N s' q O hg => post e U N s' q ?_ (hg.trans (mB (List.append_nil _)))⟩
 have hz : (jI w b A P s K0 s.heap.objs.size t s.gens.toList).s hp [] o.qs.i = (az w b A (fun _ _ => False) s K0 s.heap.objs.size t s.gens.toList).s hp [] o.qs.i := rfl
 rw [hz] at O
 have z := Rep.call (n' := s'.heap.objs.size) (t' := s'.toks) (G' := s'.gens.toList) (Ks := []) rfl (D.toV (R := fun _ _ => False)) (by rw [List.append_nil]; exact ⟨fun _ h => h, id⟩) (fun p hp => (D.toV (R := fun _ _ => False)).rd ro |>.1 p hp) O
 have y := Rep.out (gl := []) (i := 0) (K' := U) (N := N) ro z (Of.sub (by rw [List.append_nil]; exact List.Sublist.refl _)) (pre_of O.pre) (fun p tE => by
  have := O.new p tE
  exact Nat.le_trans (Nat.le_of_eq (show s.heap.objs.size = hp.objs.size from D.size.symm)) this) (Nat.le_trans (Nat.le_add_right_of_le ht) (show t + o.qs.i ≤ s'.toks from O.toks))
 rw [mv (s := s) O.dr O.os (List.append_nil _).symm] at y
 exact y
end
def gH (w : World) (b : Bool) (c : Code) (gs : GenState) : Prop :=
 ∃ k l c₀ p, gs = .suspended k l c₀ p [] false ∧ ∀ A s P, SegX (model prog (dE w b)) A c (denote table c) [] s P → SegX (model prog (dE w b)) A c₀ (k (.send .none)) [] s P
theorem e8 {c c' c₀ : Code} {k : Resume → Sem Fin} {l : List Value} {v : Value} (p : Pos) (n : Nat) (hk : skim ⟨prog, (dE w b).params⟩ n (k (.send .none)) = .pure (.again c')) (hc : c' = c) (hq : sV c' = true) : gH w b c (End.susp v false l k c₀ p []).genState := by
 subst hc
 refine ⟨k, l, c₀, p, rfl, fun A s P H => s_skim _ _ _ _ _ _ s (k (.send .none)) n ?_⟩
 have e : skim ⟨prog, (dE w b).params⟩ n (k (.send .none)) = .pure (.again c') := hk
 rw [e]
 exact s_again _ _ _ _ _ _ _ _ (by rw [o5]; exact hq) H
theorem pF {G : List GenState} {gs : GenState} {g : Nat} (h : G.length = g) : (G ++ [gs])[g]? = some gs := by subst h; simp
theorem oL {V : RV} {c : Code} {κ : Kn} {g : Nat} {k : GenStatus × Option (List (Code × Pos)) → Sem Fin} {K : KS} {m i : Nat} {gl : List GenState} {E : List (Nat × Nat)} {gs : GenState} (hg : (V.G ++ gl)[g]? = some gs)
  (H : br V c none κ (k gs.seen) K m i gl E) : br V c none κ (.genState g k) K m i gl E :=
 ⟨H.1, fun h D => y_genState _ _ _ _ _ _ _ _ _ _ gs ((get_gens (V.G ++ gl) g).trans hg) (H.2 h D)⟩
theorem qL {R : Result → Shared → Prop} {g : Nat} {l : List Value} {k : GenResult → Sem Fin} {gs : GenState} {E : List (Nat × Nat)} {Q : End → KS → KS → Prop}
  (ro : Ro w s K0 T) (a : AtH s n t) (hL : Lv (nA + 1) A) (cD : gH w b c₁ gs ∨ gs = .fresh c₁) (idx : List Nat) (Tb : KS) (bq : fg w b nL c₁ K₁ Tb Q) (hg : G.length = g) (hE : eqs E) (ho : hO c κ = true) (hK : picks K idx = some K₁)
  (hn : Nat.ble nL nA = true) (gh : idx.Nodup) (hB : ∀ p ∈ Tb, p ∈ T) (ez : (Tb.map (·.1)).Nodup)
  (next : ∀ e U N n' t', AtH s n' t' → Q e U N → br (az w b A R s K0 n' t' G) c none κ (k e.result) (da K idx U ++ N) 0 0 [e.genState] []) :
  br (az w b A R s K0 n t G) c none κ (.resume g (.send .none) l k) K m i [gs] E := by
 subst hg
 refine ⟨hE, fun h D => ?_⟩
 have es : ∀ x, ((az w b A R s K0 n t G).s h [gs] i).setGen G.length x = (az w b A R s K0 n t G).s h [x] i := fun x => by
  unfold RV.s Shared.setGen
  congr 1
  simp [az]
 have hs : SegX (model prog (dE w b)) (fA (az w b A R s K0 n t G) c none κ) c₁ (denote table c₁) [] (((az w b A R s K0 n t G).s h [gs] i).setGen G.length .running)
   (postG prog (dE w b) (dA A κ) c (postC prog (dE w b) (dA A κ) (ee (az w b A R s K0 n t G) κ)) (postE (ee (az w b A R s K0 n t G) κ)) k G.length) := by
  rw [es]
  refine use (X := End × KS × KS) (P := fun y => Q y.1 y.2.1 y.2.2) (Kf := fun y => y.2.1) (Nf := fun y => y.2.2) (Γ := fun _ => True) (Δ := fun _ l l' => l' = l) (gl := [.running]) (Ta := []) (di := []) (F := fun y s' => postG prog (dE w b) (dA A κ) c (postC prog (dE w b) (dA A κ) (ee (az w b A R s K0 n t G) κ)) (postE (ee (az w b A R s K0 n t G) κ)) k G.length y.1 s')
   (Z := fun s₁ => SegX (model prog (dE w b)) (fA (az w b A R s K0 n t G) c none κ) c₁ (denote table c₁) [] s₁ _) ro a.t D (fun s₁ _ I p => bq _ _ s₁ ((Lv.fR (V := az w b A R s K0 n t G) hL ho).less (Nat.le_of_ble_eq_true hn)) I fun e K' N s' q O hg => p (e, K', N) s' q O (tD hg)) trivial hK rfl (by rw [List.append_nil]; exact gh) hB ez fun y s' hp _ a' hN g D2 e => ?_
  have z := (next y.1 y.2.1 y.2.2 _ _ a' hp).2 s'.heap (D2 G)
  have e1 : (az w b A R s K0 s'.heap.objs.size s'.toks G).s s'.heap [y.1.genState] 0 = s'.setGen G.length y.1.genState := by
   have e0 := e G [.running] g
   have h3 : s'.gens = ⟨G ++ [.running]⟩ := Array.toList_inj.mp g
   rw [show s'.setGen G.length y.1.genState = ((az w b A R s K0 s'.heap.objs.size s'.toks G).s s'.heap [.running] 0).setGen G.length y.1.genState by rw [e0]]
   unfold RV.s Shared.setGen
   congr 1
   simp [az]
  rw [e1] at z
  exact jG z
 have HM : ((az w b A R s K0 n t G).s h [gs] i).gens[G.length]? = some gs := by
  show (⟨G ++ [gs]⟩ : Array GenState)[G.length]? = some gs
  rw [get_gens]; exact pF rfl
 rcases cD with ⟨k₀, l₀, c₀, p, e, H⟩ | e
 ·subst e
  exact y_resume_s _ _ _ _ _ _ _ _ _ _ _ _ _ _ _ _ _ _ HM (H _ _ _ hs)
 ·subst e
  exact y_resume_f _ _ _ _ _ _ _ _ _ _ _ _ HM hs
end
section
variable {w : World} {b : Bool} {A : Around} {R : Result → Shared → Prop} {s : Shared} {K0 K T : KS} {n t g : Nat} {c c₁ : Code} {K₁ : KS} {nL nA : Nat} {o : Ou} {G : List GenState} {gs : GenState} {X : Type} {P : X → Prop} {rf : X → Result} {Kf Nf : X → KS} {gf : X → GenState}
theorem b9.qV (H : ∀ (d : Nat) (fr : List Env) (gd : Option (List Code)) (u : Nat) (R : Result → Shared → Prop) (s : Shared) (Gp : List GenState), let K0 := K; let A : Around := ⟨none, d, some fr, gd, u⟩; (∀ p ∈ K ++ T, p.1 < s.heap.objs.size) → Lv n A → Ro w s K0 T → Gp.length = g → kq w s R K0 T Gp P rf Kf Nf gf → AtH s s.heap.objs.size s.toks →
  br (az w b A R s K0 s.heap.objs.size s.toks Gp) c none .base (den c) K 0 0 [gs] []) : b9 w b n c K T g gs P rf Kf Nf gf := fun A R s hL hG I post => by
 obtain ⟨d, fr, gd, u, rfl⟩ := hL.A
 obtain ⟨Gp, e, hg⟩ := hG
 exact (td I e fun ro => H d fr gd u R s Gp I.lt hL ro hg (fun x s' hp O k => post x s' hp O ⟨Gp, e, k⟩) (AtH.start s)).code
theorem b9.eN (H : ∀ (d : Nat) (fr : List Env) (gd : Option (List Code)) (u : Nat) (R : Result → Shared → Prop) (s : Shared) (Gp : List GenState), let K0 := K; let A : Around := ⟨none, d, some fr, gd, u⟩; Lv n A → Ro w s K0 T → Gp.length = g → kq w s R K0 T Gp P rf Kf Nf gf → AtH s s.heap.objs.size s.toks →
  br (az w b A R s K0 s.heap.objs.size s.toks Gp) c none .base (den c) K 0 0 [gs] []) : b9 w b n c K T g gs P rf Kf Nf gf := b9.qV fun d fr gd u R s Gp _ => H d fr gd u R s Gp
theorem b9.imp' {Y : Type} {P' : Y → Prop} {dJ : Y → Result} {dK dO : Y → KS} {HN : Y → GenState} (H : b9 w b n c K T g gs P rf Kf Nf gf) (h : ∀ x, P x → ∃ y, P' y ∧ rf x = dJ y ∧ Kf x = dK y ∧ Nf x = dO y ∧ gf x = HN y) : b9 w b n c K T g gs P' dJ dK dO HN := fun A R s hA hG I post =>
 H A R s hA hG I fun x s' hp O g => by
  obtain ⟨y, k1, k2, k3, k4, k5⟩ := h x hp
  obtain ⟨Gp, g1, g2⟩ := g
  rw [k3, k4] at O
  rw [k2]
  exact post y s' k1 O ⟨Gp, g1, k5 ▸ g2⟩
theorem BZ {G Gp : List GenState} {a : GenState} (h : G ++ [a] = Gp ++ [a]) : G = Gp := List.append_cancel_right h
theorem cG (ro : Ro w s K0 T) (a : AtH s n t) (hL : Lv (nA + 1) A) (idx : List Nat) (Tb : KS) (bq : b9 w b nL c₁ K₁ Tb g gs P rf Kf Nf gf) (hg : G.length = g) (h : o.hH = some (c₁, [gs])) (hE : eqs o.qs.E) (ho : hO o.cd o.kn = true) (hK : picks o.qs.K idx = some K₁)
  (hn : Nat.ble nL nA = true) (gh : idx.Nodup) (hB : ∀ p ∈ Tb, p ∈ T) (ez : (Tb.map (·.1)).Nodup)
  (next : ∀ x n' t', AtH s n' t' → P x → News s.heap.objs.size (Nf x) → br (az w b A R s K0 n' t' G) o.cd none o.kn (o.kr (rf x)) (da o.qs.K idx (Kf x) ++ Nf x) 0 0 [gf x] []) : Mn (az w b A R s K0 n t G) o :=
 ⟨nf c₁ [gs] h ⟨hE, nofun, fun _ D => use (Γ := fun l => ∃ Gp : List GenState, l = Gp ++ [gs] ∧ Gp.length = g) (Δ := fun x l l' => ∃ Gp : List GenState, l = Gp ++ [gs] ∧ l' = Gp ++ [gf x]) (gl := [gs]) (Ta := []) (di := []) (Z := codeAny (model prog (dE w b)) _ c₁ _) ro a.t D
  (fun s₁ hG I p => bq _ (fun r s' => cw (az w b A R s K0 n t G) o.cd none o.kn (o.kr r) s') s₁ (((Lv.fR (V := az w b A R s K0 n t G) hL ho).less (Nat.le_of_ble_eq_true hn)).mark) hG I p) ⟨G, rfl, hg⟩ hK rfl (by rw [List.append_nil]; exact gh) hB ez fun x s' hp _ a' hN ⟨Gp, e1, e2⟩ D2 e => by
   have z := (next x _ _ a' hp hN).2 s'.heap (D2 _)
   rw [e _ _ (by rw [BZ e1]; exact e2)] at z
   exact jG z⟩⟩
theorem aG (ro : Ro w s K0 T) (a : AtH s n t) (hL : Lv nA A) (idx : List Nat) (Tb : KS) (bq : b9 w b nL c₁ K₁ Tb g gs P rf Kf Nf gf) (hg : G.length = g) (h : o.gU = some (c₁, [gs])) (hE : eqs o.qs.E) (hK : picks o.qs.K idx = some K₁)
  (hn : Nat.ble nL nA = true) (gh : idx.Nodup) (hB : ∀ p ∈ Tb, p ∈ T) (ez : (Tb.map (·.1)).Nodup)
  (next : ∀ x n' t', AtH s n' t' → P x → News s.heap.objs.size (Nf x) → (Kf x).map (·.1) = K₁.map (·.1) → iH (az w b A R s K0 n' t' G) (rf x) (da o.qs.K idx (Kf x) ++ Nf x) 0 0 [gf x] []) : Mn (az w b A R s K0 n t G) o :=
 ⟨iJ c₁ [gs] h ⟨hE, fun _ D => use (Γ := fun l => ∃ Gp : List GenState, l = Gp ++ [gs] ∧ Gp.length = g) (Δ := fun x l l' => ∃ Gp : List GenState, l = Gp ++ [gs] ∧ l' = Gp ++ [gf x]) (gl := [gs]) (Ta := []) (di := []) (Z := codeAny (model prog (dE w b)) A c₁ R) ro a.t D
  (fun s₁ hG I p => bq A R s₁ (hL.less (Nat.le_of_ble_eq_true hn)) hG I p) ⟨G, rfl, hg⟩ hK rfl (by rw [List.append_nil]; exact gh) hB ez fun x s' hp pre a' hN ⟨Gp, e1, e2⟩ D2 e => by
   have z := (next x _ _ a' hp hN pre).2 s'.heap (D2 _)
   rw [e _ _ (by rw [BZ e1]; exact e2)] at z
   exact z⟩⟩
theorem xW {K₂ : KS} {m i : Nat} {r : Result} {j8 : GenState} (post : kq w s R K0 T G P rf Kf Nf gf) (ro : Ro w s K0 T) (a : AtH s n t) (j : Nat) (mask : List Bool) (x : X) (hx : P x) (hr : r = rf x) (cD : j8 = gf x) (hK : bk j K₂ = Kf x) (hN : sel (cu j K₂) mask = Nf x) (hp : (Kf x).map (·.1) = K0.map (·.1)) (hs : News s.heap.objs.size (Nf x)) :
  iH (az w b A R s K0 n t G) r K₂ m i [j8] [] := by
 subst hr cD
 exact ⟨rfl, fun _ D => post x _ hx (Rep.out ro D (Of.sub (hK ▸ hN ▸ dy j _ mask)) hp hs a.t) rfl⟩
theorem eG (post : kq w s R K0 T G P rf Kf Nf gf) (ro : Ro w s K0 T) (a : AtH s n t) (j : Nat) (mask : List Bool) (x : X) (hx : P x) (h : o.oN = some (rf x, [gf x])) (hE : eqs o.qs.E) (hK : bk j o.qs.K = Kf x) (hN : sel (cu j o.qs.K) mask = Nf x) (hp : (Kf x).map (·.1) = K0.map (·.1)) (hs : News s.heap.objs.size (Nf x)) : Mn (az w b A R s K0 n t G) o :=
 ⟨mi _ [gf x] h ⟨hE, (xW post ro a j mask x hx rfl rfl hK hN hp hs).2⟩⟩
theorem tH {j : Nat} {l : List Nat} {K u : KS} (h : j ∉ l) : slot (da K l u) j = slot K j := by
 induction l generalizing K u with
 | nil => rfl
 | cons x l ih => cases u with
  | nil => rfl
  | cons p u => exact (ih (K := gD K x p.2) fun e => h (List.mem_cons_of_mem _ e)).trans (nY fun e => h (e ▸ List.mem_cons_self))
theorem rY {K U K1 : KS} {l : List Nat} (hl : l.Nodup) (h : picks K l = some K1) (hu : U.map (·.1) = K1.map (·.1)) : picks (da K l U) l = some U := by
 induction l generalizing K U K1 with
 | nil =>
  cases h
  cases U with
  | nil => rfl
  | cons => cases hu
 | cons j l ih =>
  rw [List.nodup_cons] at hl
  obtain ⟨q, r, hs, hr, rfl⟩ := gF h
  cases U with
  | nil => cases hu
  | cons q' u =>
   injection hu with BL BM
   have z := ih (K := gD K j q'.2) hl.2 ((mu hl.1).trans hr) BM
   have s0 : slot (gD K j q'.2) j = some q' := by
    rw [slot_get] at hs
    rw [jE, ma, slot_get, List.getElem?_modify, hs]
    simp [← BL]
   show picks (da (gD K j q'.2) l u) (j :: l) = _
   simp only [picks, tH hl.1, s0, z]
theorem tG (post : kq w s R K0 T G P rf Kf Nf gf) (ro : Ro w s K0 T) (a : AtH s n t) (hL : Lv nA A) (idx : List Nat) (bq : b9 w b nL c₁ K₁ T g gs P rf Kf Nf gf) (hg : G.length = g) (h : o.gU = some (c₁, [gs])) (hE : eqs o.qs.E) (hK : picks o.qs.K idx = some K₁) (jT : K₁.map (·.1) = K0.map (·.1))
  (hn : Nat.ble nL nA = true) (gh : idx.Nodup) : Mn (az w b A R s K0 n t G) o :=
 aG ro a hL idx T bq hg h hE hK hn gh (fun _ h => h) ro.nd fun x n' t' a' hp hN pre => ⟨rfl, fun _ D => post x _ hp (Rep.out ro D (Of.picks (rY gh hK pre) gh).app (pre.trans jT) hN a'.t) rfl⟩
theorem xX (ro : Ro w s K0 T) (a : At s n t G) (hL : Lv (nA + 1) A) (idx : List Nat) (Tb : KS) (bq : b9 w b nL c₁ K₁ Tb g gs P rf Kf Nf fun _ => .finished) (hg : G.length = g) (h : o.hH = some (c₁, [gs])) (hE : eqs o.qs.E) (ho : hO o.cd o.kn = true) (hK : picks o.qs.K idx = some K₁)
  (hn : Nat.ble nL nA = true) (gh : idx.Nodup) (hB : ∀ p ∈ Tb, p ∈ T) (ez : (Tb.map (·.1)).Nodup)
  (next : ∀ x n' t', At s n' t' (G ++ [.finished]) → P x → News s.heap.objs.size (Nf x) → br (az w b A R s K0 n' t' (G ++ [.finished])) o.cd none o.kn (o.kr (rf x)) (da o.qs.K idx (Kf x) ++ Nf x) 0 0 [] []) : Mn (az w b A R s K0 n t G) o :=
 cG ro a.toAtH hL idx Tb bq hg h hE ho hK hn gh hB ez fun x n' t' a' hp hN => ⟨rfl, fun h D => by
  have z := (next x n' t' ⟨a', a.G.trans ⟨[.finished], rfl, fun x h => List.mem_singleton.mp h⟩⟩ hp hN).2 h ⟨D.size, D.st, D.mem, D.nd, D.lo, D.own, D.keep, D.big⟩
  have e : (az w b A R s K0 n' t' (G ++ [.finished])).s h [] 0 = (az w b A R s K0 n' t' G).s h [.finished] 0 := by
   unfold RV.s az
   simp
  rw [e] at z
  exact jG z⟩
theorem dh.qV {fr : List Env} (H : ∀ (d : Nat) (gd : Option (List Code)) (u : Nat) (R : Result → Shared → Prop) (s : Shared), let K0 := K; let A : Around := ⟨none, d, some fr, gd, u⟩; (∀ p ∈ K ++ T, p.1 < s.heap.objs.size) → Lv n A → Ro w s K0 T → cC w s R K0 T P rf Kf Nf → At s s.heap.objs.size s.toks s.gens.toList →
  br (az w b A R s K0 s.heap.objs.size s.toks s.gens.toList) c none .base (den c) K 0 0 [] []) : dh fr w b n c K T P rf Kf Nf := fun A R s hA _ I post => by
 obtain ⟨d, mC, gd, u, rfl⟩ := hA.2.A
 obtain rfl : mC = fr := Option.some.inj hA.1
 exact (hV I fun ro => H d gd u R s I.lt hA.2 ro (fun x s' hp O => post x s' hp O.toOutH O.gens) (At.start s)).code
theorem dh.eN {fr : List Env} (H : ∀ (d : Nat) (gd : Option (List Code)) (u : Nat) (R : Result → Shared → Prop) (s : Shared), let K0 := K; let A : Around := ⟨none, d, some fr, gd, u⟩; Lv n A → Ro w s K0 T → cC w s R K0 T P rf Kf Nf → At s s.heap.objs.size s.toks s.gens.toList →
  br (az w b A R s K0 s.heap.objs.size s.toks s.gens.toList) c none .base (den c) K 0 0 [] []) : dh fr w b n c K T P rf Kf Nf := dh.qV fun d gd u R s _ => H d gd u R s
theorem iM.eN {fr : List Env} {κ : Kn} {tr : Sem Fin} (H : ∀ (d : Nat) (gd : Option (List Code)) (u : Nat) (R : Result → Shared → Prop) (s : Shared), let K0 := K; let A : Around := ⟨none, d, some fr, gd, u⟩; Lv n A → Ro w s K0 T → cC w s R K0 T P rf Kf Nf → At s s.heap.objs.size s.toks s.gens.toList →
  br (az w b A R s K0 s.heap.objs.size s.toks s.gens.toList) c none κ tr K 0 0 [] []) : iM fr w b n c κ tr K T P rf Kf Nf := fun A R s hA I post => by
 obtain ⟨d, mC, gd, u, rfl⟩ := hA.2.A
 obtain rfl : mC = fr := Option.some.inj hA.1
 exact hV I fun ro => H d gd u R s hA.2 ro post (At.start s)
theorem pA.eN (H : ∀ (A : Around) (R : Result → Shared → Prop) (s : Shared), let K0 := K; jF n A → Ro w s K0 T → cC w s R K0 T P rf Kf Nf → At s s.heap.objs.size s.toks s.gens.toList →
  br (az w b A R s K0 s.heap.objs.size s.toks s.gens.toList) c none .base (den c) K 0 0 [] []) : pA w b n c K T P rf Kf Nf := fun A R s hA _ I post =>
 (hV I fun ro => H A R s hA ro (fun x s' hp O => post x s' hp O.toOutH O.gens) (At.start s)).code
end
noncomputable abbrev cp : Str → List Str → Str := PySem.W.ZFast.zw10206770168876983080
theorem pG : cp = Builtin.Str.glued := PySem.W.ZFast.ze10206770168876983080.symm
theorem ja : (Str.ofString "").length = 0 := by decide +kernel
theorem kv (sep : Str) (l : List Str) : (cp sep l).length = (l.map (·.length)).sum + (l.length - 1) * sep.length := by rw [pG]; exact size_glued sep l
theorem vv {f x : Str} (hf : f.length ≤ 1000) (hx : x.length ≤ 1000) : decide (sizeLine < 0 + f.length + 0 + x.length + 0) = false ∧ ¬ (cp (Str.ofString "") [f, x]).length > sizeLine := by
 refine ⟨by rw [decide_eq_false_iff_not]; unfold sizeLine; lia, ?_⟩
 rw [kv, ja]
 unfold sizeLine
 simp
 lia
noncomputable def B0 : List Stmt → Nat → List Stmt
 | [], _ => []
 | x :: _, 0 => [x]
 | _ :: l, n + 1 => B0 l n
noncomputable def view : Program := { prog with main := { prog.main with body := [0, 2, 3, 4, 5, 7, 8, 9, 11, 12, 13, 14, 15, 16, 17].flatMap (B0 prog.main.body) } }
noncomputable def kk : Params → Frag := fun P => [(nat_lit 140, eJ []), (nat_lit 147, eJ []), (nat_lit 0, Hy P), (nat_lit 2, Bl P), (nat_lit 3, Hz P), (nat_lit 4, HA P), (nat_lit 34, Bm P), (nat_lit 35, Bo P), (nat_lit 41, Bp P), (nat_lit 42, Br P), (nat_lit 55, Bs P), (nat_lit 56, Bu P), (nat_lit 90, Bv P), (nat_lit 91, Bw P), (nat_lit 93, Bx P), (nat_lit 94, By P), (nat_lit 102, w3 P), (nat_lit 107, w4 P), (nat_lit 114, w5 P), (nat_lit 115, w6 P), (nat_lit 121, w7 P), (nat_lit 122, w9 P), (nat_lit 123, xa P), (nat_lit 129, xb P), (nat_lit 130, xd P), (nat_lit 137, xe P), (nat_lit 138, xf P), (nat_lit 144, mj P), (nat_lit 145, xh P), (nat_lit 151, mn P), (nat_lit 152, xj P), (nat_lit 153, xk P), (nat_lit 159, xl P), (nat_lit 160, xm P), (nat_lit 166, xn P), (nat_lit 167, xo P), (nat_lit 174, xp P), (nat_lit 175, xr P), (nat_lit 177, xt P), (nat_lit 178, xu P), (nat_lit 191, xv P), (nat_lit 192, xw P), (nat_lit 201, xx P), (nat_lit 202, xy P), (nat_lit 208, xA P), (nat_lit 209, xB P), (nat_lit 213, xC P), (nat_lit 214, xD P), (nat_lit 218, xE P), (nat_lit 219, xF P), (nat_lit 225, xG P), (nat_lit 226, xH P), (nat_lit 232, xI P), (nat_lit 233, xJ P), (nat_lit 239, xK P), (nat_lit 240, xM P), (nat_lit 244, xN P), (nat_lit 245, xO P), (nat_lit 249, xP P), (nat_lit 250, rV P)]
noncomputable def B1 : List Addr := [140, 147, 0, 2, 3, 4, 34, 35, 41, 42, 55, 56, 90, 91, 93, 94, 102, 107, 114, 115, 121, 122, 123, 129, 130, 137, 138, 144, 145, 151, 152, 153, 159, 160, 166, 167, 174, 175, 177, 178, 191, 192, 201, 202, 208, 209, 213, 214, 218, 219, 225, 226, 232, 233, 239, 240, 244, 245, 249, 250]
theorem zu (P : Params) : B1 = (kk P).map (·.1) := by kernel_rfl
theorem hl : LeftO prog view [Str.ofString "_Accumulator"] (fun s => xlAt view [] s && recOk (RowW.records PySem.Challenge.rw_rs0147_01.row.toRowW) s) (obsZ B1) (valZ kk 251 496) 3160 := by
 intro w
 kernel_rfl
theorem mD (l : List Nat) (i : Nat) (c : Nat) : (l.take (i + 1)).count c = (l.take i).count c + (if l[i]? = some c then 1 else 0) := by
 rw [List.take_add_one, List.count_append]
 cases h : l[i]? with
 | none => simp
 | some x => by_cases hx : x = c <;> simp [hx]
theorem vw (x : Str) (n : Nat) (hn : n = x.length) (sub : Str) (hs : sub.cps = #[10]) :
  ∀ (m i : Nat) (found : Array Nat) (free : Nat) (hm : i + m = n + 1) (hf : free ≤ i) (hc : found.size = ((x.cps.toList).take i).count 10),
  ((forIn (List.range' i m) (found, free) (StrLaws.occBody x sub n (n + 1))).run.fst.toList).length = (x.cps.toList).count 10 := by
 have kx : sub.length = 1 := by show sub.cps.size = 1; rw [hs]; rfl
 have lE : (x.cps.toList).length = n := hn.symm
 intro m
 induction m with
 | zero =>
  intro i found free hm hf hc
  rw [List.take_of_length_le (by lia)] at hc
  show found.toList.length = _
  rw [← hc]; rfl
 | succ m ih =>
  intro i found free hm hf hc
  have hle : found.size ≤ i := by
   rw [hc]
   exact Nat.le_trans List.count_le_length (by simp; lia)
  have hat : Builtin.Str.subAt x sub i = true ↔ (x.cps.toList)[i]? = some 10 := by
   rw [StrLaws.subAt_eq, kx, hs]
   cases h : (x.cps.toList)[i]? with
   | none =>
    rw [List.getElem?_eq_none_iff] at h
    rw [List.drop_eq_nil_of_le h]
    decide
   | some y =>
    obtain ⟨h1, h2⟩ := List.getElem?_eq_some_iff.mp h
    rw [List.drop_eq_getElem_cons h1, h2]
    simp
  have cq := mD (x.cps.toList) i 10
  rw [List.range'_succ, List.forIn_cons]
  unfold StrLaws.occBody
  by_cases j9 : (x.cps.toList)[i]? = some 10
  ·have hi : i < (x.cps.toList).length := (List.getElem?_eq_some_iff.mp j9).1
   rw [if_pos ⟨⟨⟨by show found.size < n + 1; lia, hf⟩, by rw [kx]; lia⟩, hat.mpr j9⟩]
   rw [if_pos j9] at cq
   exact ih (i + 1) (found.push i) (i + sub.length) (by exact cJ) (by rw [kx]; exact Nat.le_refl _) (by rw [Array.size_push, cq, hc])
  ·rw [if_neg fun h => j9 (hat.mp h.2)]
   rw [if_neg j9] at cq
   exact ih (i + 1) found free (by exact cJ) (by lia) (hc.trans cq.symm)
theorem tI (x sub : Str) (hs : sub.cps = #[10]) : (Builtin.Str.occurrences x sub 0 x.length (x.length + 1)).length = (x.cps.toList).count 10 := by
 rw [StrLaws.occ_eq]
 exact vw x x.length rfl sub hs (x.length + 1) 0 #[] 0 (by exact Nat.zero_add _) (Nat.le_refl _) (by simp)
noncomputable def ky (x : Nat) : List Nat → List Nat
 | [] => [x]
 | y :: l => if x ≤ y then x :: y :: l else y :: ky x l
noncomputable def dS : List Nat → List Nat
 | [] => []
 | x :: l => ky x (dS l)
theorem oj (x : Nat) (l : List Nat) : (ky x l).Perm (x :: l) := by
 induction l with
 | nil => exact List.Perm.refl _
 | cons y l ih =>
  unfold ky
  split
  ·exact List.Perm.refl _
  ·exact (List.Perm.cons y ih).trans (List.Perm.swap x y l)
theorem cE (l : List Nat) : (dS l).Perm l := by
 induction l with
 | nil => exact List.Perm.refl _
 | cons x l ih => exact (oj x _).trans (List.Perm.cons x ih)
theorem zw (x : Nat) (l : List Nat) (h : l.Pairwise (· ≤ ·)) : (ky x l).Pairwise (· ≤ ·) := by
 induction l with
 | nil => simp [ky]
 | cons y l ih =>
  rw [List.pairwise_cons] at h
  unfold ky
  split
  ·rename_i fq
   rw [List.pairwise_cons, List.pairwise_cons]
   refine ⟨fun z hz => ?_, h⟩
   rcases List.mem_cons.mp hz with rfl | hz
   ·exact fq
   ·exact Nat.le_trans fq (h.1 z hz)
  ·rename_i fq
   rw [List.pairwise_cons]
   refine ⟨fun z hz => ?_, ih h.2⟩
   rcases List.mem_cons.mp ((oj x l).mem_iff.mp hz) with rfl | hz
   ·exact rN
   ·exact h.1 z hz
theorem jV (l : List Nat) : (dS l).Pairwise (· ≤ ·) := by
 induction l with
 | nil => exact List.Pairwise.nil
 | cons x l ih => exact zw x _ ih
theorem oM : ∀ (l l' : List Nat), l.Perm l' → l.Pairwise (· ≤ ·) → l'.Pairwise (· ≤ ·) → l = l' := by
 intro l
 induction l with
 | nil => intro l' h _ _; exact (List.nil_perm.mp h).symm
 | cons x l ih =>
  intro l' h h1 h2
  cases l' with
  | nil => exact absurd h.length_eq (by simp)
  | cons y l' =>
   rw [List.pairwise_cons] at h1 h2
   have fq : x = y := by
    have hx : x ∈ y :: l' := h.mem_iff.mp (by simp)
    have hy : y ∈ x :: l := h.mem_iff.mpr (by simp)
    rcases List.mem_cons.mp hx with e | hx
    ·exact e
    ·rcases List.mem_cons.mp hy with e | hy
     ·exact e.symm
     ·have := h1.1 y hy
      have := h2.1 x hx
      lia
   subst fq
   rw [ih l' ((List.perm_cons x).mp h) h1.2 h2.2]
theorem bA (n : Nat) (l : List Nat) (hn : l.length = n) (σ : List Nat) (hσ : σ.Perm (List.range n)) (h : (σ.map (l.getD · 0)).Pairwise (· ≤ ·)) : σ.map (l.getD · 0) = dS l := by
 subst hn
 refine oM _ _ ?_ h (jV l)
 refine ((hσ.map (l.getD · 0)).trans ?_).trans (cE l).symm
 have : (List.range l.length).map (l.getD · 0) = l := by
  apply List.ext_getElem
  ·simp
  ·intro i h1 h2
   simp at h1
   simp [h1]
 rw [this]
theorem HO {a b : Nat} (h : a ≤ b) : [a, b].Pairwise (· ≤ ·) := by simp [h]
theorem kz {a b c : Nat} (h : a ≤ b) (h2 : b ≤ c) : [a, b, c].Pairwise (· ≤ ·) := by simp; lia
theorem cg {a b c d : Nat} (h : a ≤ b) (h2 : b ≤ c) (h3 : c ≤ d) : [a, b, c, d].Pairwise (· ≤ ·) := by simp; lia
theorem bh {a b : Nat} (h : (a : Int) < (b : Int)) : a ≤ b := by exact Kd
theorem bl {a b : Nat} (h : ¬ (b : Int) < (a : Int)) : a ≤ b := by exact IQ
theorem B2 {α : Type} {p : Prop} {d : Decidable p} {F : ¬ p → Option α} {T : p → Option α} (h : ¬ p) (hF : F h = none) : @Decidable.rec p (fun _ => Option α) F T d = none := by
 cases d with
 | isTrue h' => exact absurd h' h
 | isFalse h' => exact hF
theorem gp (l : List Value) (v : Value) : R.concatR l v = l ++ [v] := by
 have h := congrFun (congrFun (congrFun (@ZFast.ze2398297429280069960) Value) (⟨l⟩ : Array Value)) v
 have h2 := congrArg Array.toList h
 simpa [ZFast.zw2398297429280069960] using h2.symm
noncomputable abbrev tJ (l l' : List Value) (ep : Nat) : Nat := condFn Nat ((⟨l'⟩ : Array Value).size == (⟨l⟩ : Array Value).size) ep (ep + 1)
set_option smartUnfolding false
theorem vx (a : Addr) (aD : Addr) (items : List Value) (ep : Nat) (v : Value) (hn : items.length ≤ 1000) :
  af w b 1 (.call (.builtin "list.append") ⟨[.ref a, v], []⟩) [(a, aq aD items ep)] []
   (X := Nat) (fun _ => True) (fun _ => .ok (.ret .none)) (fun e => [(a, aq aD (items ++ [v]) e)]) (fun _ => []) := by
 (refine zB ?_; intro zd zc a0)
 exists zg, 6, 637752552
 refine dM ?_
 with_unfolding_all conv => (arg 5; whnf; arg 27; whnf)
 generalize hx : ZFast.zw12520540566002728236 _ = x
 obtain rfl : x = none := by
  rw [← hx]
  exact B2 (by
   show ¬ sizeLine + 1 < (R.concatR items v).length
   rw [gp, List.length_append]
   unfold sizeLine
   simp
   exact aO) rfl
 clear hx
 exists zg, 1, 0
 exact od zc.post zc.ro a0 1 [] (fun _ => tJ items (R.concatR items v) ep) trivial (fun _ => [(a, aq aD (R.concatR items v) (tJ items (R.concatR items v) ep))]) (by kernel_rfl) (by rw [gp]) (by kernel_rfl) ak
theorem vy (a : Addr) (items : List Value) (ep : Nat) (v : Value) (hn : items.length ≤ 1000) :
  af w b 1 (.call (.builtin "list.append") ⟨[.ref a, v], []⟩) [(a, aa items ep)] []
   (X := Nat) (fun _ => True) (fun _ => .ok (.ret .none)) (fun e => [(a, aa (items ++ [v]) e)]) (fun _ => []) := by
 (refine zB ?_; intro zd zc a0)
 exists zg, 5, 12755052
 refine dM ?_
 with_unfolding_all conv => (arg 5; whnf; arg 27; whnf)
 generalize hx : ZFast.zw12520540566002728236 _ = x
 obtain rfl : x = none := by
  rw [← hx]
  exact B2 (by
   show ¬ sizeLine + 1 < (R.concatR items v).length
   rw [gp, List.length_append]
   unfold sizeLine
   simp
   exact aO) rfl
 clear hx
 exists zg, 1, 0
 exact od zc.post zc.ro a0 1 [] (fun _ => tJ items (R.concatR items v) ep) trivial (fun _ => [(a, aa (R.concatR items v) (tJ items (R.concatR items v) ep))]) (by kernel_rfl) (by rw [gp]) (by kernel_rfl) ak
set_option smartUnfolding true
theorem Fv (a : Addr) (aD : Addr) (items : List Value) (ep : Nat) (v : Value) (hn : items.length ≤ 1000) :
  af w b 1 (.call (.builtin "list.append") ⟨[.ref a, v], []⟩) [(a, aq aD items ep)] [] (X := Nat) (fun _ => True) (fun _ => .ok (.ret .none)) (fun e => [(a, aq aD (items ++ [v]) e)]) (fun _ => []) :=
 vx a aD items ep v hn
set_option smartUnfolding false
theorem push (aA aD : Addr) (items : List Value) (ep : Nat) (hz : Int) (tk tz : Tok) (z : Int) (tf tx : Tok) (f x : Str) (hn : items.length ≤ 1000) :
  af w b 4 (.call (.ref 122) ⟨[.ref aA, .str f tf, .str x tx], []⟩) 
   [(aA, aq aD items ep), (aD, bJ hz tk tz z)] []
   (X := Addr × Nat) (fun _ => True) (fun _ => .ok (.ret .none)) (fun y => [(aA, aq aD (items ++ [.ref y.1]) y.2), (aD, bJ hz tk tz z)]) (fun y => [(y.1, aj [.str f tf, .str x tx])]) := by
 exists zA, 16, 3188775510051, zd, zc, a
 (refine zP 29 7940766614018751993000318880201 (bB w8 122 zc.S []) ?_; intro ou)
 exists zH, 2, 0, [0], Fv aA aD items ep (.ref (zc.S + 1)) hn, y, n2, t2
 exact zN 2 [false, true] (zc.S + 1, y) (hs := (ar (Nat.le_add_right _ _) ak))
set_option smartUnfolding true
noncomputable def au (w : World) (x : String) : Int := ZFast.zw12210062019545310541 (w.params.strHash (Str.ofString x).cps)
set_option smartUnfolding false
theorem xY {w : World} {b : Bool} (it a : Addr) (cls : Value) (dc : Option Addr) (sl : Array (Option Value)) (items : List Value) (ep j : Nat) (v : Value) (hv : items[j]? = some v) :
  gg w b 0 (.call (.builtin "list_iterator.__next__") ⟨[.ref it], []⟩) [(it, bx a j), (a, ⟨cls, dc, .seq ⟨items⟩ ep, sl⟩)] []
   (fun r K' N => r = .ok (.ret v) ∧ K' = [(it, bx a (j + 1)), (a, ⟨cls, dc, .seq ⟨items⟩ ep, sl⟩)] ∧ N = []) := by
 refine gg.of fun d fr gd u Rr s hL ro post => ?_
 exists zg, 5, 19005052
 exists dT, os (by simpa using hv)
 exists zg, 3, 102
 exact eQ post ro (Nat.le_refl _) 2 [] ⟨rfl, rfl, rfl⟩ (by kernel_rfl) (by kernel_rfl) ak
theorem Fw {w : World} {b : Bool} (it a : Addr) (cls : Value) (dc : Option Addr) (sl : Array (Option Value)) (items : List Value) (ep j : Nat) (hv : items[j]? = none) :
  gg w b 0 (.call (.builtin "list_iterator.__next__") ⟨[.ref it], []⟩) [(it, bx a j), (a, ⟨cls, dc, .seq ⟨items⟩ ep, sl⟩)] []
   (fun r K' N => ∃ x y, r = .error (.ref y) ∧ K' = [(it, ⟨.type SZ.s3492446563574874994x13, none, .fields ⟨[.none, .int j 0]⟩, ⟨[]⟩⟩), (a, ⟨cls, dc, .seq ⟨items⟩ ep, sl⟩)] ∧ N = [(x, aj []), (y, lg x)]) := by
 refine gg.of fun d fr gd u Rr s hL ro post => ?_
 exists zg, 5, 19005052
 exists dT, on (by simpa using hv)
 exists zg, 7, 102
 exact eQ post ro (Nat.le_refl _) 2 [true, true] ⟨s.heap.objs.size + 0, s.heap.objs.size + 1, rfl, rfl, rfl⟩ (by kernel_rfl) (by kernel_rfl) (ar (Nat.le_add_right _ _) (ar (Nat.le_add_right _ _) ak))
theorem xZ {w : World} {b : Bool} (x : Str) (tx : Tok) (h : x.length ≤ 1000) :
  gg w b 1 (.call (.builtin "len") ⟨[.str x tx], []⟩) [] [] (fun r K' N => ∃ tk, r = .ok (.ret (.int x.length tk)) ∧ K' = [] ∧ N = []) := by
 have h' : ¬ ((x.length : Nat) : Int) ≥ 2 ^ 63 := by exact nS
 refine gg.of fun d fr gd u Rr s hL ro post => ?_
 exists zg, 6, 2551
 exists dT, df (by exact nS)
 exists zg, 2, 0
 exact eQ post ro (Nat.le_refl _) 0 [] ⟨s.toks + 1, rfl, rfl, rfl⟩ (by kernel_rfl) (by kernel_rfl) ak
theorem Fx {w : World} {b : Bool} (x y : Nat) (tx ty : Tok) :
  gg w b 1 (.call (.builtin "int.__add__") ⟨[.int x tx, .int y ty], []⟩) [] [] (fun r K' N => ∃ tk, r = .ok (.ret (.int (x + y : Nat) tk)) ∧ K' = [] ∧ N = []) := by
 refine gg.of fun d fr gd u Rr s hL ro post => ?_
 exists zg, 3, 1
 exact eQ post ro (Nat.le_refl _) 0 [] ⟨s.toks + 0, rfl, rfl, rfl⟩ (by kernel_rfl) (by kernel_rfl) ak
theorem B3 {w : World} {b : Bool} (tp : Addr) (t0 tf tx : Tok) (f x : Str) (hf : f.length ≤ 1000) (hx : x.length ≤ 1000) :
  gg w b 1 (.call (.builtin "str.join") ⟨[.str (Str.ofString "") t0, .ref tp], []⟩) [(tp, aj [.str f tf, .str x tx])] []
   (fun r K' N => ∃ tk, r = .ok (.ret (.str (cp (Str.ofString "") [f, x]) tk)) ∧ K' = [(tp, aj [.str f tf, .str x tx])] ∧ N = []) := by
 have hg := vv hf hx
 refine gg.of fun d fr gd u Rr s hL ro post => ?_
 exists zg, 3, 5101
 exists dT, bf hg.1
 exists ao, ah (df hg.2)
 exists zg, 2, 0
 exact eQ post ro (Nat.le_refl _) 1 [] ⟨s.toks + 0, rfl, rfl, rfl⟩ (by kernel_rfl) (by kernel_rfl) ak
noncomputable def hZ (it : Addr) (o : Obj) : Prop := ∃ h0 t0 e, o = cK [av h0 ".0" t0 (.ref it)] e ∨ ∃ h1 t1 v1 h2 t2 v2, o = cK [av h0 ".0" t0 (.ref it), av h1 "fws" t1 v1, av h2 "part" t2 v2] e
noncomputable def rZ (w : World) (b : Bool) (C : Code) (aA aD it L tp : Addr) (o : Obj) (items : List Value) (ep j : Nat) (tf tx : Tok) (f x : Str) (v : Tok → Value) : Prop :=
  fg w b 3 C [(L, o), (it, bx aA j), (aA, aq aD items ep), (tp, aj [.str f tf, .str x tx])] []
   (fun e K' N => ∃ tk o', e.result = .yielded (v tk) ∧ gH w b C e.genState ∧ hZ it o' ∧ K' = [(L, o'), (it, bx aA (j + 1)), (aA, aq aD items ep), (tp, aj [.str f tf, .str x tx])] ∧ N = [])
theorem zx {w : World} {b : Bool} (aA aD it L cb tp : Addr) (o : Obj) (cP : hZ it o) (items : List Value) (ep j : Nat) (tf tx : Tok) (f x : Str) (hv : items[j]? = some (.ref tp)) (hf : f.length ≤ 1000) (hx : x.length ≤ 1000) :
  rZ w b (iP it L cb) aA aD it L tp o items ep j tf tx f x (fun tk => .int (f.length + x.length : Nat) tk) := by
 obtain ⟨h0, t0, e1, cP⟩ := cP
 cases b <;> rcases cP with rfl | ⟨h1, t1, v1, h2, t2, v2, rfl⟩
 all_goals
  refine fg.ofM ?_
  intro d fr gd u P s K0 A hL ro post
  exists zg, 3, 103
  refine pE ro (AtH.start s) hL [1, 2] (xY it aA (.ref 178) (some aD) ⟨[]⟩ items ep j (.ref tp) hv) (by kernel_rfl) (by decide) (by decide) ?_
  rintro r U N n1 k1 a1 ⟨rfl, rfl, rfl⟩
  exists zg, 68, 23196757030413754529139047869462138560305790414614942876564692204694387753
  refine pE ro a1 hL [] (xZ f tf hf) (by kernel_rfl) (by decide) (by decide) ?_
  rintro r U N n2 k2 a2 ⟨l1, rfl, rfl, rfl⟩
  exists zg, 8, 255051
  refine pE ro a2 hL [] (xZ x tx hx) (by kernel_rfl) (by decide) (by decide) ?_
  rintro r U N n3 k3 a3 ⟨l2, rfl, rfl, rfl⟩
  exists zg, 3, 2
  refine pE ro a3 hL [] (Fx f.length x.length l1 l2) (by kernel_rfl) (by decide) (by decide) ?_
  rintro r U N n4 k4 al ⟨tk, rfl, rfl, rfl⟩
  exists zg, 2, 0
 ·exact oh post ro al.t 4 [] (fun p => ⟨tk, cK [av h0 ".0" t0 (.ref it), av (au w "fws") "fws" (k1 + 0) (.str f tf), av (au w "part") "part" (k1 + 1) (.str x tx)] (e1 + 1 + 1), rfl, e8 p 50 (c' := iP it L cb) (by kernel_rfl) rfl (by kernel_rfl), ⟨_, _, _, .inr ⟨_, _, _, _, _, _, rfl⟩⟩, rfl, rfl⟩) (by kernel_rfl) (by kernel_rfl) ak
 ·exact oh post ro al.t 4 [] (fun p => ⟨tk, cK [av h0 ".0" t0 (.ref it), av h1 "fws" t1 (.str f tf), av h2 "part" t2 (.str x tx)] e1, rfl, e8 p 50 (c' := iP it L cb) (by kernel_rfl) rfl (by kernel_rfl), ⟨_, _, _, .inr ⟨_, _, _, _, _, _, rfl⟩⟩, rfl, rfl⟩) (by kernel_rfl) (by kernel_rfl) ak
 ·exact oh post ro al.t 4 [] (fun p => ⟨tk, cK [av h0 ".0" t0 (.ref it), av (au w "fws") "fws" (k1 + 0) (.str f tf), av (au w "part") "part" (k1 + 1) (.str x tx)] (e1 + 1 + 1), rfl, e8 p 50 (c' := iP it L cb) (by kernel_rfl) rfl (by kernel_rfl), ⟨_, _, _, .inr ⟨_, _, _, _, _, _, rfl⟩⟩, rfl, rfl⟩) (by kernel_rfl) (by kernel_rfl) ak
 ·exact oh post ro al.t 4 [] (fun p => ⟨tk, cK [av h0 ".0" t0 (.ref it), av h1 "fws" t1 (.str f tf), av h2 "part" t2 (.str x tx)] e1, rfl, e8 p 50 (c' := iP it L cb) (by kernel_rfl) rfl (by kernel_rfl), ⟨_, _, _, .inr ⟨_, _, _, _, _, _, rfl⟩⟩, rfl, rfl⟩) (by kernel_rfl) (by kernel_rfl) ak
theorem zy {w : World} {b : Bool} (aA aD it L cb tp : Addr) (o : Obj) (cP : hZ it o) (items : List Value) (ep j : Nat) (tf tx : Tok) (f x : Str) (hv : items[j]? = some (.ref tp)) (hf : f.length ≤ 1000) (hx : x.length ≤ 1000) :
  rZ w b (gY it L cb) aA aD it L tp o items ep j tf tx f x (fun tk => .str (cp (Str.ofString "") [f, x]) tk) := by
 obtain ⟨h0, t0, e1, cP⟩ := cP
 cases b <;> rcases cP with rfl | ⟨h1, t1, v1, h2, t2, v2, rfl⟩
 all_goals
  refine fg.ofM ?_
  intro d fr gd u P s K0 A hL ro post
  exists zg, 3, 103
  refine pE ro (AtH.start s) hL [1, 2] (xY it aA (.ref 178) (some aD) ⟨[]⟩ items ep j (.ref tp) hv) (by kernel_rfl) (by decide) (by decide) ?_
  rintro r U N n1 k1 a1 ⟨rfl, rfl, rfl⟩
  exists zg, 73, 23201304503922619170328623064774638560305790414614942876564692204694387753
  refine pE ro a1 hL [7] (B3 (n1 + 3) 198 tf tx f x hf hx) (by kernel_rfl) (by decide) (by decide) ?_
  rintro r U N n4 k4 al ⟨tk, rfl, rfl, rfl⟩
  exists zg, 3, 0
 ·exact oh post ro al.t 4 [] (fun p => ⟨tk, cK [av h0 ".0" t0 (.ref it), av (au w "fws") "fws" (k1 + 0) (.str f tf), av (au w "part") "part" (k1 + 1) (.str x tx)] (e1 + 1 + 1), rfl, e8 p 50 (c' := gY it L cb) (by kernel_rfl) rfl (by kernel_rfl), ⟨_, _, _, .inr ⟨_, _, _, _, _, _, rfl⟩⟩, rfl, rfl⟩) (by kernel_rfl) (by kernel_rfl) ak
 ·exact oh post ro al.t 4 [] (fun p => ⟨tk, cK [av h0 ".0" t0 (.ref it), av h1 "fws" t1 (.str f tf), av h2 "part" t2 (.str x tx)] e1, rfl, e8 p 50 (c' := gY it L cb) (by kernel_rfl) rfl (by kernel_rfl), ⟨_, _, _, .inr ⟨_, _, _, _, _, _, rfl⟩⟩, rfl, rfl⟩) (by kernel_rfl) (by kernel_rfl) ak
 ·exact oh post ro al.t 4 [] (fun p => ⟨tk, cK [av h0 ".0" t0 (.ref it), av (au w "fws") "fws" (k1 + 0) (.str f tf), av (au w "part") "part" (k1 + 1) (.str x tx)] (e1 + 1 + 1), rfl, e8 p 50 (c' := gY it L cb) (by kernel_rfl) rfl (by kernel_rfl), ⟨_, _, _, .inr ⟨_, _, _, _, _, _, rfl⟩⟩, rfl, rfl⟩) (by kernel_rfl) (by kernel_rfl) ak
 ·exact oh post ro al.t 4 [] (fun p => ⟨tk, cK [av h0 ".0" t0 (.ref it), av h1 "fws" t1 (.str f tf), av h2 "part" t2 (.str x tx)] e1, rfl, e8 p 50 (c' := gY it L cb) (by kernel_rfl) rfl (by kernel_rfl), ⟨_, _, _, .inr ⟨_, _, _, _, _, _, rfl⟩⟩, rfl, rfl⟩) (by kernel_rfl) (by kernel_rfl) ak
noncomputable def pH : Expr → Expr × List Comprehension × Scope × Pos
 | .GeneratorExp a g c d => (a, g, c, d)
 | e => (e, [], default, default)
noncomputable abbrev isGE (e : Expr) : Prop := e = .GeneratorExp (pH e).1 (⟨(oa (pH e).2.1).1.target, (oa (pH e).2.1).1.iter, (oa (pH e).2.1).1.ifs, 0⟩ :: (oa (pH e).2.1).2) (pH e).2.2.1 (pH e).2.2.2
theorem qW {e : Expr} (h : isGE e) : ∃ el tg ix ifs gs sc ps, e = .GeneratorExp el (⟨tg, ix, ifs, 0⟩ :: gs) sc ps := ⟨_, _, _, _, _, _, _, h⟩
noncomputable abbrev B4 (e : Expr) (it : Addr) (env : Env) : Code := .compLoop e 0 (.ref it) .none env
theorem IV (e : Expr) (hE : isGE e) (env : Env) (aA aD it L : Addr) (o : Obj) (items : List Value) (ep j : Nat) (hv : items[j]? = none) :
  fg w b 3 (B4 e it env)
   [(L, o), (it, bx aA j), (aA, aq aD items ep)] []
   (fun e K' N => e.result = .returned .none ∧ e.genState = .finished ∧ ∃ o1 o2, K' = [(L, o1), (it, o2), (aA, aq aD items ep)] ∧ N = []) := by
 obtain ⟨el, tg, ix, ifs, gs, sc, ps, rfl⟩ := qW hE
 refine fg.ofM ?_
 intro d fr gd u P s K0 A hL ro post
 exists zg, 3, 103
 refine pE ro (AtH.start s) hL [1, 2] (Fw it aA (.ref 178) (some aD) ⟨[]⟩ items ep j hv) (by kernel_rfl) (by decide) (by decide) ?_
 rintro r U N n1 k1 a1 ⟨x, y, rfl, rfl, rfl⟩
 exists zg, 2, 6
 exact Kr (r := .ok .next) (K' := [(L, o), (it, ou.ob 1), (aA, aq aD items ep)]) (N := []) post ro a1.t 3 [] ⟨rfl, rfl, o, _, rfl, rfl⟩ (by kernel_rfl) (by kernel_rfl) ak
theorem lh (e : Expr) (hE : isGE e) (env : Env) (aA aD it L : Addr) (o : Obj) (items : List Value) (ep j : Nat) (T : KS) (Q : End → KS → KS → Prop) (bq : fg w b 3 (B4 e it env) [(L, o), (it, bx aA j), (aA, aq aD items ep)] T Q) :
  fg w b 3 (.compStart e 0 (.ref it) .none env) [(L, o), (it, bx aA j), (aA, aq aD items ep)] T Q := by
 obtain ⟨el, tg, ix, ifs, gs, sc, ps, rfl⟩ := qW hE
 refine fg.ofM ?_
 intro d fr gd u P s K0 A hL ro post
 exists zg, 1, 0
 refine dM ?_
 cases jb : w.params.followText "comprehension-iter-twice"
 ·exists ao, dG (bf jb)
  cases b
  ·exists zg, 11, 32194127653
   exact BY post ro hL (Nat.le_refl _) bq (by kernel_rfl) (by kernel_rfl) (by kernel_rfl) (Nat.ble_self_eq_true _)
  ·exists zg, 11, 32194127653
   exact BY post ro hL (Nat.le_refl _) bq (by kernel_rfl) (by kernel_rfl) (by kernel_rfl) (Nat.ble_self_eq_true _)
 ·exists ao, dG (bt jb)
  exists zg, 1, 2
  exact BY post ro hL (Nat.le_refl _) bq (by kernel_rfl) (by kernel_rfl) (by kernel_rfl) (Nat.ble_self_eq_true _)
noncomputable def HP : Sem Fin → GenStatus × Option (List (Code × Pos)) → Sem Fin
 | .genState _ k => k
 | t => fun _ => t
set_option smartUnfolding true
theorem HQ {V : RV} {o : Ou} {g : Nat} {gs : GenState} (h : (o.iI, E1 o, o.qs.gl, o.tr) = (true, E2 o, [gs], .genState g (HP o.tr))) (hg : V.G.length = g) (hs : V.sg = false)
  (H : br V o.cd none o.kn (HP o.tr gs.seen) o.qs.K o.qs.m o.qs.i o.qs.gl []) : Mn V o := by
 refine ⟨ng (congrArg (·.1) h) (congrArg (·.2.1) h) ?_⟩
 rw [i5 hs, show o.tr = _ from congrArg (·.2.2.2) h]
 refine oL ?_ H
 rw [show o.qs.gl = [gs] from congrArg (·.2.2.1) h]
 exact pF hg
structure jW where
 b : Bool
 r : Sem Fin
 e : List Nat
 ok : Bool
 k : Option KS
 g : List GenState
noncomputable def Kt : Sem Fin → List Value
 | .resume _ _ l _ => l
 | _ => []
noncomputable def HR : Sem Fin → GenResult → Sem Fin
 | .resume _ _ _ k => k
 | t => fun _ => t
noncomputable def Fy (o : Ou) (idx : List Nat) : jW := ⟨o.iI, o.tr, E1 o, hO o.cd o.kn, picks o.qs.K idx, o.qs.gl⟩
theorem HS {A : Around} {R : Result → Shared → Prop} {s : Shared} {K0 T K₁ : KS} {n t g nL nA : Nat} {G : List GenState} {gs : GenState} {c₁ : Code} {o : Ou} {Q : End → KS → KS → Prop}
  (ro : Ro w s K0 T) (a : AtH s n t) (hL : Lv (nA + 1) A) (cD : gH w b c₁ gs ∨ gs = .fresh c₁) (idx : List Nat) (Tb : KS) (bq : fg w b nL c₁ K₁ Tb Q) (hg : G.length = g) (h : Fy o idx = ⟨true, .resume g (.send .none) (Kt o.tr) (HR o.tr), E2 o, true, some K₁, [gs]⟩)
  (hn : Nat.ble nL nA = true) (gh : idx.Nodup) (hB : ∀ p ∈ Tb, p ∈ T) (ez : (Tb.map (·.1)).Nodup)
  (next : ∀ e U N n' t', AtH s n' t' → Q e U N → br (az w b A R s K0 n' t' G) o.cd none o.kn (HR o.tr e.result) (da o.qs.K idx U ++ N) 0 0 [e.genState] []) : Mn (az w b A R s K0 n t G) o := by
 have he : o.tr = _ := congrArg jW.r h
 have h3 := congrArg jW.ok h
 have h4 := congrArg jW.k h
 refine ⟨ng (congrArg jW.b h) (congrArg jW.e h) ?_⟩
 rw [he, show o.qs.gl = [gs] from congrArg jW.g h]
 exact qL ro a hL cD idx Tb bq hg rfl h3 h4 hn gh hB ez next
noncomputable def iq (w : World) (b : Bool) (C : Code) (it L aA aD : Addr) (items : List Value) (ep : Nat) (gs : GenState) : Prop :=
 ∃ c₁, (gH w b c₁ gs ∨ gs = .fresh c₁) ∧ ∀ o (j : Nat) T Q, fg w b 3 C [(L, o), (it, bx aA j), (aA, aq aD items ep)] T Q → fg w b 3 c₁ [(L, o), (it, bx aA j), (aA, aq aD items ep)] T Q
theorem iq.of {w : World} {b : Bool} {C : Code} {it L aA aD : Addr} {items : List Value} {ep : Nat} {gs : GenState} (h : gH w b C gs) : iq w b C it L aA aD items ep gs := ⟨C, .inl h, fun _ _ _ _ t => t⟩
theorem qX {w : World} {b : Bool} {c₁ : Code} {gs : GenState} (cD : gH w b c₁ gs ∨ gs = .fresh c₁) : gs.seen.1 = .suspended ∨ gs.seen.1 = .fresh := by
 rcases cD with ⟨_, _, _, _, e, _⟩ | e
 ·left; rw [e]; rfl
 ·right; rw [e]; rfl
set_option smartUnfolding false
theorem tK (C : Code) (v : Tok → Value) (gen aA aD it L tp : Addr) (g : Nat) (n1 n2 : Value) (o : Obj) (items : List Value) (ep j : Nat) (tf tx : Tok) (f x : Str) (tu : rZ w b C aA aD it L tp o items ep j tf tx f x v)
  (gs : GenState) (cD : iq w b C it L aA aD items ep gs) :
  b9 w b 4 (.call (.builtin "generator.__next__") ⟨[.ref gen], []⟩)
   [(gen, cV g n1 n2), (L, o), (it, bx aA j), (aA, aq aD items ep)] [(tp, aj [.str f tf, .str x tx])] g gs
   (X := Tok × Obj × GenState) (fun y => gH w b C y.2.2 ∧ hZ it y.2.1) (fun y => .ok (.ret (v y.1))) (fun y => [(gen, cV g n1 n2), (L, y.2.1), (it, bx aA (j + 1)), (aA, aq aD items ep)]) (fun _ => []) (fun y => y.2.2) := by
 obtain ⟨c₁, cD, hc⟩ := cD
 have bq := hc o j _ _ (fg.BV (T := [(tp, aj [.str f tf, .str x tx])]) tu (Q' := fun e K' N => ∃ tk o', e.result = .yielded (v tk) ∧ gH w b C e.genState ∧ hZ it o' ∧ K' = [(L, o'), (it, bx aA (j + 1)), (aA, aq aD items ep)] ∧ N = []) (by
  rintro e K' N ⟨tk, o', h1, h2, h3, rfl, rfl⟩
  exact ⟨_, (rfl : _ = [(L, o'), (it, bx aA (j + 1)), (aA, aq aD items ep)] ++ [(tp, aj [.str f tf, .str x tx])]), tk, o', h1, h2, h3, rfl, rfl⟩))
 have ei := qX cD
 refine b9.eN ?_
 intro d fr gd u Rr s Gp K0 A hL ro hg post a
 exists zg, 3, 5052
 refine HQ (g := g) (gs := gs) (by kernel_rfl) hg rfl ?_
 generalize gs.seen = se at ei
 obtain ⟨s1, s2⟩ := se
 rcases ei with h | h
 all_goals (dsimp only at h; subst h)
 all_goals
  exists zg, 1, 0
  refine sQ fun p below l => ?_
  exists zg, 1, 1
  exists dT, ah (bf (pn l hL (by kernel_rfl) 0))
  exists ao, ah (bf (pq l hL (by kernel_rfl) 0))
  exists zg, 1, 0
  refine HS ro a hL cD [1, 2, 3] [(tp, aj [.str f tf, .str x tx])] bq hg (by kernel_rfl) (by decide) (by decide) (fun p h => h) (List.nodup_cons.mpr ⟨List.not_mem_nil, List.nodup_nil⟩) ?_
  rintro e U N B5 t1 a1 ⟨tk, o', h1, h2, h3, rfl, rfl⟩
  rw [h1]
  exists zg, 1, 0
  exact eG post ro a1 4 [] (tk, o', e.genState) ⟨h2, h3⟩ (by kernel_rfl) (by kernel_rfl) (by kernel_rfl) (by kernel_rfl) (by kernel_rfl) ak
theorem tL (e : Expr) (hE : isGE e) (env : Env) (gen aA aD it L : Addr) (g : Nat) (n1 n2 : Value) (o : Obj) (items : List Value) (ep j : Nat) (hv : items[j]? = none)
  (gs : GenState) (cD : iq w b (B4 e it env) it L aA aD items ep gs) :
  b9 w b 4 (.call (.builtin "generator.__next__") ⟨[.ref gen], []⟩)
   [(gen, cV g n1 n2), (L, o), (it, bx aA j), (aA, aq aD items ep)] [] g gs
   (X := Addr × Addr × Obj × Obj) (fun _ => True) (fun y => .error (.ref y.2.1)) (fun y => [(gen, cV g n1 n2), (L, y.2.2.1), (it, y.2.2.2), (aA, aq aD items ep)]) (fun y => [(y.1, aj []), (y.2.1, lg y.1)]) (fun _ => .finished) := by
 obtain ⟨c₁, cD, hc⟩ := cD
 have bq := hc o j _ _ (IV e hE env aA aD it L o items ep j hv)
 have ei := qX cD
 refine b9.eN ?_
 intro d fr gd u Rr s Gp K0 A hL ro hg post a
 exists zg, 3, 5052
 refine HQ (g := g) (gs := gs) (by kernel_rfl) hg rfl ?_
 generalize gs.seen = se at ei
 obtain ⟨s1, s2⟩ := se
 rcases ei with h | h
 all_goals (dsimp only at h; subst h)
 all_goals
  exists zg, 1, 0
  refine sQ fun p below l => ?_
  exists zg, 1, 1
  exists dT, ah (bf (pn l hL (by kernel_rfl) 0))
  exists ao, ah (bf (pq l hL (by kernel_rfl) 0))
  exists zg, 1, 0
  refine HS ro a hL cD [1, 2, 3] [] bq hg (by kernel_rfl) (by decide) (by decide) (fun p h => h) List.nodup_nil ?_
  rintro e U N B5 t1 a1 ⟨h1, h2, o1, o2, rfl, rfl⟩
  rw [h1, h2]
  exists zg, 4, 0
  exact eG post ro a1 4 [true, true] (B5 + 0, B5 + 1, o1, o2) trivial (by kernel_rfl) (by kernel_rfl) (by kernel_rfl) (by kernel_rfl) (by kernel_rfl) (ar (Nat.le_add_right_of_le a1.n) (ar (Nat.le_add_right_of_le a1.n) ak))
set_option smartUnfolding true
theorem band {a b : Bool} (ha : a = true) (hb : b = true) : @Bool.rec (fun _ => Bool) false b a = true := by rw [ha]; exact hb
theorem pI (x : Int) (h0 : 0 ≤ x) (h1 : x ≤ 100000) : ZFast.zw18045280158202207255 x = true := by
 unfold ZFast.zw18045280158202207255
 simp only [Bool.and_eq_true, decide_eq_true_iff]
 constructor <;> lia
structure Pt where
 a : Addr
 f : Str
 tf : Tok
 x : Str
 tx : Tok
noncomputable def Pt.K (p : Pt) : Addr × Obj := (p.a, aj [.str p.f p.tf, .str p.x p.tx])
noncomputable def Pt.ok (p : Pt) : Prop := p.f.length ≤ 10 ∧ p.x.length ≤ 10
noncomputable def Pt.len (p : Pt) : Nat := p.f.length + p.x.length
noncomputable def bZ (ps : List Pt) : List Value := ps.map fun p => .ref p.a
noncomputable def bw (ps : List Pt) : Nat := (ps.map Pt.len).sum
theorem lj (ps : List Pt) (j : Nat) : (bZ ps)[j]? = (ps[j]?).map fun p => .ref p.a := by unfold bZ; rw [List.getElem?_map]
set_option smartUnfolding false
theorem Fz (gen cl aA aD it L cb : Addr) (g : Nat) (n1 n2 : Value) (ps : List Pt) (ep : Nat) (j : Nat) (hv : (bZ ps)[j]? = none) (o : Obj) (cP : hZ it o) (gs : GenState) (cD : iq w b (iP it L cb) it L aA aD (bZ ps) ep gs) (z : Nat) (tz : Tok) (bC : Nat) (T : KS) :
  b9 w b 8 (.builtin "sum.loop" ⟨[.ref gen, .ref cl, .int 0 0, .int 0 0], []⟩)
   [(gen, cV g n1 n2), (cl, aa [.int z tz] bC), (L, o), (it, bx aA j), (aA, aq aD (bZ ps) ep)] T g gs
   (X := Tok × Obj × Obj × Obj) (fun _ => True) (fun y => .ok (.ret (.int z y.1))) (fun y => [(gen, cV g n1 n2), (cl, y.2.1), (L, y.2.2.1), (it, y.2.2.2), (aA, aq aD (bZ ps) ep)]) (fun _ => []) (fun _ => .finished) := by
 refine b9.eN ?_
 intro d fr gd u Rr s Gp K0 A hL ro hg post a
 exists zg, 3, 5103
 refine cG ro a hL [0, 2, 3, 4] [] (tL (gX fX) (by kernel_rfl) _ gen aA aD it L g n1 n2 o (bZ ps) ep j hv gs cD) hg (by kernel_rfl) (by kernel_rfl) (by kernel_rfl) (by kernel_rfl) (by kernel_rfl) (by decide) (fun _ h => nomatch h) List.nodup_nil fun y n2 t2 a2 _ _ => ?_
 exists zg, 2, 8
 exact eG post ro a2 5 [] (tz, aa [.int z tz] bC, y.2.2.1, y.2.2.2) trivial (by kernel_rfl) (by kernel_rfl) (by kernel_rfl) (by kernel_rfl) (by kernel_rfl) ak
theorem FA (gen cl aA aD it L cb : Addr) (g : Nat) (n1 n2 : Value) (ps : List Pt) (ep : Nat) (j : Nat) (p : Pt) (hv : (bZ ps)[j]? = some (.ref p.a)) (ok : p.ok) (o : Obj) (cP : hZ it o) (gs : GenState) (cD : iq w b (iP it L cb) it L aA aD (bZ ps) ep gs) (z : Nat) (tz : Tok) (bC : Nat) (T : KS) (hT : p.K ∈ T) (hz : z ≤ 10000)
  {X : Type} (P : X → Prop) (rf : X → Result) (Kf Nf : X → KS) (gf : X → GenState)
  (ih : ∀ o' j8 pJ, hZ it o' → iq w b (iP it L cb) it L aA aD (bZ ps) ep j8 → b9 w b 8 (.builtin "sum.loop" ⟨[.ref gen, .ref cl, .int 0 0, .int 0 0], []⟩)
   [(gen, cV g n1 n2), (cl, aa [.int (z + p.len : Nat) pJ] bC), (L, o'), (it, bx aA (j + 1 : Nat)), (aA, aq aD (bZ ps) ep)] T g j8 P rf Kf Nf gf) :
  b9 w b 8 (.builtin "sum.loop" ⟨[.ref gen, .ref cl, .int 0 0, .int 0 0], []⟩)
   [(gen, cV g n1 n2), (cl, aa [.int z tz] bC), (L, o), (it, bx aA j), (aA, aq aD (bZ ps) ep)] T g gs P rf Kf Nf gf := by
 refine b9.eN ?_
 intro d fr gd u Rr s Gp K0 A hL ro hg post a
 exists zg, 3, 5103
 refine cG ro a hL [0, 2, 3, 4] [p.K] (tK (iP it L cb) (fun tk => .int (p.f.length + p.x.length : Nat) tk) gen aA aD it L p.a g n1 n2 o (bZ ps) ep j p.tf p.tx p.f p.x (zx aA aD it L cb p.a o cP (bZ ps) ep j p.tf p.tx p.f p.x hv (Nat.le_trans ok.1 (by decide)) (Nat.le_trans ok.2 (by decide))) gs cD) hg (by kernel_rfl) (by kernel_rfl) (by kernel_rfl) (by kernel_rfl) (by kernel_rfl) (by decide) (fun q h => ?_) (by simp) fun y n2 t2 a2 hy _ => ?_
 ·rw [List.mem_singleton.mp h]; exact hT
 have h1 := ok.1
 have h2 := ok.2
 exists ao, bt (band (pI _ (by lia) (by lia)) (pI _ (by lia) (by lia)))
 exists zg, 5, 257653
 exact tG post ro a2 hL [0, 1, 2, 3, 4] (ih y.2.1 y.2.2 (t2 + 0) hy.2 (.of hy.1)) hg (by kernel_rfl) (by kernel_rfl) (by kernel_rfl) (by kernel_rfl) (by kernel_rfl) (by decide)
set_option smartUnfolding true
theorem IW (gen cl aA aD it L cb : Addr) (g : Nat) (n1 n2 : Value) (ps : List Pt) (ep : Nat) (bU : ∀ p ∈ ps, p.ok) :
  ∀ (rest : List Pt) (j : Nat) (hj : ps.drop j = rest) (o : Obj) (cP : hZ it o) (gs : GenState) (cD : iq w b (iP it L cb) it L aA aD (bZ ps) ep gs) (z : Nat) (tz : Tok) (bC : Nat) (hz : z + bw rest ≤ 10000),
  b9 w b 8 (.builtin "sum.loop" ⟨[.ref gen, .ref cl, .int 0 0, .int 0 0], []⟩)
   [(gen, cV g n1 n2), (cl, aa [.int z tz] bC), (L, o), (it, bx aA j), (aA, aq aD (bZ ps) ep)] (ps.map Pt.K) g gs
   (X := Tok × Obj × Obj × Obj) (fun _ => True) (fun y => .ok (.ret (.int (z + bw rest : Nat) y.1))) (fun y => [(gen, cV g n1 n2), (cl, y.2.1), (L, y.2.2.1), (it, y.2.2.2), (aA, aq aD (bZ ps) ep)]) (fun _ => []) (fun _ => .finished) := by
 intro rest
 induction rest with
 | nil =>
  intro j hj o cP gs cD z tz bC hz
  refine Fz gen cl aA aD it L cb g n1 n2 ps ep j ?_ o cP gs cD z tz bC _
  rw [lj]
  have : ps.length ≤ j := by simpa using hj
  rw [List.getElem?_eq_none this]; rfl
 | cons p rest ih =>
  intro j hj o cP gs cD z tz bC hz
  have hp : ps[j]? = some p := by
   have := congrArg List.head? hj
   rw [List.head?_drop] at this
   exact this
  have hm : p ∈ ps := List.mem_of_getElem? hp
  have hv : (bZ ps)[j]? = some (.ref p.a) := by rw [lj, hp]; rfl
  have hd : ps.drop (j + 1) = rest := by
   have := congrArg List.tail hj
   rw [List.tail_drop] at this
   exact this
  have hl : bw (p :: rest) = p.len + bw rest := by simp [bw]
  refine FA gen cl aA aD it L cb g n1 n2 ps ep j p hv (bU p hm) o cP gs cD z tz bC _ (List.mem_map_of_mem hm) (by lia) _ _ _ _ _ fun o' j8 pJ h1 h2 => ?_
  have e : z + bw (p :: rest) = z + p.len + bw rest := by lia
  rw [e]
  exact ih (j + 1) hd o' h1 j8 h2 (z + p.len) pJ bC (by lia)
set_option smartUnfolding false
theorem B6 (gen aA aD it L cb : Addr) (g : Nat) (n1 n2 : Value) (ps : List Pt) (ep : Nat) (bU : ∀ p ∈ ps, p.ok) (o : Obj) (cP : hZ it o) (gs : GenState) (cD : iq w b (iP it L cb) it L aA aD (bZ ps) ep gs) (z : Nat) (tz : Tok) (hz : z + bw ps ≤ 10000) :
  b9 w b 9 (.call (.builtin "sum") ⟨[.ref gen, .int z tz], []⟩)
   [(gen, cV g n1 n2), (L, o), (it, bx aA (0 : Nat)), (aA, aq aD (bZ ps) ep)] (ps.map Pt.K) g gs
   (X := Tok × Obj × Obj) (fun _ => True) (fun y => .ok (.ret (.int (z + bw ps : Nat) y.1))) (fun y => [(gen, cV g n1 n2), (L, y.2.1), (it, y.2.2), (aA, aq aD (bZ ps) ep)]) (fun _ => []) (fun _ => .finished) := by
 refine b9.eN ?_
 intro d fr gd u Rr s Gp K0 A hL ro hg post a
 refine gB 9 31575130101 ?_
 intro ou
 exists ao, bt (pI _ (by lia) (by lia))
 exists zg, 4, 2
 refine aG ro a hL [0, 4, 1, 2, 3] (ps.map Pt.K) (IW gen s.heap.objs.size aA aD it L cb g n1 n2 ps ep bU ps 0 rfl o cP gs cD z (s.toks + 0) 0 hz) hg (by kernel_rfl) (by kernel_rfl) (by kernel_rfl) (by kernel_rfl) (by decide) (fun _ h => h) ro.nd fun y n2 t2 a2 _ _ _ => ?_
 exact xW post ro a2 4 [] (y.1, y.2.2.1, y.2.2.2) trivial (by kernel_rfl) (by kernel_rfl) (by kernel_rfl) (by kernel_rfl) (by kernel_rfl) ak
noncomputable abbrev pK (cb : Addr) : Obj := eJ [.int 93 0, .int 19 0, .ref cb]
noncomputable def bg (o : Obj) : Prop := o = eJ [] ∨ ∃ cb, o = pK cb
theorem B7 (aA aD : Addr) (t0 : Obj) (ht : bg t0) (hh : Int) (tk tz : Tok) (ps : List Pt) (ep : Nat) (bU : ∀ p ∈ ps, p.ok) (z : Nat) (hz : z + bw ps ≤ 10000) :
  af w b 11 (.call (.ref 145) ⟨[.ref aA], []⟩)
   [(aA, aq aD (bZ ps) ep), (aD, bJ hh tk tz z), (140, t0)] (ps.map Pt.K)
   (X := Tok × Obj) (fun y => bg y.2) (fun y => .ok (.ret (.int (z + bw ps : Nat) y.1))) (fun y => [(aA, aq aD (bZ ps) ep), (aD, bJ hh tk tz z), (140, y.2)]) (fun _ => []) := by
 exists zA, 8, 637551, zd, zc, a
 (refine yP 26 9186426030373125797200627551 (bB xg 145 zc.S []) ?_; intro ou)
 refine sQ fun p below l => ?_
 exists zg, 1, 1
 exists dT, ah (dG (ah (ah (ah (ah (ah (ah (lN (own := 0) (P := w.params) l zc.hL (by kernel_rfl)))))))))
 rcases ht with h | ⟨cb, h⟩
 ·refine xQ 2 (140, t0) h ?_
  exists zg, 51, 38378244699264536102372772839604697664078463010201
  refine xX zc.ro a zc.hL [9, 8, 4, 0] (ps.map Pt.K) (B6 (zc.S + 6) aA aD (zc.S + 1) (zc.S + 5) (zc.S + 4) zc.s.gens.toList.length (.str (Str.ofString "<genexpr>") (zc.s.toks + 7)) (.str (Str.ofString "_Accumulator.__len__.<locals>.<genexpr>") (zc.s.toks + 8)) ps ep bU (cK [av (au w ".0") ".0" (zc.s.toks + 6) (.ref (zc.S + 1))] 1) ⟨_, _, _, .inl rfl⟩ (.fresh (.compStart (gX fX) 0 (.ref (zc.S + 1)) .none (nq fX "_Accumulator.__len__.<locals>.<genexpr>." (zc.S + 5) (zc.S + 4))))
   ⟨_, .inr rfl, fun o j T Q bq => lh (gX fX) (by kernel_rfl) _ aA aD _ _ o (bZ ps) ep j T Q bq⟩ z tz hz) rfl (by kernel_rfl) (by kernel_rfl) (by kernel_rfl) (by kernel_rfl) (by kernel_rfl) (by decide) (fun _ h => h) zc.ro.nd fun y n2 t2 a2 _ _ => ?_
  exists zg, 2, 0
  exact zN 3 [] (y.1, pK (zc.S + 4)) (hx := .inr ⟨_, rfl⟩)
 ·refine xQ 2 (140, t0) h ?_
  exists zg, 40, 307025957594116288818982182716837580356377701
  refine xX zc.ro a zc.hL [6, 5, 4, 0] (ps.map Pt.K) (B6 (zc.S + 3) aA aD (zc.S + 1) (zc.S + 2) cb zc.s.gens.toList.length (.str (Str.ofString "<genexpr>") (zc.s.toks + 2)) (.str (Str.ofString "_Accumulator.__len__.<locals>.<genexpr>") (zc.s.toks + 3)) ps ep bU (cK [av (au w ".0") ".0" (zc.s.toks + 1) (.ref (zc.S + 1))] 1) ⟨_, _, _, .inl rfl⟩ (.fresh (.compStart (gX fX) 0 (.ref (zc.S + 1)) .none (nq fX "_Accumulator.__len__.<locals>.<genexpr>." (zc.S + 2) cb)))
   ⟨_, .inr rfl, fun o j T Q bq => lh (gX fX) (by kernel_rfl) _ aA aD _ _ o (bZ ps) ep j T Q bq⟩ z tz hz) rfl (by kernel_rfl) (by kernel_rfl) (by kernel_rfl) (by kernel_rfl) (by kernel_rfl) (by decide) (fun _ h => h) zc.ro.nd fun y n2 t2 a2 _ _ => ?_
  exists zg, 2, 0
  exact zN 3 [] (y.1, pK cb) (hx := .inr ⟨_, rfl⟩)
theorem IX (aA aD : Addr) (t0 : Obj) (ht : bg t0) (hh : Int) (tk tz : Tok) (ps : List Pt) (ep : Nat) (bU : ∀ p ∈ ps, p.ok) (z : Nat) (hz : z + bw ps ≤ 10000) :
  af w b 12 (.call (.builtin "len") ⟨[.ref aA], []⟩)
   [(aA, aq aD (bZ ps) ep), (aD, bJ hh tk tz z), (140, t0)] (ps.map Pt.K)
   (X := Tok × Obj) (fun y => bg y.2) (fun y => .ok (.ret (.int (z + bw ps : Nat) y.1))) (fun y => [(aA, aq aD (bZ ps) ep), (aD, bJ hh tk tz z), (140, y.2)]) (fun _ => []) := by
 exists zA, 7, 31568877601, zd, zc, a
 exists zI, 1, 0, [0, 1, 2], B7 aA aD t0 ht hh tk tz ps ep bU z hz, y, n2, t2, G2, a2, hy, _
 exists dT, df (by exact nS)
 exists zg, 2, 0
 exact zN 3 [] (t2 + 0, y.2) (hx := hy)
noncomputable abbrev nr (aA : Addr) : Obj := ⟨.type "super", none, .fields ⟨[.ref 178, .ref aA, .ref 178]⟩, ⟨[]⟩⟩
noncomputable abbrev fF (t f : String) (aA : Addr) : Obj := ⟨.type t, none, .fields ⟨[.builtin f, .ref aA]⟩, ⟨[]⟩⟩
noncomputable def tM (aA : Addr) : Value := condFn Value ((Value.ref aA : Value) == .ref 178) .none (.ref aA)
set_option smartUnfolding true
theorem pL {aA : Addr} (h : aA ≠ 178) : tM aA = .ref aA := by
 have e : ((Value.ref aA : Value) == .ref 178) = false := by simp [h]
 unfold tM
 rw [e]
 rfl
set_option smartUnfolding false
theorem FC (aA aD : Addr) (items : List Value) (ep : Nat) :
  af w b 1 (.call (.builtin "wrapper_descriptor.__get__") ⟨[.builtin "list.__len__", .ref aA, .ref 178], []⟩) [(aA, aq aD items ep)] []
   (X := Addr) (fun _ => True) (fun y => .ok (.ret (.ref y))) (fun y => [(aA, aq aD items ep)]) (fun y => [(y, fF "method-wrapper" "list.__len__" aA)]) := by
 exists zA, 5, 2601, zd, zc, a
 exact zN 1 [true] (zc.S + 0) (hs := (ar (Nat.le_add_right _ _) ak))
set_option smartUnfolding true
theorem B8 (aA aD : Addr) (h : aA ≠ 178) (items : List Value) (ep : Nat) :
  af w b 1 (.call (.builtin "wrapper_descriptor.__get__") ⟨[.builtin "list.__len__", tM aA, .ref 178], []⟩) [(aA, aq aD items ep)] []
   (X := Addr) (fun _ => True) (fun y => .ok (.ret (.ref y))) (fun y => [(aA, aq aD items ep)]) (fun y => [(y, fF "method-wrapper" "list.__len__" aA)]) := by
 rw [pL h]
 exact FC aA aD items ep
set_option smartUnfolding false
theorem B9 (so aA aD : Addr) (items : List Value) (ep : Nat) (tk : Tok) :
  af w b 3 (.call (.builtin "super.__getattribute__") ⟨[.ref so, .str (Str.ofString "__len__") tk], []⟩) [(so, nr aA), (aA, aq aD items ep)] []
   (X := Addr) (fun _ => True) (fun y => .ok (.ret (.ref y))) (fun y => [(so, nr aA), (aA, aq aD items ep)]) (fun y => [(y, fF "method-wrapper" "list.__len__" aA)]) := by
 (refine zD ?_; intro zd zc fa a)
 have pM : aA ≠ 178 := nk fa 178 rfl (by simp)
 exists zg, 8, 1578450255052
 exists zH, 1, 0, [1], B8 aA aD pM items ep, y, n2, t2, G2, a2, _, hN
 exact zN 2 [true] y (hs := hN)
theorem Ca (aA aD : Addr) (items : List Value) (ep : Nat) :
  af w b 1 (.call (.builtin "wrapper_descriptor.__get__") ⟨[.builtin "list.__init__", .ref aA, .ref 178], []⟩) [(aA, aq aD items ep)] []
   (X := Addr) (fun _ => True) (fun y => .ok (.ret (.ref y))) (fun y => [(aA, aq aD items ep)]) (fun y => [(y, fF "method-wrapper" "list.__init__" aA)]) := by
 exists zA, 5, 2601, zd, zc, a
 exact zN 1 [true] (zc.S + 0) (hs := (ar (Nat.le_add_right _ _) ak))
set_option smartUnfolding true
theorem zC (aA aD : Addr) (h : aA ≠ 178) (items : List Value) (ep : Nat) :
  af w b 1 (.call (.builtin "wrapper_descriptor.__get__") ⟨[.builtin "list.__init__", tM aA, .ref 178], []⟩) [(aA, aq aD items ep)] []
   (X := Addr) (fun _ => True) (fun y => .ok (.ret (.ref y))) (fun y => [(aA, aq aD items ep)]) (fun y => [(y, fF "method-wrapper" "list.__init__" aA)]) := by
 rw [pL h]
 exact Ca aA aD items ep
set_option smartUnfolding false
theorem zT (so aA aD : Addr) (items : List Value) (ep : Nat) (tk : Tok) :
  af w b 3 (.call (.builtin "super.__getattribute__") ⟨[.ref so, .str (Str.ofString "__init__") tk], []⟩) [(so, nr aA), (aA, aq aD items ep)] []
   (X := Addr) (fun _ => True) (fun y => .ok (.ret (.ref y))) (fun y => [(so, nr aA), (aA, aq aD items ep)]) (fun y => [(y, fF "method-wrapper" "list.__init__" aA)]) := by
 (refine zD ?_; intro zd zc fa a)
 have pM : aA ≠ 178 := nk fa 178 rfl (by simp)
 exists zg, 8, 1578450255052
 exists zH, 1, 0, [1], zC aA aD pM items ep, y, n2, t2, G2, a2, _, hN
 exact zN 2 [true] y (hs := hN)
theorem FD (aA aD : Addr) (items : List Value) (ep : Nat) :
  af w b 1 (.call (.builtin "method_descriptor.__get__") ⟨[.builtin "list.pop", .ref aA, .ref 178], []⟩) [(aA, aq aD items ep)] []
   (X := Addr) (fun _ => True) (fun y => .ok (.ret (.ref y))) (fun y => [(aA, aq aD items ep)]) (fun y => [(y, fF "builtin_function_or_method" "list.pop" aA)]) := by
 exists zA, 5, 2601, zd, zc, a
 exact zN 1 [true] (zc.S + 0) (hs := (ar (Nat.le_add_right _ _) ak))
set_option smartUnfolding true
theorem Cb (aA aD : Addr) (h : aA ≠ 178) (items : List Value) (ep : Nat) :
  af w b 1 (.call (.builtin "method_descriptor.__get__") ⟨[.builtin "list.pop", tM aA, .ref 178], []⟩) [(aA, aq aD items ep)] []
   (X := Addr) (fun _ => True) (fun y => .ok (.ret (.ref y))) (fun y => [(aA, aq aD items ep)]) (fun y => [(y, fF "builtin_function_or_method" "list.pop" aA)]) := by
 rw [pL h]
 exact FD aA aD items ep
set_option smartUnfolding false
theorem Cc (so aA aD : Addr) (items : List Value) (ep : Nat) (tk : Tok) :
  af w b 3 (.call (.builtin "super.__getattribute__") ⟨[.ref so, .str (Str.ofString "pop") tk], []⟩) [(so, nr aA), (aA, aq aD items ep)] []
   (X := Addr) (fun _ => True) (fun y => .ok (.ret (.ref y))) (fun y => [(so, nr aA), (aA, aq aD items ep)]) (fun y => [(y, fF "builtin_function_or_method" "list.pop" aA)]) := by
 (refine zD ?_; intro zd zc fa a)
 have pM : aA ≠ 178 := nk fa 178 rfl (by simp)
 exists zg, 8, 1578450255052
 exists zH, 1, 0, [1], Cb aA aD pM items ep, y, n2, t2, G2, a2, _, hN
 exact zN 2 [true] y (hs := hN)
theorem gq (aA aD : Addr) (items : List Value) (ep : Nat) :
  af w b 6 (.call (.ref 175) ⟨[.ref aA], []⟩) [(aA, aq aD items ep)] []
   (X := Tok) (fun _ => True) (fun y => .ok (.ret (.int items.length y))) (fun y => [(aA, aq aD items ep)]) (fun y => []) := by
 exists zA, 8, 382551, zd, zc, a
 (refine zP 5 51 (bB rT 175 zc.S [(Str.ofString "__class__", 102)]) ?_; intro ou)
 refine dM ?_
 with_unfolding_all conv => (arg 5; whnf; dsimp -zeta -eta only [az, Cx.V, Cx.W])
 exists zg, 7, 127551
 refine BP (bB rT 175 zc.S [(Str.ofString "__class__", 102)]) (by kernel_rfl) (by kernel_rfl) (by kernel_rfl) fun p below l => ?_
 exists ao, ah (dG (ah (ah (ah (ah (ah (bf (rX zc.S))))))))
 exists zg, 31, 124074974838568146997319728675015943877553
 exists zH, 10, 12637555, [2, 0], B9 (zc.S + 1) aA aD items ep (zc.s.toks + 1), y, n2, t2, G2, a2, _, hN
 exact zN 1 [] t2
theorem init (aA aD : Addr) (z : Nat) (tz : Tok) :
  af w b 6 (.call (.ref 115) ⟨[.ref aA, .int z tz], []⟩) [(aA, aq aD [] 0), (aD, ⟨jU, none, .dict ⟨[]⟩ 0, ⟨[]⟩⟩)] []
   (X := Tok) (fun _ => True) (fun y => .ok (.ret .none)) (fun y => [(aA, aq aD [] 0), (aD, bJ (au w "_initial_size") y tz z)]) (fun y => []) := by
 exists zA, 13, 63775502551, zd, zc, a
 (refine zP 34 25301555787689844004005938297194010201 (bB rP 115 zc.S [(Str.ofString "__class__", 102)]) ?_; intro ou)
 refine dM ?_
 with_unfolding_all conv => (arg 5; whnf; dsimp -zeta -eta only [az, Cx.V, Cx.W])
 exists zg, 7, 127551
 refine BP (bB rP 115 zc.S [(Str.ofString "__class__", 102)]) (by kernel_rfl) (by kernel_rfl) (by kernel_rfl) fun p below l => ?_
 exists ao, ah (dG (ah (ah (ah (ah (ah (bf (rX zc.S))))))))
 exists zg, 31, 125291396160514863305913576371109693877554
 exists zH, 12, 1594387640056, [3, 0], zT (zc.S + 1) aA aD [] 0 (zc.s.toks + 4), y, n2, t2, G2, a2, _, hN
 exact zN 2 [] (zc.s.toks + 3)
set_option smartUnfolding true
theorem bu (x y : Int) (tx ty : Tok) :
  af w b 0 (.call (.builtin "int.__eq__") ⟨[.int x tx, .int y ty], []⟩) [] []
   (X := Bool) (fun v => v = true ↔ x = y) (fun v => .ok (.ret (.bool v))) (fun _ => []) (fun _ => []) := by
 exists zA, 2, 1, zd, zc, a
 exact zN 0 [] (@decide (x = y) (Z.eqZ x y)) (hx := (@decide_eq_true_iff _ (Z.eqZ x y)))
theorem dU (x y : Int) (tx ty : Tok) :
  af w b 0 (.call (.builtin "int.__gt__") ⟨[.int x tx, .int y ty], []⟩) [] []
   (X := Bool) (fun v => v = true ↔ y < x) (fun v => .ok (.ret (.bool v))) (fun _ => []) (fun _ => []) := by
 exists zA, 2, 1, zd, zc, a
 exact zN 0 [] (@decide (y < x) (Z.ltZ y x)) (hx := (@decide_eq_true_iff _ (Z.ltZ y x)))
theorem mE {v : Bool} {p : Prop} (h : v = true ↔ p) (hn : ¬ p) : v = false := by
 cases v with
 | false => rfl
 | true => exact absurd (h.mp rfl) hn
noncomputable abbrev S (x : String) : Str := Str.ofString x
theorem orr {α : Type} {X Y : Bool} {F T : Sem α} (h : Y = true) : @Bool.rec (fun _ => Sem α) F T (@Bool.rec (fun _ => Bool) ((fun _ => Y) ()) ((fun _ => true) ()) X) = T := by
 rw [h]; cases X <;> rfl
theorem pN {α : Type} {W Y Z : Bool} {F T : Sem α} (h : Z = true) : @Bool.rec (fun _ => Sem α) F T (@Bool.rec (fun _ => Bool) ((fun _ => W) ()) ((fun _ => true) ()) (Y || Z)) = T := by
 subst h; cases Y <;> rfl
noncomputable def memC (n : Nat) : Option String := @Decidable.rec (sizeLine + 1 < n) (fun _ => Option String) (fun h => none) (fun h => some "sequence:memory") (Nat.decLt (sizeLine + 1) n)
theorem om {n : Nat} (h : n ≤ 1000) : memC n = none := by
 unfold memC
 cases Nat.decLt (sizeLine + 1) n with
 | isFalse _ => rfl
 | isTrue h' => unfold sizeLine at h'; lia
theorem mF {α : Type} {p q : Prop} {d : Decidable p} {F : ¬ p → Sem α} {T : p → Sem α} (h : ¬ q) (e : q = p) : @Decidable.rec p (fun _ => Sem α) F T d = F (fun hp => h (e.symm ▸ hp)) := df _
theorem tN {α : Type} {b c : Bool} {F T : Sem α} (h : c = true) (e : c = b) : @Bool.rec (fun _ => Sem α) F T b = T := bt (e ▸ h)
theorem Cd {α : Type} {b c : Bool} {F T : Sem α} (h : c = false) (e : c = b) : @Bool.rec (fun _ => Sem α) F T b = F := bf (e ▸ h)
theorem HT {α β : Type} {d c : Option β} {F : Sem α} {S : β → Sem α} {v : β} (h : c = some v) (e : c = d) : @Option.rec β (fun _ => Sem α) F S d = S v := os (e ▸ h)
noncomputable abbrev lp : Array Str → Str → Array Str := ZFast.zw2398297429280069960
theorem vz (s : Array Str) (x : Str) (L : List Str) : (⟨(lp s x).toList ++ L⟩ : Array Str) = ⟨s.toList ++ x :: L⟩ := by
 rw [show lp s x = s.push x from congrFun (congrFun (congrFun ZFast.ze2398297429280069960.symm Str) s) x, Array.toList_push, List.append_assoc]; rfl
theorem vA {F : Value × Nat → Array Str → Sem (ForInStep (Array Str))} (hF : ∀ x t i s, F (.str x t, i) s = .pure (.yield (lp s x))) : ∀ (zs : List (Str × Tok)) (k : Nat) (s : Array Str),
  @R.forLR Sem ZFast.zw12456147031677567982 (Value × Nat) (Array Str) ((zs.map fun q => Value.str q.1 q.2).zipIdx k) s F = .pure ⟨s.toList ++ zs.map (·.1)⟩
 | [], _, s => by rw [List.map_nil, List.map_nil, List.append_nil]; rfl
 | q :: zs, k, s => by
  have h := vA hF zs (k + 1) (lp s q.1)
  have e2 : ∀ M : Sem (ForInStep (Array Str)), M = .pure (.yield (lp s q.1)) → ∀ G : ForInStep (Array Str) → Sem (Array Str), @Bind.bind Sem (ZFast.zw12456147031677567982).toBind _ _ M G = G (.yield (lp s q.1)) := by
   rintro M rfl G
   kernel_rfl
  rw [vz] at h
  exact (e2 _ (hF q.1 q.2 k s) _).trans h
theorem HU {sep : Str} (hs : sep.length ≤ 1) {L : List Str} (h : ∀ x ∈ L, x.length ≤ 1000) (hn : L.length ≤ 100) : decide (sizeLine < Array.foldl (fun x1 x2 => x1 + x2.length + sep.length) 0 ⟨L⟩) = false ∧ ¬ (cp sep L).length > sizeLine := by
 have key : ∀ (L : List Str) (a : Nat), (∀ x ∈ L, x.length ≤ 1000) → L.foldl (fun x1 x2 => x1 + x2.length + sep.length) a ≤ a + 1001 * L.length := by
  intro L
  induction L with
  | nil => intro a _; exact Nat.le_refl _
  | cons x L ih =>
   intro a h
   refine Nat.le_trans (ih (a + x.length + sep.length) fun y hy => h y (List.mem_cons_of_mem _ hy)) ?_
   have := h x List.mem_cons_self
   rw [List.length_cons]
   lia
 have k2 : ∀ (L : List Str), (∀ x ∈ L, x.length ≤ 1000) → (L.map (·.length)).sum ≤ 1000 * L.length := by
  intro L
  induction L with
  | nil => intro _; exact Nat.le_refl _
  | cons x L ih =>
   intro h
   have := ih fun y hy => h y (List.mem_cons_of_mem _ hy)
   have := h x List.mem_cons_self
   rw [List.map_cons, List.sum_cons, List.length_cons]
   lia
 constructor
 ·rw [decide_eq_false_iff_not, ← Array.foldl_toList, show (⟨L⟩ : Array Str).toList = L from rfl]
  have := key L 0 h
  unfold sizeLine
  lia
 ·rw [kv]
  have := k2 L h
  have : (L.length - 1) * sep.length ≤ (L.length - 1) * 1 := Nat.mul_le_mul_left _ hs
  unfold sizeLine
  lia
set_option smartUnfolding false
theorem FE (sep : Str) (l : Addr) (ts : Tok) (q1 q2 : Str × Tok) (zs : List (Str × Tok)) (ep : Nat) (hs : sep.length ≤ 1) (h : ∀ x ∈ (q1 :: q2 :: zs).map (·.1), x.length ≤ 1000) (hn : (q1 :: q2 :: zs).length ≤ 100) :
  af w b 5 (.call (.builtin "str.join") ⟨[.str sep ts, .ref l], []⟩) [(l, ⟨i9, none, .seq ⟨(q1 :: q2 :: zs).map fun q => Value.str q.1 q.2⟩ ep, ⟨[]⟩⟩)] []
   (X := Tok) (fun _ => True) (fun y => .ok (.ret (.str (ZFast.zw10206770168876983080 sep ((q1 :: q2 :: zs).map (·.1))) y))) (fun y => [(l, ⟨i9, none, .seq ⟨(q1 :: q2 :: zs).map fun q => Value.str q.1 q.2⟩ ep, ⟨[]⟩⟩)]) (fun _ => []) := by
 have hg := HU hs h (by rw [List.length_map]; exact hn)
 exists zA, 3, 5101, zd, zc, a
 exists dT, ah (vA ?_ (q1 :: q2 :: zs) 0 #[])
 ·intro x t i zc.s
  kernel_rfl
 exists ao, Cd hg.1 (by kernel_rfl)
 exists ao, ah (mF hg.2 (by kernel_rfl))
 exists zg, 2, 0
 exact zM 1 [] (fun o => o.rt)
theorem Ce (sep : Str) (l : Addr) (ts : Tok) (x : Str) (t : Tok) (ep : Nat) :
  af w b 5 (.call (.builtin "str.join") ⟨[.str sep ts, .ref l], []⟩) [(l, ⟨i9, none, .seq ⟨[.str x t]⟩ ep, ⟨[]⟩⟩)] []
   (X := Tok) (fun _ => True) (fun y => .ok (.ret (.str x y))) (fun y => [(l, ⟨i9, none, .seq ⟨[.str x t]⟩ ep, ⟨[]⟩⟩)]) (fun _ => []) := by
 exists zA, 5, 5101, zd, zc, a
 exact zM 1 [] (fun o => o.rt)
set_option smartUnfolding true
theorem x6 (sep : Str) (hs : sep.length ≤ 1) (l : Addr) (ts : Tok) (xs : List (Str × Tok)) (ep : Nat) (hx : ∀ q ∈ xs, q.1.length ≤ 1000) (h1 : 1 ≤ xs.length) (h6 : xs.length ≤ 6) :
  af w b 5 (.call (.builtin "str.join") ⟨[.str sep ts, .ref l], []⟩) [(l, ⟨i9, none, .seq ⟨xs.map fun q => Value.str q.1 q.2⟩ ep, ⟨[]⟩⟩)] []
   (X := Tok) (fun _ => True) (fun y => .ok (.ret (.str (cp sep (xs.map (·.1))) y))) (fun y => [(l, ⟨i9, none, .seq ⟨xs.map fun q => Value.str q.1 q.2⟩ ep, ⟨[]⟩⟩)]) (fun _ => []) := by
 rcases xs with _ | ⟨⟨x, t⟩, _ | ⟨q2, zs⟩⟩
 ·exact absurd h1 (by decide)
 ·exact Ce sep l ts x t ep
 ·exact FE sep l ts _ q2 zs ep hs (fun y hy => by obtain ⟨q, hq, rfl⟩ := List.mem_map.mp hy; exact hx q hq) (Nat.le_trans h6 (by decide))
noncomputable abbrev bL (x y z : Value) : Obj := ⟨.type "slice", none, .fields ⟨[x, y, z]⟩, ⟨[]⟩⟩
theorem b5 {p : Prop} {d : Decidable p} (h : ¬ p) : @Decidable.rec p (fun _ => Bool) (fun h => (fun x => false) h) (fun h => (fun x => true) h) d = false := by
 cases d with
 | isTrue h' => exact absurd h' h
 | isFalse h' => rfl
theorem cy {p : Prop} {d : Decidable p} (h : p) : @Decidable.rec p (fun _ => Bool) (fun h => (fun x => false) h) (fun h => (fun x => true) h) d = true := by
 cases d with
 | isTrue h' => rfl
 | isFalse h' => exact absurd h h'
theorem tO {b : Bool} (h : b = true) : @Bool.rec (fun _ => Bool) ((fun _ => true) ()) ((fun _ => false) ()) b = false := by rw [h]
theorem fits63 (x : Int) (h0 : -100000 ≤ x) (h1 : x ≤ 100000) : ZFast.zw17781396369001791603 x = true := by
 unfold ZFast.zw17781396369001791603
 simp only [Bool.and_eq_true, decide_eq_true_iff]
 constructor <;> lia
set_option smartUnfolding false
theorem dt (aA : Addr) (items : List Value) (ep : Nat) (i : Nat) (v : Value) (hv : items[i]? = some v) (hi : i ≤ 1000) (ti : Tok) :
  af w b 1 (.call (.builtin "list.__getitem__") ⟨[.ref aA, .int i ti], []⟩) [(aA, aa items ep)] []
   (X := Unit) (fun _ => True) (fun y => .ok (.ret v)) (fun y => [(aA, aa items ep)]) (fun y => []) := by
 exists zA, 2, 52, zd, zc, a
 exists dT, ah (bf (tO (fits63 (i : Int) (by lia) (by lia))))
 exists zg, 1, 2
 exists dT, (os (v := (i, v)) (by simp [hv]))
 exists zg, 1, 0
 exact zN 1 [] ()
theorem Cf (m aA aD : Addr) (v : Addr) (ep : Nat) :
  af w b 1 (.call (.ref m) ⟨[], []⟩) [(m, fF "builtin_function_or_method" "list.pop" aA), (aA, aq aD ([] ++ [.ref v]) ep)] []
   (X := Nat) (fun _ => True) (fun y => .ok (.ret (.ref v))) (fun y => [(m, fF "builtin_function_or_method" "list.pop" aA), (aA, aq aD [] y)]) (fun y => []) := by
 exists zA, 13, 14947383609706627652, zd, zc, a
 exact zN 2 [] (ep + 1)
theorem Cg (m aA aD : Addr) (x0 : Addr) (v : Addr) (ep : Nat) :
  af w b 1 (.call (.ref m) ⟨[], []⟩) [(m, fF "builtin_function_or_method" "list.pop" aA), (aA, aq aD ([.ref x0] ++ [.ref v]) ep)] []
   (X := Nat) (fun _ => True) (fun y => .ok (.ret (.ref v))) (fun y => [(m, fF "builtin_function_or_method" "list.pop" aA), (aA, aq aD [.ref x0] y)]) (fun y => []) := by
 exists zA, 13, 14947383609706627652, zd, zc, a
 exact zN 2 [] (ep + 1)
theorem Ci (m aA aD : Addr) (x0 x1 : Addr) (v : Addr) (ep : Nat) :
  af w b 1 (.call (.ref m) ⟨[], []⟩) [(m, fF "builtin_function_or_method" "list.pop" aA), (aA, aq aD ([.ref x0, .ref x1] ++ [.ref v]) ep)] []
   (X := Nat) (fun _ => True) (fun y => .ok (.ret (.ref v))) (fun y => [(m, fF "builtin_function_or_method" "list.pop" aA), (aA, aq aD [.ref x0, .ref x1] y)]) (fun y => []) := by
 exists zA, 13, 14947383609706627652, zd, zc, a
 exact zN 2 [] (ep + 1)
theorem Cj (m aA aD : Addr) (x0 x1 x2 : Addr) (v : Addr) (ep : Nat) :
  af w b 1 (.call (.ref m) ⟨[], []⟩) [(m, fF "builtin_function_or_method" "list.pop" aA), (aA, aq aD ([.ref x0, .ref x1, .ref x2] ++ [.ref v]) ep)] []
   (X := Nat) (fun _ => True) (fun y => .ok (.ret (.ref v))) (fun y => [(m, fF "builtin_function_or_method" "list.pop" aA), (aA, aq aD [.ref x0, .ref x1, .ref x2] y)]) (fun y => []) := by
 exists zA, 13, 14947383609706627652, zd, zc, a
 exact zN 2 [] (ep + 1)
theorem Ck (m aA aD : Addr) (x0 x1 x2 x3 : Addr) (v : Addr) (ep : Nat) :
  af w b 1 (.call (.ref m) ⟨[], []⟩) [(m, fF "builtin_function_or_method" "list.pop" aA), (aA, aq aD ([.ref x0, .ref x1, .ref x2, .ref x3] ++ [.ref v]) ep)] []
   (X := Nat) (fun _ => True) (fun y => .ok (.ret (.ref v))) (fun y => [(m, fF "builtin_function_or_method" "list.pop" aA), (aA, aq aD [.ref x0, .ref x1, .ref x2, .ref x3] y)]) (fun y => []) := by
 exists zA, 13, 14947383609706627652, zd, zc, a
 exact zN 2 [] (ep + 1)
theorem Cm (m aA aD : Addr) (x0 x1 x2 x3 x4 : Addr) (v : Addr) (ep : Nat) :
  af w b 1 (.call (.ref m) ⟨[], []⟩) [(m, fF "builtin_function_or_method" "list.pop" aA), (aA, aq aD ([.ref x0, .ref x1, .ref x2, .ref x3, .ref x4] ++ [.ref v]) ep)] []
   (X := Nat) (fun _ => True) (fun y => .ok (.ret (.ref v))) (fun y => [(m, fF "builtin_function_or_method" "list.pop" aA), (aA, aq aD [.ref x0, .ref x1, .ref x2, .ref x3, .ref x4] y)]) (fun y => []) := by
 exists zA, 13, 14947383609706627652, zd, zc, a
 exact zN 2 [] (ep + 1)
set_option smartUnfolding true
theorem IY (m aA aD : Addr) (as : List Addr) (v : Addr) (ep : Nat) (hn : as.length ≤ 5) :
  af w b 1 (.call (.ref m) ⟨[], []⟩) [(m, fF "builtin_function_or_method" "list.pop" aA), (aA, aq aD (as.map Value.ref ++ [.ref v]) ep)] []
   (X := Nat) (fun _ => True) (fun y => .ok (.ret (.ref v))) (fun y => [(m, fF "builtin_function_or_method" "list.pop" aA), (aA, aq aD (as.map Value.ref) y)]) (fun y => []) := by
 match as, hn with
 | [], _ => exact Cf m aA aD  v ep
 | [x0], _ => exact Cg m aA aD x0 v ep
 | [x0, x1], _ => exact Ci m aA aD x0 x1 v ep
 | [x0, x1, x2], _ => exact Cj m aA aD x0 x1 x2 v ep
 | [x0, x1, x2, x3], _ => exact Ck m aA aD x0 x1 x2 x3 v ep
 | [x0, x1, x2, x3, x4], _ => exact Cm m aA aD x0 x1 x2 x3 x4 v ep
set_option smartUnfolding false
theorem FF (aA aD so : Addr) (x0 : Addr) (v : Addr) (ep : Nat) (ti : Tok) :
  af w b 1 (.call (.builtin "list.__getitem__") ⟨[.ref aA, .ref so], []⟩) [(aA, aq aD ([.ref x0] ++ [.ref v]) ep), (so, bL (.int 1 ti) .none .none)] []
   (X := Addr) (fun _ => True) (fun y => .ok (.ret (.ref y))) (fun y => [(aA, aq aD ([.ref x0] ++ [.ref v]) ep), (so, bL (.int 1 ti) .none .none)]) (fun y => [(y, aa [.ref v] 0)]) := by
 exists zA, 11, 80516581627552, zd, zc, a
 exact zN 2 [true] (zc.S + 0) (hs := (ar (Nat.le_add_right _ _) ak))
theorem FG (aA aD so l : Addr) (x0 : Addr) (v : Addr) (ep : Nat) (ti : Tok) :
  af w b 1 (.call (.builtin "list.__setitem__") ⟨[.ref aA, .ref so, .ref l], []⟩) [(aA, aq aD ([.ref x0] ++ [.ref v]) ep), (so, bL (.int 1 ti) .none .none), (l, aa [] 0)] []
   (X := Nat) (fun _ => True) (fun y => .ok (.ret .none)) (fun y => [(aA, aq aD [.ref x0] y), (so, bL (.int 1 ti) .none .none), (l, aa [] 0)]) (fun y => []) := by
 (refine zD ?_; intro zd zc fa a)
 have h1 : aA ≠ l := by
  have := fa.nd
  simp at this
  exact this.1.2
 clear fa
 exists zg, 8, 2391581627552
 exists dT, bf (b5 h1)
 exists zg, 9, 637755204
 exact zM 3 [] (fun o => o.ep 0)
theorem FH (aA aD so : Addr) (x0 x1 : Addr) (v : Addr) (ep : Nat) (ti : Tok) :
  af w b 1 (.call (.builtin "list.__getitem__") ⟨[.ref aA, .ref so], []⟩) [(aA, aq aD ([.ref x0, .ref x1] ++ [.ref v]) ep), (so, bL (.int 2 ti) .none .none)] []
   (X := Addr) (fun _ => True) (fun y => .ok (.ret (.ref y))) (fun y => [(aA, aq aD ([.ref x0, .ref x1] ++ [.ref v]) ep), (so, bL (.int 2 ti) .none .none)]) (fun y => [(y, aa [.ref v] 0)]) := by
 exists zA, 11, 80516581627552, zd, zc, a
 exact zN 2 [true] (zc.S + 0) (hs := (ar (Nat.le_add_right _ _) ak))
theorem FJ (aA aD so l : Addr) (x0 x1 : Addr) (v : Addr) (ep : Nat) (ti : Tok) :
  af w b 1 (.call (.builtin "list.__setitem__") ⟨[.ref aA, .ref so, .ref l], []⟩) [(aA, aq aD ([.ref x0, .ref x1] ++ [.ref v]) ep), (so, bL (.int 2 ti) .none .none), (l, aa [] 0)] []
   (X := Nat) (fun _ => True) (fun y => .ok (.ret .none)) (fun y => [(aA, aq aD [.ref x0, .ref x1] y), (so, bL (.int 2 ti) .none .none), (l, aa [] 0)]) (fun y => []) := by
 (refine zD ?_; intro zd zc fa a)
 have h1 : aA ≠ l := by
  have := fa.nd
  simp at this
  exact this.1.2
 clear fa
 exists zg, 8, 2391581627552
 exists dT, bf (b5 h1)
 exists zg, 9, 637755204
 exact zM 3 [] (fun o => o.ep 0)
theorem FK (aA aD so : Addr) (x0 x1 x2 : Addr) (v : Addr) (ep : Nat) (ti : Tok) :
  af w b 1 (.call (.builtin "list.__getitem__") ⟨[.ref aA, .ref so], []⟩) [(aA, aq aD ([.ref x0, .ref x1, .ref x2] ++ [.ref v]) ep), (so, bL (.int 3 ti) .none .none)] []
   (X := Addr) (fun _ => True) (fun y => .ok (.ret (.ref y))) (fun y => [(aA, aq aD ([.ref x0, .ref x1, .ref x2] ++ [.ref v]) ep), (so, bL (.int 3 ti) .none .none)]) (fun y => [(y, aa [.ref v] 0)]) := by
 exists zA, 11, 80516581627552, zd, zc, a
 exact zN 2 [true] (zc.S + 0) (hs := (ar (Nat.le_add_right _ _) ak))
theorem FN (aA aD so l : Addr) (x0 x1 x2 : Addr) (v : Addr) (ep : Nat) (ti : Tok) :
  af w b 1 (.call (.builtin "list.__setitem__") ⟨[.ref aA, .ref so, .ref l], []⟩) [(aA, aq aD ([.ref x0, .ref x1, .ref x2] ++ [.ref v]) ep), (so, bL (.int 3 ti) .none .none), (l, aa [] 0)] []
   (X := Nat) (fun _ => True) (fun y => .ok (.ret .none)) (fun y => [(aA, aq aD [.ref x0, .ref x1, .ref x2] y), (so, bL (.int 3 ti) .none .none), (l, aa [] 0)]) (fun y => []) := by
 (refine zD ?_; intro zd zc fa a)
 have h1 : aA ≠ l := by
  have := fa.nd
  simp at this
  exact this.1.2
 clear fa
 exists zg, 8, 2391581627552
 exists dT, bf (b5 h1)
 exists zg, 9, 637755204
 exact zM 3 [] (fun o => o.ep 0)
theorem FO (aA aD so : Addr) (x0 x1 x2 x3 : Addr) (v : Addr) (ep : Nat) (ti : Tok) :
  af w b 1 (.call (.builtin "list.__getitem__") ⟨[.ref aA, .ref so], []⟩) [(aA, aq aD ([.ref x0, .ref x1, .ref x2, .ref x3] ++ [.ref v]) ep), (so, bL (.int 4 ti) .none .none)] []
   (X := Addr) (fun _ => True) (fun y => .ok (.ret (.ref y))) (fun y => [(aA, aq aD ([.ref x0, .ref x1, .ref x2, .ref x3] ++ [.ref v]) ep), (so, bL (.int 4 ti) .none .none)]) (fun y => [(y, aa [.ref v] 0)]) := by
 exists zA, 11, 80516581627552, zd, zc, a
 exact zN 2 [true] (zc.S + 0) (hs := (ar (Nat.le_add_right _ _) ak))
theorem FQ (aA aD so l : Addr) (x0 x1 x2 x3 : Addr) (v : Addr) (ep : Nat) (ti : Tok) :
  af w b 1 (.call (.builtin "list.__setitem__") ⟨[.ref aA, .ref so, .ref l], []⟩) [(aA, aq aD ([.ref x0, .ref x1, .ref x2, .ref x3] ++ [.ref v]) ep), (so, bL (.int 4 ti) .none .none), (l, aa [] 0)] []
   (X := Nat) (fun _ => True) (fun y => .ok (.ret .none)) (fun y => [(aA, aq aD [.ref x0, .ref x1, .ref x2, .ref x3] y), (so, bL (.int 4 ti) .none .none), (l, aa [] 0)]) (fun y => []) := by
 (refine zD ?_; intro zd zc fa a)
 have h1 : aA ≠ l := by
  have := fa.nd
  simp at this
  exact this.1.2
 clear fa
 exists zg, 8, 2391581627552
 exists dT, bf (b5 h1)
 exists zg, 9, 637755204
 exact zM 3 [] (fun o => o.ep 0)
theorem FR (aA aD so : Addr) (x0 x1 x2 x3 x4 : Addr) (v : Addr) (ep : Nat) (ti : Tok) :
  af w b 1 (.call (.builtin "list.__getitem__") ⟨[.ref aA, .ref so], []⟩) [(aA, aq aD ([.ref x0, .ref x1, .ref x2, .ref x3, .ref x4] ++ [.ref v]) ep), (so, bL (.int 5 ti) .none .none)] []
   (X := Addr) (fun _ => True) (fun y => .ok (.ret (.ref y))) (fun y => [(aA, aq aD ([.ref x0, .ref x1, .ref x2, .ref x3, .ref x4] ++ [.ref v]) ep), (so, bL (.int 5 ti) .none .none)]) (fun y => [(y, aa [.ref v] 0)]) := by
 exists zA, 11, 80516581627552, zd, zc, a
 exact zN 2 [true] (zc.S + 0) (hs := (ar (Nat.le_add_right _ _) ak))
theorem FU (aA aD so l : Addr) (x0 x1 x2 x3 x4 : Addr) (v : Addr) (ep : Nat) (ti : Tok) :
  af w b 1 (.call (.builtin "list.__setitem__") ⟨[.ref aA, .ref so, .ref l], []⟩) [(aA, aq aD ([.ref x0, .ref x1, .ref x2, .ref x3, .ref x4] ++ [.ref v]) ep), (so, bL (.int 5 ti) .none .none), (l, aa [] 0)] []
   (X := Nat) (fun _ => True) (fun y => .ok (.ret .none)) (fun y => [(aA, aq aD [.ref x0, .ref x1, .ref x2, .ref x3, .ref x4] y), (so, bL (.int 5 ti) .none .none), (l, aa [] 0)]) (fun y => []) := by
 (refine zD ?_; intro zd zc fa a)
 have h1 : aA ≠ l := by
  have := fa.nd
  simp at this
  exact this.1.2
 clear fa
 exists zg, 8, 2391581627552
 exists dT, bf (b5 h1)
 exists zg, 9, 637755204
 exact zM 3 [] (fun o => o.ep 0)
theorem zY (aA aD so l : Addr) (x0 : Addr) (ep bC : Nat) :
  af w b 1 (.call (.builtin "list.__setitem__") ⟨[.ref aA, .ref so, .ref l], []⟩) [(aA, aq aD [.ref x0] ep), (so, bL .none .none .none), (l, aa [] bC)] []
   (X := Nat) (fun _ => True) (fun y => .ok (.ret .none)) (fun y => [(aA, aq aD [] y), (so, bL .none .none .none), (l, aa [] bC)]) (fun y => []) := by
 (refine zD ?_; intro zd zc fa a)
 have h1 : aA ≠ l := by
  have := fa.nd
  simp at this
  exact this.1.2
 clear fa
 exists zg, 8, 2391581627552
 exists dT, bf (b5 h1)
 exists zg, 9, 637755204
 exact zM 3 [] (fun o => o.ep 0)
theorem zZ (aA aD so l : Addr) (x0 : Addr) (v : Addr) (ep bC : Nat) :
  af w b 1 (.call (.builtin "list.__setitem__") ⟨[.ref aA, .ref so, .ref l], []⟩) [(aA, aq aD [.ref x0] ep), (so, bL .none .none .none), (l, aa [.ref v] bC)] []
   (X := Nat) (fun _ => True) (fun y => .ok (.ret .none)) (fun y => [(aA, aq aD [.ref v] y), (so, bL .none .none .none), (l, aa [.ref v] bC)]) (fun y => []) := by
 (refine zD ?_; intro zd zc fa a)
 have h1 : aA ≠ l := by
  have := fa.nd
  simp at this
  exact this.1.2
 clear fa
 exists zg, 8, 2391581627552
 exists dT, bf (b5 h1)
 exists zg, 9, 637755204
 exact zM 3 [] (fun o => o.ep 0)
theorem z5 (aA aD so l : Addr) (x0 x1 : Addr) (ep bC : Nat) :
  af w b 1 (.call (.builtin "list.__setitem__") ⟨[.ref aA, .ref so, .ref l], []⟩) [(aA, aq aD [.ref x0, .ref x1] ep), (so, bL .none .none .none), (l, aa [] bC)] []
   (X := Nat) (fun _ => True) (fun y => .ok (.ret .none)) (fun y => [(aA, aq aD [] y), (so, bL .none .none .none), (l, aa [] bC)]) (fun y => []) := by
 (refine zD ?_; intro zd zc fa a)
 have h1 : aA ≠ l := by
  have := fa.nd
  simp at this
  exact this.1.2
 clear fa
 exists zg, 8, 2391581627552
 exists dT, bf (b5 h1)
 exists zg, 10, 637755204
 exact zM 3 [] (fun o => o.ep 0)
theorem z6 (aA aD so l : Addr) (x0 x1 : Addr) (v : Addr) (ep bC : Nat) :
  af w b 1 (.call (.builtin "list.__setitem__") ⟨[.ref aA, .ref so, .ref l], []⟩) [(aA, aq aD [.ref x0, .ref x1] ep), (so, bL .none .none .none), (l, aa [.ref v] bC)] []
   (X := Nat) (fun _ => True) (fun y => .ok (.ret .none)) (fun y => [(aA, aq aD [.ref v] y), (so, bL .none .none .none), (l, aa [.ref v] bC)]) (fun y => []) := by
 (refine zD ?_; intro zd zc fa a)
 have h1 : aA ≠ l := by
  have := fa.nd
  simp at this
  exact this.1.2
 clear fa
 exists zg, 8, 2391581627552
 exists dT, bf (b5 h1)
 exists zg, 10, 637755204
 exact zM 3 [] (fun o => o.ep 0)
theorem z7 (aA aD so l : Addr) (x0 x1 x2 : Addr) (ep bC : Nat) :
  af w b 1 (.call (.builtin "list.__setitem__") ⟨[.ref aA, .ref so, .ref l], []⟩) [(aA, aq aD [.ref x0, .ref x1, .ref x2] ep), (so, bL .none .none .none), (l, aa [] bC)] []
   (X := Nat) (fun _ => True) (fun y => .ok (.ret .none)) (fun y => [(aA, aq aD [] y), (so, bL .none .none .none), (l, aa [] bC)]) (fun y => []) := by
 (refine zD ?_; intro zd zc fa a)
 have h1 : aA ≠ l := by
  have := fa.nd
  simp at this
  exact this.1.2
 clear fa
 exists zg, 8, 2391581627552
 exists dT, bf (b5 h1)
 exists zg, 11, 637755204
 exact zM 3 [] (fun o => o.ep 0)
theorem z8 (aA aD so l : Addr) (x0 x1 x2 : Addr) (v : Addr) (ep bC : Nat) :
  af w b 1 (.call (.builtin "list.__setitem__") ⟨[.ref aA, .ref so, .ref l], []⟩) [(aA, aq aD [.ref x0, .ref x1, .ref x2] ep), (so, bL .none .none .none), (l, aa [.ref v] bC)] []
   (X := Nat) (fun _ => True) (fun y => .ok (.ret .none)) (fun y => [(aA, aq aD [.ref v] y), (so, bL .none .none .none), (l, aa [.ref v] bC)]) (fun y => []) := by
 (refine zD ?_; intro zd zc fa a)
 have h1 : aA ≠ l := by
  have := fa.nd
  simp at this
  exact this.1.2
 clear fa
 exists zg, 8, 2391581627552
 exists dT, bf (b5 h1)
 exists zg, 11, 637755204
 exact zM 3 [] (fun o => o.ep 0)
theorem z9 (aA aD so l : Addr) (x0 x1 x2 x3 : Addr) (ep bC : Nat) :
  af w b 1 (.call (.builtin "list.__setitem__") ⟨[.ref aA, .ref so, .ref l], []⟩) [(aA, aq aD [.ref x0, .ref x1, .ref x2, .ref x3] ep), (so, bL .none .none .none), (l, aa [] bC)] []
   (X := Nat) (fun _ => True) (fun y => .ok (.ret .none)) (fun y => [(aA, aq aD [] y), (so, bL .none .none .none), (l, aa [] bC)]) (fun y => []) := by
 (refine zD ?_; intro zd zc fa a)
 have h1 : aA ≠ l := by
  have := fa.nd
  simp at this
  exact this.1.2
 clear fa
 exists zg, 8, 2391581627552
 exists dT, bf (b5 h1)
 exists zg, 12, 637755204
 exact zM 3 [] (fun o => o.ep 0)
theorem Aa (aA aD so l : Addr) (x0 x1 x2 x3 : Addr) (v : Addr) (ep bC : Nat) :
  af w b 1 (.call (.builtin "list.__setitem__") ⟨[.ref aA, .ref so, .ref l], []⟩) [(aA, aq aD [.ref x0, .ref x1, .ref x2, .ref x3] ep), (so, bL .none .none .none), (l, aa [.ref v] bC)] []
   (X := Nat) (fun _ => True) (fun y => .ok (.ret .none)) (fun y => [(aA, aq aD [.ref v] y), (so, bL .none .none .none), (l, aa [.ref v] bC)]) (fun y => []) := by
 (refine zD ?_; intro zd zc fa a)
 have h1 : aA ≠ l := by
  have := fa.nd
  simp at this
  exact this.1.2
 clear fa
 exists zg, 8, 2391581627552
 exists dT, bf (b5 h1)
 exists zg, 12, 637755204
 exact zM 3 [] (fun o => o.ep 0)
theorem Ab (aA aD so l : Addr) (x0 x1 x2 x3 x4 : Addr) (ep bC : Nat) :
  af w b 1 (.call (.builtin "list.__setitem__") ⟨[.ref aA, .ref so, .ref l], []⟩) [(aA, aq aD [.ref x0, .ref x1, .ref x2, .ref x3, .ref x4] ep), (so, bL .none .none .none), (l, aa [] bC)] []
   (X := Nat) (fun _ => True) (fun y => .ok (.ret .none)) (fun y => [(aA, aq aD [] y), (so, bL .none .none .none), (l, aa [] bC)]) (fun y => []) := by
 (refine zD ?_; intro zd zc fa a)
 have h1 : aA ≠ l := by
  have := fa.nd
  simp at this
  exact this.1.2
 clear fa
 exists zg, 8, 2391581627552
 exists dT, bf (b5 h1)
 exists zg, 13, 637755204
 exact zM 3 [] (fun o => o.ep 0)
theorem Ac (aA aD so l : Addr) (x0 x1 x2 x3 x4 : Addr) (v : Addr) (ep bC : Nat) :
  af w b 1 (.call (.builtin "list.__setitem__") ⟨[.ref aA, .ref so, .ref l], []⟩) [(aA, aq aD [.ref x0, .ref x1, .ref x2, .ref x3, .ref x4] ep), (so, bL .none .none .none), (l, aa [.ref v] bC)] []
   (X := Nat) (fun _ => True) (fun y => .ok (.ret .none)) (fun y => [(aA, aq aD [.ref v] y), (so, bL .none .none .none), (l, aa [.ref v] bC)]) (fun y => []) := by
 (refine zD ?_; intro zd zc fa a)
 have h1 : aA ≠ l := by
  have := fa.nd
  simp at this
  exact this.1.2
 clear fa
 exists zg, 8, 2391581627552
 exists dT, bf (b5 h1)
 exists zg, 13, 637755204
 exact zM 3 [] (fun o => o.ep 0)
theorem Ad (aA aD so l : Addr) (x0 x1 x2 x3 x4 x5 : Addr) (ep bC : Nat) :
  af w b 1 (.call (.builtin "list.__setitem__") ⟨[.ref aA, .ref so, .ref l], []⟩) [(aA, aq aD [.ref x0, .ref x1, .ref x2, .ref x3, .ref x4, .ref x5] ep), (so, bL .none .none .none), (l, aa [] bC)] []
   (X := Nat) (fun _ => True) (fun y => .ok (.ret .none)) (fun y => [(aA, aq aD [] y), (so, bL .none .none .none), (l, aa [] bC)]) (fun y => []) := by
 (refine zD ?_; intro zd zc fa a)
 have h1 : aA ≠ l := by
  have := fa.nd
  simp at this
  exact this.1.2
 clear fa
 exists zg, 8, 2391581627552
 exists dT, bf (b5 h1)
 exists zg, 14, 637755204
 exact zM 3 [] (fun o => o.ep 0)
theorem Ae (aA aD so l : Addr) (x0 x1 x2 x3 x4 x5 : Addr) (v : Addr) (ep bC : Nat) :
  af w b 1 (.call (.builtin "list.__setitem__") ⟨[.ref aA, .ref so, .ref l], []⟩) [(aA, aq aD [.ref x0, .ref x1, .ref x2, .ref x3, .ref x4, .ref x5] ep), (so, bL .none .none .none), (l, aa [.ref v] bC)] []
   (X := Nat) (fun _ => True) (fun y => .ok (.ret .none)) (fun y => [(aA, aq aD [.ref v] y), (so, bL .none .none .none), (l, aa [.ref v] bC)]) (fun y => []) := by
 (refine zD ?_; intro zd zc fa a)
 have h1 : aA ≠ l := by
  have := fa.nd
  simp at this
  exact this.1.2
 clear fa
 exists zg, 8, 2391581627552
 exists dT, bf (b5 h1)
 exists zg, 14, 637755204
 exact zM 3 [] (fun o => o.ep 0)
noncomputable abbrev bE (as : List Addr) : List Value := as.map Value.ref
set_option smartUnfolding true
theorem IZ (aA aD so l : Addr) (as : List Addr) (ep bC : Nat) (h1 : 1 ≤ as.length) (h2 : as.length ≤ 6) :
  af w b 1 (.call (.builtin "list.__setitem__") ⟨[.ref aA, .ref so, .ref l], []⟩) [(aA, aq aD (bE as) ep), (so, bL .none .none .none), (l, aa [] bC)] []
   (X := Nat) (fun _ => True) (fun y => .ok (.ret .none)) (fun y => [(aA, aq aD [] y), (so, bL .none .none .none), (l, aa [] bC)]) (fun y => []) := by
 match as, h1, h2 with
 | [x0], _, _ => exact zY aA aD so l x0 ep bC
 | [x0, x1], _, _ => exact z5 aA aD so l x0 x1 ep bC
 | [x0, x1, x2], _, _ => exact z7 aA aD so l x0 x1 x2 ep bC
 | [x0, x1, x2, x3], _, _ => exact z9 aA aD so l x0 x1 x2 x3 ep bC
 | [x0, x1, x2, x3, x4], _, _ => exact Ab aA aD so l x0 x1 x2 x3 x4 ep bC
 | [x0, x1, x2, x3, x4, x5], _, _ => exact Ad aA aD so l x0 x1 x2 x3 x4 x5 ep bC
theorem I0 (aA aD so l : Addr) (as : List Addr) (v : Addr) (ep bC : Nat) (h1 : 1 ≤ as.length) (h2 : as.length ≤ 6) :
  af w b 1 (.call (.builtin "list.__setitem__") ⟨[.ref aA, .ref so, .ref l], []⟩) [(aA, aq aD (bE as) ep), (so, bL .none .none .none), (l, aa [.ref v] bC)] []
   (X := Nat) (fun _ => True) (fun y => .ok (.ret .none)) (fun y => [(aA, aq aD [.ref v] y), (so, bL .none .none .none), (l, aa [.ref v] bC)]) (fun y => []) := by
 match as, h1, h2 with
 | [x0], _, _ => exact zZ aA aD so l x0 v ep bC
 | [x0, x1], _, _ => exact z6 aA aD so l x0 x1 v ep bC
 | [x0, x1, x2], _, _ => exact z8 aA aD so l x0 x1 x2 v ep bC
 | [x0, x1, x2, x3], _, _ => exact Aa aA aD so l x0 x1 x2 x3 v ep bC
 | [x0, x1, x2, x3, x4], _, _ => exact Ac aA aD so l x0 x1 x2 x3 x4 v ep bC
 | [x0, x1, x2, x3, x4, x5], _, _ => exact Ae aA aD so l x0 x1 x2 x3 x4 x5 v ep bC
theorem Ku (aA aD so : Addr) (as : List Addr) (v : Addr) (ep : Nat) (ti : Tok) (h1 : 1 ≤ as.length) (h2 : as.length ≤ 5) :
  af w b 1 (.call (.builtin "list.__getitem__") ⟨[.ref aA, .ref so], []⟩) [(aA, aq aD (bE as ++ [.ref v]) ep), (so, bL (.int as.length ti) .none .none)] []
   (X := Addr) (fun _ => True) (fun y => .ok (.ret (.ref y))) (fun y => [(aA, aq aD (bE as ++ [.ref v]) ep), (so, bL (.int as.length ti) .none .none)]) (fun y => [(y, aa [.ref v] 0)]) := by
 match as, h1, h2 with
 | [x0], _, _ => exact FF aA aD so x0 v ep ti
 | [x0, x1], _, _ => exact FH aA aD so x0 x1 v ep ti
 | [x0, x1, x2], _, _ => exact FK aA aD so x0 x1 x2 v ep ti
 | [x0, x1, x2, x3], _, _ => exact FO aA aD so x0 x1 x2 x3 v ep ti
 | [x0, x1, x2, x3, x4], _, _ => exact FR aA aD so x0 x1 x2 x3 x4 v ep ti
theorem Kv (aA aD so l : Addr) (as : List Addr) (v : Addr) (ep : Nat) (ti : Tok) (h1 : 1 ≤ as.length) (h2 : as.length ≤ 5) :
  af w b 1 (.call (.builtin "list.__setitem__") ⟨[.ref aA, .ref so, .ref l], []⟩) [(aA, aq aD (bE as ++ [.ref v]) ep), (so, bL (.int as.length ti) .none .none), (l, aa [] 0)] []
   (X := Nat) (fun _ => True) (fun y => .ok (.ret .none)) (fun y => [(aA, aq aD (bE as) y), (so, bL (.int as.length ti) .none .none), (l, aa [] 0)]) (fun y => []) := by
 match as, h1, h2 with
 | [x0], _, _ => exact FG aA aD so l x0 v ep ti
 | [x0, x1], _, _ => exact FJ aA aD so l x0 x1 v ep ti
 | [x0, x1, x2], _, _ => exact FN aA aD so l x0 x1 x2 v ep ti
 | [x0, x1, x2, x3], _, _ => exact FQ aA aD so l x0 x1 x2 x3 v ep ti
 | [x0, x1, x2, x3, x4], _, _ => exact FU aA aD so l x0 x1 x2 x3 x4 v ep ti
set_option smartUnfolding false
theorem I1 (aA aD : Addr) (as : List Addr) (v : Addr) (ep : Nat) (hz : Int) (z : Nat) (tk tz : Tok) (hn : as.length ≤ 5) :
  af w b 9 (.call (.ref 138) ⟨[.ref aA], []⟩) [(aA, aq aD (bE as ++ [.ref v]) ep), (aD, bJ hz tk tz z)] []
   (X := Nat) (fun _ => True) (fun y => .ok (.ret (.ref v))) (fun y => [(aA, aq aD (bE as) y), (aD, bJ hz tk tz z)]) (fun y => []) := by
 exists zA, 8, 510051, zd, zc, a
 (refine zP 25 7710327771245314493000318880201 (bB rQ 138 zc.S [(Str.ofString "__class__", 102)]) ?_; intro ou)
 exists yH, 5, 2, [0], gq aA aD (bE as ++ [.ref v]) ep, y, n2, t2, G2, a2, _, hN
 refine zK [] (bu (bE as ++ [Value.ref v]).length 0 y (t2 + 0)) @fun y3 n3 t3 G3 a3 h3 _ => ?_
 obtain rfl := mE h3 (by simp; lia)
 exists zg, 3, 1
 refine dM ?_
 with_unfolding_all conv => (arg 5; whnf; dsimp -zeta -eta only [az, Cx.V, Cx.W])
 exists zg, 7, 127551
 refine BP (bB rQ 138 zc.S [(Str.ofString "__class__", 102)]) (by kernel_rfl) (by kernel_rfl) (by kernel_rfl) fun p below l => ?_
 exists ao, ah (dG (ah (ah (ah (ah (ah (bf (rX zc.S))))))))
 exists zg, 31, 125291396160514863305913576371109693877554
 exists zH, 3, 106, [3, 0], Cc (n3 + 0) aA aD (bE as ++ [.ref v]) ep (t3 + 0), y4, n4, t4
 exists zH, 2, 0, [4, 0], IY y4 aA aD as v ep hn, y5, n5, t5
 exact zN 2 [] y5
theorem Cn (aA aD : Addr) (as : List Addr) (ep : Nat) (tk tz : Tok) (z : Nat) (h1 : 1 ≤ as.length) (h2 : as.length ≤ 6) :
  af w b 6 (.call (.ref 160) ⟨[.ref aA], []⟩) [(aA, aq aD (bE as) ep), (aD, bJ (au w "_initial_size") tk tz z)] []
   (X := Nat × Tok) (fun _ => True) (fun y => .ok (.ret .none)) (fun y => [(aA, aq aD [] y.1), (aD, bJ (au w "_initial_size") tk y.2 (0 : Nat))]) (fun y => []) := by
 exists zA, 13, 63775502551, zd, zc, a
 (refine zP 30 493263750813775510201 (bB rR 160 zc.S []) ?_; intro ou)
 exists zH, 31, 583879151013437601602375318877604, [0, 4, 3], IZ aA aD (zc.S + 2) (zc.S + 1) as ep 0 h1 h2, y, n2, t2, G2, a2, _, hN
 exact zN 2 [] (y, t2)
theorem kA (aA aD l v : Addr) (as : List Addr) (ep bC : Nat) (tk tz : Tok) (z : Nat) (h1 : 1 ≤ as.length) (h2 : as.length ≤ 6) :
  af w b 6 (.call (.ref 160) ⟨[.ref aA, .ref l], []⟩) [(aA, aq aD (bE as) ep), (aD, bJ (au w "_initial_size") tk tz z), (l, aa [.ref v] bC)] []
   (X := Nat × Tok) (fun _ => True) (fun y => .ok (.ret .none)) (fun y => [(aA, aq aD [.ref v] y.1), (aD, bJ (au w "_initial_size") tk y.2 (0 : Nat)), (l, aa [.ref v] bC)]) (fun y => []) := by
 exists zA, 13, 79719377551, zd, zc, a
 (refine zP 20 197305500325637751 (bB rR 160 zc.S []) ?_; intro ou)
 exists zH, 31, 583879151013437601602375318877605, [0, 4, 2], I0 aA aD (zc.S + 1) l as v ep bC h1 h2, y, n2, t2, G2, a2, _, hN
 exact zN 3 [] (y, t2)
theorem jJ (aA aD : Addr) (as : List Addr) (v : Addr) (ep : Nat) (ti : Tok) (h1 : 1 ≤ as.length) (h2 : as.length ≤ 5) :
  af w b 6 (.call (.ref 130) ⟨[.ref aA, .int as.length ti], []⟩) [(aA, aq aD (bE as ++ [.ref v]) ep)] []
   (X := Addr × Nat) (fun _ => True) (fun y => .ok (.ret (.ref y.1))) (fun y => [(aA, aq aD (bE as) y.2)]) (fun y => [(y.1, aa [.ref v] 0)]) := by
 exists zA, 13, 47831627551, zd, zc, a
 (refine zP 20 24663187540640944007651 (bB xc 130 zc.S []) ?_; intro ou)
 exists zH, 24, 197305500325382653, [0, 2], Ku aA aD (zc.S + 1) as v ep ti h1 h2, y, n2, t2, G2, a2, _, hN
 exists zH, 6, 3, [0, 5, 4], Kv aA aD (n2 + 1) (n2 + 0) as v ep ti h1 h2, y3, n3, t3
 exact zN 1 [false, false, true] (y, y3) (hs := hN)
set_option smartUnfolding true
theorem FV {l gen : Addr} (cB : l ≠ gen) (g : Nat) (n1 n2 : Value) : (Builtin.List.listSameRef (Value.ref l) (Value.ref gen) || (cV g n1 n2).cls == Value.type SZ.s9222952809800978799x4 || (cV g n1 n2).cls == Value.type SZ.s2766695959194262286x5) = false := by
 have e1 : ((cV g n1 n2).cls == Value.type SZ.s9222952809800978799x4) = false := by kernel_rfl
 have e2 : ((cV g n1 n2).cls == Value.type SZ.s2766695959194262286x5) = false := by kernel_rfl
 rw [e1, e2]
 unfold Builtin.List.listSameRef
 simp [cB]
set_option smartUnfolding false
theorem FX (gen l aA aD it L cb : Addr) (g : Nat) (n1 n2 : Value) (ps : List Pt) (ep : Nat) (j : Nat) (hv : (bZ ps)[j]? = none) (o : Obj) (cP : hZ it o) (gs : GenState) (cD : iq w b (gY it L cb) it L aA aD (bZ ps) ep gs) (vs : List Value) (bC : Nat) (T : KS) :
  b9 w b 8 (.builtin "list.extend.loop" ⟨[.ref l, .ref gen, .ref l], []⟩)
   [(gen, cV g n1 n2), (l, aa vs bC), (L, o), (it, bx aA j), (aA, aq aD (bZ ps) ep)] T g gs
   (X := Nat × Obj × Obj) (fun _ => True) (fun y => .ok (.ret (.ref l))) (fun y => [(gen, cV g n1 n2), (l, aa vs y.1), (L, y.2.1), (it, y.2.2), (aA, aq aD (bZ ps) ep)]) (fun _ => []) (fun _ => .finished) := by
 refine b9.eN ?_
 intro d fr gd u Rr s Gp K0 A hL ro hg post a
 exists zg, 2, 102
 refine cG ro a hL [0, 2, 3, 4] [] (tL (gX fY) (by kernel_rfl) _ gen aA aD it L g n1 n2 o (bZ ps) ep j hv gs cD) hg (by kernel_rfl) (by kernel_rfl) (by kernel_rfl) (by kernel_rfl) (by kernel_rfl) (by decide) (fun _ h => nomatch h) List.nodup_nil fun y n2 t2 a2 _ _ => ?_
 exists zg, 2, 8
 exact eG post ro a2 5 [] (bC, y.2.2.1, y.2.2.2) trivial (by kernel_rfl) (by kernel_rfl) (by kernel_rfl) (by kernel_rfl) (by kernel_rfl) ak
theorem FY (gen l aA aD it L cb : Addr) (g : Nat) (n1 n2 : Value) (ps : List Pt) (ep : Nat) (j : Nat) (p : Pt) (hv : (bZ ps)[j]? = some (.ref p.a)) (ok : p.ok) (o : Obj) (cP : hZ it o) (gs : GenState) (cD : iq w b (gY it L cb) it L aA aD (bZ ps) ep gs) (vs : List Value) (bC : Nat) (T : KS) (hT : p.K ∈ T)  (hlen : vs.length ≤ 1000)
  {X : Type} (P : X → Prop) (rf : X → Result) (Kf Nf : X → KS) (gf : X → GenState)
  (ih : ∀ o' j8 t' e', hZ it o' → iq w b (gY it L cb) it L aA aD (bZ ps) ep j8 → b9 w b 8 (.builtin "list.extend.loop" ⟨[.ref l, .ref gen, .ref l], []⟩)
   [(gen, cV g n1 n2), (l, aa (R.concatR vs (.str (cp (Str.ofString "") [p.f, p.x]) t')) e'), (L, o'), (it, bx aA (j + 1 : Nat)), (aA, aq aD (bZ ps) ep)] T g j8 P rf Kf Nf gf) :
  b9 w b 8 (.builtin "list.extend.loop" ⟨[.ref l, .ref gen, .ref l], []⟩)
   [(gen, cV g n1 n2), (l, aa vs bC), (L, o), (it, bx aA j), (aA, aq aD (bZ ps) ep)] T g gs P rf Kf Nf gf := by
 refine b9.eN ?_
 intro d fr gd u Rr s Gp K0 A hL ro hg post a
 exists zg, 2, 102
 refine cG ro a hL [0, 2, 3, 4] [p.K] (tK (gY it L cb) (fun tk => .str (cp (Str.ofString "") [p.f, p.x]) tk) gen aA aD it L p.a g n1 n2 o (bZ ps) ep j p.tf p.tx p.f p.x (zy aA aD it L cb p.a o cP (bZ ps) ep j p.tf p.tx p.f p.x hv (Nat.le_trans ok.1 (by decide)) (Nat.le_trans ok.2 (by decide))) gs cD) hg (by kernel_rfl) (by kernel_rfl) (by kernel_rfl) (by kernel_rfl) (by kernel_rfl) (by decide) (fun q h => ?_) (by simp) fun y n2 t2 a2 hy _ => ?_
 ·rw [List.mem_singleton.mp h]; exact hT
 exists zg, 3, 7653
 refine dM ?_
 with_unfolding_all conv => (arg 5; whnf; arg 27; whnf)
 generalize hx : ZFast.zw12520540566002728236 _ = x
 obtain rfl : x = none := by
  rw [← hx]
  exact B2 (by
   show ¬ sizeLine + 1 < (R.concatR vs _).length
   rw [gp, List.length_append]
   unfold sizeLine
   simp
   exact aO) rfl
 clear hx
 exists zg, 1, 2
 exact tG post ro a2 hL [0, 1, 2, 3, 4] (ih y.2.1 y.2.2 y.1 (tJ vs (R.concatR vs (.str (cp (Str.ofString "") [p.f, p.x]) y.1)) bC) hy.2 (.of hy.1)) hg (by kernel_rfl) (by kernel_rfl) (by kernel_rfl) (by kernel_rfl) (by kernel_rfl) (by decide)
noncomputable def kB (p : Pt) : Str := cp (Str.ofString "") [p.f, p.x]
noncomputable def mG (ps : List Pt) (vs : List Value) : Prop := ∃ ts : List Tok, ts.length = ps.length ∧ vs = (ps.zip ts).map fun q => .str (kB q.1) q.2
set_option smartUnfolding true
theorem I2 (gen l aA aD it L cb : Addr) (g : Nat) (n1 n2 : Value) (ps : List Pt) (ep : Nat) (bU : ∀ p ∈ ps, p.ok) (ia : ps.length ≤ 100) :
  ∀ (rest : List Pt) (j : Nat) (hj : ps.drop j = rest) (o : Obj) (cP : hZ it o) (gs : GenState) (cD : iq w b (gY it L cb) it L aA aD (bZ ps) ep gs) (vs : List Value) (bC : Nat) (Co : vs.length + rest.length ≤ 200),
  b9 w b 8 (.builtin "list.extend.loop" ⟨[.ref l, .ref gen, .ref l], []⟩)
   [(gen, cV g n1 n2), (l, aa vs bC), (L, o), (it, bx aA j), (aA, aq aD (bZ ps) ep)] (ps.map Pt.K) g gs
   (X := List Value × Nat × Obj × Obj) (fun y => mG rest y.1) (fun y => .ok (.ret (.ref l))) (fun y => [(gen, cV g n1 n2), (l, aa (vs ++ y.1) y.2.1), (L, y.2.2.1), (it, y.2.2.2), (aA, aq aD (bZ ps) ep)]) (fun _ => []) (fun _ => .finished) := by
 intro rest
 induction rest with
 | nil =>
  intro j hj o cP gs cD vs bC Co
  have h := FX gen l aA aD it L cb g n1 n2 ps ep j (by
   rw [lj]
   have : ps.length ≤ j := by simpa using hj
   rw [List.getElem?_eq_none this]; rfl) o cP gs cD vs bC (ps.map Pt.K)
  exact h.imp' fun x _ => ⟨([], x), ⟨[], rfl, rfl⟩, rfl, by simp, rfl, rfl⟩
 | cons p rest ih =>
  intro j hj o cP gs cD vs bC Co
  have hp : ps[j]? = some p := by
   have := congrArg List.head? hj
   rw [List.head?_drop] at this
   exact this
  have hm : p ∈ ps := List.mem_of_getElem? hp
  have hv : (bZ ps)[j]? = some (.ref p.a) := by rw [lj, hp]; rfl
  have hd : ps.drop (j + 1) = rest := by
   have := congrArg List.tail hj
   rw [List.tail_drop] at this
   exact this
  simp only [List.length_cons] at Co
  refine FY gen l aA aD it L cb g n1 n2 ps ep j p hv (bU p hm) o cP gs cD vs bC _ (List.mem_map_of_mem hm) (by exact gA) _ _ _ _ _ fun o' j8 t' e' h1 h2 => ?_
  rw [gp]
  have h := ih (j + 1) hd o' h1 j8 h2 (vs ++ [.str (cp (Str.ofString "") [p.f, p.x]) t']) e' (by simp; exact gm)
  exact h.imp' fun x ⟨ts, k1, k2⟩ => ⟨(.str (kB p) t' :: x.1, x.2), ⟨t' :: ts, by simp [k1], by rw [k2]; rfl⟩, rfl, by simp [kB], rfl, rfl⟩
set_option smartUnfolding false
theorem FZ (l gen aA aD it L cb : Addr) (cB : l ≠ gen) (g : Nat) (n1 n2 : Value) (ps : List Pt) (ep : Nat) (o : Obj) (cP : hZ it o) (gs : GenState) (cD : iq w b (gY it L cb) it L aA aD (bZ ps) ep gs) (bU : ∀ p ∈ ps, p.ok) (ia : ps.length ≤ 100) :
  b9 w b 8 (.builtin "list.__iadd__" ⟨[.ref l, .ref gen], []⟩)
   [(l, aa [] 0), (gen, cV g n1 n2), (L, o), (it, bx aA (0 : Nat)), (aA, aq aD (bZ ps) ep)] (ps.map Pt.K) g gs
   (X := List Value × Nat × Obj × Obj) (fun y => mG ps y.1) (fun y => .ok (.ret (.ref l))) (fun y => [(l, aa y.1 y.2.1), (gen, cV g n1 n2), (L, y.2.2.1), (it, y.2.2.2), (aA, aq aD (bZ ps) ep)]) (fun _ => []) (fun _ => .finished) := by
 have e : ((Value.ref l : Value) == .ref gen) = false := by simp [cB]
 refine b9.eN ?_
 intro d fr gd u Rr s Gp K0 A hL ro hg post a
 exists zg, 1, 3
 exists dT, bf (FV cB g n1 n2)
 (refine gB 3 153 ?_; intro ou)
 exists zg, 15, 498246173469706627651
 refine aG ro a hL [1, 0, 2, 3, 4] (ps.map Pt.K) (I2 gen l aA aD it L cb g n1 n2 ps ep bU ia ps 0 rfl o cP gs cD [] 2 (by simp; exact aO)) hg (by kernel_rfl) (by kernel_rfl) (by kernel_rfl) (by kernel_rfl) (by decide) (fun _ h => h) ro.nd fun y n2 t2 a2 hy _ _ => ?_
 exact xW post ro a2 5 [] y hy (by kernel_rfl) (by kernel_rfl) (by kernel_rfl) (by kernel_rfl) (by kernel_rfl) ak
theorem vB (gen aA aD it L cb : Addr) (g : Nat) (n1 n2 : Value) (ps : List Pt) (ep : Nat) (o : Obj) (cP : hZ it o) (gs : GenState) (cD : iq w b (gY it L cb) it L aA aD (bZ ps) ep gs) (bU : ∀ p ∈ ps, p.ok) (ia : ps.length ≤ 100) :
  b9 w b 9 (.builtin "proto.collect" ⟨[.ref gen], []⟩)
   [(gen, cV g n1 n2), (L, o), (it, bx aA (0 : Nat)), (aA, aq aD (bZ ps) ep)] (ps.map Pt.K) g gs
   (X := Addr × List Value × Nat × Obj × Obj) (fun y => mG ps y.2.1) (fun y => .ok (.ret (.ref y.1))) (fun y => [(gen, cV g n1 n2), (L, y.2.2.2.1), (it, y.2.2.2.2), (aA, aq aD (bZ ps) ep)]) (fun y => [(y.1, aa y.2.1 y.2.2.1)]) (fun _ => .finished) := by
 refine b9.qV fun d fr gd u Rr s Gp fa hL ro hg post a => ?_
 have cB : s.heap.objs.size + 0 ≠ gen := Nat.ne_of_gt (fa (gen, cV g n1 n2) (by simp))
 clear fa
 exists zg, 2, 2
 refine aG ro a hL [4, 0, 1, 2, 3] (ps.map Pt.K) (FZ (s.heap.objs.size + 0) gen aA aD it L cb cB g n1 n2 ps ep o cP gs cD bU ia) hg (by kernel_rfl) (by kernel_rfl) (by kernel_rfl) (by kernel_rfl) (by decide) (fun _ h => h) ro.nd fun y n2 t2 a2 hy _ _ => ?_
 exact xW post ro a2 4 [true] (s.heap.objs.size + 0, y) hy (by kernel_rfl) (by kernel_rfl) (by kernel_rfl) (by kernel_rfl) (by kernel_rfl) (ar (Nat.le_add_right _ _) ak)
noncomputable def strOf (ps : List Pt) : Str := cp (Str.ofString "") (ps.map kB)
set_option smartUnfolding true
theorem Af {p : Pt} (h : p.ok) : (kB p).length ≤ 1000 := by
 unfold kB
 rw [kv, ja]
 have h1 := h.1
 have h2 := h.2
 simp
 lia
theorem F0 {ps : List Pt} {vs : List Value} (h : mG ps vs) : ∃ zs : List (Str × Tok), vs = zs.map (fun q => Value.str q.1 q.2) ∧ zs.map (·.1) = ps.map kB := by
 obtain ⟨ts, k1, k2⟩ := h
 refine ⟨(ps.zip ts).map fun q => (kB q.1, q.2), by rw [k2, List.map_map]; rfl, ?_⟩
 rw [List.map_map]
 have := congrArg (List.map kB) (List.map_fst_zip (l₁ := ps) (l₂ := ts) (by lia))
 rw [List.map_map] at this
 exact this
set_option smartUnfolding false
theorem x7 (gen aA aD it L cb : Addr) (g : Nat) (n1 n2 : Value) (ps : List Pt) (ep : Nat) (o : Obj) (cP : hZ it o) (gs : GenState) (ts : Tok) (cD : iq w b (gY it L cb) it L aA aD (bZ ps) ep gs) (bU : ∀ p ∈ ps, p.ok) (h1 : 1 ≤ ps.length) (h6 : ps.length ≤ 6) :
  b9 w b 10 (.call (.builtin "str.join") ⟨[.str (Str.ofString "") ts, .ref gen], []⟩)
   [(gen, cV g n1 n2), (L, o), (it, bx aA (0 : Nat)), (aA, aq aD (bZ ps) ep)] (ps.map Pt.K) g gs
   (X := Tok × Obj × Obj) (fun _ => True) (fun y => .ok (.ret (.str (strOf ps) y.1))) (fun y => [(gen, cV g n1 n2), (L, y.2.1), (it, y.2.2), (aA, aq aD (bZ ps) ep)]) (fun _ => []) (fun _ => .finished) := by
 refine b9.eN ?_
 intro d fr gd u Rr s Gp K0 A hL ro hg post a
 (refine gB 5 255101 ?_; intro ou)
 exists zg, 6, 12752601
 refine cG ro a hL [0, 1, 2, 3] (ps.map Pt.K) (vB gen aA aD it L cb g n1 n2 ps ep o cP gs cD bU (by exact aO)) hg (by kernel_rfl) (by kernel_rfl) (by kernel_rfl) (by kernel_rfl) (by kernel_rfl) (by decide) (fun _ h => h) ro.nd fun y n9 t9 a2 hy _ => ?_
 obtain ⟨l, vs, bC, o1, o2⟩ := y
 obtain ⟨zs, rfl, hz⟩ := F0 hy
 have hl : zs.length = ps.length := by have := congrArg List.length hz; rw [List.length_map, List.length_map] at this; exact this
 have hx : ∀ x ∈ zs.map (·.1), x.length ≤ 1000 := fun x hx => by rw [hz] at hx; obtain ⟨p, hp, rfl⟩ := List.mem_map.mp hx; exact Af (bU p hp)
 unfold strOf at post
 rw [← hz] at post
 clear hy
 rcases zs with _ | ⟨⟨x, t⟩, _ | ⟨q2, zs⟩⟩
 ·rw [← hl] at h1; exact absurd h1 (by decide)
 ·exists zg, 3, 6
  exact eG post ro a2 4 [] (t, o1, o2) trivial (by kernel_rfl) (by kernel_rfl) (by kernel_rfl) (by kernel_rfl) (by kernel_rfl) ak
 ·have HV := HU (Nat.le_trans (Nat.le_of_eq ja) (by decide)) hx (by rw [List.length_map]; exact lD)
  clear hx hl hz
  exists zg, 1, 6
  exists dT, ah (vA ?_ ((x, t) :: q2 :: zs) 0 #[])
  ·intro x t i s
   kernel_rfl
  exists ao, Cd HV.1 (by kernel_rfl)
  exists ao, ah (mF HV.2 (by kernel_rfl))
  exists zg, 2, 0
  exact eG post ro a2 4 [] (t9 + 0, o1, o2) trivial (by kernel_rfl) (by kernel_rfl) (by kernel_rfl) (by kernel_rfl) (by kernel_rfl) ak
set_option smartUnfolding true
theorem six {α : Type} (ps : List α) (h1 : 1 ≤ ps.length) (h6 : ps.length ≤ 6) : (∃ p1, ps = [p1]) ∨ (∃ p1 p2, ps = [p1, p2]) ∨ (∃ p1 p2 p3, ps = [p1, p2, p3]) ∨ (∃ p1 p2 p3 p4, ps = [p1, p2, p3, p4]) ∨ (∃ p1 p2 p3 p4 p5, ps = [p1, p2, p3, p4, p5]) ∨ (∃ p1 p2 p3 p4 p5 p6, ps = [p1, p2, p3, p4, p5, p6]) := by
 match ps, h1, h6 with
 | [p1], _, _ => exact .inl ⟨p1, rfl⟩
 | [p1, p2], _, _ => exact .inr (.inl ⟨p1, p2, rfl⟩)
 | [p1, p2, p3], _, _ => exact .inr (.inr (.inl ⟨p1, p2, p3, rfl⟩))
 | [p1, p2, p3, p4], _, _ => exact .inr (.inr (.inr (.inl ⟨p1, p2, p3, p4, rfl⟩)))
 | [p1, p2, p3, p4, p5], _, _ => exact .inr (.inr (.inr (.inr (.inl ⟨p1, p2, p3, p4, p5, rfl⟩))))
 | [p1, p2, p3, p4, p5, p6], _, _ => exact .inr (.inr (.inr (.inr (.inr (⟨p1, p2, p3, p4, p5, p6, rfl⟩)))))
noncomputable abbrev pO (cb : Addr) : Obj := eJ [.int 96 0, .int 32 0, .ref cb]
set_option smartUnfolding false
noncomputable def bo (o : Obj) : Prop := o = eJ [] ∨ ∃ cb, o = pO cb
theorem I3 (aA aD : Addr) (t0 : Obj) (ht : bo t0) (ps : List Pt) (ep : Nat) (bU : ∀ p ∈ ps, p.ok) (h1 : 1 ≤ ps.length) (h6 : ps.length ≤ 6) :
  af w b 12 (.call (.ref 152) ⟨[.ref aA], []⟩)
   [(aA, aq aD (bZ ps) ep), (147, t0)] (ps.map Pt.K)
   (X := Tok × Obj) (fun y => bo y.2) (fun y => .ok (.ret (.str (strOf ps) y.1))) (fun y => [(aA, aq aD (bZ ps) ep), (147, y.2)]) (fun _ => []) := by
 exists zA, 8, 510051, zd, zc, a
 (refine yP 27 153210942482462515944010051 (bB xi 152 zc.S []) ?_; intro ou)
 refine sQ fun p below l => ?_
 exists zg, 1, 1
 exists dT, ah (dG (ah (ah (ah (ah (ah (ah (lN (own := 0) (P := w.params) l zc.hL (by kernel_rfl)))))))))
 rcases ht with h | ⟨cb, h⟩
 ·refine xQ 1 (147, t0) h ?_
  exists zg, 26, 4264859706632651
  refine xX zc.ro a zc.hL [8, 7, 3, 0] (ps.map Pt.K) (x7 (zc.S + 6) aA aD (zc.S + 1) (zc.S + 5) (zc.S + 4) zc.s.gens.toList.length (.str (Str.ofString "<genexpr>") (zc.s.toks + 7)) (.str (Str.ofString "_Accumulator.__str__.<locals>.<genexpr>") (zc.s.toks + 8)) ps ep (cK [av (au w ".0") ".0" (zc.s.toks + 6) (.ref (zc.S + 1))] 1) ⟨_, _, _, .inl rfl⟩ (.fresh (.compStart (gX fY) 0 (.ref (zc.S + 1)) .none (nq fY "_Accumulator.__str__.<locals>.<genexpr>." (zc.S + 5) (zc.S + 4)))) 198
   ⟨_, .inr rfl, fun o j T Q bq => lh (gX fY) (by kernel_rfl) _ aA aD _ _ o (bZ ps) ep j T Q bq⟩ bU h1 h6) rfl (by kernel_rfl) (by kernel_rfl) (by kernel_rfl) (by kernel_rfl) (by kernel_rfl) (by decide) (fun _ h => h) zc.ro.nd fun y n2 t2 a2 _ _ => ?_
  exists zg, 2, 0
  exact zN 2 [] (y.1, pO (zc.S + 4)) (hx := .inr ⟨_, rfl⟩)
 ·refine xQ 1 (147, t0) h ?_
  exists zg, 15, 33162627651
  refine xX zc.ro a zc.hL [5, 4, 3, 0] (ps.map Pt.K) (x7 (zc.S + 3) aA aD (zc.S + 1) (zc.S + 2) cb zc.s.gens.toList.length (.str (Str.ofString "<genexpr>") (zc.s.toks + 2)) (.str (Str.ofString "_Accumulator.__str__.<locals>.<genexpr>") (zc.s.toks + 3)) ps ep (cK [av (au w ".0") ".0" (zc.s.toks + 1) (.ref (zc.S + 1))] 1) ⟨_, _, _, .inl rfl⟩ (.fresh (.compStart (gX fY) 0 (.ref (zc.S + 1)) .none (nq fY "_Accumulator.__str__.<locals>.<genexpr>." (zc.S + 2) cb))) 198
   ⟨_, .inr rfl, fun o j T Q bq => lh (gX fY) (by kernel_rfl) _ aA aD _ _ o (bZ ps) ep j T Q bq⟩ bU h1 h6) rfl (by kernel_rfl) (by kernel_rfl) (by kernel_rfl) (by kernel_rfl) (by kernel_rfl) (by decide) (fun _ h => h) zc.ro.nd fun y n2 t2 a2 _ _ => ?_
  exists zg, 2, 0
  exact zN 2 [] (y.1, pO cb) (hx := .inr ⟨_, rfl⟩)
theorem lP (aA aD : Addr) (t0 : Obj) (ht : bo t0) (ps : List Pt) (ep : Nat) (bU : ∀ p ∈ ps, p.ok) (h1 : 1 ≤ ps.length) (h6 : ps.length ≤ 6) :
  af w b 14 (.call (.type "str") ⟨[.ref aA], []⟩)
   [(aA, aq aD (bZ ps) ep), (147, t0)] (ps.map Pt.K)
   (X := Tok × Obj) (fun y => bo y.2) (fun y => .ok (.ret (.str (strOf ps) y.1))) (fun y => [(aA, aq aD (bZ ps) ep), (147, y.2)]) (fun _ => []) := by
 exists zA, 4, 2551, zd, zc, a
 refine sQ fun p below l => ?_
 exists ao, ah (ah (bf (d5 l zc.hL (by kernel_rfl))))
 exists zg, 6, 631377552
 exists zI, 5, 51, [0, 1], I3 aA aD t0 ht ps ep bU h1 h6, y, n2, t2, G2, a2, hy, _
 exact zN 2 [] y (hx := hy)
set_option smartUnfolding true
theorem Cp (x : Str) (tx : Tok) (h : x.cps.all Unicode.isSpace = false) :
  af w b 1 (.call (.builtin "str.isspace") ⟨[.str x tx], []⟩) [] []
   (X := Unit) (fun _ => True) (fun y => .ok (.ret (.bool false))) (fun y => []) (fun y => []) := by
 have H : af w b 1 (.call (.builtin "str.isspace") ⟨[.str x tx], []⟩) [] []
   (X := Bool) (fun v => v = (decide (x.length > 0) && x.cps.all Unicode.isSpace)) (fun y => .ok (.ret (.bool y))) (fun y => []) (fun y => []) := by
  exists zA, 2, 1, zd, zc, a
  exact zN 0 [] (decide (x.length > 0) && x.cps.all Unicode.isSpace) (hx := rfl)
 exact H.imp' fun v hv => ⟨(), trivial, by rw [show v = false from hv.trans (by rw [h, Bool.and_false])], rfl, rfl⟩
set_option smartUnfolding false
theorem Ag (aA aD : Addr) (t0 t1 : Obj) (bK : bg t0) (bR : bo t1) (ps : List Pt) (ep : Nat) (hz : Int) (tk tz : Tok) (bU : ∀ p ∈ ps, p.ok) (h1 : 1 ≤ ps.length) (h6 : ps.length ≤ 6) (hp : 0 < bw ps) (lF : bw ps ≤ 1000) (iQ : (strOf ps).cps.all Unicode.isSpace = false) :
  af w b 15 (.call (.ref 167) ⟨[.ref aA], []⟩)
   [(aA, aq aD (bZ ps) ep), (aD, bJ hz tk tz (0 : Nat)), (140, t0), (147, t1)] (ps.map Pt.K)
   (X := Obj × Obj) (fun y => bg y.1 ∧ bo y.2) (fun y => .ok (.ret (.bool false))) (fun y => [(aA, aq aD (bZ ps) ep), (aD, bJ hz tk tz (0 : Nat)), (140, y.1), (147, y.2)]) (fun _ => []) := by
 (refine zB ?_; intro zd zc a)
 obtain ⟨k, hk⟩ : ∃ k, 0 + bw ps = k + 1 := ⟨bw ps - 1, by lia⟩
 have L := fun b => B7 (w := w) (b := b) aA aD t0 bK hz tk tz ps ep bU 0 (by lia)
 rw [hk] at L
 exists zg, 8, 765051
 (refine yP 53 73502020912758094079944617772608001863129297124220742984693880301 (bB rS 167 zc.S []) ?_; intro ou)
 exists zI, 1, 0, [0, 1, 2], L _, y, n2, t2, G2, a2, hy, _
 exists dT, df (by lia)
 exists zg, 10, 265051
 exists zI, 5, 2, [0, 3], lP aA aD t1 bR ps ep bU h1 h6, y3, n3, t3, G3, a3, ej, _
 exists zH, 2, 0, [], Cp (strOf ps) y3.1 iQ, y4, n4, t4
 exact zN 4 [] (y.2, y3.2) (hx := ⟨hy, ej⟩)
noncomputable abbrev sB : Str := Str.ofString " "
structure VF where
 aV : Addr
 de : Addr
 aL : Addr
 aA : Addr
 aD : Addr
 wd : Nat
 k1 : Tok
 k2 : Tok
 k3 : Tok
 k4 : Tok
 k5 : Tok
 k6 : Tok
 t1 : Tok
 t2 : Tok
 t3 : Tok
 t4 : Tok
noncomputable def VF.O (v : VF) : Obj := ⟨.ref 94, some v.de, .plain, ⟨[]⟩⟩
noncomputable def VF.D (w : World) (v : VF) : Obj := ⟨jU, none, .dict ⟨[av (au w "_maxlen") "_maxlen" v.k1 (.int v.wd v.t1), av (au w "_continuation_ws") "_continuation_ws" v.k2 (.str sB v.t2), av (au w "_continuation_ws_len") "_continuation_ws_len" v.k3 (.int (1 : Nat) v.t3), av (au w "_splitchars") "_splitchars" v.k4 (.str sB v.t4), av (au w "_lines") "_lines" v.k5 (.ref v.aL), av (au w "_current_line") "_current_line" v.k6 (.ref v.aA)]⟩ 6, ⟨[]⟩⟩
set_option smartUnfolding true
theorem jX (x y : Str) (tx ty : Tok) :
  af w b 0 (.call (.builtin "str.__eq__") ⟨[.str x tx, .str y ty], []⟩) [] []
   (X := Bool) (fun v => v = true ↔ x = y) (fun v => .ok (.ret (.bool v))) (fun _ => []) (fun _ => []) := by
 exists zA, 2, 1, zd, zc, a
 exact eZ zc.post zc.ro a 0 [] (x.cps.toList == y.cps.toList) (by
  (with_reducible conv => whnf)
  rw [beq_iff_eq]
  obtain ⟨⟨x⟩⟩ := x
  obtain ⟨⟨y⟩⟩ := y
  simp) (by kernel_rfl) (by kernel_rfl) ak
set_option smartUnfolding false
theorem F1 (x y : Addr) (Cq tP Cr tQ : Tok) (z : Str) (hz : z ≠ Str.ofString "") :
  af w b 4 (.call (.builtin "tuple.__ne__") ⟨[.ref x, .ref y], []⟩)
   [(x, aj [.str sB Cq, .str z tP]), (y, aj [.str sB Cr, .str (Str.ofString "") tQ])] []
   (X := Unit) (fun _ => True) (fun _ => .ok (.ret (.bool true))) (fun _ => [(x, aj [.str sB Cq, .str z tP]), (y, aj [.str sB Cr, .str (Str.ofString "") tQ])]) (fun _ => []) := by
 have HW : ¬ (Value.str z tP = Value.str (Str.ofString "") tQ) := fun e => hz (by injection e)
 (refine zB ?_; intro zd zc a)
 by_cases h : (Value.str sB Cq = Value.str sB Cr)
 ·exists zg, 5, 19007552
  exists dT, ah (ah (ah (bt (cy h))))
  exists zg, 1, 0
  exists dT, ah (ah (ah (bf (b5 HW))))
  exists yg, 2, 2
  refine zK [] (jX z (Str.ofString "") tP tQ) @fun y3 n3 t3 G3 a3 h3 _ => ?_
  obtain rfl := mE h3 hz
  exists zg, 1, 0
  exact zN 2 [] ()
 ·exists zg, 5, 19007552
  exists dT, ah (ah (ah (bf (b5 h))))
  exists yg, 4, 51
  exists dT, ah (ah (ah (bf (b5 HW))))
  exists yg, 2, 2
  refine zK [] (jX z (Str.ofString "") tP tQ) @fun y3 n3 t3 G3 a3 h3 _ => ?_
  obtain rfl := mE h3 hz
  exists zg, 1, 0
  exact zN 2 [] ()
noncomputable abbrev as (qs : List Pt) : List Addr := qs.map Pt.a
set_option smartUnfolding true
theorem lQ (qs : List Pt) (p : Pt) : bZ (qs ++ [p]) = bE (as qs) ++ [.ref p.a] := by unfold bZ; simp [bE, as]
theorem gr (qs : List Pt) (p : Pt) : ((qs ++ [p]).map Pt.K).Perm ([p.K] ++ qs.map Pt.K) := by
 rw [List.map_append]
 exact List.perm_append_comm
theorem lR (aA aD : Addr) (t0 : Obj) (ht : bg t0) (hh : Int) (tk tz : Tok) (qs : List Pt) (p : Pt) (ep : Nat) (bU : ∀ q ∈ qs ++ [p], q.ok) (z m : Nat) (hz : z + bw (qs ++ [p]) = m) (hm : m ≤ 10000) :
  af w b 12 (.call (.builtin "len") ⟨[.ref aA], []⟩)
   [(aA, aq aD (bE (as qs) ++ [.ref p.a]) ep), (aD, bJ hh tk tz z), (140, t0)] ([p.K] ++ qs.map Pt.K)
   (X := Tok × Obj) (fun y => bg y.2) (fun y => .ok (.ret (.int m y.1))) (fun y => [(aA, aq aD (bE (as qs) ++ [.ref p.a]) ep), (aD, bJ hh tk tz z), (140, y.2)]) (fun _ => []) := by
 have h := IX (w := w) (b := b) aA aD t0 ht hh tk tz (qs ++ [p]) ep bU z (by exact lD)
 rw [hz] at h
 simp only [lQ] at h
 exact h.perm (gr qs p)
theorem I4 (aA aD : Addr) (t0 : Obj) (ht : bo t0) (qs : List Pt) (p : Pt) (ep : Nat) (bU : ∀ q ∈ qs ++ [p], q.ok) (h6 : qs.length ≤ 5) :
  af w b 14 (.call (.type "str") ⟨[.ref aA], []⟩)
   [(aA, aq aD (bE (as qs) ++ [.ref p.a]) ep), (147, t0)] ([p.K] ++ qs.map Pt.K)
   (X := Tok × Obj) (fun y => bo y.2) (fun y => .ok (.ret (.str (strOf (qs ++ [p])) y.1))) (fun y => [(aA, aq aD (bE (as qs) ++ [.ref p.a]) ep), (147, y.2)]) (fun _ => []) := by
 have h := lP (w := w) (b := b) aA aD t0 ht (qs ++ [p]) ep bU (by simp) (by simp; exact aO)
 simp only [lQ] at h
 exact h.perm (gr qs p)
theorem bT (a : Addr) (items : List Value) (ep : Nat) (v : Value) (hn : items.length ≤ 1000) :
  af w b 1 (.call (.builtin "list.append") ⟨[.ref a, v], []⟩) [(a, aa items ep)] [] (X := Nat) (fun _ => True) (fun _ => .ok (.ret .none)) (fun e => [(a, aa (items ++ [v]) e)]) (fun _ => []) :=
 vy a items ep v hn
theorem Cs (aA aD : Addr) (as : List Addr) (a : Addr) (ep : Nat) (tk tz : Tok) (z : Nat) (h2 : as.length ≤ 5) :
  af w b 6 (.call (.ref 160) ⟨[.ref aA], []⟩) [(aA, aq aD (bE as ++ [.ref a]) ep), (aD, bJ (au w "_initial_size") tk tz z)] []
   (X := Nat × Tok) (fun _ => True) (fun y => .ok (.ret .none)) (fun y => [(aA, aq aD [] y.1), (aD, bJ (au w "_initial_size") tk y.2 (0 : Nat))]) (fun y => []) := by
 have h := Cn (w := w) (b := b) aA aD (as ++ [a]) ep tk tz z (by simp) (by simp; exact aO)
 simp only [bE, List.map_append, List.map_cons, List.map_nil] at h
 exact h
set_option smartUnfolding false
theorem vC (aA aD : Addr) (items : List Value) (ep : Nat) (hz : Int) (tk tz : Tok) (z : Nat) (h : 0 < z) (t0 t1 : Obj) (T : KS) :
  af w b 15 (.call (.ref 167) ⟨[.ref aA], []⟩)
   [(aA, aq aD items ep), (aD, bJ hz tk tz z), (140, t0), (147, t1)] T
   (X := Unit) (fun _ => True) (fun y => .ok (.ret (.bool false))) (fun y => [(aA, aq aD items ep), (aD, bJ hz tk tz z), (140, t0), (147, t1)]) (fun _ => []) := by
 exists zA, 8, 765051, zd, zc, a
 (refine yP 32 982483064301172124220742984693880301 (bB rS 167 zc.S []) ?_; intro ou)
 refine zK [] (bu z 0 tz (zc.s.toks + 2)) @fun y3 n3 t3 G3 a3 h3 _ => ?_
 obtain rfl := mE h3 (by lia)
 exists zg, 2, 0
 exact zN 4 [] ()
set_option smartUnfolding true
theorem Ah (aA aD : Addr) (t0 t1 : Obj) (bK : bg t0) (bR : bo t1) (qs : List Pt) (p : Pt) (ep : Nat) (hz : Int) (tk tz : Tok) (z : Nat) (bU : ∀ q ∈ qs ++ [p], q.ok) (h6 : qs.length ≤ 5) (hp : 0 < bw (qs ++ [p])) (lF : bw (qs ++ [p]) ≤ 1000) (iQ : (strOf (qs ++ [p])).cps.all Unicode.isSpace = false) :
  af w b 15 (.call (.ref 167) ⟨[.ref aA], []⟩)
   [(aA, aq aD (bE (as qs) ++ [.ref p.a]) ep), (aD, bJ hz tk tz z), (140, t0), (147, t1)] ([p.K] ++ qs.map Pt.K)
   (X := Obj × Obj) (fun y => bg y.1 ∧ bo y.2) (fun y => .ok (.ret (.bool false))) (fun y => [(aA, aq aD (bE (as qs) ++ [.ref p.a]) ep), (aD, bJ hz tk tz z), (140, y.1), (147, y.2)]) (fun _ => []) := by
 rcases Nat.eq_zero_or_pos z with rfl | pP
 ·have h := Ag (w := w) (b := b) aA aD t0 t1 bK bR (qs ++ [p]) ep hz tk tz bU (by simp) (by simp; exact aO) hp lF iQ
  simp only [lQ] at h
  exact h.perm (gr qs p)
 ·exact (vC aA aD _ ep hz tk tz z pP t0 t1 _).map (fun _ => (t0, t1)) (fun _ _ => ⟨bK, bR⟩) (fun _ => rfl) (fun _ => rfl) (fun _ => rfl)
theorem Cu {l gen : Addr} (x y : Value) : (Builtin.List.listSameRef (Value.ref l) (Value.ref gen) || (aj [x, y]).cls == Value.type SZ.s9222952809800978799x4 || (aj [x, y]).cls == Value.type SZ.s2766695959194262286x5) = true := by
 have e2 : ((aj [x, y]).cls == Value.type SZ.s2766695959194262286x5) = true := by kernel_rfl
 rw [e2, Bool.or_true]
set_option smartUnfolding false
theorem vD (p : Addr) (x y : Str) (tx ty : Tok) :
  af w b 5 (.builtin "proto.collect" ⟨[.ref p], []⟩)
   [(p, aj [.str x tx, .str y ty])] []
   (X := Addr × Nat) (fun _ => True) (fun y => .ok (.ret (.ref y.1))) (fun _ => [(p, aj [.str x tx, .str y ty])]) (fun e => [(e.1, aa [.str x tx, .str y ty] e.2)]) := by
 exists zA, 3, 101, zd, zc, a
 exists dT, bt (Cu (.str x tx) (.str y ty))
 exists zg, 6, 19132652
 exact zM 1 [true] (fun o => (zc.S + 0, o.ep 1)) (hs := (ar (Nat.le_add_right _ _) ak))
set_option smartUnfolding true
noncomputable abbrev Cv (f : Addr) (aA : Addr) : Obj := ⟨.type "method", none, .fields ⟨[.ref f, .ref aA]⟩, ⟨[]⟩⟩
set_option smartUnfolding false
theorem F2 (m aA aD : Addr) (items : List Value) (ep : Nat) (hz : Int) (tk tz : Tok) (z : Int) (tf tx : Tok) (f x : Str) (hn : items.length ≤ 1000) :
  af w b 5 (.call (.ref m) ⟨[.str f tf, .str x tx], []⟩) 
   [(m, Cv 122 aA), (aA, aq aD items ep), (aD, bJ hz tk tz z)] []
   (X := Addr × Nat) (fun _ => True) (fun _ => .ok (.ret .none)) (fun y => [(m, Cv 122 aA), (aA, aq aD (items ++ [.ref y.1]) y.2), (aD, bJ hz tk tz z)]) (fun y => [(y.1, aj [.str f tf, .str x tx])]) := by
 exists zA, 2, 102, zd, zc, a
 refine aZ (Ta := []) zc.ro a zc.hL [1, 2] [] [] (push aA aD items ep hz tk tz z tf tx f x hn) (by kernel_rfl) (by kernel_rfl) (fun _ h => nomatch h) List.nodup_nil fun y n2 t2 G2 a2 _ hN => ?_
 exact eA zc.post zc.ro a2 3 [true] y trivial (by kernel_rfl) (by kernel_rfl) (by kernel_rfl) (by kernel_rfl) (fun p hp => hN p hp)
theorem newline (v : VF) (qs : List Pt) (p : Pt) (oo : p.f = sB) (oq : p.x ≠ Str.ofString "") (ep : Nat) (tk tz : Tok) (z : Nat) (qY : z ≤ 100) (ls : List Value) (e1 : Nat) (ir : ls.length ≤ 100) (t0 t1 : Obj) (bK : bg t0) (bR : bo t1)
  (bU : ∀ q ∈ qs ++ [p], q.ok) (h6 : qs.length ≤ 5) (hp : 0 < bw (qs ++ [p])) (lF : bw (qs ++ [p]) ≤ 1000) (iQ : (strOf (qs ++ [p])).cps.all Unicode.isSpace = false) :
  af w b 18 (.call (.ref 56) ⟨[.ref v.aV], []⟩)
   [(v.aV, v.O), (v.de, v.D w), (v.aA, aq v.aD (bE (as qs) ++ [.ref p.a]) ep), (v.aD, bJ (au w "_initial_size") tk tz z), (v.aL, aa ls e1), (140, t0), (147, t1), p.K] (qs.map Pt.K)
   (X := Nat × Tok × Nat × Tok × Obj × Obj) (fun y => bg y.2.2.2.2.1 ∧ bo y.2.2.2.2.2) (fun y => .ok (.ret .none)) (fun y => [(v.aV, v.O), (v.de, v.D w), (v.aA, aq v.aD [] y.1), (v.aD, bJ (au w "_initial_size") tk y.2.1 (0 : Nat)), (v.aL, aa (ls ++ [.str (strOf (qs ++ [p])) y.2.2.2.1]) y.2.2.1), (140, y.2.2.2.2.1), (147, y.2.2.2.2.2), p.K]) (fun _ => []) := by
 obtain ⟨pa, pf, ib, px, ic⟩ := p
 dsimp only at oo oq
 subst oo
 have gi : ∀ a', ∀ q ∈ qs ++ [(⟨a', sB, ib, px, ic⟩ : Pt)], q.ok := fun a' q hq => by
  rcases List.mem_append.mp hq with h | h
  ·exact bU q (List.mem_append_left _ h)
  ·rw [List.mem_singleton.mp h]
   exact bU ⟨pa, sB, ib, px, ic⟩ (by simp)
 obtain ⟨m, Kw⟩ : ∃ m, z + bw (qs ++ [(⟨pa, sB, ib, px, ic⟩ : Pt)]) = m := ⟨_, rfl⟩
 have dg : ∀ a', bw (qs ++ [(⟨a', sB, ib, px, ic⟩ : Pt)]) = bw (qs ++ [(⟨pa, sB, ib, px, ic⟩ : Pt)]) := fun a' => by simp [bw, Pt.len]
 have ei : ∀ a', strOf (qs ++ [(⟨a', sB, ib, px, ic⟩ : Pt)]) = strOf (qs ++ [(⟨pa, sB, ib, px, ic⟩ : Pt)]) := fun a' => by simp [strOf, kB]
 have LW : 0 < m := by lia
 have I5 : (0 : Int) < (m : Int) := by lia
 have ka : m ≤ 1200 := by lia
 exists zA, 8, 1275051, zd, zc, a
 (refine zP 42 94158210012381101141742784242566416115275015943880501 (bB Bt 56 zc.S []) ?_; intro ou)
 exists zH, 17, 25510, [2, 3], I1 v.aA v.aD (as qs) pa ep (au w "_initial_size") z tk tz (by simp; exact aO), y, n2, t2
 refine sQ fun p below l => ?_
 exists ao, ah (dG (ah (ah (ah (ah (fB (fB (ah (bf (d5 l zc.hL (by kernel_rfl)))))))))))
 exists yg, 5, 273059
 exists zH, 57, 9931719266757611232828729015649652967647630343054453322305500318877610, [7, 9], F1 pa (n2 + 0) ib ic (t2 + 1) (t2 + 2) px oq, _, nm, t3
 exists zH, 5, 253113, [7], vD pa sB px ib ic, ye, n3, t3
 exists zH, 26, 3143945805763750797194025051, [10, 2, 3], F2 nm v.aA v.aD (bE (as qs)) y (au w "_initial_size") tk tz z ib ic sB px (by simp [bE, as]; exact aO), y4, n4, t4
 (refine yG (Ta := [(y4.1, aj [.str sB ib, .str px ic])]) 5 2 [2, 3, 5] [12] (qs.map Pt.K) (lR v.aA v.aD t0 bK (au w "_initial_size") tk tz qs ⟨y4.1, sB, ib, px, ic⟩ y4.2 (gi _) z m (by rw [dg]; exact Kw) (by exact aO)) (fun _ h => h) zc.ro.nd @fun y5 n5 t5 G5 a5 eo _ => ?_; intro ou)
 exists zH, 40, 1883164200247622022834855684851328322305500318877610, [], (dU m 0 y5.1 (t5 + 0)).ck I5, _, n6, t6
 (refine zG (Ta := [(y4.1, aj [.str sB ib, .str px ic])]) 52 11993201468520167530799961285104556921640822305500318877610 [2, 3, 5, 6] [12] (qs.map Pt.K) (Ah v.aA v.aD y5.2 t1 eo bR qs ⟨y4.1, sB, ib, px, ic⟩ y4.2 (au w "_initial_size") tk tz z (gi _) h6 (by rw [dg]; exact hp) (by rw [dg]; exact lF) (by rw [ei]; exact iQ)) (fun _ h => h) zc.ro.nd @fun y7 n7 t7 G7 a7 HX _ => ?_; intro ou)
 have L := fun b => I4 (w := w) (b := b) v.aA v.aD y7.2 HX.2 qs ⟨y4.1, sB, ib, px, ic⟩ y4.2 (gi _) h6
 rw [ei] at L
 (refine zG (Ta := [(y4.1, aj [.str sB ib, .str px ic])]) 3 2 [2, 6] [12] (qs.map Pt.K) (L _) (fun _ h => h) zc.ro.nd @fun y8 n8 t8 G8 a8 Cw _ => ?_; intro ou)
 exists zH, 41, 1883164200247622022834855684851328322305500318877610, [4], bT v.aL ls e1 (.str (strOf (qs ++ [(⟨pa, sB, ib, px, ic⟩ : Pt)])) y8.1) (by exact aO), y9, n9, t9
 exists zH, 2, 0, [2, 3], Cs v.aA v.aD (as qs) y4.1 y4.2 tk tz z (by simp [as]; exact aO), kb, qZ, q6
 exact zN 8 [] (kb.1, kb.2, y9, y8.1, y7.1, y8.2) (hx := ⟨HX.1, Cw⟩)
noncomputable abbrev sN : Str := Str.ofString "\n"
set_option smartUnfolding true
theorem Ky : sN.length = 1 := by decide +kernel
noncomputable abbrev aE (xs : List (Str × Tok)) : List Value := xs.map fun q => .str q.1 q.2
theorem r5 (l : Addr) (ts : Tok) (xs : List (Str × Tok)) (ep : Nat) (hx : ∀ q ∈ xs, q.1.length ≤ 1000) (h1 : 1 ≤ xs.length) (h6 : xs.length ≤ 6) :
  af w b 5 (.call (.builtin "str.join") ⟨[.str sN ts, .ref l], []⟩) [(l, aa (aE xs) ep)] []
   (X := Tok) (fun _ => True) (fun y => .ok (.ret (.str (cp sN (xs.map (·.1))) y))) (fun y => [(l, aa (aE xs) ep)]) (fun _ => []) :=
 x6 sN (Nat.le_of_eq Ky) l ts xs ep hx h1 h6
set_option smartUnfolding false
theorem I6 (v : VF) (tn : Tok) (qs : List Pt) (p : Pt) (oo : p.f = sB) (oq : p.x ≠ Str.ofString "") (ep : Nat) (tk tz : Tok) (z : Nat) (qY : z ≤ 100) (ls : List (Str × Tok)) (e1 : Nat) (ir : ls.length ≤ 5) (gu : ∀ q ∈ ls, q.1.length ≤ 1000) (t0 t1 : Obj) (bK : bg t0) (bR : bo t1)
  (bU : ∀ q ∈ qs ++ [p], q.ok) (h6 : qs.length ≤ 5) (hp : 0 < bw (qs ++ [p])) (lF : bw (qs ++ [p]) ≤ 1000) (iQ : (strOf (qs ++ [p])).cps.all Unicode.isSpace = false) (kx : (strOf (qs ++ [p])).length ≤ 1000) :
  af w b 20 (.call (.ref 42) ⟨[.ref v.aV, .str sN tn], []⟩)
   [(v.aV, v.O), (v.de, v.D w), (v.aA, aq v.aD (bE (as qs) ++ [.ref p.a]) ep), (v.aD, bJ (au w "_initial_size") tk tz z), (v.aL, aa (aE ls) e1), (140, t0), (147, t1), p.K] (qs.map Pt.K)
   (X := Tok × Nat × Tok × Nat × Tok × Obj × Obj) (fun y => bg y.2.2.2.2.2.1 ∧ bo y.2.2.2.2.2.2) (fun y => .ok (.ret (.str (cp sN ((ls.map (·.1)) ++ [strOf (qs ++ [p])])) y.1))) (fun y => [(v.aV, v.O), (v.de, v.D w), (v.aA, aq v.aD [] y.2.1), (v.aD, bJ (au w "_initial_size") tk y.2.2.1 (0 : Nat)), (v.aL, aa (aE ls ++ [.str (strOf (qs ++ [p])) y.2.2.2.2.1]) y.2.2.2.1), (140, y.2.2.2.2.2.1), (147, y.2.2.2.2.2.2), p.K]) (fun _ => []) := by
 have J : ∀ b t' e', af w b 5 (.call (.builtin "str.join") ⟨[.str sN tn, .ref v.aL], []⟩) [(v.aL, aa (aE ls ++ [.str (strOf (qs ++ [p])) t']) e')] []
   (X := Tok) (fun _ => True) (fun y => .ok (.ret (.str (cp sN ((ls.map (·.1)) ++ [strOf (qs ++ [p])])) y))) (fun y => [(v.aL, aa (aE ls ++ [.str (strOf (qs ++ [p])) t']) e')]) (fun _ => []) := fun b t' e' => by
  have h := r5 (w := w) (b := b) v.aL tn (ls ++ [(strOf (qs ++ [p]), t')]) e' (fun q hq => by
   rcases List.mem_append.mp hq with h | h
   ·exact gu q h
   ·rw [List.mem_singleton.mp h]; exact kx) (by simp) (by simp; exact aO)
  simp only [aE, List.map_append, List.map_cons, List.map_nil] at h
  exact h
 exists zA, 12, 3188775051, zd, zc, a
 (refine zP 25 7710327771245314493000318880501 (bB Bq 42 zc.S []) ?_; intro ou)
 exists zI, 27, 62878916115275015943880510, [0, 1, 2, 3, 4, 5, 6, 7], newline v qs p oo oq ep tk tz z qY (aE ls) e1 (by simp [aE]; exact aO) t0 t1 bK bR bU h6 hp lF iQ, y, n2, t2, G2, a2, hy, _
 exists zH, 2, 0, [4], J _ y.2.2.2.1 y.2.2.1, y3, n3, t3
 exact zN 8 [] (y3, y.1, y.2.1, y.2.2.1, y.2.2.2.1, y.2.2.2.2.1, y.2.2.2.2.2) (hx := hy)
theorem Cy (aV de : Addr) (h wd : Nat) (u1 u2 u3 u4 : Tok) :
  af w b 8 (.call (.ref 35) ⟨[.ref aV, .int h u1, .int wd u2, .str sB u3, .str sB u4], []⟩)
   [(aV, ⟨.ref 94, some de, .plain, ⟨[]⟩⟩), (de, ⟨jU, none, .dict ⟨[]⟩ 0, ⟨[]⟩⟩)] []
   (X := VF × Tok) (fun y => y.1.aV = aV ∧ y.1.de = de ∧ y.1.wd = wd) (fun _ => .ok (.ret .none)) (fun y => [(aV, y.1.O), (de, y.1.D w)]) (fun y => [(y.1.aL, aa [] 0), (y.1.aD, bJ (au w "_initial_size") y.2 u1 h), (y.1.aA, aq y.1.aD [] 0)]) := by
 exists zA, 24, 19929846938775510051, zd, zc, a
 (refine zP 189 187419379914267778693994983613240758976443036463160873051788048392009791882432093000830740781458558150011897922989587814136328368655516364107608568304511450425780655071260455102108571057416468242799408594004005938297194010201 (bB Bn 35 zc.S []) ?_; intro ou)
 refine sQ fun p below l => ?_
 exists zg, 14, 197305486569627551
 exists zH, 30, 583879151013437601602375318877604, [5, 4], init (zc.S + 3) (zc.S + 2) h u1, y, n2, t2, G2, a2, _, hN
 exact zN 2 [false, true, true, true] (⟨aV, de, zc.S + 1, zc.S + 3, zc.S + 2, wd, zc.s.toks + 6, zc.s.toks + 8, zc.s.toks + 12, zc.s.toks + 14, zc.s.toks + 16, t2 + 1, u2, u3, zc.s.toks + 10, u4⟩, y) (hx := ⟨rfl, rfl, rfl⟩) (hs := (ar (Nat.le_add_right _ _) (ar (Nat.le_add_right _ _) (ar (Nat.le_add_right _ _) ak))))
set_option smartUnfolding true
theorem jc : sB.length = 1 := by decide +kernel
set_option smartUnfolding false
theorem lT (v : VF) (ps : List Pt) (ep : Nat) (tk tz : Tok) (z : Nat) (t0 : Obj) (bK : bg t0) (bU : ∀ q ∈ ps, q.ok) (h5 : ps.length ≤ 5) (x : Str) (tf tx : Tok) (hx : x.length ≤ 10)
  (m : Nat) (hm : z + bw ps + (1 + x.length) = m) (fh : m ≤ v.wd) (ka : m ≤ 1000) :
  af w b 16 (.call (.ref 91) ⟨[.ref v.aV, .str sB tf, .str x tx], []⟩)
   [(v.aV, v.O), (v.de, v.D w), (v.aA, aq v.aD (bE (as ps)) ep), (v.aD, bJ (au w "_initial_size") tk tz z), (140, t0)] (ps.map Pt.K)
   (X := Addr × Nat × Obj) (fun y => bg y.2.2) (fun y => .ok (.ret .none)) (fun y => [(v.aV, v.O), (v.de, v.D w), (v.aA, aq v.aD (bE (as ps) ++ [.ref y.1]) y.2.1), (v.aD, bJ (au w "_initial_size") tk tz z), (140, y.2.2)]) (fun y => [(y.1, aj [.str sB tf, .str x tx])]) := by
 have gi : ∀ a', ∀ q ∈ ps ++ [(⟨a', sB, tf, x, tx⟩ : Pt)], q.ok := fun a' q hq => by
  rcases List.mem_append.mp hq with h | h
  ·exact bU q h
  ·rw [List.mem_singleton.mp h]
   exact ⟨by show sB.length ≤ 10; rw [jc]; decide, hx⟩
 have hlen : ∀ a', z + bw (ps ++ [(⟨a', sB, tf, x, tx⟩ : Pt)]) = m := fun a' => by
  have e := jc
  simp [bw, Pt.len, e]
  simp [bw] at hm
  lia
 have f6 : ¬ ((v.wd : Int) < (m : Int)) := by lia
 exists zA, 16, 5580357142551, zd, zc, a
 (refine zP 46 235491526879522268796454242784242566416115275015943880351 (bB lL 91 zc.S []) ?_; intro ou)
 exists zH, 26, 3143945805763750797194017551, [2, 3], push v.aA v.aD (bE (as ps)) ep (au w "_initial_size") tk tz z tf tx sB x (by simp [bE, as]; exact aO), y4, n4, t4, G4, a4, _, dH
 (refine yG (Ta := [(y4.1, aj [.str sB tf, .str x tx])]) 23 1257578322305500318877607 [2, 3, 4] [6] (ps.map Pt.K) (lR v.aA v.aD t0 bK (au w "_initial_size") tk tz ps ⟨y4.1, sB, tf, x, tx⟩ y4.2 (gi _) z m (hlen _) (by exact aO)) (fun _ h => h) zc.ro.nd @fun y5 n5 t5 G5 a5 eo _ => ?_; intro ou)
 exists zH, 1, 0, [], (dU m v.wd y5.1 v.t1).cO f6, _, n6, t6
 exact zN 5 [false, true] (y4.1, y4.2, y5.2) (hx := eo) (hs := dH)
theorem qM (v : VF) (p1 : Pt) (ep : Nat) (tk tz : Tok) (z : Nat) (ls : List Value) (e1 : Nat) (ir : ls.length ≤ 100) (t0 t1 : Obj) (bK : bg t0) (bR : bo t1) (bU : ∀ q ∈ [p1], q.ok) (x : Str) (tf tx : Tok) (hx : x.length ≤ 10)
  (m : Nat) (hm : z + bw [p1] + (1 + x.length) = m) (fh : v.wd < m) (ka : m ≤ 1000) :
  af w b 18 (.call (.ref 91) ⟨[.ref v.aV, .str sB tf, .str x tx], []⟩)
   [(v.aV, v.O), (v.de, v.D w), (v.aA, aq v.aD (bE (as [p1])) ep), (v.aD, bJ (au w "_initial_size") tk tz z), (v.aL, aa ls e1), (140, t0), (147, t1)] ([p1].map Pt.K)
   (X := Addr × Nat × Tok × Nat × Tok × Obj × Obj) (fun y => bg y.2.2.2.2.2.1 ∧ bo y.2.2.2.2.2.2) (fun y => .ok (.ret .none)) (fun y => [(v.aV, v.O), (v.de, v.D w), (v.aA, aq v.aD [.ref y.1] y.2.1), (v.aD, bJ (au w "_initial_size") tk y.2.2.1 (0 : Nat)), (v.aL, aa (ls ++ [.str (strOf [p1]) y.2.2.2.2.1]) y.2.2.2.1), (140, y.2.2.2.2.2.1), (147, y.2.2.2.2.2.2)]) (fun y => [(y.1, aj [.str sB tf, .str x tx])]) := by
 have gi : ∀ a', ∀ q ∈ [p1] ++ [(⟨a', sB, tf, x, tx⟩ : Pt)], q.ok := fun a' q hq => by
  rcases List.mem_append.mp hq with h | h
  ·exact bU q h
  ·rw [List.mem_singleton.mp h]
   exact ⟨by show sB.length ≤ 10; rw [jc]; decide, hx⟩
 have hlen : ∀ a', z + bw ([p1] ++ [(⟨a', sB, tf, x, tx⟩ : Pt)]) = m := fun a' => by
  have e := jc
  simp [bw, Pt.len, e]
  simp [bw, Pt.len] at hm
  lia
 have f6 : (v.wd : Int) < (m : Int) := by exact j7
 exists zA, 16, 7174744897551, zd, zc, a
 (refine zP 46 235586521782133047605047992784242566416115275015943880451 (bB lL 91 zc.S []) ?_; intro ou)
 exists zH, 26, 3143945805763750797194022551, [2, 3], push v.aA v.aD (bE (as [p1])) ep (au w "_initial_size") tk tz z tf tx sB x (by simp [bE, as]), y4, n4, t4, G4, a4, _, dH
 (refine yG (Ta := [(y4.1, aj [.str sB tf, .str x tx])]) 23 1257578322305500318877609 [2, 3, 5] [8] ([p1].map Pt.K) (lR v.aA v.aD t0 bK (au w "_initial_size") tk tz [p1] ⟨y4.1, sB, tf, x, tx⟩ y4.2 (gi _) z m (hlen _) (by exact aO)) (fun _ h => h) zc.ro.nd @fun y5 n5 t5 G5 a5 eo _ => ?_; intro ou)
 exists yH, 89, 1753833331398313886332191233384728731872048525957026537948731256986246341798432043711134805500318877609, [], (dU m v.wd y5.1 v.t1).ck f6, _, n6, t6
 exists yH, 209, 3806045030804398600149879946241496635882963266420349445360942851959693703023147956576981601198702225769769890227773260239292522373972940623300062131388493034304315302552300569920503608545224730938297193877551, [2], gq v.aA v.aD (bE (as [p1]) ++ [.ref y4.1]) y4.2, y7, n7, t7
 exists zH, 58, 29983003671300418826999879370903482147852055763750797194022959, [2], jJ v.aA v.aD (as [p1]) y4.1 y4.2 (t7 + 5) (by simp [as]) (by simp [as]), y8, n8, t8
 exists zI, 3, 2, [2, 6], lP v.aA v.aD t1 bR [p1] y8.2 bU (by simp) (by simp), y9, n9, t9, G9, a9, mH, _
 exists zH, 43, 94233110699118471632209855684851328322305500318877609, [4], bT v.aL ls e1 (.str (strOf [p1]) y9.1) (by exact aO), kb, qZ, q6
 exists zH, 2, 0, [2, 3, 12], kA v.aA v.aD y8.1 y4.1 (as [p1]) y8.2 0 tk tz z (by simp [as]) (by simp [as]), jd, x8, x9
 exact zN 7 [false, true] (y4.1, jd.1, jd.2, kb, y9.1, y5.2, y9.2) (hx := ⟨eo, mH⟩) (hs := dH)
theorem qN (v : VF) (p1 p2 : Pt) (ep : Nat) (tk tz : Tok) (z : Nat) (ls : List Value) (e1 : Nat) (ir : ls.length ≤ 100) (t0 t1 : Obj) (bK : bg t0) (bR : bo t1) (bU : ∀ q ∈ [p1, p2], q.ok) (x : Str) (tf tx : Tok) (hx : x.length ≤ 10)
  (m : Nat) (hm : z + bw [p1, p2] + (1 + x.length) = m) (fh : v.wd < m) (ka : m ≤ 1000) :
  af w b 18 (.call (.ref 91) ⟨[.ref v.aV, .str sB tf, .str x tx], []⟩)
   [(v.aV, v.O), (v.de, v.D w), (v.aA, aq v.aD (bE (as [p1, p2])) ep), (v.aD, bJ (au w "_initial_size") tk tz z), (v.aL, aa ls e1), (140, t0), (147, t1)] ([p1, p2].map Pt.K)
   (X := Addr × Nat × Tok × Nat × Tok × Obj × Obj) (fun y => bg y.2.2.2.2.2.1 ∧ bo y.2.2.2.2.2.2) (fun y => .ok (.ret .none)) (fun y => [(v.aV, v.O), (v.de, v.D w), (v.aA, aq v.aD [.ref y.1] y.2.1), (v.aD, bJ (au w "_initial_size") tk y.2.2.1 (0 : Nat)), (v.aL, aa (ls ++ [.str (strOf [p1, p2]) y.2.2.2.2.1]) y.2.2.2.1), (140, y.2.2.2.2.2.1), (147, y.2.2.2.2.2.2)]) (fun y => [(y.1, aj [.str sB tf, .str x tx])]) := by
 have gi : ∀ a', ∀ q ∈ [p1, p2] ++ [(⟨a', sB, tf, x, tx⟩ : Pt)], q.ok := fun a' q hq => by
  rcases List.mem_append.mp hq with h | h
  ·exact bU q h
  ·rw [List.mem_singleton.mp h]
   exact ⟨by show sB.length ≤ 10; rw [jc]; decide, hx⟩
 have hlen : ∀ a', z + bw ([p1, p2] ++ [(⟨a', sB, tf, x, tx⟩ : Pt)]) = m := fun a' => by
  have e := jc
  simp [bw, Pt.len, e]
  simp [bw, Pt.len] at hm
  lia
 have f6 : (v.wd : Int) < (m : Int) := by exact j7
 exists zA, 16, 7174744897551, zd, zc, a
 (refine zP 46 235586521782133047605047992784242566416115275015943880451 (bB lL 91 zc.S []) ?_; intro ou)
 exists zH, 26, 3143945805763750797194022551, [2, 3], push v.aA v.aD (bE (as [p1, p2])) ep (au w "_initial_size") tk tz z tf tx sB x (by simp [bE, as]), y4, n4, t4, G4, a4, _, dH
 (refine yG (Ta := [(y4.1, aj [.str sB tf, .str x tx])]) 23 1257578322305500318877609 [2, 3, 5] [8] ([p1, p2].map Pt.K) (lR v.aA v.aD t0 bK (au w "_initial_size") tk tz [p1, p2] ⟨y4.1, sB, tf, x, tx⟩ y4.2 (gi _) z m (hlen _) (by exact aO)) (fun _ h => h) zc.ro.nd @fun y5 n5 t5 G5 a5 eo _ => ?_; intro ou)
 exists yH, 89, 1753833331398313886332191233384728731872048525957026537948731256986246341798432043711134805500318877609, [], (dU m v.wd y5.1 v.t1).ck f6, _, n6, t6
 exists yH, 209, 3806045030804398600149879946241496635882963266420349445360942851959693703023147956576981601198702225769769890227773260239292522373972940623300062131388493034304315302552300569920503608545224730938297193877551, [2], gq v.aA v.aD (bE (as [p1, p2]) ++ [.ref y4.1]) y4.2, y7, n7, t7
 exists zH, 58, 29983003671300418826999879370903482147852055763750797194022959, [2], jJ v.aA v.aD (as [p1, p2]) y4.1 y4.2 (t7 + 5) (by simp [as]) (by simp [as]), y8, n8, t8
 exists zI, 3, 2, [2, 6], lP v.aA v.aD t1 bR [p1, p2] y8.2 bU (by simp) (by simp), y9, n9, t9, G9, a9, mH, _
 exists zH, 43, 94233110699118471632209855684851328322305500318877609, [4], bT v.aL ls e1 (.str (strOf [p1, p2]) y9.1) (by exact aO), kb, qZ, q6
 exists zH, 2, 0, [2, 3, 12], kA v.aA v.aD y8.1 y4.1 (as [p1, p2]) y8.2 0 tk tz z (by simp [as]) (by simp [as]), jd, x8, x9
 exact zN 7 [false, true] (y4.1, jd.1, jd.2, kb, y9.1, y5.2, y9.2) (hx := ⟨eo, mH⟩) (hs := dH)
theorem qO (v : VF) (p1 p2 p3 : Pt) (ep : Nat) (tk tz : Tok) (z : Nat) (ls : List Value) (e1 : Nat) (ir : ls.length ≤ 100) (t0 t1 : Obj) (bK : bg t0) (bR : bo t1) (bU : ∀ q ∈ [p1, p2, p3], q.ok) (x : Str) (tf tx : Tok) (hx : x.length ≤ 10)
  (m : Nat) (hm : z + bw [p1, p2, p3] + (1 + x.length) = m) (fh : v.wd < m) (ka : m ≤ 1000) :
  af w b 18 (.call (.ref 91) ⟨[.ref v.aV, .str sB tf, .str x tx], []⟩)
   [(v.aV, v.O), (v.de, v.D w), (v.aA, aq v.aD (bE (as [p1, p2, p3])) ep), (v.aD, bJ (au w "_initial_size") tk tz z), (v.aL, aa ls e1), (140, t0), (147, t1)] ([p1, p2, p3].map Pt.K)
   (X := Addr × Nat × Tok × Nat × Tok × Obj × Obj) (fun y => bg y.2.2.2.2.2.1 ∧ bo y.2.2.2.2.2.2) (fun y => .ok (.ret .none)) (fun y => [(v.aV, v.O), (v.de, v.D w), (v.aA, aq v.aD [.ref y.1] y.2.1), (v.aD, bJ (au w "_initial_size") tk y.2.2.1 (0 : Nat)), (v.aL, aa (ls ++ [.str (strOf [p1, p2, p3]) y.2.2.2.2.1]) y.2.2.2.1), (140, y.2.2.2.2.2.1), (147, y.2.2.2.2.2.2)]) (fun y => [(y.1, aj [.str sB tf, .str x tx])]) := by
 have gi : ∀ a', ∀ q ∈ [p1, p2, p3] ++ [(⟨a', sB, tf, x, tx⟩ : Pt)], q.ok := fun a' q hq => by
  rcases List.mem_append.mp hq with h | h
  ·exact bU q h
  ·rw [List.mem_singleton.mp h]
   exact ⟨by show sB.length ≤ 10; rw [jc]; decide, hx⟩
 have hlen : ∀ a', z + bw ([p1, p2, p3] ++ [(⟨a', sB, tf, x, tx⟩ : Pt)]) = m := fun a' => by
  have e := jc
  simp [bw, Pt.len, e]
  simp [bw, Pt.len] at hm
  lia
 have f6 : (v.wd : Int) < (m : Int) := by exact j7
 exists zA, 16, 7174744897551, zd, zc, a
 (refine zP 46 235586521782133047605047992784242566416115275015943880451 (bB lL 91 zc.S []) ?_; intro ou)
 exists zH, 26, 3143945805763750797194022551, [2, 3], push v.aA v.aD (bE (as [p1, p2, p3])) ep (au w "_initial_size") tk tz z tf tx sB x (by simp [bE, as]), y4, n4, t4, G4, a4, _, dH
 (refine yG (Ta := [(y4.1, aj [.str sB tf, .str x tx])]) 23 1257578322305500318877609 [2, 3, 5] [8] ([p1, p2, p3].map Pt.K) (lR v.aA v.aD t0 bK (au w "_initial_size") tk tz [p1, p2, p3] ⟨y4.1, sB, tf, x, tx⟩ y4.2 (gi _) z m (hlen _) (by exact aO)) (fun _ h => h) zc.ro.nd @fun y5 n5 t5 G5 a5 eo _ => ?_; intro ou)
 exists yH, 89, 1753833331398313886332191233384728731872048525957026537948731256986246341798432043711134805500318877609, [], (dU m v.wd y5.1 v.t1).ck f6, _, n6, t6
 exists yH, 209, 3806045030804398600149879946241496635882963266420349445360942851959693703023147956576981601198702225769769890227773260239292522373972940623300062131388493034304315302552300569920503608545224730938297193877551, [2], gq v.aA v.aD (bE (as [p1, p2, p3]) ++ [.ref y4.1]) y4.2, y7, n7, t7
 exists zH, 58, 29983003671300418826999879370903482147852055763750797194022959, [2], jJ v.aA v.aD (as [p1, p2, p3]) y4.1 y4.2 (t7 + 5) (by simp [as]) (by simp [as]), y8, n8, t8
 exists zI, 3, 2, [2, 6], lP v.aA v.aD t1 bR [p1, p2, p3] y8.2 bU (by simp) (by simp), y9, n9, t9, G9, a9, mH, _
 exists zH, 43, 94233110699118471632209855684851328322305500318877609, [4], bT v.aL ls e1 (.str (strOf [p1, p2, p3]) y9.1) (by exact aO), kb, qZ, q6
 exists zH, 2, 0, [2, 3, 12], kA v.aA v.aD y8.1 y4.1 (as [p1, p2, p3]) y8.2 0 tk tz z (by simp [as]) (by simp [as]), jd, x8, x9
 exact zN 7 [false, true] (y4.1, jd.1, jd.2, kb, y9.1, y5.2, y9.2) (hx := ⟨eo, mH⟩) (hs := dH)
theorem qP (v : VF) (p1 p2 p3 p4 : Pt) (ep : Nat) (tk tz : Tok) (z : Nat) (ls : List Value) (e1 : Nat) (ir : ls.length ≤ 100) (t0 t1 : Obj) (bK : bg t0) (bR : bo t1) (bU : ∀ q ∈ [p1, p2, p3, p4], q.ok) (x : Str) (tf tx : Tok) (hx : x.length ≤ 10)
  (m : Nat) (hm : z + bw [p1, p2, p3, p4] + (1 + x.length) = m) (fh : v.wd < m) (ka : m ≤ 1000) :
  af w b 18 (.call (.ref 91) ⟨[.ref v.aV, .str sB tf, .str x tx], []⟩)
   [(v.aV, v.O), (v.de, v.D w), (v.aA, aq v.aD (bE (as [p1, p2, p3, p4])) ep), (v.aD, bJ (au w "_initial_size") tk tz z), (v.aL, aa ls e1), (140, t0), (147, t1)] ([p1, p2, p3, p4].map Pt.K)
   (X := Addr × Nat × Tok × Nat × Tok × Obj × Obj) (fun y => bg y.2.2.2.2.2.1 ∧ bo y.2.2.2.2.2.2) (fun y => .ok (.ret .none)) (fun y => [(v.aV, v.O), (v.de, v.D w), (v.aA, aq v.aD [.ref y.1] y.2.1), (v.aD, bJ (au w "_initial_size") tk y.2.2.1 (0 : Nat)), (v.aL, aa (ls ++ [.str (strOf [p1, p2, p3, p4]) y.2.2.2.2.1]) y.2.2.2.1), (140, y.2.2.2.2.2.1), (147, y.2.2.2.2.2.2)]) (fun y => [(y.1, aj [.str sB tf, .str x tx])]) := by
 have gi : ∀ a', ∀ q ∈ [p1, p2, p3, p4] ++ [(⟨a', sB, tf, x, tx⟩ : Pt)], q.ok := fun a' q hq => by
  rcases List.mem_append.mp hq with h | h
  ·exact bU q h
  ·rw [List.mem_singleton.mp h]
   exact ⟨by show sB.length ≤ 10; rw [jc]; decide, hx⟩
 have hlen : ∀ a', z + bw ([p1, p2, p3, p4] ++ [(⟨a', sB, tf, x, tx⟩ : Pt)]) = m := fun a' => by
  have e := jc
  simp [bw, Pt.len, e]
  simp [bw, Pt.len] at hm
  lia
 have f6 : (v.wd : Int) < (m : Int) := by exact j7
 exists zA, 16, 7174744897551, zd, zc, a
 (refine zP 46 235586521782133047605047992784242566416115275015943880451 (bB lL 91 zc.S []) ?_; intro ou)
 exists zH, 26, 3143945805763750797194022551, [2, 3], push v.aA v.aD (bE (as [p1, p2, p3, p4])) ep (au w "_initial_size") tk tz z tf tx sB x (by simp [bE, as]), y4, n4, t4, G4, a4, _, dH
 (refine yG (Ta := [(y4.1, aj [.str sB tf, .str x tx])]) 23 1257578322305500318877609 [2, 3, 5] [8] ([p1, p2, p3, p4].map Pt.K) (lR v.aA v.aD t0 bK (au w "_initial_size") tk tz [p1, p2, p3, p4] ⟨y4.1, sB, tf, x, tx⟩ y4.2 (gi _) z m (hlen _) (by exact aO)) (fun _ h => h) zc.ro.nd @fun y5 n5 t5 G5 a5 eo _ => ?_; intro ou)
 exists yH, 89, 1753833331398313886332191233384728731872048525957026537948731256986246341798432043711134805500318877609, [], (dU m v.wd y5.1 v.t1).ck f6, _, n6, t6
 exists yH, 209, 3806045030804398600149879946241496635882963266420349445360942851959693703023147956576981601198702225769769890227773260239292522373972940623300062131388493034304315302552300569920503608545224730938297193877551, [2], gq v.aA v.aD (bE (as [p1, p2, p3, p4]) ++ [.ref y4.1]) y4.2, y7, n7, t7
 exists zH, 58, 29983003671300418826999879370903482147852055763750797194022959, [2], jJ v.aA v.aD (as [p1, p2, p3, p4]) y4.1 y4.2 (t7 + 5) (by simp [as]) (by simp [as]), y8, n8, t8
 exists zI, 3, 2, [2, 6], lP v.aA v.aD t1 bR [p1, p2, p3, p4] y8.2 bU (by simp) (by simp), y9, n9, t9, G9, a9, mH, _
 exists zH, 43, 94233110699118471632209855684851328322305500318877609, [4], bT v.aL ls e1 (.str (strOf [p1, p2, p3, p4]) y9.1) (by exact aO), kb, qZ, q6
 exists zH, 2, 0, [2, 3, 12], kA v.aA v.aD y8.1 y4.1 (as [p1, p2, p3, p4]) y8.2 0 tk tz z (by simp [as]) (by simp [as]), jd, x8, x9
 exact zN 7 [false, true] (y4.1, jd.1, jd.2, kb, y9.1, y5.2, y9.2) (hx := ⟨eo, mH⟩) (hs := dH)
theorem qQ (v : VF) (p1 p2 p3 p4 p5 : Pt) (ep : Nat) (tk tz : Tok) (z : Nat) (ls : List Value) (e1 : Nat) (ir : ls.length ≤ 100) (t0 t1 : Obj) (bK : bg t0) (bR : bo t1) (bU : ∀ q ∈ [p1, p2, p3, p4, p5], q.ok) (x : Str) (tf tx : Tok) (hx : x.length ≤ 10)
  (m : Nat) (hm : z + bw [p1, p2, p3, p4, p5] + (1 + x.length) = m) (fh : v.wd < m) (ka : m ≤ 1000) :
  af w b 18 (.call (.ref 91) ⟨[.ref v.aV, .str sB tf, .str x tx], []⟩)
   [(v.aV, v.O), (v.de, v.D w), (v.aA, aq v.aD (bE (as [p1, p2, p3, p4, p5])) ep), (v.aD, bJ (au w "_initial_size") tk tz z), (v.aL, aa ls e1), (140, t0), (147, t1)] ([p1, p2, p3, p4, p5].map Pt.K)
   (X := Addr × Nat × Tok × Nat × Tok × Obj × Obj) (fun y => bg y.2.2.2.2.2.1 ∧ bo y.2.2.2.2.2.2) (fun y => .ok (.ret .none)) (fun y => [(v.aV, v.O), (v.de, v.D w), (v.aA, aq v.aD [.ref y.1] y.2.1), (v.aD, bJ (au w "_initial_size") tk y.2.2.1 (0 : Nat)), (v.aL, aa (ls ++ [.str (strOf [p1, p2, p3, p4, p5]) y.2.2.2.2.1]) y.2.2.2.1), (140, y.2.2.2.2.2.1), (147, y.2.2.2.2.2.2)]) (fun y => [(y.1, aj [.str sB tf, .str x tx])]) := by
 have gi : ∀ a', ∀ q ∈ [p1, p2, p3, p4, p5] ++ [(⟨a', sB, tf, x, tx⟩ : Pt)], q.ok := fun a' q hq => by
  rcases List.mem_append.mp hq with h | h
  ·exact bU q h
  ·rw [List.mem_singleton.mp h]
   exact ⟨by show sB.length ≤ 10; rw [jc]; decide, hx⟩
 have hlen : ∀ a', z + bw ([p1, p2, p3, p4, p5] ++ [(⟨a', sB, tf, x, tx⟩ : Pt)]) = m := fun a' => by
  have e := jc
  simp [bw, Pt.len, e]
  simp [bw, Pt.len] at hm
  lia
 have f6 : (v.wd : Int) < (m : Int) := by exact j7
 exists zA, 16, 7174744897551, zd, zc, a
 (refine zP 46 235586521782133047605047992784242566416115275015943880451 (bB lL 91 zc.S []) ?_; intro ou)
 exists zH, 26, 3143945805763750797194022551, [2, 3], push v.aA v.aD (bE (as [p1, p2, p3, p4, p5])) ep (au w "_initial_size") tk tz z tf tx sB x (by simp [bE, as]), y4, n4, t4, G4, a4, _, dH
 (refine yG (Ta := [(y4.1, aj [.str sB tf, .str x tx])]) 23 1257578322305500318877609 [2, 3, 5] [8] ([p1, p2, p3, p4, p5].map Pt.K) (lR v.aA v.aD t0 bK (au w "_initial_size") tk tz [p1, p2, p3, p4, p5] ⟨y4.1, sB, tf, x, tx⟩ y4.2 (gi _) z m (hlen _) (by exact aO)) (fun _ h => h) zc.ro.nd @fun y5 n5 t5 G5 a5 eo _ => ?_; intro ou)
 exists yH, 89, 1753833331398313886332191233384728731872048525957026537948731256986246341798432043711134805500318877609, [], (dU m v.wd y5.1 v.t1).ck f6, _, n6, t6
 exists yH, 209, 3806045030804398600149879946241496635882963266420349445360942851959693703023147956576981601198702225769769890227773260239292522373972940623300062131388493034304315302552300569920503608545224730938297193877551, [2], gq v.aA v.aD (bE (as [p1, p2, p3, p4, p5]) ++ [.ref y4.1]) y4.2, y7, n7, t7
 exists zH, 58, 29983003671300418826999879370903482147852055763750797194022959, [2], jJ v.aA v.aD (as [p1, p2, p3, p4, p5]) y4.1 y4.2 (t7 + 5) (by simp [as]) (by simp [as]), y8, n8, t8
 exists zI, 3, 2, [2, 6], lP v.aA v.aD t1 bR [p1, p2, p3, p4, p5] y8.2 bU (by simp) (by simp), y9, n9, t9, G9, a9, mH, _
 exists zH, 43, 94233110699118471632209855684851328322305500318877609, [4], bT v.aL ls e1 (.str (strOf [p1, p2, p3, p4, p5]) y9.1) (by exact aO), kb, qZ, q6
 exists zH, 2, 0, [2, 3, 12], kA v.aA v.aD y8.1 y4.1 (as [p1, p2, p3, p4, p5]) y8.2 0 tk tz z (by simp [as]) (by simp [as]), jd, x8, x9
 exact zN 7 [false, true] (y4.1, jd.1, jd.2, kb, y9.1, y5.2, y9.2) (hx := ⟨eo, mH⟩) (hs := dH)
set_option smartUnfolding true
theorem tR (v : VF) (ps : List Pt) (h1 : 1 ≤ ps.length) (h5 : ps.length ≤ 5) (ep : Nat) (tk tz : Tok) (z : Nat) (ls : List Value) (e1 : Nat) (ir : ls.length ≤ 100) (t0 t1 : Obj) (bK : bg t0) (bR : bo t1) (bU : ∀ q ∈ ps, q.ok) (x : Str) (tf tx : Tok) (hx : x.length ≤ 10)
  (m : Nat) (hm : z + bw ps + (1 + x.length) = m) (fh : v.wd < m) (ka : m ≤ 1000) :
  af w b 18 (.call (.ref 91) ⟨[.ref v.aV, .str sB tf, .str x tx], []⟩)
   [(v.aV, v.O), (v.de, v.D w), (v.aA, aq v.aD (bE (as ps)) ep), (v.aD, bJ (au w "_initial_size") tk tz z), (v.aL, aa ls e1), (140, t0), (147, t1)] (ps.map Pt.K)
   (X := Addr × Nat × Tok × Nat × Tok × Obj × Obj) (fun y => bg y.2.2.2.2.2.1 ∧ bo y.2.2.2.2.2.2) (fun y => .ok (.ret .none)) (fun y => [(v.aV, v.O), (v.de, v.D w), (v.aA, aq v.aD [.ref y.1] y.2.1), (v.aD, bJ (au w "_initial_size") tk y.2.2.1 (0 : Nat)), (v.aL, aa (ls ++ [.str (strOf ps) y.2.2.2.2.1]) y.2.2.2.1), (140, y.2.2.2.2.2.1), (147, y.2.2.2.2.2.2)]) (fun y => [(y.1, aj [.str sB tf, .str x tx])]) := by
 rcases six ps h1 (by exact aO) with ⟨p1, rfl⟩ | ⟨p1, p2, rfl⟩ | ⟨p1, p2, p3, rfl⟩ | ⟨p1, p2, p3, p4, rfl⟩ | ⟨p1, p2, p3, p4, p5, rfl⟩ | ⟨p1, p2, p3, p4, p5, p6, rfl⟩
 ·exact qM v p1 ep tk tz z ls e1 ir t0 t1 bK bR bU x tf tx hx m hm fh ka
 ·exact qN v p1 p2 ep tk tz z ls e1 ir t0 t1 bK bR bU x tf tx hx m hm fh ka
 ·exact qO v p1 p2 p3 ep tk tz z ls e1 ir t0 t1 bK bR bU x tf tx hx m hm fh ka
 ·exact qP v p1 p2 p3 p4 ep tk tz z ls e1 ir t0 t1 bK bR bU x tf tx hx m hm fh ka
 ·exact qQ v p1 p2 p3 p4 p5 ep tk tz z ls e1 ir t0 t1 bK bR bU x tf tx hx m hm fh ka
 ·simp at h5
theorem vE (v : VF) (qs : List Pt) (p : Pt) (oo : p.f = sB) (oq : p.x ≠ Str.ofString "") (ep : Nat) (tk tz : Tok) (z : Nat) (qY : z ≤ 100) (ls : List Value) (e1 : Nat) (ir : ls.length ≤ 100) (t0 t1 : Obj) (bK : bg t0) (bR : bo t1)
  (bU : ∀ q ∈ qs ++ [p], q.ok) (h6 : qs.length ≤ 5) (hp : 0 < bw (qs ++ [p])) (lF : bw (qs ++ [p]) ≤ 1000) (iQ : (strOf (qs ++ [p])).cps.all Unicode.isSpace = false) :
  af w b 18 (.call (.ref 56) ⟨[.ref v.aV], []⟩)
   [(v.aV, v.O), (v.de, v.D w), (v.aA, aq v.aD (bE (as (qs ++ [p]))) ep), (v.aD, bJ (au w "_initial_size") tk tz z), (v.aL, aa ls e1), (140, t0), (147, t1)] ((qs ++ [p]).map Pt.K)
   (X := Nat × Tok × Nat × Tok × Obj × Obj) (fun y => bg y.2.2.2.2.1 ∧ bo y.2.2.2.2.2) (fun y => .ok (.ret .none)) (fun y => [(v.aV, v.O), (v.de, v.D w), (v.aA, aq v.aD [] y.1), (v.aD, bJ (au w "_initial_size") tk y.2.1 (0 : Nat)), (v.aL, aa (ls ++ [.str (strOf (qs ++ [p])) y.2.2.2.1]) y.2.2.1), (140, y.2.2.2.2.1), (147, y.2.2.2.2.2)]) (fun _ => []) := by
 have h := newline (w := w) (b := b) v qs p oo oq ep tk tz z qY ls e1 ir t0 t1 bK bR bU h6 hp lF iQ
 have e : bE (as (qs ++ [p])) = bE (as qs) ++ [.ref p.a] := by simp [bE, as]
 rw [e]
 exact (af.iL (T1 := [p.K]) (K := [(v.aV, v.O), (v.de, v.D w), (v.aA, aq v.aD (bE (as qs) ++ [.ref p.a]) ep), (v.aD, bJ (au w "_initial_size") tk tz z), (v.aL, aa ls e1), (140, t0), (147, t1)])
  (Kf := fun (y : Nat × Tok × Nat × Tok × Obj × Obj) => [(v.aV, v.O), (v.de, v.D w), (v.aA, aq v.aD [] y.1), (v.aD, bJ (au w "_initial_size") tk y.2.1 (0 : Nat)), (v.aL, aa (ls ++ [.str (strOf (qs ++ [p])) y.2.2.2.1]) y.2.2.1), (140, y.2.2.2.2.1), (147, y.2.2.2.2.2)]) h).perm (gr qs p).symm
set_option smartUnfolding false
theorem Ai (a : Addr) (k : Nat) (tk : Tok) :
  af w b 3 (.call (.builtin "tuple.__contains__") ⟨[.ref a, .int k tk], []⟩) [(a, aj [])] []
   (X := Bool) (fun v => v = true ↔ k ∈ ([] : List Nat)) (fun v => .ok (.ret (.bool v))) (fun _ => [(a, aj [])]) (fun _ => []) := by
 exists zA, 4, 5052, zd, zc, a0
 exact zN 1 [] false (hx := (by (with_reducible conv => whnf); simp))
theorem Aj (a : Addr) (c1 : Nat) (q1 : Tok) (k : Nat) (tk : Tok) :
  af w b 3 (.call (.builtin "tuple.__contains__") ⟨[.ref a, .int k tk], []⟩) [(a, aj [.int (c1 : Nat) q1])] []
   (X := Bool) (fun v => v = true ↔ k ∈ ([c1] : List Nat)) (fun v => .ok (.ret (.bool v))) (fun _ => [(a, aj [.int (c1 : Nat) q1])]) (fun _ => []) := by
 exists zA, 3, 5052, zd, zc, a0
 refine dM ?_
 by_cases h1 : (Value.int (c1 : Nat) q1 = Value.int k tk)
 ·exists ao, ah (ah (ah (bt (cy h1))))
  exists zg, 2, 0
  exact zN 1 [] true (hx := (by (with_reducible conv => whnf); injection h1 with e; have e := Int.ofNat.inj e; simp [e]))
 exists ao, ah (ah (ah (bf (b5 h1))))
 exists yg, 2, 2
 by_cases e1 : ((c1 : Nat) : Int) = (k : Nat)
 ·exists zH, 1, 0, [], (bu (c1 : Nat) k q1 tk).ck e1, _, n1, t1
  exact zN 1 [] true (hx := (by (with_reducible conv => whnf); have e := Int.ofNat.inj e1; simp [e]))
 exists zH, 1, 0, [], (bu (c1 : Nat) k q1 tk).cO e1, _, n1, t1
 exact zN 1 [] false (hx := (by (with_reducible conv => whnf); have f1 : ¬ (k = c1) := fun h => e1 (by rw [h]); simp [f1]))
theorem Ak (a : Addr) (c1 c2 : Nat) (q1 q2 : Tok) (k : Nat) (tk : Tok) :
  af w b 3 (.call (.builtin "tuple.__contains__") ⟨[.ref a, .int k tk], []⟩) [(a, aj [.int (c1 : Nat) q1, .int (c2 : Nat) q2])] []
   (X := Bool) (fun v => v = true ↔ k ∈ ([c1, c2] : List Nat)) (fun v => .ok (.ret (.bool v))) (fun _ => [(a, aj [.int (c1 : Nat) q1, .int (c2 : Nat) q2])]) (fun _ => []) := by
 exists zA, 3, 5052, zd, zc, a0
 refine dM ?_
 by_cases h1 : (Value.int (c1 : Nat) q1 = Value.int k tk)
 ·exists ao, ah (ah (ah (bt (cy h1))))
  exists zg, 2, 0
  exact zN 1 [] true (hx := (by (with_reducible conv => whnf); injection h1 with e; have e := Int.ofNat.inj e; simp [e]))
 exists ao, ah (ah (ah (bf (b5 h1))))
 exists yg, 2, 2
 by_cases e1 : ((c1 : Nat) : Int) = (k : Nat)
 ·exists zH, 1, 0, [], (bu (c1 : Nat) k q1 tk).ck e1, _, n1, t1
  exact zN 1 [] true (hx := (by (with_reducible conv => whnf); have e := Int.ofNat.inj e1; simp [e]))
 refine zK [] ((bu (c1 : Nat) k q1 tk).cO e1) @fun _ n1 t1 _ _ _ _ => ?_
 by_cases h2 : (Value.int (c2 : Nat) q2 = Value.int k tk)
 ·exists ao, ah (ah (ah (bt (cy h2))))
  exists zg, 2, 0
  exact zN 1 [] true (hx := (by (with_reducible conv => whnf); injection h2 with e; have e := Int.ofNat.inj e; simp [e]))
 exists ao, ah (ah (ah (bf (b5 h2))))
 exists yg, 2, 2
 by_cases e2 : ((c2 : Nat) : Int) = (k : Nat)
 ·exists zH, 1, 0, [], (bu (c2 : Nat) k q2 tk).ck e2, _, n2, t2
  exact zN 1 [] true (hx := (by (with_reducible conv => whnf); have e := Int.ofNat.inj e2; simp [e]))
 exists zH, 1, 0, [], (bu (c2 : Nat) k q2 tk).cO e2, _, n2, t2
 exact zN 1 [] false (hx := (by (with_reducible conv => whnf); have f1 : ¬ (k = c1) := fun h => e1 (by rw [h]); have f2 : ¬ (k = c2) := fun h => e2 (by rw [h]); simp [f1, f2]))
theorem Al (a : Addr) (c1 c2 c3 : Nat) (q1 q2 q3 : Tok) (k : Nat) (tk : Tok) :
  af w b 3 (.call (.builtin "tuple.__contains__") ⟨[.ref a, .int k tk], []⟩) [(a, aj [.int (c1 : Nat) q1, .int (c2 : Nat) q2, .int (c3 : Nat) q3])] []
   (X := Bool) (fun v => v = true ↔ k ∈ ([c1, c2, c3] : List Nat)) (fun v => .ok (.ret (.bool v))) (fun _ => [(a, aj [.int (c1 : Nat) q1, .int (c2 : Nat) q2, .int (c3 : Nat) q3])]) (fun _ => []) := by
 exists zA, 3, 5052, zd, zc, a0
 refine dM ?_
 by_cases h1 : (Value.int (c1 : Nat) q1 = Value.int k tk)
 ·exists ao, ah (ah (ah (bt (cy h1))))
  exists zg, 2, 0
  exact zN 1 [] true (hx := (by (with_reducible conv => whnf); injection h1 with e; have e := Int.ofNat.inj e; simp [e]))
 exists ao, ah (ah (ah (bf (b5 h1))))
 exists yg, 2, 2
 by_cases e1 : ((c1 : Nat) : Int) = (k : Nat)
 ·exists zH, 1, 0, [], (bu (c1 : Nat) k q1 tk).ck e1, _, n1, t1
  exact zN 1 [] true (hx := (by (with_reducible conv => whnf); have e := Int.ofNat.inj e1; simp [e]))
 refine zK [] ((bu (c1 : Nat) k q1 tk).cO e1) @fun _ n1 t1 _ _ _ _ => ?_
 by_cases h2 : (Value.int (c2 : Nat) q2 = Value.int k tk)
 ·exists ao, ah (ah (ah (bt (cy h2))))
  exists zg, 2, 0
  exact zN 1 [] true (hx := (by (with_reducible conv => whnf); injection h2 with e; have e := Int.ofNat.inj e; simp [e]))
 exists ao, ah (ah (ah (bf (b5 h2))))
 exists yg, 2, 2
 by_cases e2 : ((c2 : Nat) : Int) = (k : Nat)
 ·exists zH, 1, 0, [], (bu (c2 : Nat) k q2 tk).ck e2, _, n2, t2
  exact zN 1 [] true (hx := (by (with_reducible conv => whnf); have e := Int.ofNat.inj e2; simp [e]))
 refine zK [] ((bu (c2 : Nat) k q2 tk).cO e2) @fun _ n2 t2 _ _ _ _ => ?_
 by_cases h3 : (Value.int (c3 : Nat) q3 = Value.int k tk)
 ·exists ao, ah (ah (ah (bt (cy h3))))
  exists zg, 2, 0
  exact zN 1 [] true (hx := (by (with_reducible conv => whnf); injection h3 with e; have e := Int.ofNat.inj e; simp [e]))
 exists ao, ah (ah (ah (bf (b5 h3))))
 exists yg, 2, 2
 by_cases e3 : ((c3 : Nat) : Int) = (k : Nat)
 ·exists zH, 1, 0, [], (bu (c3 : Nat) k q3 tk).ck e3, _, n3, t3
  exact zN 1 [] true (hx := (by (with_reducible conv => whnf); have e := Int.ofNat.inj e3; simp [e]))
 exists zH, 1, 0, [], (bu (c3 : Nat) k q3 tk).cO e3, _, n3, t3
 exact zN 1 [] false (hx := (by (with_reducible conv => whnf); have f1 : ¬ (k = c1) := fun h => e1 (by rw [h]); have f2 : ¬ (k = c2) := fun h => e2 (by rw [h]); have f3 : ¬ (k = c3) := fun h => e3 (by rw [h]); simp [f1, f2, f3]))
theorem Am (a : Addr) (c1 c2 c3 c4 : Nat) (q1 q2 q3 q4 : Tok) (k : Nat) (tk : Tok) :
  af w b 3 (.call (.builtin "tuple.__contains__") ⟨[.ref a, .int k tk], []⟩) [(a, aj [.int (c1 : Nat) q1, .int (c2 : Nat) q2, .int (c3 : Nat) q3, .int (c4 : Nat) q4])] []
   (X := Bool) (fun v => v = true ↔ k ∈ ([c1, c2, c3, c4] : List Nat)) (fun v => .ok (.ret (.bool v))) (fun _ => [(a, aj [.int (c1 : Nat) q1, .int (c2 : Nat) q2, .int (c3 : Nat) q3, .int (c4 : Nat) q4])]) (fun _ => []) := by
 exists zA, 3, 5052, zd, zc, a0
 refine dM ?_
 by_cases h1 : (Value.int (c1 : Nat) q1 = Value.int k tk)
 ·exists ao, ah (ah (ah (bt (cy h1))))
  exists zg, 2, 0
  exact zN 1 [] true (hx := (by (with_reducible conv => whnf); injection h1 with e; have e := Int.ofNat.inj e; simp [e]))
 exists ao, ah (ah (ah (bf (b5 h1))))
 exists yg, 2, 2
 by_cases e1 : ((c1 : Nat) : Int) = (k : Nat)
 ·exists zH, 1, 0, [], (bu (c1 : Nat) k q1 tk).ck e1, _, n1, t1
  exact zN 1 [] true (hx := (by (with_reducible conv => whnf); have e := Int.ofNat.inj e1; simp [e]))
 refine zK [] ((bu (c1 : Nat) k q1 tk).cO e1) @fun _ n1 t1 _ _ _ _ => ?_
 by_cases h2 : (Value.int (c2 : Nat) q2 = Value.int k tk)
 ·exists ao, ah (ah (ah (bt (cy h2))))
  exists zg, 2, 0
  exact zN 1 [] true (hx := (by (with_reducible conv => whnf); injection h2 with e; have e := Int.ofNat.inj e; simp [e]))
 exists ao, ah (ah (ah (bf (b5 h2))))
 exists yg, 2, 2
 by_cases e2 : ((c2 : Nat) : Int) = (k : Nat)
 ·exists zH, 1, 0, [], (bu (c2 : Nat) k q2 tk).ck e2, _, n2, t2
  exact zN 1 [] true (hx := (by (with_reducible conv => whnf); have e := Int.ofNat.inj e2; simp [e]))
 refine zK [] ((bu (c2 : Nat) k q2 tk).cO e2) @fun _ n2 t2 _ _ _ _ => ?_
 by_cases h3 : (Value.int (c3 : Nat) q3 = Value.int k tk)
 ·exists ao, ah (ah (ah (bt (cy h3))))
  exists zg, 2, 0
  exact zN 1 [] true (hx := (by (with_reducible conv => whnf); injection h3 with e; have e := Int.ofNat.inj e; simp [e]))
 exists ao, ah (ah (ah (bf (b5 h3))))
 exists yg, 2, 2
 by_cases e3 : ((c3 : Nat) : Int) = (k : Nat)
 ·exists zH, 1, 0, [], (bu (c3 : Nat) k q3 tk).ck e3, _, n3, t3
  exact zN 1 [] true (hx := (by (with_reducible conv => whnf); have e := Int.ofNat.inj e3; simp [e]))
 refine zK [] ((bu (c3 : Nat) k q3 tk).cO e3) @fun _ n3 t3 _ _ _ _ => ?_
 by_cases h4 : (Value.int (c4 : Nat) q4 = Value.int k tk)
 ·exists ao, ah (ah (ah (bt (cy h4))))
  exists zg, 2, 0
  exact zN 1 [] true (hx := (by (with_reducible conv => whnf); injection h4 with e; have e := Int.ofNat.inj e; simp [e]))
 exists ao, ah (ah (ah (bf (b5 h4))))
 exists yg, 2, 2
 by_cases e4 : ((c4 : Nat) : Int) = (k : Nat)
 ·exists zH, 1, 0, [], (bu (c4 : Nat) k q4 tk).ck e4, _, n4, t4
  exact zN 1 [] true (hx := (by (with_reducible conv => whnf); have e := Int.ofNat.inj e4; simp [e]))
 exists zH, 1, 0, [], (bu (c4 : Nat) k q4 tk).cO e4, _, n4, t4
 exact zN 1 [] false (hx := (by (with_reducible conv => whnf); have f1 : ¬ (k = c1) := fun h => e1 (by rw [h]); have f2 : ¬ (k = c2) := fun h => e2 (by rw [h]); have f3 : ¬ (k = c3) := fun h => e3 (by rw [h]); have f4 : ¬ (k = c4) := fun h => e4 (by rw [h]); simp [f1, f2, f3, f4]))
theorem An (a : Addr) (c1 c2 c3 c4 c5 : Nat) (q1 q2 q3 q4 q5 : Tok) (k : Nat) (tk : Tok) :
  af w b 3 (.call (.builtin "tuple.__contains__") ⟨[.ref a, .int k tk], []⟩) [(a, aj [.int (c1 : Nat) q1, .int (c2 : Nat) q2, .int (c3 : Nat) q3, .int (c4 : Nat) q4, .int (c5 : Nat) q5])] []
   (X := Bool) (fun v => v = true ↔ k ∈ ([c1, c2, c3, c4, c5] : List Nat)) (fun v => .ok (.ret (.bool v))) (fun _ => [(a, aj [.int (c1 : Nat) q1, .int (c2 : Nat) q2, .int (c3 : Nat) q3, .int (c4 : Nat) q4, .int (c5 : Nat) q5])]) (fun _ => []) := by
 exists zA, 3, 5052, zd, zc, a0
 refine dM ?_
 by_cases h1 : (Value.int (c1 : Nat) q1 = Value.int k tk)
 ·exists ao, ah (ah (ah (bt (cy h1))))
  exists zg, 2, 0
  exact zN 1 [] true (hx := (by (with_reducible conv => whnf); injection h1 with e; have e := Int.ofNat.inj e; simp [e]))
 exists ao, ah (ah (ah (bf (b5 h1))))
 exists yg, 2, 2
 by_cases e1 : ((c1 : Nat) : Int) = (k : Nat)
 ·exists zH, 1, 0, [], (bu (c1 : Nat) k q1 tk).ck e1, _, n1, t1
  exact zN 1 [] true (hx := (by (with_reducible conv => whnf); have e := Int.ofNat.inj e1; simp [e]))
 refine zK [] ((bu (c1 : Nat) k q1 tk).cO e1) @fun _ n1 t1 _ _ _ _ => ?_
 by_cases h2 : (Value.int (c2 : Nat) q2 = Value.int k tk)
 ·exists ao, ah (ah (ah (bt (cy h2))))
  exists zg, 2, 0
  exact zN 1 [] true (hx := (by (with_reducible conv => whnf); injection h2 with e; have e := Int.ofNat.inj e; simp [e]))
 exists ao, ah (ah (ah (bf (b5 h2))))
 exists yg, 2, 2
 by_cases e2 : ((c2 : Nat) : Int) = (k : Nat)
 ·exists zH, 1, 0, [], (bu (c2 : Nat) k q2 tk).ck e2, _, n2, t2
  exact zN 1 [] true (hx := (by (with_reducible conv => whnf); have e := Int.ofNat.inj e2; simp [e]))
 refine zK [] ((bu (c2 : Nat) k q2 tk).cO e2) @fun _ n2 t2 _ _ _ _ => ?_
 by_cases h3 : (Value.int (c3 : Nat) q3 = Value.int k tk)
 ·exists ao, ah (ah (ah (bt (cy h3))))
  exists zg, 2, 0
  exact zN 1 [] true (hx := (by (with_reducible conv => whnf); injection h3 with e; have e := Int.ofNat.inj e; simp [e]))
 exists ao, ah (ah (ah (bf (b5 h3))))
 exists yg, 2, 2
 by_cases e3 : ((c3 : Nat) : Int) = (k : Nat)
 ·exists zH, 1, 0, [], (bu (c3 : Nat) k q3 tk).ck e3, _, n3, t3
  exact zN 1 [] true (hx := (by (with_reducible conv => whnf); have e := Int.ofNat.inj e3; simp [e]))
 refine zK [] ((bu (c3 : Nat) k q3 tk).cO e3) @fun _ n3 t3 _ _ _ _ => ?_
 by_cases h4 : (Value.int (c4 : Nat) q4 = Value.int k tk)
 ·exists ao, ah (ah (ah (bt (cy h4))))
  exists zg, 2, 0
  exact zN 1 [] true (hx := (by (with_reducible conv => whnf); injection h4 with e; have e := Int.ofNat.inj e; simp [e]))
 exists ao, ah (ah (ah (bf (b5 h4))))
 exists yg, 2, 2
 by_cases e4 : ((c4 : Nat) : Int) = (k : Nat)
 ·exists zH, 1, 0, [], (bu (c4 : Nat) k q4 tk).ck e4, _, n4, t4
  exact zN 1 [] true (hx := (by (with_reducible conv => whnf); have e := Int.ofNat.inj e4; simp [e]))
 refine zK [] ((bu (c4 : Nat) k q4 tk).cO e4) @fun _ n4 t4 _ _ _ _ => ?_
 by_cases h5 : (Value.int (c5 : Nat) q5 = Value.int k tk)
 ·exists ao, ah (ah (ah (bt (cy h5))))
  exists zg, 2, 0
  exact zN 1 [] true (hx := (by (with_reducible conv => whnf); injection h5 with e; have e := Int.ofNat.inj e; simp [e]))
 exists ao, ah (ah (ah (bf (b5 h5))))
 exists yg, 2, 2
 by_cases e5 : ((c5 : Nat) : Int) = (k : Nat)
 ·exists zH, 1, 0, [], (bu (c5 : Nat) k q5 tk).ck e5, _, n5, t5
  exact zN 1 [] true (hx := (by (with_reducible conv => whnf); have e := Int.ofNat.inj e5; simp [e]))
 exists zH, 1, 0, [], (bu (c5 : Nat) k q5 tk).cO e5, _, n5, t5
 exact zN 1 [] false (hx := (by (with_reducible conv => whnf); have f1 : ¬ (k = c1) := fun h => e1 (by rw [h]); have f2 : ¬ (k = c2) := fun h => e2 (by rw [h]); have f3 : ¬ (k = c3) := fun h => e3 (by rw [h]); have f4 : ¬ (k = c4) := fun h => e4 (by rw [h]); have f5 : ¬ (k = c5) := fun h => e5 (by rw [h]); simp [f1, f2, f3, f4, f5]))
noncomputable abbrev cl (x : Str) : List Nat := x.cps.toList
set_option smartUnfolding true
theorem Cz {x y : Str} (h : cl x = cl y) : x = y := by
 obtain ⟨⟨x⟩⟩ := x
 obtain ⟨⟨y⟩⟩ := y
 exact congrArg (fun l => (⟨⟨l⟩⟩ : Str)) h
theorem kC (x : Str) : (cl x).length = x.length := rfl
theorem pQ : cl (Str.ofString "") = [] := by decide +kernel
theorem ya : cl (Str.ofString " ") = [32] := by decide +kernel
theorem F3 : cl (Str.ofString "\n") = [10] := by decide +kernel
theorem q7 (sep : Str) (l : List Str) : cl (cp sep l) = match l with | [] => [] | x :: xs => cl x ++ xs.flatMap fun y => cl sep ++ cl y := by
 rw [pG]
 unfold Builtin.Str.glued
 cases l with
 | nil => rfl
 | cons x xs =>
  simp only [List.drop_succ_cons, List.drop_zero, List.headD_cons]
  show (List.foldl (fun acc p => acc ++ sep.cps ++ p.cps) x.cps xs).toList = x.cps.toList ++ _
  generalize x.cps = a
  induction xs generalizing a with
  | nil => simp
  | cons y ys ih => rw [List.foldl_cons, ih]; simp [List.append_assoc]
theorem lU (l : List Str) : cl (cp (Str.ofString "") l) = l.flatMap cl := by
 rw [q7]
 cases l with
 | nil => rfl
 | cons x xs => simp only [pQ, List.nil_append, List.flatMap_cons]
structure c7 (x : Str) : Prop where
 h1 : 1 ≤ x.length
 h6 : x.length ≤ 6
 sp : ∀ c ∈ cl x, Unicode.isSpace c = false
noncomputable def bV (xs : List Str) : Str := cp (Str.ofString "") (xs.map fun x => cp (Str.ofString "") [Str.ofString " ", x])
theorem je (xs : List Str) : cl (bV xs) = xs.flatMap fun x => 32 :: cl x := by
 unfold bV
 rw [lU, List.flatMap_map]
 congr 1
 funext x
 rw [lU]
 simp [ya]
noncomputable def fG (xs : List Str) : Nat := (xs.map fun x => 1 + x.length).sum
theorem gI (xs : List Str) : (bV xs).length = fG xs := by
 rw [← kC, je]
 induction xs with
 | nil => rfl
 | cons x xs ih =>
  simp only [List.flatMap_cons, List.length_append, List.length_cons, kC, fG, List.map_cons, List.sum_cons] at ih ⊢
  lia
noncomputable def Pg (p : Pt) : Prop := p.f = Str.ofString " " ∧ c7 p.x
theorem Pg.ok {p : Pt} (h : Pg p) : p.ok := ⟨by rw [h.1]; decide +kernel, Nat.le_trans h.2.h6 (by decide)⟩
theorem mI {ps : List Pt} (h : ∀ p ∈ ps, Pg p) : strOf ps = bV (ps.map (·.x)) := by
 unfold strOf bV
 rw [List.map_map]
 congr 1
 apply List.map_congr_left
 intro p hp
 unfold kB
 rw [(h p hp).1]
 rfl
theorem CA : (Str.ofString " ").length = 1 := by decide +kernel
theorem pR {ps : List Pt} (h : ∀ p ∈ ps, Pg p) : bw ps = fG (ps.map (·.x)) := by
 unfold bw fG
 rw [List.map_map]
 congr 1
 apply List.map_congr_left
 intro p hp
 show p.f.length + p.x.length = _
 rw [(h p hp).1, CA]
 rfl
theorem pS {xs : List Str} (h : ∀ x ∈ xs, c7 x) : fG xs ≤ 7 * xs.length := by
 induction xs with
 | nil => simp [fG]
 | cons x xs ih =>
  have h1 := (h x (by simp)).h6
  have h2 := ih fun y hy => h y (by simp [hy])
  simp only [fG, List.map_cons, List.sum_cons, List.length_cons] at h2 ⊢
  lia
theorem q8 {x : Str} {xs : List Str} (h : x ∈ xs) : 0 < fG xs := by
 induction xs with
 | nil => cases h
 | cons y ys ih =>
  simp only [fG, List.map_cons, List.sum_cons]
  lia
theorem ot {xs : List Str} (h : ∀ x ∈ xs, c7 x) (cB : xs ≠ []) : (bV xs).cps.all Unicode.isSpace = false := by
 cases xs with
 | nil => exact absurd rfl cB
 | cons x xs =>
  have hx := h x (by simp)
  rw [← Array.all_toList]
  show (cl (bV (x :: xs))).all _ = false
  rw [je, List.all_eq_false]
  have h1 := hx.h1
  rw [← kC] at h1
  cases e : cl x with
  | nil => rw [e] at h1; simp at h1
  | cons c cs =>
   refine ⟨c, ?_, ?_⟩
   ·simp [e]
   ·rw [hx.sp c (by simp [e])]; decide
theorem c7.ne {x : Str} (h : c7 x) : x ≠ Str.ofString "" := by
 intro e
 have := h.h1
 rw [e, ← kC, pQ] at this
 simp at this
structure lG where
 ls : List Str
 z : Nat
 cur : List Str
noncomputable def c0 (wd : Nat) (cut : List Nat) (k : Nat) (x : Str) (s : lG) : lG :=
 let s1 : lG := if k ∈ cut then ⟨s.ls ++ [bV s.cur], 0, []⟩ else s
 if s1.z + fG s1.cur + (1 + x.length) ≤ wd then ⟨s1.ls, s1.z, s1.cur ++ [x]⟩ else ⟨s1.ls ++ [bV s1.cur], 0, [x]⟩
noncomputable def lV (wd : Nat) (cut : List Nat) : Nat → List Str → lG → lG
 | _, [], s => s
 | k, x :: xs, s => lV wd cut (k + 1) xs (c0 wd cut k x s)
noncomputable def I7 : Stmt → Expr
 | .For t _ _ _ _ => t
 | _ => .Name Str.empty default
noncomputable def vF : Stmt → List Stmt
 | .For _ _ b _ _ => b
 | _ => []
noncomputable def cS (fd : FuncData) (a L : Addr) (cells : List (Str × Addr)) : Env :=
 { scope := fd.scope, locals := L, globals := fd.globals, cells := cells, qual := fd.qualname ++ Str.ofString ".<locals>.", func := some a, code := fd.code, frame := some L, builtins := fd.builtins }
noncomputable def fU (st : Stmt) (it : Addr) (env : Env) : Code := .forLoop (I7 st) (.ref it) (vF st) [] env
noncomputable abbrev cj (k m : Nat) : Obj := ⟨.type "range_iterator", none, .fields ⟨[.int k 0, .int m 0, .int (1 : Nat) 0]⟩, ⟨[]⟩⟩
noncomputable abbrev ag (c : List (Nat × Tok)) : List Value := c.map fun q => .int q.1 q.2
theorem oS (a : Addr) (cut : List (Nat × Tok)) (hc : cut.length ≤ 5) (k : Nat) (tk : Tok) :
  af w b 3 (.call (.builtin "tuple.__contains__") ⟨[.ref a, .int k tk], []⟩) [(a, aj (ag cut))] []
   (X := Bool) (fun v => v = true ↔ k ∈ cut.map (·.1)) (fun v => .ok (.ret (.bool v))) (fun _ => [(a, aj (ag cut))]) (fun _ => []) := by
 rcases cut with _ | ⟨⟨c1, q1⟩, _ | ⟨⟨c2, q2⟩, _ | ⟨⟨c3, q3⟩, _ | ⟨⟨c4, q4⟩, _ | ⟨⟨c5, q5⟩, _ | ⟨x, l⟩⟩⟩⟩⟩⟩
 ·exact Ai a k tk
 ·exact Aj a c1 q1 k tk
 ·exact Ak a c1 c2 q1 q2 k tk
 ·exact Al a c1 c2 c3 q1 q2 q3 k tk
 ·exact Am a c1 c2 c3 c4 q1 q2 q3 q4 k tk
 ·exact An a c1 c2 c3 c4 c5 q1 q2 q3 q4 q5 k tk
 ·simp at hc
noncomputable abbrev kE (w : World) (aW aC : Addr) (hd wd : Nat) (aV : Addr) (k1 k2 k3 k4 k5 th tw : Tok) (tl : List DictEntry) (ep : Nat) : Obj :=
 cK ([av (au w "words") "words" k1 (.ref aW), av (au w "cut") "cut" k2 (.ref aC), av (au w "head") "head" k3 (.int hd th), av (au w "width") "width" k4 (.int wd tw), av (au w "maker") "maker" k5 (.ref aV)] ++ tl) ep
noncomputable def tS (w : World) (aW aC : Addr) (hd wd : Nat) (aV : Addr) (k1 k2 k3 k4 k5 th tw : Tok) (o : Obj) : Prop := ∃ k6 v0 c8, o = kE w aW aC hd wd aV k1 k2 k3 k4 k5 th tw [av (au w "k") "k" k6 v0] c8
set_option smartUnfolding false
theorem CB (it : Addr) (k m : Nat) :
  af w b 2 (.call (.builtin "range_iterator.__next__") ⟨[.ref it], []⟩) [(it, cj k (m + 1))] []
   (X := Tok) (fun _ => True) (fun y => .ok (.ret (.int k y))) (fun y => [(it, ⟨.type "range_iterator", none, .fields ⟨[.int (k + 1 : Nat) 0, .int (Int.subNatNat (m + 1) 1) 0, .int (1 : Nat) 0]⟩, ⟨[]⟩⟩)]) (fun _ => []) := by
 exists zA, 11, 79719387755052, zd, zc, a
 exact zM 1 [] (fun o => o.rt)
set_option smartUnfolding true
theorem du (it : Addr) (k m : Nat) :
  af w b 2 (.call (.builtin "range_iterator.__next__") ⟨[.ref it], []⟩) [(it, cj k (m + 1))] []
   (X := Tok) (fun _ => True) (fun y => .ok (.ret (.int k y))) (fun y => [(it, cj (k + 1) m)]) (fun _ => []) :=
 (CB it k m).map id (fun _ h => h) (fun _ => rfl) (fun _ => by
  have : Int.subNatNat (m + 1) 1 = (m : Int) := by rw [Int.subNatNat_of_le (by lia)]; rfl
  rw [this]) (fun _ => rfl)
set_option smartUnfolding false
theorem g9 (it : Addr) (k : Nat) :
  af w b 2 (.call (.builtin "range_iterator.__next__") ⟨[.ref it], []⟩) [(it, cj k 0)] []
   (X := Addr × Addr × Obj) (fun _ => True) (fun y => .error (.ref y.2.1)) (fun y => [(it, y.2.2)]) (fun y => [(y.1, aj []), (y.2.1, lg y.1)]) := by
 exists zA, 10, 12755052, zd, zc, a
 exact zM 1 [true, true] (fun o => (zc.S, zc.S + 1, o.ob 0)) (hs := (ar (Nat.le_refl _) (ar (Nat.le_add_right _ _) ak)))
set_option smartUnfolding true
theorem jY (l : List (Str × Tok)) (x : Str) (t : Tok) : aE (l ++ [(x, t)]) = aE l ++ [.str x t] := by simp [aE]
structure LE where
 old : Bool
 new : List Pt
 z : Nat
 ls : List (Str × Tok)
 ep : Nat
 e1 : Nat
 tz : Tok
 o0 : Obj
 o1 : Obj
 fr : Obj
 ie : Obj
noncomputable def LE.pp (y : LE) (ps : List Pt) : List Pt := (cond y.old ps []) ++ y.new
structure LE.Ok (y : LE) (F : Obj → Prop) (ps : List Pt) (wd : Nat) (cut : List Nat) (k nw : Nat) (xs : List Str) (st : lG) : Prop where
 t0 : bg y.o0
 t1 : bo y.o1
 pg : ∀ p ∈ y.pp ps, Pg p
 ne : 1 ≤ (y.pp ps).length
 inv : y.ls.length + (y.pp ps).length ≤ nw
 ll : ∀ q ∈ y.ls, q.1.length ≤ 1000
 z : y.z ≤ 100
 fr : F y.fr
 run : (⟨y.ls.map (·.1), y.z, (y.pp ps).map (·.x)⟩ : lG) = lV wd cut k xs st
noncomputable def LE.add (y : LE) (o : Bool) (p : Pt) : LE := cond y.old { y with old := o, new := p :: y.new } y
theorem LE.Ao (y : LE) (p : Pt) (ps : List Pt) : (y.add true p).pp ps = y.pp (ps ++ [p]) := by
 unfold LE.add LE.pp
 cases h : y.old <;> simp [h]
theorem LE.nt (y : LE) (p : Pt) (ps : List Pt) : (y.add false p).pp ps = y.pp [p] := by
 unfold LE.add LE.pp
 cases h : y.old <;> simp [h]
theorem LE.mJ (y : LE) (o : Bool) (p : Pt) : (y.add o p).fr = y.fr ∧ (y.add o p).ie = y.ie ∧ (y.add o p).ep = y.ep ∧ (y.add o p).tz = y.tz ∧ (y.add o p).z = y.z ∧ (y.add o p).ls = y.ls ∧ (y.add o p).e1 = y.e1 ∧ (y.add o p).o0 = y.o0 ∧ (y.add o p).o1 = y.o1 := by
 unfold LE.add
 cases h : y.old <;> simp
theorem LE.gv (y : LE) (o : Bool) (p : Pt) : ((y.add o p).new.map Pt.K).Sublist (p.K :: y.new.map Pt.K) := by
 unfold LE.add
 cases h : y.old
 ·exact List.sublist_cons_self _ _
 ·exact List.Sublist.refl _
theorem LE.Ok.add {y : LE} {o : Bool} {p : Pt} {ps HY : List Pt} {wd : Nat} {cut : List Nat} {k nw : Nat} {x : Str} {xs : List Str} {st HZ : lG} {F : Obj → Prop} (h : y.Ok F HY wd cut (k + 1) nw xs HZ) (hs : c0 wd cut k x st = HZ) (hp : (y.add o p).pp ps = y.pp HY) : (y.add o p).Ok F ps wd cut k nw (x :: xs) st := by
 obtain ⟨h1, h2, h3, h4, h5, h6, h7, h8, h9⟩ := y.mJ o p
 refine ⟨?_, ?_, ?_, ?_, ?_, ?_, ?_, ?_, ?_⟩
 ·rw [h8]; exact h.t0
 ·rw [h9]; exact h.t1
 ·rw [hp]; exact h.pg
 ·rw [hp]; exact h.ne
 ·rw [hp, h6]; exact h.inv
 ·rw [h6]; exact h.ll
 ·rw [h5]; exact h.z
 ·rw [h1]; exact h.fr
 ·rw [hp, h6, h5, h.run]
  show _ = lV wd cut (k + 1) xs (c0 wd cut k x st)
  rw [hs]
noncomputable abbrev iR (w : World) (v : VF) (L aW aC it : Addr) (ws : List (Str × Tok)) (ew : Nat) (cut : List (Nat × Tok)) (tk : Tok) (fr ie : Obj) (items : List Value) (ep : Nat) (tz : Tok) (z : Nat) (ls : List Value) (e1 : Nat) (o0 o1 : Obj) : KS :=
 [(L, fr), (it, ie), (v.aV, v.O), (v.de, v.D w), (aC, aj (ag cut)), (aW, aa (aE ws) ew), (v.aA, aq v.aD items ep), (v.aD, bJ (au w "_initial_size") tk tz z), (v.aL, aa ls e1), (140, o0), (147, o1)]
set_option smartUnfolding false
theorem F4 (L aW aC it : Addr) (v : VF) (k1 k2 k3 k4 k5 th tw : Tok) (hd : Nat) (ws : List (Str × Tok)) (cZ : ∀ q ∈ ws, c7 q.1) (h6 : ws.length ≤ 6) (ew : Nat) (cut : List (Nat × Tok)) (hc : cut.length ≤ 5) (tk : Tok) (CC : 7 ≤ v.wd) :
  ∀ (m k : Nat) (hk : k + m = ws.length) (h1 : 1 ≤ k) (ps : List Pt) (ia : ∀ p ∈ ps, Pg p) (cB : 1 ≤ ps.length) (ls : List (Str × Tok)) (hinv : ls.length + ps.length ≤ k) (gu : ∀ q ∈ ls, q.1.length ≤ 1000) (z : Nat) (hz : z ≤ 100) (ep e1 : Nat) (tz : Tok) (o0 o1 : Obj) (bK : bg o0) (bR : bo o1) (k6 : Tok) (v0 : Value) (c8 : Nat),
  af w b 24 (fU (dq jD 1) it (cS jR 226 L []))
   (iR w v L aW aC it ws ew cut tk (kE w aW aC hd v.wd v.aV k1 k2 k3 k4 k5 th tw [av (au w "k") "k" k6 v0] c8) (cj k m) (bE (as ps)) ep tz z (aE ls) e1 o0 o1) (ps.map Pt.K)
   (X := LE) (fun y => y.Ok (tS w aW aC hd v.wd v.aV k1 k2 k3 k4 k5 th tw) ps v.wd (cut.map (·.1)) k ws.length ((ws.drop k).map (·.1)) ⟨ls.map (·.1), z, ps.map (·.x)⟩) (fun y => .ok .next)
   (fun y => iR w v L aW aC it ws ew cut tk y.fr y.ie (bE (as (y.pp ps))) y.ep y.tz y.z (aE y.ls) y.e1 y.o0 y.o1) (fun y => y.new.map Pt.K) := by
 intro m
 induction m with
 | zero =>
  intro k hk h1 ps ia cB ls hinv gu z hz ep e1 tz o0 o1 bK bR k6 v0 c8
  have cW : (ws.drop k).map (·.1) = [] := by rw [List.drop_eq_nil_of_le (by exact c6)]; rfl
  rw [cW]
  exists zA, 3, 103, zd, zc, a
  exists zH, 3, 64, [1], g9 it k, y1, n1, t1, G1, a1, _, _
  exact od zc.post zc.ro a1 11 [] (fun o => ⟨true, [], z, ls, ep, e1, tz, o0, o1, kE w aW aC hd v.wd v.aV k1 k2 k3 k4 k5 th tw [av (au w "k") "k" k6 v0] c8, o.ob 1⟩) ⟨bK, bR, by simpa [LE.pp] using ia, by simpa [LE.pp] using cB, by simp [LE.pp]; lia, gu, hz, ⟨k6, v0, c8, rfl⟩, by simp [LE.pp, lV]⟩
   (fun o => iR w v L aW aC it ws ew cut tk (kE w aW aC hd v.wd v.aV k1 k2 k3 k4 k5 th tw [av (au w "k") "k" k6 v0] c8) (o.ob 1) (bE (as ps)) ep tz z (aE ls) e1 o0 o1)
   (by kernel_rfl) (by (with_reducible conv => rhs; whnf); simp [LE.pp]) (by kernel_rfl) ak
 | succ m ih =>
  intro k hk h1 ps ia cB ls hinv gu z hz ep e1 tz o0 o1 bK bR k6 v0 c8
  obtain ⟨⟨x, tx⟩, hx⟩ : ∃ q, ws[k]? = some q := ⟨ws[k]'(by exact cf), List.getElem?_eq_getElem (by exact cf)⟩
  have kc : (x, tx) ∈ ws := List.mem_of_getElem? hx
  have jK : c7 x := cZ _ kc
  have tT : (aE ws)[k]? = some (.str x tx) := by simp [aE, hx]
  have cW : (ws.drop k).map (·.1) = x :: (ws.drop (k + 1)).map (·.1) := by
   have et : k < ws.length := by exact cf
   have : ws[k] = (x, tx) := by
    have := List.getElem?_eq_getElem et
    rw [hx] at this
    exact (Option.some.inj this).symm
   rw [List.drop_eq_getElem_cons et, this]
   rfl
  rw [cW]
  have lE : x.length ≤ 6 := jK.h6
  have mK : bw ps = fG (ps.map (·.x)) := pR ia
  have dg : bw ps ≤ 7 * ps.length := by
   rw [mK]
   have := pS (xs := ps.map (·.x)) (fun y hy => by
    obtain ⟨p, hp, rfl⟩ := List.mem_map.mp hy
    exact (ia p hp).2)
   simpa using this
  have vG : ps.length ≤ 5 := by lia
  have pT : strOf ps = bV (ps.map (·.x)) := mI ia
  have CD : ∀ (a' : Addr) (tf : Tok) (jL : Nat) (pJ : Tok) (fS : Nat) (tl : Tok) (gj : Nat) (gJ mL : Obj) (kF : bg gJ) (CL : bo mL) (iS : Value), af w b 24 (fU (dq jD 1) it (cS jR 226 L []))
      (iR w v L aW aC it ws ew cut tk (kE w aW aC hd v.wd v.aV k1 k2 k3 k4 k5 th tw [av (au w "k") "k" k6 iS] gj) (cj (k + 1) m) [.ref a'] jL pJ (0 : Nat) (aE ls ++ [.str (strOf ps) tl]) fS gJ mL) [(a', aj [.str sB tf, .str x tx])]
      (X := LE) (fun y => y.Ok (tS w aW aC hd v.wd v.aV k1 k2 k3 k4 k5 th tw) [⟨a', sB, tf, x, tx⟩] v.wd (cut.map (·.1)) (k + 1) ws.length ((ws.drop (k + 1)).map (·.1)) ⟨ls.map (·.1) ++ [bV (ps.map (·.x))], 0, [x]⟩) (fun y => .ok .next)
      (fun y => iR w v L aW aC it ws ew cut tk y.fr y.ie (bE (as (y.pp [⟨a', sB, tf, x, tx⟩]))) y.ep y.tz y.z (aE y.ls) y.e1 y.o0 y.o1) (fun y => y.new.map Pt.K) := by
   intro a' tf jL pJ fS tl gj gJ mL kF CL iS
   have h := ih (k + 1) (by exact cJ) (by lia) [⟨a', sB, tf, x, tx⟩] (fun p hp => by
      rw [List.mem_singleton.mp hp]; exact ⟨rfl, jK⟩) (by simp) (ls ++ [(strOf ps, tl)]) (by simp; lia) (fun q hq => by
      rcases List.mem_append.mp hq with hq | hq
      ·exact gu q hq
      ·rw [List.mem_singleton.mp hq, pT, gI, ← mK]; lia) 0 (by lia) jL fS pJ gJ mL kF CL k6 iS gj
   have CM : (ls ++ [(strOf ps, tl)]).map (·.1) = ls.map (·.1) ++ [bV (ps.map (·.x))] := by rw [← pT]; simp
   rw [jY, CM] at h
   exact h
  by_cases nu : k ∈ cut.map (·.1)
  ·
   have ei : c0 v.wd (cut.map (·.1)) k x ⟨ls.map (·.1), z, ps.map (·.x)⟩ = ⟨ls.map (·.1) ++ [bV (ps.map (·.x))], 0, [x]⟩ := by
    simp only [c0, nu, if_true]
    rw [if_pos (by simp [fG]; lia)]
    rfl
   obtain ⟨qs, p, rfl⟩ : ∃ qs p, ps = qs ++ [p] := ⟨ps.dropLast, ps.getLast (by intro e; rw [e] at cB; simp at cB), (List.dropLast_concat_getLast _).symm⟩
   have pU := ia p (by simp)
   have pP : 0 < bw (qs ++ [p]) := by rw [mK]; exact q8 (x := p.x) (by simp)
   have iQ : (strOf (qs ++ [p])).cps.all Unicode.isSpace = false := by
    rw [pT]
    exact ot (fun y hy => by
     obtain ⟨q, hq, rfl⟩ := List.mem_map.mp hy
     exact (ia q hq).2) (by simp)
   have CN : qs.length ≤ 5 := by simp at vG; exact aO
   exists zA, 3, 103, zd, zc, a
   exists zH, 16, 33162755102, [1], du it k m, y1, n1, t1
   exists zH, 23, 154268811284285196110631377702, [4], (oS aC cut hc k y1).ck nu, _, n2, t2
   exists zI, 31, 1021793521273205815535196110631377702, [2, 3, 6, 7, 8, 9, 10], vE v qs p pU.1 pU.2.ne ep tk tz z hz (aE ls) e1 (by simp [aE]; lia) o0 o1 bK bR (fun q hq => (ia q hq).ok) CN pP (by lia) iQ, y5, n5, t5, G5, a5, eo, _
   exists zH, 3, 101, [5], dt aW (aE ws) ew k (.str x tx) tT (by exact o4) y1, _, n3, t3
   exists zH, 2, 2, [2, 3, 6, 7, 9], lT v [] y5.1 tk y5.2.1 0 y5.2.2.2.2.1 eo.1 (fun q hq => nomatch hq) (by decide) x t5 tx (by exact aO) (1 + x.length) (by simp [bw]) (by lia) (by lia), y4, n4, t4, G4, a4, ey, dH
   refine aZ (Ta := [(y4.1, aj [.str sB t5, .str x tx])]) zc.ro a4 zc.hL [0, 1, 2, 3, 4, 5, 6, 7, 8, 9, 10] [11] [] (CD y4.1 t5 y4.2.1 y5.2.1 y5.2.2.1 y5.2.2.2.1 c8 y4.2.2 y5.2.2.2.2.2 ey eo.2 (.int k y1)) (by kernel_rfl) (by kernel_rfl) (fun _ h => nomatch h) List.nodup_nil fun y n6 t6 G6 a6 hy hN => ?_
   obtain ⟨eO, kd, ke, pV, pW, pX, pY, pZ, p7⟩ := y.mJ false ⟨y4.1, sB, t5, x, tx⟩
   have iu := y.nt ⟨y4.1, sB, t5, x, tx⟩ (qs ++ [p])
   refine eS zc.post zc.ro a6 11 (y.add false ⟨y4.1, sB, t5, x, tx⟩) (hy.add ei iu) rfl ((by kernel_rfl : bk 11 _ = iR w v L aW aC it ws ew cut tk y.fr y.ie (bE (as (y.pp [⟨y4.1, sB, t5, x, tx⟩]))) y.ep y.tz y.z (aE y.ls) y.e1 y.o0 y.o1).trans (by (with_reducible conv => rhs; whnf); rw [iu, eO, kd, ke, pV, pW, pX, pY, pZ, p7])) ?_ (by kernel_rfl) ?_
   ·exact jx (y.gv false ⟨y4.1, sB, t5, x, tx⟩) (by kernel_rfl)
   ·intro p hp
    rcases List.mem_cons.mp ((y.gv false ⟨y4.1, sB, t5, x, tx⟩).subset hp) with rfl | hp
    ·exact dH (y4.1, aj [.str sB t5, .str x tx]) (by simp)
    ·exact hN p hp
  ·by_cases fh : z + bw ps + (1 + x.length) ≤ v.wd
   ·
    have ei : c0 v.wd (cut.map (·.1)) k x ⟨ls.map (·.1), z, ps.map (·.x)⟩ = ⟨ls.map (·.1), z, ps.map (·.x) ++ [x]⟩ := by
     simp only [c0, nu, if_false]
     rw [if_pos (by rw [← mK]; exact fh)]
    have ax : ∀ (a' : Addr) (tf : Tok) (jL gj : Nat) (gJ : Obj) (kF : bg gJ) (iS : Value), af w b 24 (fU (dq jD 1) it (cS jR 226 L []))
      (iR w v L aW aC it ws ew cut tk (kE w aW aC hd v.wd v.aV k1 k2 k3 k4 k5 th tw [av (au w "k") "k" k6 iS] gj) (cj (k + 1) m) (bE (as ps) ++ [.ref a']) jL tz z (aE ls) e1 gJ o1) ([(a', aj [.str sB tf, .str x tx])] ++ ps.map Pt.K)
      (X := LE) (fun y => y.Ok (tS w aW aC hd v.wd v.aV k1 k2 k3 k4 k5 th tw) (ps ++ [⟨a', sB, tf, x, tx⟩]) v.wd (cut.map (·.1)) (k + 1) ws.length ((ws.drop (k + 1)).map (·.1)) ⟨ls.map (·.1), z, ps.map (·.x) ++ [x]⟩) (fun y => .ok .next)
      (fun y => iR w v L aW aC it ws ew cut tk y.fr y.ie (bE (as (y.pp (ps ++ [⟨a', sB, tf, x, tx⟩])))) y.ep y.tz y.z (aE y.ls) y.e1 y.o0 y.o1) (fun y => y.new.map Pt.K) := by
     intro a' tf jL gj gJ kF iS
     have h := ih (k + 1) (by exact cJ) (by lia) (ps ++ [⟨a', sB, tf, x, tx⟩]) (fun p hp => by
      rcases List.mem_append.mp hp with hp | hp
      ·exact ia p hp
      ·rw [List.mem_singleton.mp hp]; exact ⟨rfl, jK⟩) (by simp) ls (by simp; lia) gu z hz jL e1 tz gJ o1 kF bR k6 iS gj
     have fS : bE (as (ps ++ [(⟨a', sB, tf, x, tx⟩ : Pt)])) = bE (as ps) ++ [.ref a'] := by simp [bE, as]
     have CM : (ps ++ [(⟨a', sB, tf, x, tx⟩ : Pt)]).map (·.x) = ps.map (·.x) ++ [x] := by simp
     rw [fS, CM] at h
     exact h.perm (gr ps ⟨a', sB, tf, x, tx⟩)
    exists zA, 3, 103, zd, zc, a
    exists zH, 16, 33162755102, [1], du it k m, y1, n1, t1
    exists zH, 30, 1021793521273205815535196110631377702, [4], (oS aC cut hc k y1).cO nu, _, n2, t2
    exists zH, 3, 101, [5], dt aW (aE ws) ew k (.str x tx) tT (by exact o4) y1, _, n3, t3
    exists zI, 2, 2, [2, 3, 6, 7, 9], lT v ps ep tk tz z o0 bK (fun q hq => (ia q hq).ok) vG x t2 tx (by exact aO) (z + bw ps + (1 + x.length)) rfl fh (by lia), y4, n4, t4, G4, a4, ey, dH
    refine aZ (Ta := [(y4.1, aj [.str sB t2, .str x tx])]) zc.ro a4 zc.hL [0, 1, 2, 3, 4, 5, 6, 7, 8, 9, 10] [11] (ps.map Pt.K) (ax y4.1 t2 y4.2.1 c8 y4.2.2 ey (.int k y1)) (by kernel_rfl) (by kernel_rfl) (fun _ h => h) zc.ro.nd fun y n5 t5 G5 a5 hy hN => ?_
    obtain ⟨eO, kd, ke, pV, pW, pX, pY, pZ, p7⟩ := y.mJ true ⟨y4.1, sB, t2, x, tx⟩
    have iu := y.Ao ⟨y4.1, sB, t2, x, tx⟩ ps
    refine eS zc.post zc.ro a5 11 (y.add true ⟨y4.1, sB, t2, x, tx⟩) (hy.add ei iu) rfl ((by kernel_rfl : bk 11 _ = iR w v L aW aC it ws ew cut tk y.fr y.ie (bE (as (y.pp (ps ++ [⟨y4.1, sB, t2, x, tx⟩])))) y.ep y.tz y.z (aE y.ls) y.e1 y.o0 y.o1).trans (by (with_reducible conv => rhs; whnf); rw [iu, eO, kd, ke, pV, pW, pX, pY, pZ, p7])) ?_ (by kernel_rfl) ?_
    ·exact jx (y.gv true ⟨y4.1, sB, t2, x, tx⟩) (by kernel_rfl)
    ·intro p hp
     rcases List.mem_cons.mp ((y.gv true ⟨y4.1, sB, t2, x, tx⟩).subset hp) with rfl | hp
     ·exact dH (y4.1, aj [.str sB t2, .str x tx]) (by simp)
     ·exact hN p hp
   ·
    have ei : c0 v.wd (cut.map (·.1)) k x ⟨ls.map (·.1), z, ps.map (·.x)⟩ = ⟨ls.map (·.1) ++ [bV (ps.map (·.x))], 0, [x]⟩ := by
     simp only [c0, nu, if_false]
     rw [if_neg (by rw [← mK]; exact fh)]
    exists zA, 3, 103, zd, zc, a
    exists zH, 16, 33162755102, [1], du it k m, y1, n1, t1
    exists zH, 30, 1021793521273205815535196110631377702, [4], (oS aC cut hc k y1).cO nu, _, n2, t2
    exists zH, 3, 101, [5], dt aW (aE ws) ew k (.str x tx) tT (by exact o4) y1, _, n3, t3
    exists zI, 2, 2, [2, 3, 6, 7, 8, 9, 10], tR v ps cB vG ep tk tz z (aE ls) e1 (by simp [aE]; lia) o0 o1 bK bR (fun q hq => (ia q hq).ok) x t2 tx (by exact aO) (z + bw ps + (1 + x.length)) rfl (by lia) (by lia), y4, n4, t4, G4, a4, ey, dH
    refine aZ (Ta := [(y4.1, aj [.str sB t2, .str x tx])]) zc.ro a4 zc.hL [0, 1, 2, 3, 4, 5, 6, 7, 8, 9, 10] [11] [] (CD y4.1 t2 y4.2.1 y4.2.2.1 y4.2.2.2.1 y4.2.2.2.2.1 c8 y4.2.2.2.2.2.1 y4.2.2.2.2.2.2 ey.1 ey.2 (.int k y1)) (by kernel_rfl) (by kernel_rfl) (fun _ h => nomatch h) List.nodup_nil fun y n5 t5 G5 a5 hy hN => ?_
    obtain ⟨eO, kd, ke, pV, pW, pX, pY, pZ, p7⟩ := y.mJ false ⟨y4.1, sB, t2, x, tx⟩
    have iu := y.nt ⟨y4.1, sB, t2, x, tx⟩ ps
    refine eS zc.post zc.ro a5 11 (y.add false ⟨y4.1, sB, t2, x, tx⟩) (hy.add ei iu) rfl ((by kernel_rfl : bk 11 _ = iR w v L aW aC it ws ew cut tk y.fr y.ie (bE (as (y.pp [⟨y4.1, sB, t2, x, tx⟩]))) y.ep y.tz y.z (aE y.ls) y.e1 y.o0 y.o1).trans (by (with_reducible conv => rhs; whnf); rw [iu, eO, kd, ke, pV, pW, pX, pY, pZ, p7])) ?_ (by kernel_rfl) ?_
    ·exact jx (y.gv false ⟨y4.1, sB, t2, x, tx⟩) (by kernel_rfl)
    ·intro p hp
     rcases List.mem_cons.mp ((y.gv false ⟨y4.1, sB, t2, x, tx⟩).subset hp) with rfl | hp
     ·exact dH (y4.1, aj [.str sB t2, .str x tx]) (by simp)
     ·exact hN p hp
noncomputable abbrev nv (l : Array Value) (ep : Nat) : Obj := ⟨i9, none, .seq l ep, ⟨[]⟩⟩
noncomputable abbrev CO (l : Array Value) : Obj := ⟨BS, none, .seq l 0, ⟨[]⟩⟩
noncomputable def gK (xs ys : List Value) : Array Value := @HAppend.hAppend (Array Value) (Array Value) (Array Value) (@instHAppendOfAppend (Array Value) (@ZFast.zw494991955013373658 Value)) ⟨xs⟩ ⟨ys⟩
set_option smartUnfolding true
theorem fN (xs ys : List Value) : gK xs ys = ⟨xs ++ ys⟩ := by
 unfold gK
 rw [← ZFast.ze494991955013373658]
 apply Array.ext'
 simp
set_option smartUnfolding false
theorem CP (a : Addr) (xs : List Value) (h : xs.length ≤ 1000) :
  af w b 10 (.call (.type "list") ⟨[.ref a], []⟩) [(a, aj xs)] []
   (X := Addr × Nat) (fun _ => True) (fun y => .ok (.ret (.ref y.1))) (fun y => [(a, aj xs)]) (fun y => [(y.1, nv (gK [] xs) y.2)]) := by
 exists zA, 4, 2551, zd, zc, a0
 refine sQ fun p below l => ?_
 exists zg, 12, 4025829069127653
 exists dT, orr (by kernel_rfl)
 exists zg, 5, 19132652
 refine dM ?_
 with_unfolding_all conv => (arg 5; whnf; arg @29; whnf)
 have hm : memC (gK [] xs).size = none := om (by rw [fN]; simpa using h)
 generalize hx : ZFast.zw12520540566002728236 _ = x
 obtain rfl : x = none := hx.symm.trans (Eq.trans (b := memC (gK [] xs).size) (by kernel_rfl) hm)
 clear hx
 exists zg, 2, 0
 exact zM 1 [true] (fun o => (zc.S, o.ep 1)) (hs := (ar (Nat.le_refl _) ak))
set_option smartUnfolding true
theorem F5 (a : Addr) (xs : List Value) (h : xs.length ≤ 1000) :
  af w b 10 (.call (.type "list") ⟨[.ref a], []⟩) [(a, aj xs)] []
   (X := Addr × Nat) (fun _ => True) (fun y => .ok (.ret (.ref y.1))) (fun y => [(a, aj xs)]) (fun y => [(y.1, aa xs y.2)]) :=
 (CP a xs h).map id (fun _ h => h) (fun _ => rfl) (fun _ => rfl) (fun y => by rw [fN]; rfl)
set_option smartUnfolding false
theorem F6 (a1 a2 : Addr) (xs ys : List Value) (e1 e2 : Nat) (h : xs.length + ys.length ≤ 1000) :
  af w b 10 (.call (.builtin "list.__add__") ⟨[.ref a1, .ref a2], []⟩) [(a1, aa xs e1), (a2, aa ys e2)] []
   (X := Addr × Nat) (fun _ => True) (fun y => .ok (.ret (.ref y.1))) (fun y => [(a1, aa xs e1), (a2, aa ys e2)]) (fun y => [(y.1, nv (gK xs ys) y.2)]) := by
 have h' : ¬ (gK xs ys).size > sizeLine := by
  rw [fN]
  show ¬ (xs ++ ys).length > sizeLine
  rw [List.length_append]
  unfold sizeLine
  lia
 exists zA, 5, 19007552, zd, zc, a0
 exists dT, ah (mF h' (by kernel_rfl))
 exists zg, 2, 0
 exact zM 2 [true] (fun o => (zc.S, o.ep 2)) (hs := (ar (Nat.le_refl _) ak))
set_option smartUnfolding true
theorem lW (a1 a2 : Addr) (xs ys : List Value) (e1 e2 : Nat) (h : xs.length + ys.length ≤ 1000) :
  af w b 10 (.call (.builtin "list.__add__") ⟨[.ref a1, .ref a2], []⟩) [(a1, aa xs e1), (a2, aa ys e2)] []
   (X := Addr × Nat) (fun _ => True) (fun y => .ok (.ret (.ref y.1))) (fun y => [(a1, aa xs e1), (a2, aa ys e2)]) (fun y => [(y.1, aa (xs ++ ys) y.2)]) :=
 (F6 a1 a2 xs ys e1 e2 h).map id (fun _ h => h) (fun _ => rfl) (fun _ => rfl) (fun y => by show [(y.1, nv (gK xs ys) y.2)] = _; rw [fN]; rfl)
noncomputable abbrev CQ (x : Int) : Int := @max Int ZFast.zw3323075404118771628 0 x
noncomputable abbrev CR (x y : Int) : Int := @min Int ZFast.zw15581519595350621649 x y
noncomputable abbrev jZ (xs : List Value) (i : Nat) : Int := CQ (CR (@ite Int ((i : Int) < 0) (Z.ltZ (i : Int) 0) ((i : Int) + ((⟨xs⟩ : Array Value).size : Int)) (i : Int)) ((⟨xs⟩ : Array Value).size : Int))
noncomputable def j0 (xs : List Value) (i j : Nat) : Array Value := (List.filterMap (fun x => (⟨xs⟩ : Array Value)[x]?) (ZFast.zw10209042966406643723 (jZ xs i) (jZ xs j) 1)).toArray
theorem gZ (xs : List Value) (i : Nat) (h : i ≤ xs.length) : jZ xs i = i := by
 unfold jZ CQ CR
 rw [← ZFast.ze3323075404118771628, ← ZFast.ze15581519595350621649]
 have e1 : ((⟨xs⟩ : Array Value).size : Int) = (xs.length : Int) := rfl
 rw [e1, if_neg (by exact Be _)]
 lia
theorem vH (xs : List Value) (i n : Nat) (h : i + n ≤ xs.length) : List.filterMap (fun x => xs[x]?) ((List.range n).map fun k => i + k) = (xs.drop i).take n := by
 induction n with
 | zero => simp
 | succ n ih =>
  rw [List.range_succ, List.map_append, List.filterMap_append, ih (by lia)]
  have : i + n < xs.length := by lia
  simp only [List.map_cons, List.map_nil, List.filterMap_cons, List.getElem?_eq_getElem this, List.filterMap_nil]
  rw [List.take_succ, List.getElem?_drop, List.getElem?_eq_getElem this]
  rfl
theorem lr (xs : List Value) (i j : Nat) (h : i ≤ j) (hj : j ≤ xs.length) : j0 xs i j = ⟨(xs.drop i).take (j - i)⟩ := by
 unfold j0
 rw [← ZFast.ze10209042966406643723]
 rw [gZ xs i (by lia), gZ xs j hj]
 have e4 : sliceRange (i : Int) (j : Int) 1 = (List.range (j - i)).map fun k => i + k := by
  unfold sliceRange
  by_cases ov : i < j
  ·have : (i : Int) < (j : Int) := by exact j7
   simp only [this, if_true, show (1 : Int) > 0 from by decide]
   have e5 : (((j : Int) - (i : Int) + 1 - 1) / 1).toNat = j - i := by lia
   rw [e5]
   congr 1
   funext k
   lia
  ·have : ¬ (i : Int) < (j : Int) := by lia
   simp only [this, if_false, show (1 : Int) > 0 from by decide, if_true]
   have e5 : j - i = 0 := by lia
   rw [e5]
   rfl
 rw [e4]
 have e6 : (fun x : Nat => (⟨xs⟩ : Array Value)[x]?) = fun x : Nat => xs[x]? := by
  funext x
  simp
 rw [e6, vH xs i (j - i) (by lia)]
set_option smartUnfolding false
theorem H0 (xs : List Value) (i j : Nat) (h : xs.length ≤ 1000) : ¬ ((xs.drop i).take j).length > sizeLine := by
 rw [List.length_take, List.length_drop]
 exact Nat.not_lt.mpr (Nat.le_trans (Nat.min_le_right _ _) (Nat.le_trans (Nat.sub_le _ _) (Nat.le_trans h (by decide))))
theorem Ap (a1 so : Addr) (xs : List Value) (e1 : Nat) (i j : Nat) (ti tj : Tok) (hi : i ≤ j) (hj : j ≤ xs.length) (h : xs.length ≤ 1000) :
  af w b 10 (.call (.builtin "list.__getitem__") ⟨[.ref a1, .ref so], []⟩) [(a1, aa xs e1), (so, ⟨.type "slice", none, .fields ⟨[.int i ti, .int j tj, .none]⟩, ⟨[]⟩⟩)] []
   (X := Addr × Nat) (fun _ => True) (fun y => .ok (.ret (.ref y.1))) (fun y => [(a1, aa xs e1), (so, ⟨.type "slice", none, .fields ⟨[.int i ti, .int j tj, .none]⟩, ⟨[]⟩⟩)]) (fun y => [(y.1, nv (j0 xs i j) y.2)]) := by
 have h' : ¬ (j0 xs i j).size > sizeLine := by
  rw [lr xs i j hi hj]
  exact H0 xs i (j - i) h
 exists zA, 8, 1610331632552, zd, zc, a0
 exists dT, ah (mF h' (by kernel_rfl))
 exists zg, 2, 0
 exact zM 2 [true] (fun o => (zc.S, o.ep 2)) (hs := (ar (Nat.le_refl _) ak))
set_option smartUnfolding true
theorem CS (a1 so : Addr) (xs : List Value) (e1 : Nat) (i j : Nat) (ti tj : Tok) (hi : i ≤ j) (hj : j ≤ xs.length) (h : xs.length ≤ 1000) :
  af w b 10 (.call (.builtin "list.__getitem__") ⟨[.ref a1, .ref so], []⟩) [(a1, aa xs e1), (so, ⟨.type "slice", none, .fields ⟨[.int i ti, .int j tj, .none]⟩, ⟨[]⟩⟩)] []
   (X := Addr × Nat) (fun _ => True) (fun y => .ok (.ret (.ref y.1))) (fun y => [(a1, aa xs e1), (so, ⟨.type "slice", none, .fields ⟨[.int i ti, .int j tj, .none]⟩, ⟨[]⟩⟩)]) (fun y => [(y.1, aa ((xs.drop i).take (j - i)) y.2)]) :=
 (Ap a1 so xs e1 i j ti tj hi hj h).map id (fun _ h => h) (fun _ => rfl) (fun _ => rfl) (fun y => by rw [lr xs i j hi hj]; rfl)
set_option smartUnfolding false
theorem I8 (a : Addr) (xs : List Value) (h : xs.length ≤ 1000) :
  af w b 10 (.call (.builtin "len") ⟨[.ref a], []⟩) [(a, aj xs)] []
   (X := Tok) (fun _ => True) (fun y => .ok (.ret (.int xs.length y))) (fun y => [(a, aj xs)]) (fun y => []) := by
 have h' : ¬ ((xs.length : Nat) : Int) ≥ 2 ^ 63 := by exact nS
 exists zA, 9, 631502601, zd, zc, a0
 exists dT, df (by omega)
 exists zg, 2, 0
 exact zM 1 [] (fun o => o.rt)
theorem kG (a : Addr) (xs : List Value) (e : Nat) (h : xs.length ≤ 1000) :
  af w b 10 (.call (.builtin "len") ⟨[.ref a], []⟩) [(a, aa xs e)] []
   (X := Tok) (fun _ => True) (fun y => .ok (.ret (.int xs.length y))) (fun y => [(a, aa xs e)]) (fun y => []) := by
 have h' : ¬ ((xs.length : Nat) : Int) ≥ 2 ^ 63 := by exact nS
 exists zA, 9, 631502601, zd, zc, a0
 exists dT, df (by omega)
 exists zg, 2, 0
 exact zM 1 [] (fun o => o.rt)
noncomputable abbrev j1 (a n : Nat) (t1 t2 t3 : Tok) : Obj := ⟨.type "range", none, .fields ⟨[.int a t1, .int n t2, .int (1 : Nat) t3]⟩, ⟨[]⟩⟩
theorem fH (n : Nat) (tn : Tok) :
  af w b 4 (.call (.type "range") ⟨[.int n tn], []⟩) [] []
   (X := Addr × Tok × Tok) (fun _ => True) (fun v => .ok (.ret (.ref v.1))) (fun _ => []) (fun v => [(v.1, j1 0 n v.2.1 tn v.2.2)]) := by
 exists zA, 16, 78937825252551, zd, zc, a
 exact zM 0 [true] (fun o => (zc.S, zc.s.toks, zc.s.toks + 1)) (hs := (ar (Nat.le_refl _) ak))
theorem q9 (m n : Nat) (tm tn : Tok) :
  af w b 4 (.call (.type "range") ⟨[.int m tm, .int n tn], []⟩) [] []
   (X := Addr × Tok) (fun _ => True) (fun v => .ok (.ret (.ref v.1))) (fun _ => []) (fun v => [(v.1, j1 m n tm tn v.2)]) := by
 exists zA, 14, 78937825252551, zd, zc, a
 exact zM 0 [true] (fun o => (zc.S, zc.s.toks)) (hs := (ar (Nat.le_refl _) ak))
theorem fI (a : Addr) (n : Nat) (hn : n ≤ 10) (t1 t2 t3 : Tok) :
  af w b 4 (.call (.builtin "range.__iter__") ⟨[.ref a], []⟩) [(a, j1 0 n t1 t2 t3)] []
   (X := Addr) (fun _ => True) (fun v => .ok (.ret (.ref v))) (fun _ => [(a, j1 0 n t1 t2 t3)]) (fun v => [(v, cj 0 n)]) := by
 rcases n with _ | _ | _ | _ | _ | _ | _ | _ | _ | _ | _ | n
 case succ.succ.succ.succ.succ.succ.succ.succ.succ.succ.succ => lia
 all_goals
  exists zA, 7, 12755052, zd, zc, a0
  exact zM 1 [true] (fun o => zc.S) (hs := (ar (Nat.le_refl _) ak))
theorem ra (a : Addr) (n : Nat) (hn : n ≤ 10) (t1 t2 t3 : Tok) :
  af w b 4 (.call (.builtin "range.__iter__") ⟨[.ref a], []⟩) [(a, j1 1 (n + 1) t1 t2 t3)] []
   (X := Addr) (fun _ => True) (fun v => .ok (.ret (.ref v))) (fun _ => [(a, j1 1 (n + 1) t1 t2 t3)]) (fun v => [(v, cj 1 n)]) := by
 rcases n with _ | _ | _ | _ | _ | _ | _ | _ | _ | _ | _ | n
 case succ.succ.succ.succ.succ.succ.succ.succ.succ.succ.succ => lia
 all_goals
  exists zA, 7, 12755052, zd, zc, a0
  exact zM 1 [true] (fun o => zc.S) (hs := (ar (Nat.le_refl _) ak))
set_option smartUnfolding true
theorem tU : bitsQ 10 = 4 := by rw [← bitsQ_eq]; decide +kernel
theorem F7 (y : Int) : (@Bool.rec (fun _ => Bool) ((fun _ => false) ()) ((fun _ => ZFast.zw11032021987095106713 (↑(bitsQ 10) + ↑(bitsQ y))) ()) (decide (bitsQ 10 > shortFactorBits) && decide (bitsQ y > shortFactorBits))) = false := by
 have e : (decide (bitsQ 10 > shortFactorBits) && decide (bitsQ y > shortFactorBits)) = false := by
  rw [tU]
  have : decide (4 > shortFactorBits) = false := by decide +kernel
  rw [this, Bool.false_and]
 rw [e]
set_option smartUnfolding false
theorem cL (y : Nat) (tx ty : Tok) (hy : y ≤ 1000000) :
  af w b 1 (.call (.builtin "int.__mul__") ⟨[.int 10 tx, .int y ty], []⟩) [] []
   (X := Tok) (fun _ => True) (fun v => .ok (.ret (.int (10 * y : Nat) v))) (fun _ => []) (fun _ => []) := by
 exists zA, 1, 1, zd, zc, a
 exists dT, bf (F7 (y : Int))
 exists zg, 2, 0
 exact zM 0 [] (fun o => o.rt)
theorem iT (x y : Int) (tx ty : Tok) :
  af w b 2 (.call (.builtin "int.__add__") ⟨[.int x tx, .int y ty], []⟩) [] []
   (X := Tok) (fun _ => True) (fun v => .ok (.ret (.int (x + y) v))) (fun _ => []) (fun _ => []) := by
 exists zA, 3, 1, zd, zc, a
 exact zM 0 [] (fun o => o.rt)
theorem iD (x y : Nat) (tx ty : Tok) :
  af w b 2 (.call (.builtin "int.__add__") ⟨[.int x tx, .int y ty], []⟩) [] []
   (X := Tok) (fun _ => True) (fun v => .ok (.ret (.int (x + y : Nat) v))) (fun _ => []) (fun _ => []) :=
 (iT x y tx ty).map id (fun _ h => h) (fun _ => by show _ = Except.ok (Flow.ret (.int ((x + y : Nat) : Int) _)); rw [Int.natCast_add]; rfl) (fun _ => rfl) (fun _ => rfl)
theorem CT (x y : Int) (tx ty : Tok) :
  af w b 2 (.call (.builtin "int.__sub__") ⟨[.int x tx, .int y ty], []⟩) [] []
   (X := Tok) (fun _ => True) (fun v => .ok (.ret (.int (x - y) v))) (fun _ => []) (fun _ => []) := by
 exists zA, 3, 1, zd, zc, a
 exact zM 0 [] (fun o => o.rt)
theorem Aq (x : Int) (y : Nat) (tx ty : Tok) (hy : 0 < y) (fC : y ≤ 100) :
  af w b 2 (.call (.builtin "int.__mod__") ⟨[.int x tx, .int y ty], []⟩) [] []
   (X := Tok) (fun _ => True) (fun v => .ok (.ret (.int (Z.oMod.1 x (y : Int)) v))) (fun _ => []) (fun _ => []) := by
 exists zA, 1, 1, zd, zc, a
 exists dT, bf (b5 (by lia))
 exists zg, 2, 0
 exact zM 0 [] (fun o => o.rt)
theorem tV (x : Int) (y : Nat) (tx ty : Tok) (hy : y = 5 ∨ y = 25 ∨ y = 2) :
  af w b 2 (.call (.builtin "int.__floordiv__") ⟨[.int x tx, .int y ty], []⟩) [] []
   (X := Tok) (fun _ => True) (fun v => .ok (.ret (.int (Z.oDiv.1 x (y : Int)) v))) (fun _ => []) (fun _ => []) := by
 rcases hy with rfl | rfl | rfl
 all_goals
  exists zA, 3, 1, zd, zc, a
  exact zM 0 [] (fun o => o.rt)
theorem hC (x y : Int) (tx ty : Tok) :
  af w b 0 (.call (.builtin "int.__le__") ⟨[.int x tx, .int y ty], []⟩) [] []
   (X := Bool) (fun v => v = true ↔ x ≤ y) (fun v => .ok (.ret (.bool v))) (fun _ => []) (fun _ => []) := by
 exists zA, 2, 1, zd, zc, a
 exact zN 0 [] (@decide (x ≤ y) (Z.leZ x y)) (hx := (@decide_eq_true_iff _ (Z.leZ x y)))
set_option smartUnfolding true
theorem bc (x y : Int) (tx ty : Tok) :
  af w b 0 (.call (.builtin "int.__lt__") ⟨[.int x tx, .int y ty], []⟩) [] []
   (X := Bool) (fun v => v = true ↔ x < y) (fun v => .ok (.ret (.bool v))) (fun _ => []) (fun _ => []) := by
 exists zA, 2, 1, zd, zc, a
 exact zN 0 [] (@decide (x < y) (Z.ltZ x y)) (hx := (@decide_eq_true_iff _ (Z.ltZ x y)))
set_option smartUnfolding false
theorem tW (c : Nat) (n : Nat) (tx tn : Tok) (hn : 1 ≤ n) (hn : n ≤ 6) :
  af w b 2 (.call (.builtin "str.__mul__") ⟨[.str ⟨⟨[c]⟩⟩ tx, .int n tn], []⟩) [] []
   (X := Tok) (fun _ => True) (fun v => .ok (.ret (.str ⟨⟨List.replicate n c⟩⟩ v))) (fun _ => []) (fun _ => []) := by
 rcases n with _ | _ | _ | _ | _ | _ | _ | n
 case zero => lia
 case succ.succ.succ.succ.succ.succ.succ => lia
 all_goals
  exists zA, 3, 1, zd, zc, a
  exact zM 0 [] (fun o => o.rt)
set_option smartUnfolding true
theorem intMod (x : Int) (y : Nat) (tx ty : Tok) (hy : 0 < y) (fC : y ≤ 100) :
  af w b 2 (.call (.builtin "int.__mod__") ⟨[.int x tx, .int y ty], []⟩) [] []
   (X := Tok) (fun _ => True) (fun v => .ok (.ret (.int ((x % y).toNat : Nat) v))) (fun _ => []) (fun _ => []) :=
 (Aq x y tx ty hy fC).map id (fun _ h => h) (fun _ => by
  have : Z.oMod.1 x (y : Int) = ((x % y).toNat : Nat) := by
   rw [Z.oMod.2, Int.fmod_eq_emod_of_nonneg x (by lia)]
   have := Int.emod_nonneg x (b := (y : Int)) (by lia)
   lia
  rw [this]; rfl) (fun _ => rfl) (fun _ => rfl)
theorem lu (x y r : Nat) (tx ty : Tok) (hy : 0 < y) (fC : y ≤ 100) (h : x % y = r) :
  af w b 2 (.call (.builtin "int.__mod__") ⟨[.int x tx, .int y ty], []⟩) [] []
   (X := Tok) (fun _ => True) (fun v => .ok (.ret (.int (r : Nat) v))) (fun _ => []) (fun _ => []) :=
 (intMod x y tx ty hy fC).map id (fun _ h => h) (fun _ => by
  have : ((x : Int) % (y : Int)).toNat = r := by rw [← h]; lia
  rw [this]; rfl) (fun _ => rfl) (fun _ => rfl)
theorem gw (x y r : Nat) (tx ty : Tok) (hy : y = 5 ∨ y = 25 ∨ y = 2) (h : x / y = r) :
  af w b 2 (.call (.builtin "int.__floordiv__") ⟨[.int x tx, .int y ty], []⟩) [] []
   (X := Tok) (fun _ => True) (fun v => .ok (.ret (.int (r : Nat) v))) (fun _ => []) (fun _ => []) :=
 (tV x y tx ty hy).map id (fun _ h => h) (fun _ => by
  have : Z.oDiv.1 (x : Int) (y : Int) = (r : Nat) := by
   rw [Z.oDiv.2, Int.fdiv_eq_ediv_of_nonneg _ (by lia), ← h]
   rfl
  rw [this]; rfl) (fun _ => rfl) (fun _ => rfl)
theorem F8 (v : VF) (tn : Tok) (qs : List Pt) (p : Pt) (oo : p.f = sB) (oq : p.x ≠ Str.ofString "") (ep : Nat) (tk tz : Tok) (z : Nat) (qY : z ≤ 100) (ls : List (Str × Tok)) (e1 : Nat) (ir : ls.length ≤ 5) (gu : ∀ q ∈ ls, q.1.length ≤ 1000) (t0 t1 : Obj) (bK : bg t0) (bR : bo t1)
  (bU : ∀ q ∈ qs ++ [p], q.ok) (h6 : qs.length ≤ 5) (hp : 0 < bw (qs ++ [p])) (lF : bw (qs ++ [p]) ≤ 1000) (iQ : (strOf (qs ++ [p])).cps.all Unicode.isSpace = false) (kx : (strOf (qs ++ [p])).length ≤ 1000) :
  af w b 20 (.call (.ref 42) ⟨[.ref v.aV, .str sN tn], []⟩)
   [(v.aV, v.O), (v.de, v.D w), (v.aA, aq v.aD (bE (as (qs ++ [p]))) ep), (v.aD, bJ (au w "_initial_size") tk tz z), (v.aL, aa (aE ls) e1), (140, t0), (147, t1)] ((qs ++ [p]).map Pt.K)
   (X := Tok × Nat × Tok × Nat × Tok × Obj × Obj) (fun y => bg y.2.2.2.2.2.1 ∧ bo y.2.2.2.2.2.2) (fun y => .ok (.ret (.str (cp sN ((ls.map (·.1)) ++ [strOf (qs ++ [p])])) y.1))) (fun y => [(v.aV, v.O), (v.de, v.D w), (v.aA, aq v.aD [] y.2.1), (v.aD, bJ (au w "_initial_size") tk y.2.2.1 (0 : Nat)), (v.aL, aa (aE ls ++ [.str (strOf (qs ++ [p])) y.2.2.2.2.1]) y.2.2.2.1), (140, y.2.2.2.2.2.1), (147, y.2.2.2.2.2.2)]) (fun _ => []) := by
 have h := I6 (w := w) (b := b) v tn qs p oo oq ep tk tz z qY ls e1 ir gu t0 t1 bK bR bU h6 hp lF iQ kx
 have e : bE (as (qs ++ [p])) = bE (as qs) ++ [.ref p.a] := by simp [bE, as]
 rw [e]
 exact (af.iL (T1 := [p.K]) (K := [(v.aV, v.O), (v.de, v.D w), (v.aA, aq v.aD (bE (as qs) ++ [.ref p.a]) ep), (v.aD, bJ (au w "_initial_size") tk tz z), (v.aL, aa (aE ls) e1), (140, t0), (147, t1)])
  (Kf := fun (y : Tok × Nat × Tok × Nat × Tok × Obj × Obj) => [(v.aV, v.O), (v.de, v.D w), (v.aA, aq v.aD [] y.2.1), (v.aD, bJ (au w "_initial_size") tk y.2.2.1 (0 : Nat)), (v.aL, aa (aE ls ++ [.str (strOf (qs ++ [p])) y.2.2.2.2.1]) y.2.2.2.1), (140, y.2.2.2.2.2.1), (147, y.2.2.2.2.2.2)]) h).perm (gr qs p).symm
set_option smartUnfolding false
theorem F9 (L aW aC it : Addr) (v : VF) (k1 k2 k3 k4 k5 th tw : Tok) (hd : Nat) (ws : List (Str × Tok)) (cZ : ∀ q ∈ ws, c7 q.1) (h6 : ws.length = 6) (ew : Nat) (cut : List (Nat × Tok)) (hc : cut.length ≤ 5) (h0 : 0 ∉ cut.map (·.1)) (tk : Tok) (iv : hd + 7 ≤ v.wd) (hh : hd ≤ 100) (ep e1 : Nat) (tz : Tok) (o0 o1 : Obj) (bK : bg o0) (bR : bo o1) (c8 : Nat) :
  af w b 24 (fU (dq jD 1) it (cS jR 226 L []))
   (iR w v L aW aC it ws ew cut tk (kE w aW aC hd v.wd v.aV k1 k2 k3 k4 k5 th tw [] c8) (cj 0 6) [] ep tz hd [] e1 o0 o1) []
   (X := LE) (fun y => y.Ok (tS w aW aC hd v.wd v.aV k1 k2 k3 k4 k5 th tw) [] v.wd (cut.map (·.1)) 0 ws.length (ws.map (·.1)) ⟨[], hd, []⟩) (fun y => .ok .next)
   (fun y => iR w v L aW aC it ws ew cut tk y.fr y.ie (bE (as (y.pp []))) y.ep y.tz y.z (aE y.ls) y.e1 y.o0 y.o1) (fun y => y.new.map Pt.K) := by
 obtain ⟨⟨x, tx⟩, hx⟩ : ∃ q, ws[0]? = some q := ⟨ws[0]'(by lia), List.getElem?_eq_getElem (by lia)⟩
 have kc : (x, tx) ∈ ws := List.mem_of_getElem? hx
 have jK : c7 x := cZ _ kc
 have tT : (aE ws)[0]? = some (.str x tx) := by simp [aE, hx]
 have cW : ws.map (·.1) = x :: (ws.drop 1).map (·.1) := by
  cases ws with
  | nil => simp at hx
  | cons q l =>
   simp at hx
   subst hx
   rfl
 rw [cW]
 have lE : x.length ≤ 6 := jK.h6
 have ei : c0 v.wd (cut.map (·.1)) 0 x ⟨[], hd, []⟩ = ⟨[], hd, [x]⟩ := by
  simp only [c0, h0, if_false]
  rw [if_pos (by simp [fG]; lia)]
  rfl
 have ax : ∀ (a' : Addr) (tf : Tok) (jL : Nat) (gj : Nat) (gJ : Obj) (kF : bg gJ) (k6 : Tok) (iS : Value), af w b 24 (fU (dq jD 1) it (cS jR 226 L []))
      (iR w v L aW aC it ws ew cut tk (kE w aW aC hd v.wd v.aV k1 k2 k3 k4 k5 th tw [av (au w "k") "k" k6 iS] gj) (cj 1 5) [.ref a'] jL tz hd [] e1 gJ o1) [(a', aj [.str sB tf, .str x tx])]
      (X := LE) (fun y => y.Ok (tS w aW aC hd v.wd v.aV k1 k2 k3 k4 k5 th tw) [⟨a', sB, tf, x, tx⟩] v.wd (cut.map (·.1)) (0 + 1) ws.length ((ws.drop 1).map (·.1)) ⟨[], hd, [x]⟩) (fun y => .ok .next)
      (fun y => iR w v L aW aC it ws ew cut tk y.fr y.ie (bE (as (y.pp [⟨a', sB, tf, x, tx⟩]))) y.ep y.tz y.z (aE y.ls) y.e1 y.o0 y.o1) (fun y => y.new.map Pt.K) := by
  intro a' tf jL gj gJ kF k6 iS
  exact F4 L aW aC it v k1 k2 k3 k4 k5 th tw hd ws cZ (by lia) ew cut hc tk (by lia) 5 1 (by lia) (by exact Nat.le_refl _) [⟨a', sB, tf, x, tx⟩] (fun p hp => by
      rw [List.mem_singleton.mp hp]; exact ⟨rfl, jK⟩) (by simp) [] (by simp) (fun q hq => nomatch hq) hd hh jL e1 tz gJ o1 kF bR k6 iS gj
 exists zA, 3, 103, zd, zc, a
 exists zH, 16, 33162755102, [1], du it 0 5, y1, n1, t1
 exists zH, 30, 1021793521273205815535196110631377702, [4], (oS aC cut hc 0 y1).cO h0, _, n2, t2
 exists zH, 3, 101, [5], dt aW (aE ws) ew 0 (.str x tx) tT (by lia) y1, _, n3, t3
 exists zH, 2, 2, [2, 3, 6, 7, 9], lT v [] ep tk tz hd o0 bK (fun q hq => nomatch hq) (by decide) x t2 tx (by exact aO) (hd + (1 + x.length)) (by simp [bw]) (by lia) (by lia), y4, n4, t4, G4, a4, ey, dH
 refine aZ (Ta := [(y4.1, aj [.str sB t2, .str x tx])]) zc.ro a4 zc.hL [0, 1, 2, 3, 4, 5, 6, 7, 8, 9, 10] [11] [] (ax y4.1 t2 y4.2.1 (c8 + 1) y4.2.2 ey (t1 + 0) (.int (0 : Nat) y1)) (by kernel_rfl) (by kernel_rfl) (fun _ h => nomatch h) List.nodup_nil fun y n5 t5 G5 a5 hy hN => ?_
 obtain ⟨eO, kd, ke, pV, pW, pX, pY, pZ, p7⟩ := y.mJ false ⟨y4.1, sB, t2, x, tx⟩
 have iu := y.nt ⟨y4.1, sB, t2, x, tx⟩ []
 refine eS zc.post zc.ro a5 11 (y.add false ⟨y4.1, sB, t2, x, tx⟩) (hy.add ei iu) rfl ((by kernel_rfl : bk 11 _ = iR w v L aW aC it ws ew cut tk y.fr y.ie (bE (as (y.pp [⟨y4.1, sB, t2, x, tx⟩]))) y.ep y.tz y.z (aE y.ls) y.e1 y.o0 y.o1).trans (by (with_reducible conv => rhs; whnf); rw [iu, eO, kd, ke, pV, pW, pX, pY, pZ, p7])) ?_ (by kernel_rfl) ?_
 ·exact jx (y.gv false ⟨y4.1, sB, t2, x, tx⟩) (by kernel_rfl)
 ·intro p hp
  rcases List.mem_cons.mp ((y.gv false ⟨y4.1, sB, t2, x, tx⟩).subset hp) with rfl | hp
  ·exact dH (y4.1, aj [.str sB t2, .str x tx]) (by simp)
  ·exact hN p hp
noncomputable def gc (wd hd : Nat) (cut : List Nat) (xs : List Str) : Str := cp sN ((lV wd cut 0 xs ⟨[], hd, []⟩).ls ++ [bV (lV wd cut 0 xs ⟨[], hd, []⟩).cur])
theorem vI (aW aC : Addr) (hd wd : Nat) (th tw : Tok) (ws : List (Str × Tok)) (cZ : ∀ q ∈ ws, c7 q.1) (h6 : ws.length = 6) (ew : Nat) (cut : List (Nat × Tok)) (hc : cut.length ≤ 5) (h0 : 0 ∉ cut.map (·.1)) (iv : hd + 7 ≤ wd) (hh : hd ≤ 100) (o0 o1 : Obj) (bK : bg o0) (bR : bo o1) :
  af w b 26 (.call (.ref 226) ⟨[.ref aW, .ref aC, .int hd th, .int wd tw], []⟩)
   [(140, o0), (147, o1), (aW, aa (aE ws) ew), (aC, aj (ag cut))] []
   (X := Tok × Obj × Obj) (fun y => bg y.2.1 ∧ bo y.2.2) (fun y => .ok (.ret (.str (gc wd hd (cut.map (·.1)) (ws.map (·.1))) y.1))) (fun y => [(140, y.2.1), (147, y.2.2), (aW, aa (aE ws) ew), (aC, aj (ag cut))]) (fun _ => []) := by
 exists zA, 20, 11957908163265051, zd, zc, a
 (refine zP 56 1148469087680874805783434790007922114158163265306122448979591836734694515051 (bB jR 226 zc.S []) ?_; intro ou)
 refine zK [6, 5] (Cy (zc.S + 2) (zc.S + 1) hd wd th tw (zc.s.toks + 4) (zc.s.toks + 5)) @fun y n2 t2 G2 a2 hy _ => ?_
 obtain ⟨⟨aV, de, aL, aA, aD, ow, k1, k2, k3, k4, k5, k6, t1, gQ, t3, t4⟩, CU⟩ := y
 obtain ⟨b4, fC, ej⟩ := hy
 dsimp only at b4 fC ej
 subst b4 fC ej
 exists yg, 47, 2699968724214546045224730938297193877806
 refine zK [4, 11, 6, 5, 3, 2, 9, 8, 7, 0, 1] (F9 zc.S aW aC (n2 + 1) ⟨zc.S + 2, zc.S + 1, aL, aA, aD, ow, k1, k2, k3, k4, k5, k6, t1, gQ, t3, t4⟩ (zc.s.toks + 0) (zc.s.toks + 1) (zc.s.toks + 2) (zc.s.toks + 3) (t2 + 0) th tw hd ws cZ h6 ew cut hc h0 CU iv hh 0 0 th o0 o1 bK bR 5) @fun y n3 ox G3 a3 ej kf => ?_
 obtain ⟨old, new, z, ls, ep, e1, tz, gJ, mL, mC, ie⟩ := y
 obtain ⟨CV, iS, gj, cP⟩ := ej.fr
 dsimp only at cP
 subst cP
 have iu : (LE.mk old new z ls ep e1 tz gJ mL (kE w aW aC hd ow (zc.S + 2) (zc.s.toks + 0) (zc.s.toks + 1) (zc.s.toks + 2) (zc.s.toks + 3) (t2 + 0) th tw [av (au w "k") "k" CV iS] gj) ie).pp [] = new := by unfold LE.pp; cases old <;> rfl
 obtain ⟨g0, g1, p8, yb, p9, H2, gz, _, fi⟩ := ej
 rw [iu] at p8 yb p9 fi
 dsimp only at p8 yb p9 fi g0 g1 H2 gz
 obtain ⟨qs, p, rfl⟩ : ∃ qs p, new = qs ++ [p] := ⟨new.dropLast, new.getLast (by intro e; rw [e] at yb; simp at yb), (List.dropLast_concat_getLast _).symm⟩
 have pU := p8 p (by simp)
 have mK : bw (qs ++ [p]) = fG ((qs ++ [p]).map (·.x)) := pR p8
 have jK : ∀ y ∈ (qs ++ [p]).map (·.x), c7 y := fun y hy => by
  obtain ⟨q, hq, rfl⟩ := List.mem_map.mp hy
  exact (p8 q hq).2
 have pT : strOf (qs ++ [p]) = bV ((qs ++ [p]).map (·.x)) := mI p8
 have pP : 0 < bw (qs ++ [p]) := by rw [mK]; exact q8 (x := p.x) (by simp)
 have dg : bw (qs ++ [p]) ≤ 42 := by
  have h1 := pS jK
  rw [mK]
  simp at h1 p9 ⊢
  lia
 have iQ : (strOf (qs ++ [p])).cps.all Unicode.isSpace = false := by
  rw [pT]
  exact ot jK (by simp)
 have kx : (strOf (qs ++ [p])).length ≤ 1000 := by rw [pT, gI, ← mK]; exact aO
 have CN : qs.length ≤ 5 := by simp at p9; lia
 have Kz : ls.length ≤ 5 := by simp at p9; lia
 have tX : cp sN ((ls.map (·.1)) ++ [strOf (qs ++ [p])]) = gc ow hd (cut.map (·.1)) (ws.map (·.1)) := by
  unfold gc
  rw [← fi, pT]
 refine zq [(140, gJ), (147, mL), (aW, aa (aE ws) ew), (aC, aj (ag cut))]
  [(zc.S, kE w aW aC hd ow (zc.S + 2) (zc.s.toks + 0) (zc.s.toks + 1) (zc.s.toks + 2) (zc.s.toks + 3) (t2 + 0) th tw [av (au w "k") "k" CV iS] gj), (zc.S + 1, VF.D w ⟨zc.S + 2, zc.S + 1, aL, aA, aD, ow, k1, k2, k3, k4, k5, k6, t1, gQ, t3, t4⟩), (zc.S + 2, VF.O ⟨zc.S + 2, zc.S + 1, aL, aA, aD, ow, k1, k2, k3, k4, k5, k6, t1, gQ, t3, t4⟩), (aL, aa (aE ls) e1), (aD, bJ (au w "_initial_size") CU tz z), (aA, aq aD (bE (as ((LE.mk old (qs ++ [p]) z ls ep e1 tz gJ mL (kE w aW aC hd ow (zc.S + 2) (zc.s.toks + 0) (zc.s.toks + 1) (zc.s.toks + 2) (zc.s.toks + 3) (t2 + 0) th tw [av (au w "k") "k" CV iS] gj) ie).pp []))) ep), (n2, j1 0 6 (t2 + 2) (t2 + 1) (t2 + 3)), (n2 + 1, ie)]
  ((qs ++ [p]).map Pt.K) zc.post zc.ro a3 (by kernel_rfl) (by kernel_rfl) fun s4 CX a4 LX yd => ?_
 rw [iu] at CX yd ⊢
 exists zg, 24, 154332287846793008611881377906
 have hL := zc.hL
 refine dC (Ta := []) [6, 5, 9, 8, 7, 0, 1] [] ((qs ++ [p]).map Pt.K) (F8 ⟨zc.S + 2, zc.S + 1, aL, aA, aD, ow, k1, k2, k3, k4, k5, k6, t1, gQ, t3, t4⟩ s4.toks qs p pU.1 pU.2.ne ep CU tz z gz ls e1 Kz H2 gJ mL g0 g1 (fun q hq => (p8 q hq).ok) CN pP (by exact aO) iQ kx) (fun p hp => List.mem_append_left _ hp) (by have := CX.nd; rw [List.map_append, List.nodup_append] at this; exact this.1) @fun y5 n5 t5 G5 a5 eo _ => ?_
 exists zg, 2, 0
 exact eZ yd CX a5 12 [] ((y5.1, y5.2.2.2.2.2.1, y5.2.2.2.2.2.2), cu 4 (bk 12 ou.qs.K), []) ⟨eo, rfl, List.nil_sublist _, ak⟩ (Eq.trans (by kernel_rfl) (congrArg (fun x => (⟨some (.ok (.ret (.str x y5.1)), []), E2 ou, [(140, y5.2.2.2.2.2.1), (147, y5.2.2.2.2.2.2), (aW, aa (aE ws) ew), (aC, aj (ag cut))] ++ cu 4 (bk 12 ou.qs.K), []⟩ : dD)) tX)) (by kernel_rfl) ak
set_option smartUnfolding true
theorem written (aW aC : Addr) (hd wd : Nat) (th tw : Tok) (ws : List (Str × Tok)) (cZ : ∀ q ∈ ws, c7 q.1) (h6 : ws.length = 6) (ew : Nat) (cut : List (Nat × Tok)) (hc : cut.length ≤ 5) (h0 : 0 ∉ cut.map (·.1)) (iv : hd + 7 ≤ wd) (hh : hd ≤ 100) (o0 o1 : Obj) (bK : bg o0) (bR : bo o1) :
  af w b 26 (.call (.ref 226) ⟨[.ref aW, .ref aC, .int hd th, .int wd tw], []⟩)
   [(140, o0), (147, o1)] [(aW, aa (aE ws) ew), (aC, aj (ag cut))]
   (X := Tok × Obj × Obj) (fun y => bg y.2.1 ∧ bo y.2.2) (fun y => .ok (.ret (.str (gc wd hd (cut.map (·.1)) (ws.map (·.1))) y.1))) (fun y => [(140, y.2.1), (147, y.2.2)]) (fun _ => []) :=
 af.iL (K := [(140, o0), (147, o1)]) (T1 := [(aW, aa (aE ws) ew), (aC, aj (ag cut))]) (T := []) (Kf := fun (y : Tok × Obj × Obj) => [(140, y.2.1), (147, y.2.2)]) (vI aW aC hd wd th tw ws cZ h6 ew cut hc h0 iv hh o0 o1 bK bR)
noncomputable def gL (x y : Str) : Str := @HAppend.hAppend Str Str Str (@instHAppendOfAppend Str ZFast.zw178013285451222756) x y
theorem tY (x y : Str) : cl (gL x y) = cl x ++ cl y := by
 unfold gL
 rw [← ZFast.ze178013285451222756]
 show (x.cps ++ y.cps).toList = _
 simp
theorem qb (x y : Str) : (gL x y).length = x.length + y.length := by rw [← kC, tY, List.length_append]; rfl
set_option smartUnfolding false
theorem CY (x : Str) (hx : c7 x) (t1 t2 : Tok) :
  af w b 2 (.call (.builtin "str.__add__") ⟨[.str sB t1, .str x t2], []⟩) [] []
   (X := Tok) (fun _ => True) (fun y => .ok (.ret (.str (gL sB x) y))) (fun y => []) (fun y => []) := by
 have h1 : ¬ (x.length = 0) := by have := hx.h1; exact i4
 have h2 : ¬ ((gL sB x).length > sizeLine) := by
  have := hx.h6
  rw [qb, jc]
  unfold sizeLine
  lia
 exists zA, 1, 1, zd, zc, a0
 exists dT, bf (b5 h1)
 exists ao, ah (mF h2 (by kernel_rfl))
 exists zg, 2, 0
 exact zM 0 [] (fun o => o.rt)
noncomputable def vJ : Stmt → Expr
 | .Return (some e) _ => e
 | _ => .Name Str.empty default
noncomputable def r6 : Expr → Expr
 | .ListComp e _ _ _ => e
 | _ => .Name Str.empty default
noncomputable def lX : Expr → Nat → Expr
 | .Call _ args _ _, i => args.getD i (.Name Str.empty default)
 | _, _ => .Name Str.empty default
noncomputable def dP (names : List (Str × NameKind)) (D : Addr) (cells : List (Str × Addr)) (fd : FuncData) (L : Addr) : Env :=
 { scope := { kind := .function, names := names, isGenerator := false, isCoroutine := false }, locals := D, globals := 3, cells := cells, qual := fd.qualname ++ Str.ofString ".<locals>.", func := none, code := fd.code, frame := some L, builtins := 0 }
noncomputable abbrev bF (e : Expr) (it acc : Addr) (env : Env) : Code := .compLoop e 0 (.ref it) (.ref acc) env
noncomputable abbrev cx (e : Expr) (it acc : Addr) (env : Env) : Code := .compStart e 0 (.ref it) (.ref acc) env
noncomputable abbrev ay (l : List DictEntry) (ep : Nat) : Obj := ⟨jU, none, .dict ⟨l⟩ ep, ⟨[]⟩⟩
noncomputable def Dn (w : World) (x : String) (o : Obj) : Prop := (o = ay [] 0) ∨ ∃ tk v ep, o = ay [av (au w x) x tk v] ep
theorem dv (it a : Addr) (items : List Value) (ep j : Nat) (v : Value) (hv : items[j]? = some v) :
  af w b 0 (.call (.builtin "list_iterator.__next__") ⟨[.ref it], []⟩) [(it, bx a j), (a, aa items ep)] []
   (X := Unit) (fun _ => True) (fun _ => .ok (.ret v)) (fun _ => [(it, bx a (j + 1 : Nat)), (a, aa items ep)]) (fun _ => []) := by
 exists zA, 5, 19005052, zd, zc, a0
 exists dT, os (by simpa using hv)
 exists zg, 3, 102
 exact zM 2 [] (fun _ => ())
theorem gM (it a : Addr) (items : List Value) (ep j : Nat) (hv : items[j]? = none) :
  af w b 0 (.call (.builtin "list_iterator.__next__") ⟨[.ref it], []⟩) [(it, bx a j), (a, aa items ep)] []
   (X := Addr × Addr × Obj) (fun _ => True) (fun y => .error (.ref y.2.1)) (fun y => [(it, y.2.2), (a, aa items ep)]) (fun y => [(y.1, aj []), (y.2.1, lg y.1)]) := by
 exists zA, 5, 19005052, zd, zc, a0
 exists dT, on (by simpa using hv)
 exists zg, 7, 102
 exact zM 2 [true, true] (fun o => (zc.S, zc.S + 1, o.ob 0)) (hs := (ar (Nat.le_refl _) (ar (Nat.le_add_right _ _) ak)))
noncomputable def lY : Expr := vJ (dq s7 1)
noncomputable def r7 : Expr := lX (r6 lY) 0
noncomputable def mM (D L : Addr) : Env := dP [(Str.ofString ".0", .local), (Str.ofString "word", .local)] D [] oO L
theorem vK (it a D L acc : Addr) (j : Nat) (T : KS) (K : KS) {n : Nat} {X : Type} {P : X → Prop} {rf : X → Result} {Kf Nf : X → KS}
  (H : af w b n (bF r7 it acc (mM D L)) ((it, bx a j) :: K) T P rf Kf Nf) : af w b (n + 1) (cx r7 it acc (mM D L)) ((it, bx a j) :: K) T P rf Kf Nf := by
 exists zA, 1, 0, zd, zc, a0
 refine dM ?_
 cases hq : w.params.followText "comprehension-iter-twice"
 ·exists ao, dG (bf hq)
  exists yg, 11, 31881502602
  exact zS H (Nat.ble_eq_true_of_le (Nat.le_succ _))
 ·exists ao, dG (bt hq)
  exists zg, 1, 2
  exact zS H (Nat.ble_eq_true_of_le (Nat.le_succ _))
theorem Ar (it a D L acc : Addr) (xs : List (Str × Tok)) (rb : ∀ q ∈ xs, c7 q.1) (ex : Nat) :
 ∀ (m j : Nat) (hm : j + m = xs.length) (o : Obj) (hD : Dn w "word" o) (done : List (Str × Tok)) (hd : done.length + m ≤ 100) (ed : Nat),
  af w b 10 (bF r7 it acc (mM D L)) [(it, bx a j), (D, o), (acc, aa (aE done) ed), (a, aa (aE xs) ex)] []
   (X := List (Str × Tok) × Nat × Obj × Obj) (fun y => y.1.map (·.1) = done.map (·.1) ++ (xs.drop j).map (fun q => gL sB q.1) ∧ ((m = 0 ∧ y.2.2.1 = o) ∨ ∃ tk v ep, y.2.2.1 = ay [av (au w "word") "word" tk v] ep))
   (fun _ => .ok .next) (fun y => [(it, y.2.2.2), (D, y.2.2.1), (acc, aa (aE y.1) y.2.1), (a, aa (aE xs) ex)]) (fun _ => []) := by
 intro m
 induction m with
 | zero =>
  intro j hm o hD done hd ed
  have bj : (aE xs)[j]? = none := by simp [aE]; exact c6
  exists zA, 3, 102, zd, zc, a0
  exists zH, 2, 7, [0, 3], gM it a (aE xs) ex j bj, y, n1, t1
  exact zM 4 [] (fun _ => (done, ed, o, y.2.2)) (hx := ⟨by rw [List.drop_eq_nil_of_le (by exact c6)]; simp, .inl ⟨rfl, rfl⟩⟩)
 | succ m ih =>
  intro j hm o hD done hd ed
  obtain ⟨⟨x, tx⟩, hx⟩ : ∃ q, xs[j]? = some q := ⟨xs[j]'(by exact cf), List.getElem?_eq_getElem (by exact cf)⟩
  have jK : c7 x := rb _ (List.mem_of_getElem? hx)
  have bj : (aE xs)[j]? = some (.str x tx) := by simp [aE, hx]
  have cW : (xs.drop j).map (fun q => gL sB q.1) = gL sB x :: (xs.drop (j + 1)).map (fun q => gL sB q.1) := by
   have et : j < xs.length := by exact cf
   have : xs[j] = (x, tx) := by
    have := List.getElem?_eq_getElem et
    rw [hx] at this
    exact (Option.some.inj this).symm
   rw [List.drop_eq_getElem_cons et, this]
   rfl
  have ax : ∀ (tk : Tok) (v : Value) (ep : Nat) (t' : Tok) (b8 : Nat), af w b 10 (bF r7 it acc (mM D L)) [(it, bx a (j + 1 : Nat)), (D, ay [av (au w "word") "word" tk v] ep), (acc, aa (aE done ++ [.str (gL sB x) t']) b8), (a, aa (aE xs) ex)] []
   (X := List (Str × Tok) × Nat × Obj × Obj) (fun y => y.1.map (·.1) = done.map (·.1) ++ (xs.drop j).map (fun q => gL sB q.1) ∧ ((m + 1 = 0 ∧ y.2.2.1 = o) ∨ ∃ tk v ep, y.2.2.1 = ay [av (au w "word") "word" tk v] ep))
   (fun _ => .ok .next) (fun y => [(it, y.2.2.2), (D, y.2.2.1), (acc, aa (aE y.1) y.2.1), (a, aa (aE xs) ex)]) (fun _ => []) := by
   intro tk v ep t' b8
   have h := ih (j + 1) (by exact cJ) (ay [av (au w "word") "word" tk v] ep) (.inr ⟨tk, v, ep, rfl⟩) (done ++ [(gL sB x, t')]) (by simp; exact gm) b8
   rw [jY] at h
   refine h.map id (fun y hy => ⟨?_, .inr ?_⟩) (fun _ => rfl) (fun _ => rfl) (fun _ => rfl)
   ·show y.1.map (·.1) = _
    rw [hy.1, cW]
    simp
   ·rcases hy.2 with ⟨_, h2⟩ | h2
    ·exact ⟨tk, v, ep, h2⟩
    ·exact h2
  rcases hD with rfl | ⟨tk, v, ep, rfl⟩
  all_goals
   exists zA, 3, 102, zd, zc, a0
   exists zH, 13, 257653, [0, 3], dv it a (aE xs) ex j (.str x tx) bj, _, n1, t1
   exists zH, 1, 2, [], CY x jK (t1 + 1) tx, y2, n2, t2
   exists zH, 1, 2, [2], bT acc (aE done) ed (.str (gL sB x) y2) (by simp [aE]; exact gA), y3, n3, t3
   skip
  ·exact zO [0, 1, 2, 3] (ax (t1 + 0) (.str x tx) 1 y2 y3)
  ·exact zO [0, 1, 2, 3] (ax tk (.str x tx) ep y2 y3)
noncomputable abbrev sE : Str := Str.ofString ""
set_option smartUnfolding true
theorem KC : sE.length ≤ 1 := Nat.le_trans (Nat.le_of_eq ja) (by decide)
theorem Ga (l : Addr) (ts : Tok) (xs : List (Str × Tok)) (ep : Nat) (hx : ∀ q ∈ xs, q.1.length ≤ 1000) (h1 : 1 ≤ xs.length) (h6 : xs.length ≤ 6) :
  af w b 5 (.call (.builtin "str.join") ⟨[.str sE ts, .ref l], []⟩) [(l, aa (aE xs) ep)] []
   (X := Tok) (fun _ => True) (fun y => .ok (.ret (.str (cp sE (xs.map (·.1))) y))) (fun y => [(l, aa (aE xs) ep)]) (fun _ => []) :=
 x6 sE KC l ts xs ep hx h1 h6
noncomputable def iE (D L jf jg : Addr) : Env := dP [(Str.ofString ".0", .local), (Str.ofString "j", .local), (Str.ofString "bounds", .cell), (Str.ofString "words", .cell)] D [(Str.ofString "words", jf), (Str.ofString "bounds", jg)] oO L
noncomputable abbrev ai (v : Value) : Obj := ⟨.type "cell", none, .cell (some v), ⟨[]⟩⟩
set_option smartUnfolding false
theorem tZ (it D L jf jg acc : Addr) (j m : Nat) (T : KS) (K : KS) {n : Nat} {X : Type} {P : X → Prop} {rf : X → Result} {Kf Nf : X → KS}
  (H : af w b n (bF lY it acc (iE D L jf jg)) ((it, cj j m) :: K) T P rf Kf Nf) : af w b (n + 1) (cx lY it acc (iE D L jf jg)) ((it, cj j m) :: K) T P rf Kf Nf := by
 exists zA, 1, 0, zd, zc, a0
 refine dM ?_
 cases hq : w.params.followText "comprehension-iter-twice"
 ·exists ao, dG (bf hq)
  exists yg, 11, 31881502602
  exact zS H (Nat.ble_eq_true_of_le (Nat.le_succ _))
 ·exists ao, dG (bt hq)
  exists zg, 1, 2
  exact zS H (Nat.ble_eq_true_of_le (Nat.le_succ _))
set_option smartUnfolding true
theorem ua (ws : List (Str × Tok)) (i n : Nat) : ((aE ws).drop i).take n = aE ((ws.drop i).take n) := by simp [aE, List.map_drop, List.map_take]
theorem As (a1 so : Addr) (ws : List (Str × Tok)) (e1 : Nat) (i j : Nat) (ti tj : Tok) (hi : i ≤ j) (hj : j ≤ ws.length) (h : ws.length ≤ 1000) :
  af w b 10 (.call (.builtin "list.__getitem__") ⟨[.ref a1, .ref so], []⟩) [(a1, aa (aE ws) e1), (so, ⟨.type "slice", none, .fields ⟨[.int i ti, .int j tj, .none]⟩, ⟨[]⟩⟩)] []
   (X := Addr × Nat) (fun _ => True) (fun y => .ok (.ret (.ref y.1))) (fun y => [(a1, aa (aE ws) e1), (so, ⟨.type "slice", none, .fields ⟨[.int i ti, .int j tj, .none]⟩, ⟨[]⟩⟩)]) (fun y => [(y.1, aa (aE ((ws.drop i).take (j - i))) y.2)]) := by
 have h := CS (w := w) (b := b) a1 so (aE ws) e1 i j ti tj hi (by simpa [aE] using hj) (by simpa [aE] using h)
 rw [ua] at h
 exact h
noncomputable def rowOf (xs : List Str) : Str := cp sE (xs.map (gL sB))
theorem vL (xs : List Str) : rowOf xs = bV xs := by
 apply Cz
 unfold rowOf
 rw [je, lU, List.flatMap_map]
 congr 1
 funext x
 rw [tY, ya]
 rfl
noncomputable def cz (xs : List Str) : List Nat → List Str
 | a :: b :: r => bV ((xs.drop a).take (b - a)) :: cz xs (b :: r)
 | _ => []
set_option smartUnfolding false
theorem Au (it D L jf jg acc aB aW : Addr) (ws : List (Str × Tok)) (cZ : ∀ q ∈ ws, c7 q.1) (h6 : ws.length = 6) (ew : Nat) (bs : List (Nat × Tok)) (eb : Nat) (j m : Nat) (o : Obj) (hD : Dn w "j" o) (done : List (Str × Tok)) (hd : done.length + m ≤ 100) (ed : Nat)
  (i1 i2 : Nat) (q1 q2 : Tok) (hj : j ≤ 100) (KD : (ag bs)[j]? = some (.int i1 q1)) (KG : (ag bs)[j + 1]? = some (.int i2 q2)) (H3 : i1 < i2) (H4 : i2 ≤ 6)
  {X : Type} {P : X → Prop} {rf : X → Result} {Kf : X → KS}
  (ax : ∀ (tk : Tok) (v : Value) (ep : Nat) (t' : Tok) (b8 : Nat), af w b 16 (bF lY it acc (iE D L jf jg)) [(it, cj (j + 1) m), (D, ay [av (au w "j") "j" tk v] ep), (acc, aa (aE done ++ [.str (bV (((ws.map (·.1)).drop i1).take (i2 - i1))) t']) b8), (jf, ai (.ref aW)), (jg, ai (.ref aB)), (aW, aa (aE ws) ew), (aB, aa (ag bs) eb)] [] P rf Kf (fun _ => []))
  : af w b 16 (bF lY it acc (iE D L jf jg)) [(it, cj j (m + 1)), (D, o), (acc, aa (aE done) ed), (jf, ai (.ref aW)), (jg, ai (.ref aB)), (aW, aa (aE ws) ew), (aB, aa (ag bs) eb)] []
   P rf Kf (fun _ => []) := by
  have rb : ∀ q ∈ (ws.drop i1).take (i2 - i1), c7 q.1 := fun q hq => cZ q (List.mem_of_mem_drop (List.mem_of_mem_take hq))
  have lE : ((ws.drop i1).take (i2 - i1)).length = i2 - i1 := by simp; lia
  have kx : (((ws.drop i1).take (i2 - i1)).map (·.1)) = ((ws.map (·.1)).drop i1).take (i2 - i1) := by simp [List.map_drop, List.map_take]
  rcases hD with rfl | ⟨tk, v, ep, rfl⟩
  all_goals
   exists zA, 3, 102, zd, zc, a
   exists zH, 21, 84502519512653, [0], du it j m, y1, n1, t1
   exists zH, 7, 5156, [6], dt aB (ag bs) eb j (.int i1 q1) KD (by exact aO) y1, _, n2, t2
   exists zH, 5, 270408, [], iD j 1 y1 (t2 + 0), y3, n3, t3
   exists zH, 6, 267857, [6], dt aB (ag bs) eb (j + 1) (.int i2 q2) KG (by lia) y3, _, n4, t4
   refine zK [5, 7] (As aW (n4 + 0) ws ew i1 i2 q1 q2 (by exact Nat.le_of_lt ‹_›) (by lia) (by lia)) @fun y5 n5 t5 _ _ _ _ => ?_
   exists yg, 14, 34695003010
   refine zK [9, 11, 10, 8] (vK (n5 + 0) y5.1 (n5 + 2) L (n5 + 1) 0 [] _ (Ar (n5 + 0) y5.1 (n5 + 2) L (n5 + 1) ((ws.drop i1).take (i2 - i1)) rb y5.2 (i2 - i1) 0 (by lia) (ay [] 0) (.inl rfl) [] (by simp; lia) 0)) @fun y6 n6 t6 G6 a6 ub _ => ?_
   obtain ⟨vs, ev, oD, oi⟩ := y6
   obtain ⟨hv, ud⟩ := ub
   dsimp only at hv ud
   obtain ⟨KH, v6, KI, rfl⟩ : ∃ tk v ep, oD = ay [av (au w "word") "word" tk v] ep := by
    rcases ud with ⟨h, _⟩ | h
    ·lia
    ·exact h
   have KJ : vs.length = i2 - i1 := by
    have := congrArg List.length hv
    rw [List.length_map, List.drop_zero, List.map_nil, List.nil_append, List.length_map, lE] at this
    exact this
   have KL : cp sE (vs.map (·.1)) = bV (((ws.map (·.1)).drop i1).take (i2 - i1)) := by
    rw [hv, ← vL, ← kx]
    unfold rowOf
    rw [List.map_map, List.drop_zero, List.map_nil, List.nil_append]
    rfl
   have KN : ∀ q ∈ vs, q.1.length ≤ 1000 := fun q hq => by
    have h1 : q.1 ∈ vs.map (·.1) := List.mem_map_of_mem hq
    rw [hv] at h1
    simp only [List.map_nil, List.nil_append, List.drop_zero, List.mem_map] at h1
    obtain ⟨q', rh, e⟩ := h1
    rw [← e, qb, jc]
    have := (rb q' rh).h6
    lia
   have hJ : ∀ b tj, af w b 5 (.call (.builtin "str.join") ⟨[.str sE tj, .ref (n5 + 1)], []⟩) [(n5 + 1, aa (aE vs) ev)] []
     (X := Tok) (fun _ => True) (fun y => .ok (.ret (.str (bV (((ws.map (·.1)).drop i1).take (i2 - i1))) y))) (fun y => [(n5 + 1, aa (aE vs) ev)]) (fun _ => []) := fun b tj => by
    have h := Ga (w := w) (b := b) (n5 + 1) tj vs ev KN (by lia) (by lia)
    rw [KL] at h
    exact h
   exists zg, 7, 283163
   exists zH, 2, 2, [10], hJ _ (t1 + 1), y7, n7, t7
   exists zH, 1, 2, [2], bT acc (aE done) ed (.str (bV (((ws.map (·.1)).drop i1).take (i2 - i1))) y7) (by simp [aE]; lia), y8, n8, t8
  ·exact zO [0, 1, 2, 3, 4, 5, 6] (ax (t1 + 0) (.int j y1) 1 y7 y8)
  ·exact zO [0, 1, 2, 3, 4, 5, 6] (ax tk (.int j y1) ep y7 y8)
noncomputable def Up (bs : List Nat) : Prop := bs.Pairwise (· < ·) ∧ ∀ x ∈ bs, x ≤ 6
set_option smartUnfolding true
theorem vM (it D L jf jg acc aB aW : Addr) (ws : List (Str × Tok)) (cZ : ∀ q ∈ ws, c7 q.1) (h6 : ws.length = 6) (ew : Nat) (bs : List (Nat × Tok)) (H5 : Up (bs.map (·.1))) (LY : bs.length ≤ 20) (eb : Nat) :
  ∀ (m j : Nat) (hm : j + m + 1 = bs.length) (o : Obj) (hD : Dn w "j" o) (done : List (Str × Tok)) (hd : done.length + m ≤ 100) (ed : Nat),
  af w b 16 (bF lY it acc (iE D L jf jg)) [(it, cj j m), (D, o), (acc, aa (aE done) ed), (jf, ai (.ref aW)), (jg, ai (.ref aB)), (aW, aa (aE ws) ew), (aB, aa (ag bs) eb)] []
   (X := List (Str × Tok) × Nat × Obj × Obj) (fun y => y.1.map (·.1) = done.map (·.1) ++ cz (ws.map (·.1)) ((bs.map (·.1)).drop j) ∧ ((m = 0 ∧ y.2.2.1 = o) ∨ ∃ tk v ep, y.2.2.1 = ay [av (au w "j") "j" tk v] ep))
   (fun _ => .ok .next) (fun y => [(it, y.2.2.2), (D, y.2.2.1), (acc, aa (aE y.1) y.2.1), (jf, ai (.ref aW)), (jg, ai (.ref aB)), (aW, aa (aE ws) ew), (aB, aa (ag bs) eb)]) (fun _ => []) := by
 intro m
 induction m with
 | zero =>
  intro j hm o hD done hd ed
  have cW : cz (ws.map (·.1)) ((bs.map (·.1)).drop j) = [] := by
   have : ((bs.map (·.1)).drop j).length = 1 := by simp; lia
   generalize (bs.map (·.1)).drop j = l at this
   rcases l with _ | ⟨a, _ | ⟨c, r⟩⟩
   ·rfl
   ·rfl
   ·simp at this
  exists zA, 3, 102, zd, zc, a0
  exists zH, 2, 10, [0], g9 it j, y, n1, t1
  exact zM 7 [] (fun _ => (done, ed, o, y.2.2)) (hx := ⟨by rw [cW]; simp, .inl ⟨rfl, rfl⟩⟩)
 | succ m ih =>
  intro j hm o hD done hd ed
  obtain ⟨⟨i1, q1⟩, H6⟩ : ∃ q, bs[j]? = some q := ⟨bs[j]'(by exact sT), List.getElem?_eq_getElem (by exact sT)⟩
  obtain ⟨⟨i2, q2⟩, H7⟩ : ∃ q, bs[j + 1]? = some q := ⟨bs[j + 1]'(by lia), List.getElem?_eq_getElem (by lia)⟩
  have e1 : (bs.map (·.1))[j]? = some i1 := by simp [H6]
  have e2 : (bs.map (·.1))[j + 1]? = some i2 := by simp [H7]
  have H3 : i1 < i2 := by
   have := List.pairwise_iff_getElem.mp H5.1 j (j + 1) (by simp; exact sT) (by simp; lia) (by lia)
   rw [List.getElem?_eq_getElem (by simp; (first | exact sT | lia))] at e1 e2
   rw [Option.some.inj e1, Option.some.inj e2] at this
   exact this
  have H4 : i2 ≤ 6 := H5.2 i2 (List.mem_of_getElem? e2)
  have cW : cz (ws.map (·.1)) ((bs.map (·.1)).drop j) = bV (((ws.map (·.1)).drop i1).take (i2 - i1)) :: cz (ws.map (·.1)) ((bs.map (·.1)).drop (j + 1)) := by
   have et : j < (bs.map (·.1)).length := by simp; exact sT
   have CZ : j + 1 < (bs.map (·.1)).length := by simp; lia
   rw [List.getElem?_eq_getElem et] at e1
   rw [List.getElem?_eq_getElem CZ] at e2
   rw [List.drop_eq_getElem_cons et, List.drop_eq_getElem_cons CZ, Option.some.inj e1, Option.some.inj e2]
   rfl
  refine Au it D L jf jg acc aB aW ws cZ h6 ew bs eb j m o hD done (by lia) ed i1 i2 q1 q2 (by lia) (by simp [ag, H6]) (by simp [ag, H7]) H3 H4 fun tk v ep t' b8 => ?_
  have h := ih (j + 1) (by lia) (ay [av (au w "j") "j" tk v] ep) (.inr ⟨tk, v, ep, rfl⟩) (done ++ [(bV (((ws.map (·.1)).drop i1).take (i2 - i1)), t')]) (by simp; exact gm) b8
  rw [jY] at h
  refine h.map id (fun y hy => ⟨?_, .inr ?_⟩) (fun _ => rfl) (fun _ => rfl) (fun _ => rfl)
  ·show y.1.map (·.1) = _
   rw [hy.1, cW]
   simp
  ·rcases hy.2 with ⟨_, h2⟩ | h2
   ·exact ⟨tk, v, ep, h2⟩
   ·exact h2
set_option smartUnfolding false
theorem Gb (aW aC : Addr) (ws : List (Str × Tok)) (cZ : ∀ q ∈ ws, c7 q.1) (h6 : ws.length = 6) (ew : Nat) (cut : List (Nat × Tok)) (hc : cut.length ≤ 5) (kH : Up (0 :: cut.map (·.1) ++ [6])) :
  af w b 24 (.call (.ref 214) ⟨[.ref aW, .ref aC], []⟩)
   [(aW, aa (aE ws) ew), (aC, aj (ag cut))] []
   (X := Addr × List (Str × Tok) × Nat) (fun y => y.2.1.map (·.1) = cz (ws.map (·.1)) (0 :: cut.map (·.1) ++ [6])) (fun y => .ok (.ret (.ref y.1))) (fun y => [(aW, aa (aE ws) ew), (aC, aj (ag cut))]) (fun y => [(y.1, aa (aE y.2.1) y.2.2)]) := by
 have hlen : (ag cut).length = cut.length := by simp [ag]
 exists zA, 12, 1275637551, zd, zc, a
 (refine zP 13 13002551 (bB oO 214 zc.S [(Str.ofString "bounds", (zc.S + 2)), (Str.ofString "words", (zc.S + 1))]) ?_; intro ou)
 exists zH, 7, 267907, [1], F5 aC (ag cut) (by simp [ag]; exact aO), y1, n1, t1
 exists zH, 10, 273009, [5, 6], lW (zc.S + 3) y1.1 [.int (0:Nat) (zc.s.toks + 1)] (ag cut) 0 y1.2 (by simp [ag]; lia), y2, n2, t2
 exists zH, 17, 1625318877806, [7, 8], lW y2.1 (n2 + 0) ([.int (0:Nat) (zc.s.toks + 1)] ++ ag cut) [.int (6:Nat) (t2 + 0)] y2.2 0 (by simp [ag]; exact aO), y3, n3, t3
 exists zH, 4, 2, [1], I8 aC (ag cut) (by simp [ag]; exact aO), y4, n4, t4
 exists zH, 2, 2, [], iD (ag cut).length 1 y4 (t4 + 0), y5, n5, t5
 refine zK [] (fH ((ag cut).length + 1) y5) @fun y6 n6 t6 _ _ _ _ => ?_
 exists yg, 6, 5612
 refine zK [10] (fI y6.1 ((ag cut).length + 1) (by simp [ag]; exact aO) y6.2.1 y5 y6.2.2) @fun y7 n7 t7 G7 a7 _ _ => ?_
 have KO : [Value.int (0 : Nat) (zc.s.toks + 1)] ++ ag cut ++ [Value.int (6 : Nat) (t2 + 0)] = ag ((0, zc.s.toks + 1) :: cut ++ [(6, t2 + 0)]) := by simp [ag]
 have H8 : (((0, zc.s.toks + 1) :: cut ++ [(6, t2 + 0)] : List (Nat × Tok))).map (·.1) = 0 :: cut.map (·.1) ++ [6] := by simp
 have Gd : ∀ b, af w b 17 (cx lY y7 (n7 + 0) (iE (n7 + 1) zc.S (zc.S + 1) (zc.S + 2))) [(y7, cj 0 ((ag cut).length + 1)), (n7 + 1, ay [] 0), (n7 + 0, aa [] 0), (zc.S + 1, ai (.ref aW)), (zc.S + 2, ai (.ref y3.1)), (aW, aa (aE ws) ew), (y3.1, aa ([Value.int (0 : Nat) (zc.s.toks + 1)] ++ ag cut ++ [Value.int (6 : Nat) (t2 + 0)]) y3.2)] []
  (X := List (Str × Tok) × Nat × Obj × Obj) (fun y => y.1.map (·.1) = cz (ws.map (·.1)) (0 :: cut.map (·.1) ++ [6]) ∧ ∃ tk v ep, y.2.2.1 = ay [av (au w "j") "j" tk v] ep)
  (fun _ => .ok .next) (fun y => [(y7, y.2.2.2), (n7 + 1, y.2.2.1), (n7 + 0, aa (aE y.1) y.2.1), (zc.S + 1, ai (.ref aW)), (zc.S + 2, ai (.ref y3.1)), (aW, aa (aE ws) ew), (y3.1, aa ([Value.int (0 : Nat) (zc.s.toks + 1)] ++ ag cut ++ [Value.int (6 : Nat) (t2 + 0)]) y3.2)]) (fun _ => []) := fun b => by
  rw [KO, hlen]
  have h := vM (w := w) (b := b) y7 (n7 + 1) zc.S (zc.S + 1) (zc.S + 2) (n7 + 0) y3.1 aW ws cZ h6 ew ((0, zc.s.toks + 1) :: cut ++ [(6, t2 + 0)]) (by rw [H8]; exact kH) (by simp; exact aO) y3.2 (cut.length + 1) 0 (by simp) (ay [] 0) (.inl rfl) [] (by simp; exact aO) 0
  rw [H8] at h
  refine tZ _ _ _ _ _ _ _ _ _ _ (h.map id (fun y hy => ⟨?_, ?_⟩) (fun _ => rfl) (fun _ => rfl) (fun _ => rfl))
  ·exact hy.1
  ·rcases hy.2 with ⟨h1, _⟩ | h2
   ·lia
   ·exact h2
 exists zg, 4, 113
 refine zK [11, 13, 12, 3, 4, 0, 9] (Gd _) @fun y8 n8 t8 G8 a8 Cw _ => ?_
 obtain ⟨vs, ev, oD, oi⟩ := y8
 obtain ⟨hv, LZ, v8, L0, H9⟩ := Cw
 dsimp only at hv H9
 subst H9
 exists zg, 6, 38265
 exact zM 2 [false, false, false, false, false, false, false, false, false, false, true] (fun _ => (n7 + 0, vs, ev)) (hx := hv) (hs := (ar (by have := a7.n; lia) ak))
set_option smartUnfolding true
theorem rows (aW aC : Addr) (ws : List (Str × Tok)) (cZ : ∀ q ∈ ws, c7 q.1) (h6 : ws.length = 6) (ew : Nat) (cut : List (Nat × Tok)) (hc : cut.length ≤ 5) (kH : Up (0 :: cut.map (·.1) ++ [6])) :
  af w b 24 (.call (.ref 214) ⟨[.ref aW, .ref aC], []⟩) [] [(aW, aa (aE ws) ew), (aC, aj (ag cut))]
   (X := Addr × List (Str × Tok) × Nat) (fun y => y.2.1.map (·.1) = cz (ws.map (·.1)) (0 :: cut.map (·.1) ++ [6])) (fun y => .ok (.ret (.ref y.1))) (fun y => []) (fun y => [(y.1, aa (aE y.2.1) y.2.2)]) :=
 af.iL (K := []) (T1 := [(aW, aa (aE ws) ew), (aC, aj (ag cut))]) (T := []) (Kf := fun _ => []) (Gb aW aC ws cZ h6 ew cut hc kH)
set_option smartUnfolding false
theorem yf (x : Str) (tx : Tok) (h : x.length ≤ 1000) :
  af w b 10 (.call (.builtin "len") ⟨[.str x tx], []⟩) [] []
   (X := Tok) (fun _ => True) (fun y => .ok (.ret (.int x.length y))) (fun y => []) (fun y => []) := by
 have h' : ¬ ((x.length : Nat) : Int) ≥ 2 ^ 63 := by exact nS
 exists zA, 6, 2551, zd, zc, a0
 exists dT, df (by exact nS)
 exists zg, 2, 0
 exact zM 0 [] (fun o => o.rt)
noncomputable def I9 : Expr → Expr
 | .BinOp _ _ r _ => r
 | _ => .Name Str.empty default
noncomputable def r8 : Expr → Expr
 | .Compare l _ _ _ => l
 | _ => .Name Str.empty default
noncomputable def r9 : Expr := I9 (lX (r8 (vJ (dq s8 0))) 0)
noncomputable def mN (D L : Addr) : Env := dP [(Str.ofString ".0", .local), (Str.ofString "row", .local), (Str.ofString "len", .globalImplicit)] D [] rU L
set_option smartUnfolding true
theorem fj (l : List (Nat × Tok)) (x : Nat) (t : Tok) : ag (l ++ [(x, t)]) = ag l ++ [.int x t] := by simp [ag]
set_option smartUnfolding false
theorem vN (it a D L acc : Addr) (j : Nat) (T : KS) (K : KS) {n : Nat} {X : Type} {P : X → Prop} {rf : X → Result} {Kf Nf : X → KS}
  (H : af w b n (bF r9 it acc (mN D L)) ((it, bx a j) :: K) T P rf Kf Nf) : af w b (n + 1) (cx r9 it acc (mN D L)) ((it, bx a j) :: K) T P rf Kf Nf := by
 exists zA, 1, 0, zd, zc, a0
 refine dM ?_
 cases hq : w.params.followText "comprehension-iter-twice"
 ·exists ao, dG (bf hq)
  exists yg, 11, 31881502602
  exact zS H (Nat.ble_eq_true_of_le (Nat.le_succ _))
 ·exists ao, dG (bt hq)
  exists zg, 1, 2
  exact zS H (Nat.ble_eq_true_of_le (Nat.le_succ _))
noncomputable def De (w : World) (x : String) (e : Bool) (o : Obj) : Prop := (e = true ∧ o = ay [] 0) ∨ ∃ tk v ep, o = ay [av (au w x) x tk v] ep
set_option smartUnfolding true
theorem bI {α β : Type} (xs : List α) (f : α → β) (j : Nat) (x : α) (h : xs[j]? = some x) : (xs.drop j).map f = f x :: (xs.drop (j + 1)).map f := by
 obtain ⟨et, e⟩ := List.getElem?_eq_some_iff.mp h
 rw [List.drop_eq_getElem_cons et, e]
 rfl
set_option smartUnfolding false
theorem Av (it a D L acc : Addr) (xs : List (Str × Tok)) (rb : ∀ q ∈ xs, q.1.length ≤ 1000) (ex : Nat) (F : List Nat) :
 ∀ (m j : Nat) (hm : j + m = xs.length) (o : Obj) (hD : De w "row" (decide (j = 0)) o) (done : List (Nat × Tok)) (hF : done.map (·.1) ++ (xs.drop j).map (fun q => q.1.length) = F) (hd : done.length + m ≤ 100) (ed : Nat),
  af w b 12 (bF r9 it acc (mN D L)) [(it, bx a j), (D, o), (acc, aa (ag done) ed), (a, aa (aE xs) ex)] []
   (X := List (Nat × Tok) × Nat × Obj × Obj) (fun y => y.1.map (·.1) = F ∧ De w "row" (decide (xs.length = 0)) y.2.2.1)
   (fun _ => .ok .next) (fun y => [(it, y.2.2.2), (D, y.2.2.1), (acc, aa (ag y.1) y.2.1), (a, aa (aE xs) ex)]) (fun _ => []) := by
 intro m
 induction m with
 | zero =>
  intro j hm o hD done hF hd ed
  have bj : (aE xs)[j]? = none := by simp [aE]; exact c6
  exists zA, 3, 102, zd, zc, a0
  exists zH, 2, 7, [0, 3], gM it a (aE xs) ex j bj, y, n1, t1
  exact zM 4 [] (fun _ => (done, ed, o, y.2.2)) (hx := ⟨by rw [← hF, List.drop_eq_nil_of_le (by exact c6)]; simp, by rw [show xs.length = j by exact km]; exact hD⟩)
 | succ m ih =>
  intro j hm o hD done hF hd ed
  obtain ⟨⟨x, tx⟩, hx⟩ : ∃ q, xs[j]? = some q := ⟨xs[j]'(by exact cf), List.getElem?_eq_getElem (by exact cf)⟩
  have jK := rb _ (List.mem_of_getElem? hx)
  have bj : (aE xs)[j]? = some (.str x tx) := by simp [aE, hx]
  have ax : ∀ (tk : Tok) (v : Value) (ep : Nat) (t' : Tok) (b8 : Nat), af w b 12 (bF r9 it acc (mN D L)) [(it, bx a (j + 1 : Nat)), (D, ay [av (au w "row") "row" tk v] ep), (acc, aa (ag done ++ [.int x.length t']) b8), (a, aa (aE xs) ex)] []
   (X := List (Nat × Tok) × Nat × Obj × Obj) (fun y => y.1.map (·.1) = F ∧ De w "row" (decide (xs.length = 0)) y.2.2.1)
   (fun _ => .ok .next) (fun y => [(it, y.2.2.2), (D, y.2.2.1), (acc, aa (ag y.1) y.2.1), (a, aa (aE xs) ex)]) (fun _ => []) := by
   intro tk v ep t' b8
   have h := ih (j + 1) (by exact cJ) (ay [av (au w "row") "row" tk v] ep) (.inr ⟨tk, v, ep, rfl⟩) (done ++ [(x.length, t')]) (by rw [← hF, bI xs _ j _ hx]; simp) (by simp; exact gm) b8
   rw [fj] at h
   exact h
  rcases hD with ⟨_, rfl⟩ | ⟨tk, v, ep, rfl⟩
  all_goals
   exists zA, 3, 102, zd, zc, a0
   exists zH, 14, 643877653, [0, 3], dv it a (aE xs) ex j (.str x tx) bj, _, n1, t1
   exists zH, 2, 2, [], yf x tx jK, y2, n2, t2
   exists zH, 1, 2, [2], bT acc (ag done) ed (.int x.length y2) (by simp [ag]; exact gA), y3, n3, t3
  ·exact zO [0, 1, 2, 3] (ax (t1 + 0) (.str x tx) 1 y2 y3)
  ·exact zO [0, 1, 2, 3] (ax tk (.str x tx) ep y2 y3)
noncomputable def fV (l : List Nat) : Nat := l.foldr max 0
set_option smartUnfolding true
theorem fy (xs : List (Nat × Tok)) (j : Nat) : (ag xs)[j]? = (xs[j]?).map fun q => .int q.1 q.2 := by simp [ag]
set_option smartUnfolding false
theorem Aw (it a kI : Addr) (xs : List (Nat × Tok)) (ex : Nat) (F : Nat) :
 ∀ (m j : Nat) (hm : j + m = xs.length) (c : Nat) (tc : Tok) (hF : max c (fV ((xs.drop j).map (·.1))) = F) (eb : Nat),
  af w b 6 (.builtin "max.loop" ⟨[.ref it, .none, .ref kI], []⟩) [(it, bx a j), (kI, aa [.int c tc, .int c tc] eb), (a, aa (ag xs) ex)] []
   (X := Tok × Obj × Nat) (fun y => True) (fun y => .ok (.ret (.int F y.1))) (fun y => [(it, y.2.1), (kI, aa [] y.2.2), (a, aa (ag xs) ex)]) (fun _ => []) := by
 intro m
 induction m with
 | zero =>
  intro j hm c tc hF eb
  have bj : (ag xs)[j]? = none := by simp [ag]; exact c6
  have hc : c = F := by rw [← hF, List.drop_eq_nil_of_le (by exact c6)]; simp [fV]
  subst hc
  exists zA, 3, 5103, zd, zc, a0
  exists zH, 6, 382656, [0, 2], gM it a (ag xs) ex j bj, y, n1, t1
  exact zM 3 [] (fun o => (tc, y.2.2, o.ep 1))
 | succ m ih =>
  intro j hm c tc hF eb
  obtain ⟨⟨x, tx⟩, hx⟩ : ∃ q, xs[j]? = some q := ⟨xs[j]'(by exact cf), List.getElem?_eq_getElem (by exact cf)⟩
  have bj : (ag xs)[j]? = some (.int x tx) := by rw [fy, hx]; rfl
  rw [bI xs _ j _ hx] at hF
  have ue : max (max c x) (fV ((xs.drop (j + 1)).map (·.1))) = F := by rw [← hF]; simp [fV, Nat.max_assoc]
  by_cases f6 : ((c : Nat) : Int) < (x : Nat)
  ·have ax := ih (j + 1) (by exact cJ) x tx (by rw [← ue, show max c x = x by lia])
   exists zA, 3, 5103, zd, zc, a0
   refine zK [0, 2] (dv it a (ag xs) ex j (.int x tx) bj) @fun _ n1 t1 _ _ _ _ => ?_
   exists yg, 2, 2
   exists zH, 7, 257653, [], (dU x c tx tc).ck f6, _, n2, t2
   exact zO [0, 1, 2] (ax eb)
  ·have ax := ih (j + 1) (by exact cJ) c tc (by rw [← ue, show max c x = c by lia])
   exists zA, 3, 5103, zd, zc, a0
   refine zK [0, 2] (dv it a (ag xs) ex j (.int x tx) bj) @fun _ n1 t1 _ _ _ _ => ?_
   exists yg, 2, 2
   exists zH, 4, 2, [], (dU x c tx tc).cO f6, _, n2, t2
   exact zO [0, 1, 2] (ax eb)
theorem Ja (a : Addr) (xs : List (Nat × Tok)) (ex : Nat) (h0 : 0 < xs.length) :
  af w b 8 (.call (.builtin "max") ⟨[.ref a], []⟩) [(a, aa (ag xs) ex)] []
   (X := Tok) (fun y => True) (fun y => .ok (.ret (.int (fV (xs.map (·.1))) y))) (fun y => [(a, aa (ag xs) ex)]) (fun _ => []) := by
 obtain ⟨⟨x, tx⟩, hx⟩ : ∃ q, xs[0]? = some q := ⟨xs[0]'(by lia), List.getElem?_eq_getElem (by lia)⟩
 have bj : (ag xs)[0]? = some (.int x tx) := by rw [fy, hx]; rfl
 have hF : max x (fV ((xs.drop 1).map (·.1))) = fV (xs.map (·.1)) := by
  have := bI xs (·.1) 0 _ hx
  rw [List.drop_zero] at this
  rw [this]; rfl
 (refine zB ?_; intro zd zc a0)
 exists yg, 15, 201328953450130101
 exists zH, 4, 260204, [1, 0], dv (zc.S + 0) a (ag xs) ex 0 (.int x tx) bj, _, n1, t1, G1, a1, _, _
 refine aZ (Ta := []) zc.ro a1 zc.hL [1, 2, 0] [] [] (Aw (zc.S + 0) a (zc.S + 1) xs ex (fV (xs.map (·.1))) (xs.length - 1) 1 (by lia) x tx hF 1) (by kernel_rfl) (by kernel_rfl) (fun _ h => nomatch h) List.nodup_nil fun y n5 t5 G5 a5 _ _ => ?_
 exact eA zc.post zc.ro a5 1 [] y.1 trivial rfl (by kernel_rfl) (by kernel_rfl) (by kernel_rfl) ak
set_option smartUnfolding true
noncomputable def jh (wd hd : Nat) : List Nat → Bool
 | [] => false
 | r :: rs => decide (fV ((hd + r) :: r :: rs) ≤ wd)
set_option smartUnfolding false
theorem Gf (aR : Addr) (rs : List (Str × Tok)) (er : Nat) (hd wd : Nat) (th tw : Tok) (h0 : 0 < rs.length) (h6 : rs.length ≤ 10) (hl : ∀ q ∈ rs, q.1.length ≤ 1000) :
  af w b 24 (.call (.ref 219) ⟨[.ref aR, .int hd th, .int wd tw], []⟩)
   [(aR, aa (aE rs) er)] []
   (X := Unit) (fun y => True) (fun y => .ok (.ret (.bool (jh wd hd (rs.map fun q => q.1.length))))) (fun y => [(aR, aa (aE rs) er)]) (fun y => []) := by
 obtain ⟨⟨r0, t0⟩, hr⟩ : ∃ q, rs[0]? = some q := ⟨rs[0]'(by lia), List.getElem?_eq_getElem (by lia)⟩
 have KP : (aE rs)[0]? = some (.str r0 t0) := by simp [aE, hr]
 exists zA, 16, 2391581632551, zd, zc, a
 (refine zP 20 199298484694127551 (bB rU 219 zc.S []) ?_; intro ou)
 exists zH, 2, 2, [0], dt aR (aE rs) er 0 (.str r0 t0) KP (by exact qR) (zc.s.toks + 3), _, n1, t1
 exists zH, 3, 2, [], yf r0 t0 (hl _ (List.mem_of_getElem? hr)), y2, n2, t2
 refine zK [] (iD hd r0.length th y2) @fun y3 n3 t3 _ _ _ _ => ?_
 exists yg, 16, 1640950130103
 refine zK [3, 5, 4, 0] (vN (n3 + 1) aR (n3 + 3) zc.S (n3 + 2) 0 [] _ (Av (n3 + 1) aR (n3 + 3) zc.S (n3 + 2) rs hl er (rs.map fun q => q.1.length) rs.length 0 (by exact Nat.zero_add _) (ay [] 0) (.inl ⟨rfl, rfl⟩) [] (by simp) (by simp; exact aO) 0)) @fun y6 n6 t6 G6 a6 ub _ => ?_
 obtain ⟨vs, ev, oD, oi⟩ := y6
 obtain ⟨hv, ud⟩ := ub
 dsimp only at hv ud
 obtain ⟨KH, v6, KI, rfl⟩ : ∃ tk v ep, oD = ay [av (au w "row") "row" tk v] ep := by
   rcases ud with ⟨h, _⟩ | h
   ·have := of_decide_eq_true h; lia
   ·exact h
 have KJ : vs.length = rs.length := by
  have := congrArg List.length hv
  simpa using this
 have fh : fV ((((hd + r0.length, y3) :: vs : List (Nat × Tok))).map (·.1)) ≤ wd ↔ jh wd hd (rs.map fun q => q.1.length) = true := by
  rw [List.map_cons, hv]
  have := bI rs (fun q => q.1.length) 0 _ hr
  rw [List.drop_zero] at this
  rw [this]
  simp [jh]
 have KQ : ∀ b a' e, af w b 8 (.call (.builtin "max") ⟨[.ref a'], []⟩) [(a', aa ([.int ((hd + r0.length : Nat)) y3] ++ ag vs) e)] []
  (X := Tok) (fun y => True) (fun y => .ok (.ret (.int (fV ((((hd + r0.length, y3) :: vs : List (Nat × Tok))).map (·.1))) y))) (fun y => [(a', aa ([.int ((hd + r0.length : Nat)) y3] ++ ag vs) e)]) (fun _ => []) := fun b a' e =>
  Ja a' ((hd + r0.length, y3) :: vs) e (by simp)
 exists zg, 11, 32538017857
 exists zH, 3, 2, [2, 4], lW (n3 + 0) (n3 + 2) [.int ((hd + r0.length : Nat)) y3] (ag vs) 0 ev (by simp [ag]; lia), y7, n7, t7
 refine zK [6] (KQ _ y7.1 y7.2) @fun y8 n8 t8 _ _ _ _ => ?_
 exists yg, 6, 103
 exists zH, 1, 0, [], (hC (fV ((((hd + r0.length, y3) :: vs : List (Nat × Tok))).map (·.1)) : Nat) wd y8 tw).bool (jh wd hd (rs.map fun q => q.1.length)) (by rw [← fh]; lia), _, n9, t9
 exact zM 1 [] (fun _ => ())
set_option smartUnfolding true
theorem fits (aR : Addr) (rs : List (Str × Tok)) (er : Nat) (hd wd : Nat) (th tw : Tok) (h0 : 0 < rs.length) (h6 : rs.length ≤ 10) (hl : ∀ q ∈ rs, q.1.length ≤ 1000) :
  af w b 24 (.call (.ref 219) ⟨[.ref aR, .int hd th, .int wd tw], []⟩) [] [(aR, aa (aE rs) er)]
   (X := Unit) (fun y => True) (fun y => .ok (.ret (.bool (jh wd hd (rs.map fun q => q.1.length))))) (fun y => []) (fun y => []) :=
 af.iL (K := []) (T1 := [(aR, aa (aE rs) er)]) (T := []) (Kf := fun _ => []) (Gf aR rs er hd wd th tw h0 h6 hl)
structure Fe where
 c : Nat
 t : Tok
 v : Nat
 u : Tok
noncomputable abbrev dX (e : Fe) : DictEntry := ⟨(e.c : Int), .int e.c e.t, .int e.v e.u⟩
noncomputable abbrev dz (l : List Fe) (ep : Nat) : Obj := ⟨jU, none, .dict ⟨l.map dX⟩ ep, ⟨[]⟩⟩
set_option smartUnfolding false
theorem C0 (k : Nat) (tk : Tok) :
  af w b 1 (.call (.builtin "int.__hash__") ⟨[.int k tk], []⟩) [] []
   (X := Tok) (fun y => True) (fun y => .ok (.ret (.int (k % 2305843009213693951 : Nat) y))) (fun _ => []) (fun y => []) := by
 exists zA, 3, 1, zd, zc, a0
 exact zM 0 [] (fun o => o.rt)
set_option smartUnfolding true
theorem mO (k : Nat) (tk : Tok) (hk : k ≤ 1000000) :
  af w b 1 (.call (.builtin "int.__hash__") ⟨[.int k tk], []⟩) [] []
   (X := Tok) (fun y => True) (fun y => .ok (.ret (.int k y))) (fun _ => []) (fun y => []) :=
 (C0 k tk).map id (fun _ h => h) (fun _ => by rw [Nat.mod_eq_of_lt (by lia)]; rfl) (fun _ => rfl) (fun _ => rfl)
noncomputable def oy (l : List Fe) (h : Int) : List Nat := ZFast.zw2965532104302071907 (⟨l.map dX⟩ : Array DictEntry).size (fun i => Option.map (fun x => x.hash) (⟨l.map dX⟩ : Array DictEntry)[i]?) h
theorem uf (l : List Fe) (k : Nat) : oy l k = (List.range l.length).filter fun i => (l[i]?.map fun e => e.c) == some k := by
 unfold oy
 rw [← ZFast.ze2965532104302071907]
 unfold placesWithHash
 have e1 : (⟨l.map dX⟩ : Array DictEntry).size = l.length := by simp
 rw [e1]
 congr 1
 funext i
 have e2 : (⟨l.map dX⟩ : Array DictEntry)[i]? = (l[i]?).map dX := by simp
 show (Option.map (fun x => x.hash) (⟨l.map dX⟩ : Array DictEntry)[i]? == some (k : Int)) = _
 rw [e2]
 cases l[i]? with
 | none => rfl
 | some e =>
  simp only [Option.map_some]
  rw [Bool.eq_iff_iff]
  simp only [beq_iff_eq, Option.some.injEq]
  exact Int.ofNat_inj
theorem ri (l : List Fe) (k : Nat) (h : ∀ e ∈ l, e.c ≠ k) : oy l k = [] := by
 rw [uf, List.filter_eq_nil_iff]
 intro i hi
 cases q : l[i]? with
 | none => simp
 | some e =>
  have := h e (List.mem_of_getElem? q)
  simpa using this
theorem lZ (n i : Nat) (p : Nat → Bool) (hi : i < n) (hp : ∀ j < n, p j = true ↔ j = i) : (List.range n).filter p = [i] := by
 have h1 : (List.range n).filter p = (List.range n).filter (· == i) := by
  apply List.filter_congr
  intro j hj
  rw [Bool.eq_iff_iff, hp j (List.mem_range.mp hj)]
  simp
 rw [h1]
 clear h1 hp p
 induction n with
 | zero => lia
 | succ n ih =>
  rw [List.range_succ, List.filter_append]
  by_cases h : i = n
  ·subst h
   have : (List.range i).filter (· == i) = [] := by
    rw [List.filter_eq_nil_iff]
    intro a ha
    have := List.mem_range.mp ha
    simp; lia
   rw [this]; simp
  ·rw [ih (by lia)]
   have : ¬ n = i := fun e => h e.symm
   simp [this]
theorem rj (l : List Fe) (i : Nat) (e : Fe) (he : l[i]? = some e) (nd : (l.map (·.c)).Nodup) : oy l e.c = [i] := by
 rw [uf]
 have hi : i < l.length := (List.getElem?_eq_some_iff.mp he).1
 refine lZ _ i _ hi fun j hj => ?_
 have KR : l[j]? = some l[j] := List.getElem?_eq_getElem hj
 rw [KR]
 simp only [Option.map_some, beq_iff_eq, Option.some.injEq]
 constructor
 ·intro h
  have h2 : (l.map (·.c))[j]'(by simpa using hj) = (l.map (·.c))[i]'(by simpa using hi) := by
   simp only [List.getElem_map]
   rw [h]
   have := (List.getElem?_eq_some_iff.mp he).2
   rw [this]
  rcases Nat.lt_trichotomy j i with et | heq | f6
  ·exact absurd h2 (List.pairwise_iff_getElem.mp nd j i (by simpa using hj) (by simpa using hi) et)
  ·exact heq
  ·exact absurd h2.symm (List.pairwise_iff_getElem.mp nd i j (by simpa using hi) (by simpa using hj) f6)
 ·intro h
  subst h
  rw [(List.getElem?_eq_some_iff.mp he).2]
set_option smartUnfolding false
theorem Ax (d : Addr) (l : List Fe) (ep : Nat) (k : Nat) (tk : Tok) (hk : k ≤ 100000) (hn : ∀ e ∈ l, e.c ≠ k) (hd : 2 ≤ d) :
  af w b 6 (.call (.builtin "dict.__contains__") ⟨[.ref d, .int k tk], []⟩) [(d, dz l ep)] []
   (X := Unit) (fun y => True) (fun y => .ok (.ret (.bool false))) (fun _ => [(d, dz l ep)]) (fun y => []) := by
 have h1 : (k : Int) < 2 ^ 63 := by exact sP
 have h2 : ¬ (k : Int) < -2 ^ 63 := by exact Bd
 (refine zB ?_; intro zd zc a0)
 exists yg, 4, 5052
 refine zK [] (mO k tk (by exact aO)) @fun y1 n1 t1 G1 a1 b4 _ => ?_
 exists ao, ah (ah (bt (cy h1)))
 exists zg, 1, 2
 refine dM ?_
 with_unfolding_all conv => (arg 5; whnf; arg @29; whnf; arg @29; whnf)
 generalize hp : ZFast.zw2965532104302071907 _ _ _ = pl
 obtain rfl : pl = [] := hp.symm.trans (Eq.trans (b := oy l k) (by kernel_rfl) (ri l k hn))
 clear hp
 exists ao, ah (bf (b5 (fun e => by rw [e] at hd; exact absurd hd (by decide))))
 exists zg, 1, 0
 exact zM 1 [] (fun _ => ())
theorem Ay (d : Addr) (l : List Fe) (ep : Nat) (i : Nat) (e : Fe) (he : l[i]? = some e) (nd : (l.map (·.c)).Nodup) (tk : Tok) (hk : e.c ≤ 100000) :
  af w b 6 (.call (.builtin "dict.__contains__") ⟨[.ref d, .int e.c tk], []⟩) [(d, dz l ep)] []
   (X := Unit) (fun y => True) (fun y => .ok (.ret (.bool true))) (fun _ => [(d, dz l ep)]) (fun y => []) := by
 have h1 : (e.c : Int) < 2 ^ 63 := by exact sP
 have h2 : ¬ (e.c : Int) < -2 ^ 63 := by exact Bd
 (refine zB ?_; intro zd zc a0)
 exists yg, 4, 5052
 refine zK [] (mO e.c tk (by exact aO)) @fun y1 n1 t1 G1 a1 b4 _ => ?_
 exists ao, ah (ah (bt (cy h1)))
 exists zg, 1, 2
 refine dM ?_
 with_unfolding_all conv => (arg 5; whnf; arg @29; whnf; arg @29; whnf)
 generalize hp : ZFast.zw2965532104302071907 _ _ _ = pl
 obtain rfl : pl = [i] := hp.symm.trans (Eq.trans (b := oy l e.c) (by kernel_rfl) (rj l i e he nd))
 clear hp
 generalize hq : List.filterMap _ [i] = fm
 obtain rfl : fm = [.int e.c e.t] := hq.symm.trans (Eq.trans (b := List.filterMap (fun i => Option.map (fun x => x.key) (⟨l.map dX⟩ : Array DictEntry)[i]?) [i]) (by kernel_rfl) (by simp [he]))
 clear hq
 with_unfolding_all conv => (arg 5; whnf)
 with_unfolding_all conv => (arg 5; arg @29; arg @29; whnf)
 with_unfolding_all conv => (arg 5; arg @29; arg @29; arg @29; whnf)
 with_unfolding_all conv => (arg 5; arg @29; arg @29; arg @29; arg @29; whnf)
 generalize hg : @getElem? (Array DictEntry) Nat DictEntry (fun xs i => i < xs.size) _ _ i = oe
 obtain rfl : oe = some (dX e) := hg.symm.trans (Eq.trans (b := (⟨l.map dX⟩ : Array DictEntry)[i]?) (by kernel_rfl) (by simp [he]))
 clear hg
 exists ao, ah (ah (ah (ah (bt (cy (by kernel_rfl))))))
 exists zg, 1, 2
 refine dM ?_
 by_cases ht : (Value.int e.c e.t = Value.int e.c tk)
 ·exists ao, ah (ah (ah (ah (ah (bt (cy ht))))))
  exists zg, 2, 2
  exists dT, ah (ah (ah (ah (bf (tO (beq_self_eq_true _))))))
  exists zg, 2, 2
  refine dM ?_
  with_unfolding_all conv => (arg 5; whnf)
  generalize hg : @getElem? (Array DictEntry) Nat DictEntry (fun xs i => i < xs.size) _ _ i = oe
  obtain rfl : oe = some (dX e) := hg.symm.trans (Eq.trans (b := (⟨l.map dX⟩ : Array DictEntry)[i]?) (by kernel_rfl) (by simp [he]))
  clear hg
  exists zg, 1, 0
  exact zM 1 [] (fun _ => ())
 ·exists ao, ah (ah (ah (ah (ah (bf (b5 ht))))))
  exists yg, 2, 2
  exists zH, 1, 2, [], (bu e.c e.c e.t tk).ck rfl, _, n2, t2
  exists dT, ah (ah (ah (ah (bf (tO (beq_self_eq_true _))))))
  exists zg, 2, 2
  refine dM ?_
  with_unfolding_all conv => (arg 5; whnf)
  generalize hg : @getElem? (Array DictEntry) Nat DictEntry (fun xs i => i < xs.size) _ _ i = oe
  obtain rfl : oe = some (dX e) := hg.symm.trans (Eq.trans (b := (⟨l.map dX⟩ : Array DictEntry)[i]?) (by kernel_rfl) (by simp [he]))
  clear hg
  exists zg, 1, 0
  exact zM 1 [] (fun _ => ())
theorem dictGet (d : Addr) (l : List Fe) (ep : Nat) (i : Nat) (e : Fe) (he : l[i]? = some e) (nd : (l.map (·.c)).Nodup) (tk : Tok) (hk : e.c ≤ 100000) :
  af w b 6 (.call (.builtin "dict.__getitem__") ⟨[.ref d, .int e.c tk], []⟩) [(d, dz l ep)] []
   (X := Unit) (fun y => True) (fun y => .ok (.ret (.int e.v e.u))) (fun _ => [(d, dz l ep)]) (fun y => []) := by
 have h1 : (e.c : Int) < 2 ^ 63 := by exact sP
 have h2 : ¬ (e.c : Int) < -2 ^ 63 := by exact Bd
 (refine zB ?_; intro zd zc a0)
 exists yg, 4, 5052
 refine zK [] (mO e.c tk (by exact aO)) @fun y1 n1 t1 G1 a1 b4 _ => ?_
 exists ao, ah (ah (bt (cy h1)))
 exists zg, 1, 2
 refine dM ?_
 with_unfolding_all conv => (arg 5; whnf; arg @29; whnf; arg @29; whnf)
 generalize hp : ZFast.zw2965532104302071907 _ _ _ = pl
 obtain rfl : pl = [i] := hp.symm.trans (Eq.trans (b := oy l e.c) (by kernel_rfl) (rj l i e he nd))
 clear hp
 generalize hq : List.filterMap _ [i] = fm
 obtain rfl : fm = [.int e.c e.t] := hq.symm.trans (Eq.trans (b := List.filterMap (fun i => Option.map (fun x => x.key) (⟨l.map dX⟩ : Array DictEntry)[i]?) [i]) (by kernel_rfl) (by simp [he]))
 clear hq
 with_unfolding_all conv => (arg 5; whnf)
 with_unfolding_all conv => (arg 5; arg @29; arg @29; whnf)
 with_unfolding_all conv => (arg 5; arg @29; arg @29; arg @29; whnf)
 with_unfolding_all conv => (arg 5; arg @29; arg @29; arg @29; arg @29; whnf)
 generalize hg : @getElem? (Array DictEntry) Nat DictEntry (fun xs i => i < xs.size) _ _ i = oe
 obtain rfl : oe = some (dX e) := hg.symm.trans (Eq.trans (b := (⟨l.map dX⟩ : Array DictEntry)[i]?) (by kernel_rfl) (by simp [he]))
 clear hg
 exists ao, ah (ah (ah (ah (bt (cy (by kernel_rfl))))))
 exists zg, 1, 2
 refine dM ?_
 by_cases ht : (Value.int e.c e.t = Value.int e.c tk)
 ·exists ao, ah (ah (ah (ah (ah (bt (cy ht))))))
  exists zg, 2, 2
  exists dT, ah (ah (ah (ah (bf (tO (beq_self_eq_true _))))))
  exists zg, 2, 2
  refine dM ?_
  with_unfolding_all conv => (arg 5; whnf)
  generalize hg : @getElem? (Array DictEntry) Nat DictEntry (fun xs i => i < xs.size) _ _ i = oe
  obtain rfl : oe = some (dX e) := hg.symm.trans (Eq.trans (b := (⟨l.map dX⟩ : Array DictEntry)[i]?) (by kernel_rfl) (by simp [he]))
  clear hg
  exists zg, 1, 0
  exact zM 1 [] (fun _ => ())
 ·exists ao, ah (ah (ah (ah (ah (bf (b5 ht))))))
  exists yg, 2, 2
  exists zH, 1, 2, [], (bu e.c e.c e.t tk).ck rfl, _, n2, t2
  exists dT, ah (ah (ah (ah (bf (tO (beq_self_eq_true _))))))
  exists zg, 2, 2
  refine dM ?_
  with_unfolding_all conv => (arg 5; whnf)
  generalize hg : @getElem? (Array DictEntry) Nat DictEntry (fun xs i => i < xs.size) _ _ i = oe
  obtain rfl : oe = some (dX e) := hg.symm.trans (Eq.trans (b := (⟨l.map dX⟩ : Array DictEntry)[i]?) (by kernel_rfl) (by simp [he]))
  clear hg
  exists zg, 1, 0
  exact zM 1 [] (fun _ => ())
set_option smartUnfolding true
theorem rk (l : List DictEntry) (v : DictEntry) : R.concatR l v = l ++ [v] := by
 have h := congrFun (congrFun (congrFun (@ZFast.ze2398297429280069960) DictEntry) (⟨l⟩ : Array DictEntry)) v
 have h2 := congrArg Array.toList h
 simpa [ZFast.zw2398297429280069960] using h2.symm
noncomputable def memD (n : Nat) : Option String := @Decidable.rec (sizeLine + 1 < n) (fun _ => Option String) (fun h => none) (fun h => some "dict:memory") (Nat.decLt (sizeLine + 1) n)
theorem ug {n : Nat} (h : n ≤ 1001) : memD n = none := by
 unfold memD
 cases Nat.decLt (sizeLine + 1) n with
 | isFalse _ => rfl
 | isTrue h' => unfold sizeLine at h'; lia
set_option smartUnfolding false
theorem vO (d : Addr) (l : List Fe) (ep : Nat) (k v : Nat) (tk tv : Tok) (hk : k ≤ 100000) (hn : ∀ e ∈ l, e.c ≠ k) (hl : l.length ≤ 1000) :
  af w b 6 (.call (.builtin "dict.__setitem__") ⟨[.ref d, .int k tk, .int v tv], []⟩) [(d, dz l ep)] []
   (X := Nat) (fun y => True) (fun y => .ok (.ret .none)) (fun y => [(d, ⟨jU, none, .dict ⟨R.concatR (l.map dX) (dX ⟨k, tk, v, tv⟩)⟩ y, ⟨[]⟩⟩)]) (fun y => []) := by
 have h1 : (k : Int) < 2 ^ 63 := by exact sP
 have hm : memD (R.concatR (l.map dX) (dX ⟨k, tk, v, tv⟩)).length = none := ug (by rw [rk]; simp; exact aO)
 (refine zB ?_; intro zd zc a0)
 exists yg, 5, 255052
 refine zK [] (mO k tk (by exact aO)) @fun y1 n1 t1 G1 a1 b4 _ => ?_
 exists ao, ah (ah (bt (cy h1)))
 exists zg, 1, 2
 refine dM ?_
 with_unfolding_all conv => (arg 5; whnf; arg @29; whnf; arg @29; whnf)
 generalize hp : ZFast.zw2965532104302071907 _ _ _ = pl
 obtain rfl : pl = [] := hp.symm.trans (Eq.trans (b := oy l k) (by kernel_rfl) (ri l k hn))
 clear hp
 exists zg, 4, 5102
 refine dM ?_
 with_unfolding_all conv => (arg 5; whnf; arg @29; whnf)
 generalize hx : ZFast.zw12520540566002728236 _ = x
 obtain rfl : x = none := hx.symm.trans (Eq.trans (b := memD (R.concatR (l.map dX) (dX ⟨k, tk, v, tv⟩)).length) (by kernel_rfl) hm)
 clear hx
 exists zg, 1, 0
 exact zM 1 [] (fun o => o.ep 0)
set_option smartUnfolding true
theorem dictSet (d : Addr) (l : List Fe) (ep : Nat) (k v : Nat) (tk tv : Tok) (hk : k ≤ 100000) (hn : ∀ e ∈ l, e.c ≠ k) (hl : l.length ≤ 1000) :
  af w b 6 (.call (.builtin "dict.__setitem__") ⟨[.ref d, .int k tk, .int v tv], []⟩) [(d, dz l ep)] []
   (X := Nat) (fun y => True) (fun y => .ok (.ret .none)) (fun y => [(d, dz (l ++ [⟨k, tk, v, tv⟩]) y)]) (fun y => []) :=
 (vO d l ep k v tk tv hk hn hl).map id (fun _ h => h) (fun _ => rfl) (fun y => by rw [rk, show l.map dX ++ [dX ⟨k, tk, v, tv⟩] = (l ++ [(⟨k, tk, v, tv⟩ : Fe)]).map dX by rw [List.map_append]; rfl]; rfl) (fun _ => rfl)
set_option smartUnfolding false
theorem Az (a : Addr) (xs : List (Nat × Tok)) (e : Nat) (k : Nat) (tk : Tok) :
 ∀ (m j : Nat) (hm : j + m = xs.length) (hj : ∀ i < j, ∀ q, xs[i]? = some q → q.1 ≠ k),
  af w b 6 (.builtin "list.__contains__.loop" ⟨[.ref a, .int k tk, .int j 0], []⟩) [(a, aa (ag xs) e)] []
   (X := Bool) (fun y => y = true ↔ k ∈ xs.map (·.1)) (fun y => .ok (.ret (.bool y))) (fun _ => [(a, aa (ag xs) e)]) (fun y => []) := by
 intro m
 induction m with
 | zero =>
  intro j hm hj
  have hx : (ag xs)[j]? = none := by simp [ag]; exact c6
  have hk : k ∉ xs.map (·.1) := by
   intro h
   obtain ⟨q, hq, e⟩ := List.mem_map.mp h
   obtain ⟨i, hi, e2⟩ := List.mem_iff_getElem.mp hq
   exact hj i (by lia) q (by rw [List.getElem?_eq_getElem hi, e2]) e
  exists zA, 1, 2, zd, zc, a0
  refine dM ?_
  with_unfolding_all conv => (arg 5; whnf)
  generalize hg : @getElem? (Array Value) Nat Value (fun xs i => i < xs.size) _ _ _ = oe
  obtain rfl : oe = none := hg.symm.trans (Eq.trans (b := (⟨ag xs⟩ : Array Value)[j]?) (by kernel_rfl) (by simpa using hx))
  clear hg
  exists zg, 1, 0
  exact zM 1 [] (fun _ => false) (hx := (by (with_reducible conv => whnf); simp [hk]))
 | succ m ih =>
  intro j hm hj
  obtain ⟨⟨x, tx⟩, hx⟩ : ∃ q, xs[j]? = some q := ⟨xs[j]'(by exact cf), List.getElem?_eq_getElem (by exact cf)⟩
  have iU : (ag xs)[j]? = some (.int x tx) := by rw [fy, hx]; rfl
  have kc : (x, tx) ∈ xs := List.mem_of_getElem? hx
  exists zA, 1, 2, zd, zc, a0
  refine dM ?_
  with_unfolding_all conv => (arg 5; whnf)
  generalize hg : @getElem? (Array Value) Nat Value (fun xs i => i < xs.size) _ _ _ = oe
  obtain rfl : oe = some (.int x tx) := hg.symm.trans (Eq.trans (b := (⟨ag xs⟩ : Array Value)[j]?) (by kernel_rfl) (by simpa using iU))
  clear hg
  by_cases h1 : (Value.int x tx = Value.int k tk)
  ·exists ao, ah (bt (cy h1))
   exists zg, 2, 0
   exact zM 1 [] (fun _ => true) (hx := (by (with_reducible conv => whnf); injection h1 with e1; have e1 := Int.ofNat.inj e1; simp only [true_iff]; exact List.mem_map.mpr ⟨_, kc, e1⟩))
  ·exists ao, ah (bf (b5 h1))
   exists yg, 2, 2
   by_cases h2 : ((x : Nat) : Int) = (k : Nat)
   ·exists zH, 1, 0, [], (bu x k tx tk).ck h2, _, n2, t2
    exact zM 1 [] (fun _ => true) (hx := (by (with_reducible conv => whnf); have e1 := Int.ofNat.inj h2; simp only [true_iff]; exact List.mem_map.mpr ⟨_, kc, e1⟩))
   ·refine zK [] ((bu x k tx tk).cO h2) @fun _ n2 t2 _ _ _ _ => ?_
    have ax := ih (j + 1) (by exact cJ) (fun i hi q hq => by
     rcases Nat.lt_succ_iff_lt_or_eq.mp hi with h | h
     ·exact hj i h q hq
     ·subst h
      rw [hx] at hq
      rw [← Option.some.inj hq]
      exact fun e => h2 (by rw [← e]))
    exists zg, 1, 2
    exact zO [0] ax
set_option smartUnfolding true
theorem sa (a : Addr) (xs : List (Nat × Tok)) (e : Nat) (k : Nat) (tk : Tok) :
  af w b 6 (.call (.builtin "list.__contains__") ⟨[.ref a, .int k tk], []⟩) [(a, aa (ag xs) e)] []
   (X := Bool) (fun y => y = true ↔ k ∈ xs.map (·.1)) (fun y => .ok (.ret (.bool y))) (fun _ => [(a, aa (ag xs) e)]) (fun y => []) := by
 exists zA, 3, 5052, zd, zc, a0
 exact zO [0] (Az a xs e k tk xs.length 0 (by exact Nat.zero_add _) (fun i hi => by lia))
theorem g5 (x : Nat) (s : Int) (n : Nat) (h : (x : Int) + s = n) (tx ty : Tok) :
  af w b 2 (.call (.builtin "int.__add__") ⟨[.int x tx, .int s ty], []⟩) [] []
   (X := Tok) (fun _ => True) (fun v => .ok (.ret (.int n v))) (fun _ => []) (fun _ => []) :=
 (iT x s tx ty).map id (fun _ h => h) (fun _ => by rw [h]; rfl) (fun _ => rfl) (fun _ => rfl)
noncomputable abbrev aQ (c : List (Int × Tok)) : List Value := c.map fun q => .int q.1 q.2
noncomputable def vP : Stmt := dq ph 2
noncomputable def rl (s : Stmt) (i : Nat) : Stmt := (vF s).getD i (.Pass default)
noncomputable def vQ : Stmt := rl vP 1
noncomputable def Jb : Stmt := rl vQ 0
noncomputable abbrev fJ (w : World) (st : Nat) (aC aS ln : Addr) (u1 u2 u3 u5 us : Tok) (tl : List DictEntry) (ep : Nat) : Obj :=
 cK ([av (au w "start") "start" u1 (.int st us), av (au w "codes") "codes" u2 (.ref aC), av (au w "steps") "steps" u3 (.ref aS), av (au w "line") "line" u5 (.ref ln)] ++ tl) ep
noncomputable abbrev kg (w : World) (turn : Nat) (fr : Addr) (code : Nat) (u6 u7 u8 ut uc : Tok) (tl : List DictEntry) : List DictEntry :=
 [av (au w "turn") "turn" u6 (.int turn ut), av (au w "fresh") "fresh" u7 (.ref fr), av (au w "code") "code" u8 (.int code uc)] ++ tl
theorem uh : ∀ (l m : List Nat), l.Nodup → (∀ x ∈ l, x ∈ m) → l.length ≤ m.length := by
 intro l
 induction l with
 | nil => intro m _ _; exact Nat.zero_le _
 | cons x l ih =>
  intro m nd h
  rw [List.nodup_cons] at nd
  have hx : x ∈ m := h x (by simp)
  have h2 := ih (m.erase x) nd.2 (fun y hy => (List.mem_erase_of_ne (fun e => by rw [e] at hy; exact nd.1 hy)).mpr (h y (by simp [hy])))
  have h3 := List.length_erase_of_mem hx
  have h4 : 0 < m.length := List.length_pos_of_mem hx
  simp only [List.length_cons]
  lia
noncomputable abbrev FP := List (Nat × Nat) × List Nat
noncomputable def ji (codes : List Nat) (turn code : Nat) (s : FP) (step : Int) : FP :=
 if ((code : Int) + step).toNat ∈ codes ∧ ((code : Int) + step).toNat ∉ s.1.map (·.1) then (s.1 ++ [(((code : Int) + step).toNat, turn)], s.2 ++ [((code : Int) + step).toNat]) else s
noncomputable def cT (aJ : List Fe) : List (Nat × Nat) := aJ.map fun e => (e.c, e.v)
theorem l0 (aJ : List Fe) : (cT aJ).map (·.1) = aJ.map (·.c) := by simp [cT]
structure FI (codes : List Nat) (aJ : List Fe) (fresh : List (Nat × Tok)) : Prop where
 nd : (aJ.map (·.c)).Nodup
 sub : ∀ e ∈ aJ, e.c ∈ codes
 le : fresh.length ≤ aJ.length
 C1 : ∀ q ∈ fresh, q.1 ∈ codes
theorem FI.len {codes : List Nat} {aJ : List Fe} {fresh : List (Nat × Tok)} (h : FI codes aJ fresh) : aJ.length ≤ codes.length := by
 have := uh (aJ.map (·.c)) codes h.nd (fun x hx => by
  obtain ⟨e, he, rfl⟩ := List.mem_map.mp hx
  exact h.sub e he)
 simpa using this
theorem FI.add {codes : List Nat} {aJ : List Fe} {fresh : List (Nat × Tok)} (h : FI codes aJ fresh) {n v : Nat} {t u t2 : Tok} (h1 : n ∈ codes) (h2 : ∀ e ∈ aJ, e.c ≠ n) : FI codes (aJ ++ [⟨n, t, v, u⟩]) (fresh ++ [(n, t2)]) := by
 refine ⟨?_, ?_, ?_, ?_⟩
 ·rw [List.map_append, List.nodup_append]
  refine ⟨h.nd, by simp, fun a ha b hb => ?_⟩
  obtain ⟨e, he, rfl⟩ := List.mem_map.mp ha
  simp only [List.map_cons, List.map_nil, List.mem_singleton] at hb
  subst hb
  exact h2 e he
 ·intro e he
  rcases List.mem_append.mp he with he | he
  ·exact h.sub e he
  ·rw [List.mem_singleton.mp he]; exact h1
 ·have := h.le
  simp only [List.length_append, List.length_cons, List.length_nil]
  lia
 ·intro q hq
  rcases List.mem_append.mp hq with hq | hq
  ·exact h.C1 q hq
  ·rw [List.mem_singleton.mp hq]; exact h1
theorem FI.nil {codes : List Nat} {aJ : List Fe} {fresh : List (Nat × Tok)} (h : FI codes aJ fresh) : FI codes aJ [] := ⟨h.nd, h.sub, Nat.zero_le _, fun _ h => nomatch h⟩
structure SE where
 aJ : List Fe
 fresh : List (Nat × Tok)
 ef : Nat
 e1 : Nat
 fr : Obj
 it : Obj
noncomputable def FS (w : World) (st : Nat) (aC aS ln : Addr) (u1 u2 u3 u5 us : Tok) (turn : Nat) (aN : Addr) (code : Nat) (u6 u7 u8 ut uc : Tok) (z : Bool) (o : Obj) : Prop :=
 (z = true ∧ ∃ ep, o = fJ w st aC aS ln u1 u2 u3 u5 us (kg w turn aN code u6 u7 u8 ut uc []) ep) ∨ ∃ u9 v9 ep, o = fJ w st aC aS ln u1 u2 u3 u5 us (kg w turn aN code u6 u7 u8 ut uc [av (au w "step") "step" u9 v9]) ep
theorem lx (xs : List (Int × Tok)) (j : Nat) : (aQ xs)[j]? = (xs[j]?).map fun q => .int q.1 q.2 := by simp [aQ]
set_option smartUnfolding false
theorem vR (L aC aS aF aX ln aN it : Addr) (hF : 2 ≤ aF) (st turn code : Nat) (u1 u2 u3 u5 us u6 u7 u8 ut uc : Tok) (codes : List (Nat × Tok)) (dk : codes.length ≤ 100) (ec : Nat) (steps : List (Int × Tok)) (es : Nat)
  (ei : ∀ q ∈ steps, ∃ n : Nat, (code : Int) + q.1 = n ∧ n ≤ 100000) (F : FP) :
  ∀ (m j : Nat) (hm : j + m = steps.length) (o : Obj) (ho : FS w st aC aS ln u1 u2 u3 u5 us turn aN code u6 u7 u8 ut uc (decide (j = 0)) o) (aJ : List Fe) (fresh : List (Nat × Tok)) (hI : FI (codes.map (·.1)) aJ fresh) (fu : ((steps.drop j).map (·.1)).foldl (ji (codes.map (·.1)) turn code) (cT aJ, fresh.map (·.1)) = F) (ef e1 : Nat),
  af w b 16 (fU Jb it (cS i6 245 L [(Str.ofString "far", aX)]))
   [(L, o), (it, bx aS j), (aF, dz aJ ef), (aN, aa (ag fresh) e1), (aC, aa (ag codes) ec), (aS, aa (aQ steps) es), (aX, ai (.ref aF))] []
   (X := SE) (fun y => FI (codes.map (·.1)) y.aJ y.fresh ∧ (cT y.aJ, y.fresh.map (·.1)) = F ∧ FS w st aC aS ln u1 u2 u3 u5 us turn aN code u6 u7 u8 ut uc (decide (steps.length = 0)) y.fr) (fun y => .ok .next)
   (fun y => [(L, y.fr), (it, y.it), (aF, dz y.aJ y.ef), (aN, aa (ag y.fresh) y.e1), (aC, aa (ag codes) ec), (aS, aa (aQ steps) es), (aX, ai (.ref aF))]) (fun y => []) := by
 intro m
 induction m with
 | zero =>
  intro j hm o ho aJ fresh hI fu ef e1
  have bj : (aQ steps)[j]? = none := by simp [aQ]; exact c6
  have hz : (decide (steps.length = 0)) = decide (j = 0) := by rw [show steps.length = j by exact km]
  have fK : (cT aJ, fresh.map (·.1)) = F := by rw [← fu, List.drop_eq_nil_of_le (by exact c6)]; rfl
  rw [← hz] at ho
  exists zA, 3, 103, zd, zc, a0
  exists zH, 3, 60, [1, 5], gM it aS (aQ steps) es j bj, y, n1, t1
  exact zM 7 [] (fun _ => ⟨aJ, fresh, ef, e1, o, y.2.2⟩) (hx := ⟨hI, fK, ho⟩)
 | succ m ih =>
  intro j hm o ho aJ fresh hI fu ef e1
  obtain ⟨⟨x, tx⟩, hx⟩ : ∃ q, steps[j]? = some q := ⟨steps[j]'(by exact cf), List.getElem?_eq_getElem (by exact cf)⟩
  have kc : (x, tx) ∈ steps := List.mem_of_getElem? hx
  obtain ⟨n, hn, C2⟩ := ei _ kc
  dsimp only at hn
  have bj : (aQ steps)[j]? = some (.int x tx) := by rw [lx, hx]; rfl
  have yh : ((code : Int) + x).toNat = n := by rw [hn]; rfl
  rw [bI steps _ j _ hx, List.foldl_cons] at fu
  have eU : aJ.length ≤ 100 := by have := hI.len; simp at this; lia
  by_cases hc : n ∈ codes.map (·.1)
  ·by_cases hf : n ∈ aJ.map (·.c)
   ·
    have sb : ji (codes.map (·.1)) turn code (cT aJ, fresh.map (·.1)) x = (cT aJ, fresh.map (·.1)) := by
     unfold ji
     rw [if_neg (by rw [yh, l0]; exact fun h => h.2 hf)]
    rw [sb] at fu
    obtain ⟨e, ui, rfl⟩ := List.mem_map.mp hf
    obtain ⟨i, hi, uj⟩ := List.mem_iff_getElem.mp ui
    have he : aJ[i]? = some e := by rw [List.getElem?_eq_getElem hi, uj]
    have ax := fun u9 v9 ep => ih (j + 1) (by exact cJ) (fJ w st aC aS ln u1 u2 u3 u5 us (kg w turn aN code u6 u7 u8 ut uc [av (au w "step") "step" u9 v9]) ep) (.inr ⟨u9, v9, ep, rfl⟩) aJ fresh hI fu ef e1
    rcases ho with ⟨_, c8, rfl⟩ | ⟨u9, v9, c8, rfl⟩
    all_goals
     exists zA, 3, 103, zd, zc, a0
     exists zH, 14, 12755102, [1, 5], dv it aS (aQ steps) es j (.int x tx) bj, _, n1, t1
     exists zH, 6, 265302, [], g5 code x e.c hn uc tx, y2, n2, t2
     exists zH, 6, 5102, [4], (sa aC codes ec e.c y2).ck hc, _, n3, t3
     exists zH, 6, 260208, [], g5 code x e.c hn uc tx, y4, n4, t4
     exists zH, 1, 2, [2], Ay aF aJ ef i e he hI.nd y4 C2, _, n5, t5
     skip
    ·exact zO [0, 1, 2, 3, 4, 5, 6] (ax (t1 + 0) (.int x tx) (c8 + 1))
    ·exact zO [0, 1, 2, 3, 4, 5, 6] (ax u9 (.int x tx) c8)
   ·
    have gR : ∀ e ∈ aJ, e.c ≠ n := fun e he h => hf (List.mem_map.mpr ⟨e, he, h⟩)
    have Jc : ji (codes.map (·.1)) turn code (cT aJ, fresh.map (·.1)) x = (cT aJ ++ [(n, turn)], fresh.map (·.1) ++ [n]) := by
     unfold ji
     rw [if_pos (by rw [yh, l0]; exact ⟨hc, hf⟩), yh]
    rw [Jc] at fu
    have cP : fresh.length ≤ 100 := by have := hI.le; lia
    have ax := fun u9 v9 ep t u t2 iw fS => ih (j + 1) (by exact cJ) (fJ w st aC aS ln u1 u2 u3 u5 us (kg w turn aN code u6 u7 u8 ut uc [av (au w "step") "step" u9 v9]) ep) (.inr ⟨u9, v9, ep, rfl⟩) (aJ ++ [⟨n, t, turn, u⟩]) (fresh ++ [(n, t2)]) (hI.add hc gR) (by rw [← fu]; simp [cT]) iw fS
    simp only [fj] at ax
    rcases ho with ⟨_, c8, rfl⟩ | ⟨u9, v9, c8, rfl⟩
    all_goals
     exists zA, 3, 103, zd, zc, a0
     exists zH, 14, 12755102, [1, 5], dv it aS (aQ steps) es j (.int x tx) bj, _, n1, t1
     exists zH, 6, 265302, [], g5 code x n hn uc tx, y2, n2, t2
     exists zH, 6, 5102, [4], (sa aC codes ec n y2).ck hc, _, n3, t3
     exists zH, 6, 260208, [], g5 code x n hn uc tx, y4, n4, t4
     exists zH, 11, 12755402, [2], Ax aF aJ ef n y4 C2 gR hF, _, n5, t5
     exists zH, 4, 5204, [], g5 code x n hn uc tx, y6, n6, t6
     exists zH, 15, 1594406887752, [2], dictSet aF aJ ef n turn y6 ut C2 gR (by exact aO), y7, n7, t7
     exists zH, 2, 2, [], g5 code x n hn uc tx, y8, n8, t8
     exists zH, 2, 2, [3], bT aN (ag fresh) e1 (.int n y8) (by simp [ag]; exact aO), y9, n9, t9
    ·exact zO [0, 1, 2, 3, 4, 5, 6] (ax (t1 + 0) (.int x tx) (c8 + 1) y6 ut y8 y7 y9)
    ·exact zO [0, 1, 2, 3, 4, 5, 6] (ax u9 (.int x tx) c8 y6 ut y8 y7 y9)
  ·
   have sb : ji (codes.map (·.1)) turn code (cT aJ, fresh.map (·.1)) x = (cT aJ, fresh.map (·.1)) := by
    unfold ji
    rw [if_neg (by rw [yh]; exact fun h => hc h.1)]
   rw [sb] at fu
   have ax := fun u9 v9 ep => ih (j + 1) (by exact cJ) (fJ w st aC aS ln u1 u2 u3 u5 us (kg w turn aN code u6 u7 u8 ut uc [av (au w "step") "step" u9 v9]) ep) (.inr ⟨u9, v9, ep, rfl⟩) aJ fresh hI fu ef e1
   rcases ho with ⟨_, c8, rfl⟩ | ⟨u9, v9, c8, rfl⟩
   all_goals
    exists zA, 3, 103, zd, zc, a0
    exists zH, 14, 12755102, [1, 5], dv it aS (aQ steps) es j (.int x tx) bj, _, n1, t1
    exists zH, 6, 265302, [], g5 code x n hn uc tx, y2, n2, t2
    exists zH, 1, 2, [4], (sa aC codes ec n y2).cO hc, _, n3, t3
    skip
   ·exact zO [0, 1, 2, 3, 4, 5, 6] (ax (t1 + 0) (.int x tx) (c8 + 1))
   ·exact zO [0, 1, 2, 3, 4, 5, 6] (ax u9 (.int x tx) c8)
noncomputable def iV (codes : List Nat) (turn : Nat) (steps : List Int) (s : FP) (code : Nat) : FP := steps.foldl (ji codes turn code) s
noncomputable def FL (w : World) (st : Nat) (aC aS ln : Addr) (u1 u2 u3 u5 us : Tok) (turn : Nat) (aN : Addr) (u6 u7 ut : Tok) (z : Bool) (o : Obj) : Prop :=
 (z = true ∧ ∃ ep, o = fJ w st aC aS ln u1 u2 u3 u5 us [av (au w "turn") "turn" u6 (.int turn ut), av (au w "fresh") "fresh" u7 (.ref aN)] ep) ∨ ∃ code u8 uc u9 v9 ep, o = fJ w st aC aS ln u1 u2 u3 u5 us (kg w turn aN code u6 u7 u8 ut uc [av (au w "step") "step" u9 v9]) ep
theorem vS (L aC aS aF aX ln aN it : Addr) (hF : 2 ≤ aF) (st turn : Nat) (u1 u2 u3 u5 us u6 u7 ut : Tok) (codes : List (Nat × Tok)) (dk : codes.length ≤ 100) (ec : Nat) (steps : List (Int × Tok)) (rm : 0 < steps.length) (es : Nat) (line : List (Nat × Tok)) (el : Nat)
  (ei : ∀ c ∈ line, ∀ q ∈ steps, ∃ n : Nat, (c.1 : Int) + q.1 = n ∧ n ≤ 100000) (F : FP) :
  ∀ (m j : Nat) (hm : j + m = line.length) (o : Obj) (ho : FL w st aC aS ln u1 u2 u3 u5 us turn aN u6 u7 ut (decide (j = 0)) o) (aJ : List Fe) (fresh : List (Nat × Tok)) (hI : FI (codes.map (·.1)) aJ fresh) (fu : ((line.drop j).map (·.1)).foldl (iV (codes.map (·.1)) turn (steps.map (·.1))) (cT aJ, fresh.map (·.1)) = F) (ef e1 : Nat),
  af w b 18 (fU vQ it (cS i6 245 L [(Str.ofString "far", aX)]))
   [(L, o), (it, bx ln j), (aF, dz aJ ef), (aN, aa (ag fresh) e1), (aC, aa (ag codes) ec), (aS, aa (aQ steps) es), (aX, ai (.ref aF)), (ln, aa (ag line) el)] []
   (X := SE) (fun y => FI (codes.map (·.1)) y.aJ y.fresh ∧ (cT y.aJ, y.fresh.map (·.1)) = F ∧ FL w st aC aS ln u1 u2 u3 u5 us turn aN u6 u7 ut (decide (line.length = 0)) y.fr) (fun y => .ok .next)
   (fun y => [(L, y.fr), (it, y.it), (aF, dz y.aJ y.ef), (aN, aa (ag y.fresh) y.e1), (aC, aa (ag codes) ec), (aS, aa (aQ steps) es), (aX, ai (.ref aF)), (ln, aa (ag line) el)]) (fun y => []) := by
 intro m
 induction m with
 | zero =>
  intro j hm o ho aJ fresh hI fu ef e1
  have bj : (ag line)[j]? = none := by simp [ag]; exact c6
  have hz : (decide (line.length = 0)) = decide (j = 0) := by rw [show line.length = j by exact km]
  have fK : (cT aJ, fresh.map (·.1)) = F := by rw [← fu, List.drop_eq_nil_of_le (by exact c6)]; rfl
  rw [← hz] at ho
  exists zA, 3, 103, zd, zc, a0
  exists zH, 3, 61, [1, 7], gM it ln (ag line) el j bj, y, n1, t1
  exact zM 8 [] (fun _ => ⟨aJ, fresh, ef, e1, o, y.2.2⟩) (hx := ⟨hI, fK, ho⟩)
 | succ m ih =>
  intro j hm o ho aJ fresh hI fu ef e1
  obtain ⟨⟨c, tc⟩, hx⟩ : ∃ q, line[j]? = some q := ⟨line[j]'(by exact cf), List.getElem?_eq_getElem (by exact cf)⟩
  have kc : (c, tc) ∈ line := List.mem_of_getElem? hx
  have C3 := ei _ kc
  dsimp only at C3
  have bj : (ag line)[j]? = some (.int c tc) := by rw [fy, hx]; rfl
  rw [bI line _ j _ hx, List.foldl_cons] at fu
  have iy := fun u8 o' (eV : FS w st aC aS ln u1 u2 u3 u5 us turn aN c u6 u7 u8 ut tc (decide ((0 : Nat) = 0)) o') jk => vR (w := w) (b := b) L aC aS aF aX ln aN jk hF st turn c u1 u2 u3 u5 us u6 u7 u8 ut tc codes dk ec steps es C3 (iV (codes.map (·.1)) turn (steps.map (·.1)) (cT aJ, fresh.map (·.1)) c) steps.length 0 (by exact Nat.zero_add _) o' eV aJ fresh hI rfl ef e1
  have Jd : decide (steps.length = 0) = false := decide_eq_false (by exact Bc)
  rw [Jd] at iy
  rcases ho with ⟨_, c8, rfl⟩ | ⟨code, u8, uc, u9, v9, c8, rfl⟩
  all_goals
   exists zA, 3, 103, zd, zc, a0
   refine zK [1, 7] (dv it ln (ag line) el j (.int c tc) bj) @fun _ n1 t1 _ _ _ _ => ?_
   exists yg, 21, 4297765982130102
   skip
  ·refine zK [0, 8, 2, 3, 4, 5, 6] (iy (t1 + 0) (fJ w st aC aS ln u1 u2 u3 u5 us (kg w turn aN c u6 u7 (t1 + 0) ut tc []) (c8 + 1)) (.inl ⟨rfl, _, rfl⟩) (n1 + 0)) @fun y n2 t2 G2 a2 hy _ => ?_
   obtain ⟨il, fw, iw, fS, mC, jk⟩ := y
   obtain ⟨gx, fK, gR⟩ := hy
   dsimp only at gx fK gR
   rw [← fK] at fu
   rcases gR with ⟨h, _⟩ | ⟨u9, v9, ep, rfl⟩
   ·exact absurd h (by decide)
   have ax := ih (j + 1) (by exact cJ) _ (.inr ⟨c, t1 + 0, tc, u9, v9, ep, rfl⟩) il fw gx fu iw fS
   exists zg, 1, 2
   exact zO [0, 1, 2, 3, 4, 5, 6, 7] ax
  ·refine zK [0, 8, 2, 3, 4, 5, 6] (iy u8 (fJ w st aC aS ln u1 u2 u3 u5 us (kg w turn aN c u6 u7 u8 ut tc [av (au w "step") "step" u9 v9]) c8) (.inr ⟨u9, v9, c8, rfl⟩) (n1 + 0)) @fun y n2 t2 G2 a2 hy _ => ?_
   obtain ⟨il, fw, iw, fS, mC, jk⟩ := y
   obtain ⟨gx, fK, gR⟩ := hy
   dsimp only at gx fK gR
   rw [← fK] at fu
   rcases gR with ⟨h, _⟩ | ⟨qd, qe, ep, rfl⟩
   ·exact absurd h (by decide)
   have ax := ih (j + 1) (by exact cJ) _ (.inr ⟨c, u8, tc, qd, qe, ep, rfl⟩) il fw gx fu iw fS
   exists zg, 1, 2
   exact zO [0, 1, 2, 3, 4, 5, 6, 7] ax
set_option smartUnfolding true
theorem Gg (L aC aS aF aX ln aN it : Addr) (hF : 2 ≤ aF) (st turn : Nat) (u1 u2 u3 u5 us u6 u7 ut : Tok) (codes : List (Nat × Tok)) (dk : codes.length ≤ 100) (ec : Nat) (steps : List (Int × Tok)) (rm : 0 < steps.length) (es : Nat) (line : List (Nat × Tok)) (el : Nat)
  (ei : ∀ c ∈ line, ∀ q ∈ steps, ∃ n : Nat, (c.1 : Int) + q.1 = n ∧ n ≤ 100000) (o : Obj) (ho : FL w st aC aS ln u1 u2 u3 u5 us turn aN u6 u7 ut true o) (aJ : List Fe) (hI : FI (codes.map (·.1)) aJ []) (ef e1 : Nat) :
  af w b 18 (fU vQ it (cS i6 245 L [(Str.ofString "far", aX)]))
   [(L, o), (it, bx ln (0 : Nat)), (aF, dz aJ ef), (aN, aa [] e1), (aC, aa (ag codes) ec), (aS, aa (aQ steps) es), (aX, ai (.ref aF)), (ln, aa (ag line) el)] []
   (X := SE) (fun y => FI (codes.map (·.1)) y.aJ y.fresh ∧ (cT y.aJ, y.fresh.map (·.1)) = (line.map (·.1)).foldl (iV (codes.map (·.1)) turn (steps.map (·.1))) (cT aJ, []) ∧ FL w st aC aS ln u1 u2 u3 u5 us turn aN u6 u7 ut true y.fr) (fun y => .ok .next)
   (fun y => [(L, y.fr), (it, y.it), (aF, dz y.aJ y.ef), (aN, aa (ag y.fresh) y.e1), (aC, aa (ag codes) ec), (aS, aa (aQ steps) es), (aX, ai (.ref aF)), (ln, aa (ag line) el)]) (fun y => []) := by
 have h := vS (w := w) (b := b) L aC aS aF aX ln aN it hF st turn u1 u2 u3 u5 us u6 u7 ut codes dk ec steps rm es line el ei ((line.map (·.1)).foldl (iV (codes.map (·.1)) turn (steps.map (·.1))) (cT aJ, [])) line.length 0 (by exact Nat.zero_add _) o ho aJ [] hI rfl ef e1
 refine h.map id (fun y hy => ⟨hy.1, hy.2.1, ?_⟩) (fun _ => rfl) (fun _ => rfl) (fun _ => rfl)
 rcases hy.2.2 with ⟨_, h⟩ | h
 ·exact .inl ⟨rfl, h⟩
 ·exact .inr h
noncomputable def f7 (codes : List Nat) (steps : List Int) : Nat → Nat → List (Nat × Nat) → List Nat → List (Nat × Nat)
 | 0, _, aJ, _ => aJ
 | m + 1, turn, aJ, line => f7 codes steps m (turn + 1) (line.foldl (iV codes turn steps) (aJ, [])).1 (line.foldl (iV codes turn steps) (aJ, [])).2
noncomputable def FT (w : World) (st : Nat) (aC aS ln : Addr) (u1 u2 u3 u5 us : Tok) (o : Obj) : Prop :=
 (∃ ep, o = fJ w st aC aS ln u1 u2 u3 u5 us [] ep) ∨ (∃ u6 tv u7 fv ep, o = fJ w st aC aS ln u1 u2 u3 u5 us [av (au w "turn") "turn" u6 tv, av (au w "fresh") "fresh" u7 fv] ep) ∨
  ∃ u6 tv u7 fv u8 code uc u9 v9 ep, o = fJ w st aC aS ln u1 u2 u3 u5 us [av (au w "turn") "turn" u6 tv, av (au w "fresh") "fresh" u7 fv, av (au w "code") "code" u8 (.int (code : Nat) uc), av (au w "step") "step" u9 v9] ep
set_option smartUnfolding false
set_option smartUnfolding true
set_option smartUnfolding false
theorem AA (L aC aS aF aX it : Addr) (hF : 2 ≤ aF) (st : Nat) (u1 u2 u3 u5 us : Tok) (codes : List (Nat × Tok)) (dk : codes.length ≤ 100) (ec : Nat) (steps : List (Int × Tok)) (rm : 0 < steps.length) (es : Nat)
  (ei : ∀ c : Nat, c ∈ codes.map (·.1) → ∀ q ∈ steps, ∃ n : Nat, (c : Int) + q.1 = n ∧ n ≤ 100000) (F : List (Nat × Nat)) :
  ∀ (m turn : Nat) (ln : Addr) (line : List (Nat × Tok)) (sd : ∀ q ∈ line, q.1 ∈ codes.map (·.1)) (el : Nat) (o : Obj) (ho : FT w st aC aS ln u1 u2 u3 u5 us o) (aJ : List Fe) (hI : FI (codes.map (·.1)) aJ []) (fu : f7 (codes.map (·.1)) (steps.map (·.1)) m turn (cT aJ) (line.map (·.1)) = F) (ef : Nat),
  af w b 20 (fU vP it (cS i6 245 L [(Str.ofString "far", aX)]))
   [(L, o), (it, cj turn m), (aF, dz aJ ef), (aC, aa (ag codes) ec), (aS, aa (aQ steps) es), (aX, ai (.ref aF)), (ln, aa (ag line) el)] []
   (X := SE) (fun y => FI (codes.map (·.1)) y.aJ [] ∧ cT y.aJ = F ∧ ∃ qf, FT w st aC aS qf u1 u2 u3 u5 us y.fr) (fun y => .ok .next)
   (fun y => [(L, y.fr), (it, y.it), (aF, dz y.aJ y.ef), (aC, aa (ag codes) ec), (aS, aa (aQ steps) es), (aX, ai (.ref aF)), (ln, aa (ag line) el)]) (fun y => []) := by
 intro m
 induction m with
 | zero =>
  intro turn ln line sd el o ho aJ hI fu ef
  exists zA, 3, 103, zd, zc, a0
  exists zH, 3, 60, [1], g9 it turn, y, n1, t1
  exact zM 7 [] (fun _ => ⟨aJ, [], ef, 0, o, y.2.2⟩) (hx := ⟨hI, fu, ln, ho⟩)
 | succ m ih =>
  intro turn ln line sd el o ho aJ hI fu ef
  have Je : ∀ c ∈ line, ∀ q ∈ steps, ∃ n : Nat, (c.1 : Int) + q.1 = n ∧ n ≤ 100000 := fun c hc => ei _ (sd c hc)
  have iy := fun aN jk u6 u7 ut o' eV iw fS => Gg (w := w) (b := b) L aC aS aF aX ln aN jk hF st turn u1 u2 u3 u5 us u6 u7 ut codes dk ec steps rm es line el Je o' eV aJ hI iw fS
  have ax : ∀ (y : SE) (aN : Addr) (o' : Obj), FI (codes.map (·.1)) y.aJ y.fresh → (cT y.aJ, y.fresh.map (·.1)) = (line.map (·.1)).foldl (iV (codes.map (·.1)) turn (steps.map (·.1))) (cT aJ, []) → FT w st aC aS aN u1 u2 u3 u5 us o' →
    af w b 20 (fU vP it (cS i6 245 L [(Str.ofString "far", aX)]))
     [(L, o'), (it, cj (turn + 1) m), (aF, dz y.aJ y.ef), (aC, aa (ag codes) ec), (aS, aa (aQ steps) es), (aX, ai (.ref aF)), (aN, aa (ag y.fresh) y.e1)] []
     (X := SE) (fun y => FI (codes.map (·.1)) y.aJ [] ∧ cT y.aJ = F ∧ ∃ qf, FT w st aC aS qf u1 u2 u3 u5 us y.fr) (fun y => .ok .next)
     (fun z => [(L, z.fr), (it, z.it), (aF, dz z.aJ z.ef), (aC, aa (ag codes) ec), (aS, aa (aQ steps) es), (aX, ai (.ref aF)), (aN, aa (ag y.fresh) y.e1)]) (fun y => []) := by
   intro y aN o' gx fK eV
   refine ih (turn + 1) aN y.fresh gx.C1 y.e1 o' eV y.aJ gx.nil ?_ y.ef
   rw [← fu]
   show _ = f7 _ _ m (turn + 1) _ _
   rw [← fK]
  rcases ho with ⟨c8, rfl⟩ | ⟨u6, tv, u7, fv, c8, rfl⟩ | ⟨u6, tv, u7, fv, u8, code, uc, u9, v9, c8, rfl⟩
  all_goals
   exists zA, 3, 103, zd, zc, a0
   exists yH, 31, 10744454033762755102, [1], du it turn m, y1, n1, t1
   skip
  ·refine zK [0, 8, 2, 7, 3, 4, 5, 6] (iy (n1 + 0) (n1 + 1) (t1 + 0) (t1 + 1) y1 (fJ w st aC aS ln u1 u2 u3 u5 us [av (au w "turn") "turn" (t1 + 0) (.int turn y1), av (au w "fresh") "fresh" (t1 + 1) (.ref (n1 + 0))] (c8 + 1 + 1)) (.inl ⟨rfl, _, rfl⟩) ef 0) @fun y n3 t3 G3 a3 hy _ => ?_
   obtain ⟨il, fw, iw, fS, mC, jk⟩ := y
   obtain ⟨gx, fK, gR⟩ := hy
   dsimp only at gx fK gR
   rcases gR with ⟨_, ep, rfl⟩ | ⟨mP, uk, um, qd, qe, ep, rfl⟩
   ·exists zg, 11, 255102
    refine aZ (Ta := []) zc.ro a3 zc.hL [0, 1, 2, 3, 4, 5, 7] [] [] (ax ⟨il, fw, iw, fS, default, jk⟩ (n1 + 0) (fJ w st aC aS (n1 + 0) u1 u2 u3 u5 us [av (au w "turn") "turn" (t1 + 0) (.int turn y1), av (au w "fresh") "fresh" (t1 + 1) (.ref (n1 + 0))] ep) gx fK (.inr (.inl ⟨_, _, _, _, _, rfl⟩))) (by kernel_rfl) (by kernel_rfl) (fun _ h => nomatch h) List.nodup_nil fun z n4 t4 G4 a4 hz _ => ?_
    exact eA zc.post zc.ro a4 7 [] z hz rfl (by kernel_rfl) (by kernel_rfl) (by kernel_rfl) ak
   ·exists zg, 11, 255102
    refine aZ (Ta := []) zc.ro a3 zc.hL [0, 1, 2, 3, 4, 5, 7] [] [] (ax ⟨il, fw, iw, fS, default, jk⟩ (n1 + 0) (fJ w st aC aS (n1 + 0) u1 u2 u3 u5 us (kg w turn (n1 + 0) mP (t1 + 0) (t1 + 1) uk y1 um [av (au w "step") "step" qd qe]) ep) gx fK (.inr (.inr ⟨_, _, _, _, _, _, _, _, _, _, rfl⟩))) (by kernel_rfl) (by kernel_rfl) (fun _ h => nomatch h) List.nodup_nil fun z n4 t4 G4 a4 hz _ => ?_
    exact eA zc.post zc.ro a4 7 [] z hz rfl (by kernel_rfl) (by kernel_rfl) (by kernel_rfl) ak
  ·refine zK [0, 8, 2, 7, 3, 4, 5, 6] (iy (n1 + 0) (n1 + 1) u6 u7 y1 (fJ w st aC aS ln u1 u2 u3 u5 us [av (au w "turn") "turn" u6 (.int turn y1), av (au w "fresh") "fresh" u7 (.ref (n1 + 0))] c8) (.inl ⟨rfl, _, rfl⟩) ef 0) @fun y n3 t3 G3 a3 hy _ => ?_
   obtain ⟨il, fw, iw, fS, mC, jk⟩ := y
   obtain ⟨gx, fK, gR⟩ := hy
   dsimp only at gx fK gR
   rcases gR with ⟨_, ep, rfl⟩ | ⟨mP, uk, um, qd, qe, ep, rfl⟩
   ·exists zg, 11, 255102
    refine aZ (Ta := []) zc.ro a3 zc.hL [0, 1, 2, 3, 4, 5, 7] [] [] (ax ⟨il, fw, iw, fS, default, jk⟩ (n1 + 0) (fJ w st aC aS (n1 + 0) u1 u2 u3 u5 us [av (au w "turn") "turn" u6 (.int turn y1), av (au w "fresh") "fresh" u7 (.ref (n1 + 0))] ep) gx fK (.inr (.inl ⟨_, _, _, _, _, rfl⟩))) (by kernel_rfl) (by kernel_rfl) (fun _ h => nomatch h) List.nodup_nil fun z n4 t4 G4 a4 hz _ => ?_
    exact eA zc.post zc.ro a4 7 [] z hz rfl (by kernel_rfl) (by kernel_rfl) (by kernel_rfl) ak
   ·exists zg, 11, 255102
    refine aZ (Ta := []) zc.ro a3 zc.hL [0, 1, 2, 3, 4, 5, 7] [] [] (ax ⟨il, fw, iw, fS, default, jk⟩ (n1 + 0) (fJ w st aC aS (n1 + 0) u1 u2 u3 u5 us (kg w turn (n1 + 0) mP u6 u7 uk y1 um [av (au w "step") "step" qd qe]) ep) gx fK (.inr (.inr ⟨_, _, _, _, _, _, _, _, _, _, rfl⟩))) (by kernel_rfl) (by kernel_rfl) (fun _ h => nomatch h) List.nodup_nil fun z n4 t4 G4 a4 hz _ => ?_
    exact eA zc.post zc.ro a4 7 [] z hz rfl (by kernel_rfl) (by kernel_rfl) (by kernel_rfl) ak
  ·refine zK [0, 8, 2, 7, 3, 4, 5, 6] (iy (n1 + 0) (n1 + 1) u6 u7 y1 (fJ w st aC aS ln u1 u2 u3 u5 us (kg w turn (n1 + 0) code u6 u7 u8 y1 uc [av (au w "step") "step" u9 v9]) c8) (.inr ⟨_, _, _, _, _, _, rfl⟩) ef 0) @fun y n3 t3 G3 a3 hy _ => ?_
   obtain ⟨il, fw, iw, fS, mC, jk⟩ := y
   obtain ⟨gx, fK, gR⟩ := hy
   dsimp only at gx fK gR
   rcases gR with ⟨_, ep, rfl⟩ | ⟨mP, uk, um, qd, qe, ep, rfl⟩
   ·exists zg, 11, 255102
    refine aZ (Ta := []) zc.ro a3 zc.hL [0, 1, 2, 3, 4, 5, 7] [] [] (ax ⟨il, fw, iw, fS, default, jk⟩ (n1 + 0) (fJ w st aC aS (n1 + 0) u1 u2 u3 u5 us [av (au w "turn") "turn" u6 (.int turn y1), av (au w "fresh") "fresh" u7 (.ref (n1 + 0))] ep) gx fK (.inr (.inl ⟨_, _, _, _, _, rfl⟩))) (by kernel_rfl) (by kernel_rfl) (fun _ h => nomatch h) List.nodup_nil fun z n4 t4 G4 a4 hz _ => ?_
    exact eA zc.post zc.ro a4 7 [] z hz rfl (by kernel_rfl) (by kernel_rfl) (by kernel_rfl) ak
   ·exists zg, 11, 255102
    refine aZ (Ta := []) zc.ro a3 zc.hL [0, 1, 2, 3, 4, 5, 7] [] [] (ax ⟨il, fw, iw, fS, default, jk⟩ (n1 + 0) (fJ w st aC aS (n1 + 0) u1 u2 u3 u5 us (kg w turn (n1 + 0) mP u6 u7 uk y1 um [av (au w "step") "step" qd qe]) ep) gx fK (.inr (.inr ⟨_, _, _, _, _, _, _, _, _, _, rfl⟩))) (by kernel_rfl) (by kernel_rfl) (fun _ h => nomatch h) List.nodup_nil fun z n4 t4 G4 a4 hz _ => ?_
    exact eA zc.post zc.ro a4 7 [] z hz rfl (by kernel_rfl) (by kernel_rfl) (by kernel_rfl) ak
noncomputable def lk (aJ : List (Nat × Nat)) (c : Nat) : Nat := ((aJ.find? (·.1 == c)).map (·.2)).getD 0
set_option smartUnfolding true
theorem Gh (aJ : List Fe) (nd : (aJ.map (·.c)).Nodup) (e : Fe) (he : e ∈ aJ) : lk (cT aJ) e.c = e.v := by
 unfold lk cT
 induction aJ with
 | nil => cases he
 | cons x l ih =>
  rw [List.map_cons, List.nodup_cons] at nd
  rw [List.map_cons, List.find?_cons]
  rcases List.mem_cons.mp he with rfl | he
  ·simp
  ·have : ¬ x.c = e.c := fun h => nd.1 (h ▸ List.mem_map_of_mem he)
   rw [show ((x.c, x.v).1 == e.c) = false by simp [this]]
   exact ih nd.2 he
noncomputable def gE : Expr := vJ (dq ph 3)
noncomputable def sf (D L aX : Addr) : Env := dP [(Str.ofString ".0", .local), (Str.ofString "code", .local), (Str.ofString "far", .cell)] D [(Str.ofString "far", aX)] i6 L
set_option smartUnfolding false
theorem C4 (it a D L aX acc : Addr) (j : Nat) (T : KS) (K : KS) {n : Nat} {X : Type} {P : X → Prop} {rf : X → Result} {Kf Nf : X → KS}
  (H : af w b n (bF gE it acc (sf D L aX)) ((it, bx a j) :: K) T P rf Kf Nf) : af w b (n + 1) (cx gE it acc (sf D L aX)) ((it, bx a j) :: K) T P rf Kf Nf := by
 exists zA, 1, 0, zd, zc, a0
 refine dM ?_
 cases hq : w.params.followText "comprehension-iter-twice"
 ·exists ao, dG (bf hq)
  exists yg, 11, 31881502602
  exact zS H (Nat.ble_eq_true_of_le (Nat.le_succ _))
 ·exists ao, dG (bt hq)
  exists zg, 1, 2
  exact zS H (Nat.ble_eq_true_of_le (Nat.le_succ _))
theorem Gi (it a D L aX aF acc : Addr) (xs : List (Nat × Tok)) (lE : xs.length ≤ 100) (ex : Nat) (aJ : List Fe) (nd : (aJ.map (·.c)).Nodup) (hc : ∀ q ∈ xs, q.1 ∈ aJ.map (·.c)) (hb : ∀ e ∈ aJ, e.c ≤ 100000) (ef : Nat) (F : List Nat) :
 ∀ (m j : Nat) (hm : j + m = xs.length) (o : Obj) (hD : De w "code" (decide (j = 0)) o) (done : List (Nat × Tok)) (hF : done.map (·.1) ++ (xs.drop j).map (fun q => lk (cT aJ) q.1) = F) (hd : done.length + m ≤ 100) (ed : Nat),
  af w b 12 (bF gE it acc (sf D L aX)) [(it, bx a j), (D, o), (acc, aa (ag done) ed), (a, aa (ag xs) ex), (aX, ai (.ref aF)), (aF, dz aJ ef)] []
   (X := List (Nat × Tok) × Nat × Obj × Obj) (fun y => y.1.map (·.1) = F ∧ De w "code" (decide (xs.length = 0)) y.2.2.1)
   (fun _ => .ok .next) (fun y => [(it, y.2.2.2), (D, y.2.2.1), (acc, aa (ag y.1) y.2.1), (a, aa (ag xs) ex), (aX, ai (.ref aF)), (aF, dz aJ ef)]) (fun _ => []) := by
 intro m
 induction m with
 | zero =>
  intro j hm o hD done hF hd ed
  have bj : (ag xs)[j]? = none := by simp [ag]; exact c6
  exists zA, 3, 102, zd, zc, a0
  exists zH, 2, 9, [0, 3], gM it a (ag xs) ex j bj, y, n1, t1
  exact zM 6 [] (fun _ => (done, ed, o, y.2.2)) (hx := ⟨by rw [← hF, List.drop_eq_nil_of_le (by exact c6)]; simp, by rw [show xs.length = j by exact km]; exact hD⟩)
 | succ m ih =>
  intro j hm o hD done hF hd ed
  obtain ⟨⟨x, tx⟩, hx⟩ : ∃ q, xs[j]? = some q := ⟨xs[j]'(by exact cf), List.getElem?_eq_getElem (by exact cf)⟩
  have kc := List.mem_of_getElem? hx
  obtain ⟨e, ui, Ia⟩ := List.mem_map.mp (hc _ kc)
  dsimp only at Ia
  obtain ⟨i, hi, uj⟩ := List.mem_iff_getElem.mp ui
  have he : aJ[i]? = some e := by rw [List.getElem?_eq_getElem hi, uj]
  have yi := Gh aJ nd e ui
  have KU := hb e ui
  subst Ia
  have bj : (ag xs)[j]? = some (.int e.c tx) := by rw [fy, hx]; rfl
  have ax : ∀ (tk : Tok) (v : Value) (ep : Nat) (t' : Tok) (b8 : Nat), af w b 12 (bF gE it acc (sf D L aX)) [(it, bx a (j + 1 : Nat)), (D, ay [av (au w "code") "code" tk v] ep), (acc, aa (ag done ++ [.int e.v t']) b8), (a, aa (ag xs) ex), (aX, ai (.ref aF)), (aF, dz aJ ef)] []
   (X := List (Nat × Tok) × Nat × Obj × Obj) (fun y => y.1.map (·.1) = F ∧ De w "code" (decide (xs.length = 0)) y.2.2.1)
   (fun _ => .ok .next) (fun y => [(it, y.2.2.2), (D, y.2.2.1), (acc, aa (ag y.1) y.2.1), (a, aa (ag xs) ex), (aX, ai (.ref aF)), (aF, dz aJ ef)]) (fun _ => []) := by
   intro tk v ep t' b8
   have h := ih (j + 1) (by exact cJ) (ay [av (au w "code") "code" tk v] ep) (.inr ⟨tk, v, ep, rfl⟩) (done ++ [(e.v, t')]) (by rw [← hF, bI xs _ j _ hx, yi]; simp) (by simp; exact gm) b8
   rw [fj] at h
   exact h
  rcases hD with ⟨_, rfl⟩ | ⟨tk, v, ep, rfl⟩
  all_goals
   exists zA, 3, 102, zd, zc, a0
   exists zH, 16, 1674106640153, [0, 3], dv it a (ag xs) ex j (.int e.c tx) bj, _, n1, t1
   exists zH, 1, 2, [5], dictGet aF aJ ef i e he nd tx KU, _, n2, t2
   exists zH, 1, 2, [2], bT acc (ag done) ed (.int e.v e.u) (by simp [ag]; exact gA), y3, n3, t3
  ·exact zO [0, 1, 2, 3, 4, 5] (ax (t1 + 0) (.int e.c tx) 1 e.u y3)
  ·exact zO [0, 1, 2, 3, 4, 5] (ax tk (.int e.c tx) ep e.u y3)
noncomputable def g6 (K y : KS) : Prop := y.map (·.1) = K.map (·.1) ∧ (∃ o0 o1 r, y = (140, o0) :: (147, o1) :: r ∧ bg o0 ∧ bo o1) ∧ slot y 2 = slot K 2
noncomputable abbrev oz : Result := .ok (.ret (.bool true))
noncomputable def bH (w : World) (b : Bool) (n : Nat) (c : Code) (κ : Kn) (t : Sem Fin) (K T : KS) : Prop := og w b n c κ t K T (g6 K) (fun _ => oz) id (fun _ => [])
noncomputable abbrev oT (w : World) (s : Shared) (R : Result → Shared → Prop) (K0 T : KS) : Prop := cC w s R K0 T (g6 K0) (fun _ => oz) id (fun _ => [])
set_option smartUnfolding true
theorem uo (y : KS) (j : Nat) : slot (bk (j + 3) y) 2 = slot y 2 := by
 match y with
 | [] => rfl
 | [_] => rfl
 | [_, _] => rfl
 | _ :: _ :: _ :: _ => rfl
theorem vT (y : KS) : slot (bk 2 y) 2 = none := by
 match y with
 | [] => rfl
 | [_] => rfl
 | _ :: _ :: _ => rfl
noncomputable abbrev kJ (K : KS) (l : List Addr) : Option (Addr × Obj) × List Addr := (slot K 2, l)
theorem g6.take {K0 K1 y : KS} {j : Nat} (h : g6 K1 y) (hj : kJ K1 ((bk (j + 2) K1).map (·.1)) = kJ K0 (K0.map (·.1))) : g6 K0 (bk (j + 2) y) := by
 have Ib := congrArg Prod.fst hj
 have C5 := congrArg Prod.snd hj
 dsimp only [kJ] at Ib C5
 obtain ⟨h1, ⟨o0, o1, r, rfl, t0, t1⟩, h3⟩ := h
 refine ⟨(kp (j + 2) _ _ h1).trans C5, ⟨o0, o1, bk j r, rfl, t0, t1⟩, ?_⟩
 cases j with
 | succ j => rw [uo, h3, Ib]
 | zero =>
  rw [vT, slot_get]
  symm
  rw [List.getElem?_eq_none_iff]
  have hl : (bk 2 K1).length = K0.length := by
   have := congrArg List.length C5
   rw [List.length_map, List.length_map] at this
   exact this
  have : (bk 2 K1).length ≤ 2 := by
   match K1 with
   | [] => exact Nat.zero_le _
   | [_] => exact Nat.le_succ _
   | _ :: _ :: _ => exact Nat.le_refl _
  lia
theorem g6.x {K0 K1 Ks : KS} {j m : Nat} (hj : kJ K1 ((bk (j + 2) K1).map (·.1)) = kJ K0 (K0.map (·.1))) : ∀ x1, g6 K1 x1 → ((id x1 : KS)).map (·.1) = K1.map (·.1) → News m [] → ∃ x, g6 K0 x ∧ oz = oz ∧ ((id x : KS)).map (·.1) = K0.map (·.1) ∧ Of ((id x : KS) ++ []) ((id x1 : KS) ++ Ks ++ []) ∧ News m [] :=
 fun x1 h _ hn => ⟨bk (j + 2) x1, h.take hj, rfl, (kp (j + 2) _ _ h.1).trans (congrArg Prod.snd hj), Of.sub (by rw [List.append_nil, List.append_nil]; exact (ko _ _).trans (List.sublist_append_left _ _)), hn⟩
section
variable {w : World} {b : Bool} {A : Around} {R : Result → Shared → Prop} {s : Shared} {K0 T : KS} {n t : Nat} {G : List GenState} {o : Ou}
theorem kR {nL nA : Nat} {c : Code} {κ : Kn} {tr : Sem Fin} {K1 S1 S2 T1 : KS}
  (post : oT w s R K0 T) (ro : Ro w s K0 T) (a : At s n t G) (hL : Lv nA A) (p : Nat) (ii jj : List Nat) (j : Nat)
  (bq : bH w b nL c κ tr K1 T1) (h : pC o p ii jj [] = ⟨some (c, κ, tr), E2 o, [], some K1, some S1, some [], S2, true⟩) (hj : kJ K1 ((bk (j + 2) K1).map (·.1)) = kJ K0 (K0.map (·.1)))
  (hT : T1.Sublist (S1 ++ S2 ++ T)) (hn : Nat.ble nL nA = true) : Mn (az w b A R s K0 n t G) o :=
 lO (Dr := []) post ro a (hL.less (Nat.le_of_ble_eq_true hn)) p ii jj [] bq h hT (g6.x hj)
theorem kL {nL nA : Nat} {c : Code} {κ : Kn} {tr : Sem Fin} {K1 Sy T1 : KS}
  (post : oT w s R K0 T) (ro : Ro w s K0 T) (a : At s n t G) (hL : Lv nA A) (p j : Nat) (mask : List Bool)
  (bq : bH w b nL c κ tr K1 T1) (h : pC o p (xU (j + 2) mask) [] [] = ⟨some (c, κ, tr), E2 o, [], some K1, some [], some [], Sy, true⟩) (hj : kJ K1 ((bk (j + 2) K1).map (·.1)) = kJ K0 (K0.map (·.1)))
  (hT : T1.Sublist (Sy ++ T)) (hn : Nat.ble nL nA = true) : Mn (az w b A R s K0 n t G) o :=
 kR (S1 := []) post ro a hL p _ [] j bq h hj hT hn
theorem e9 {nL nA : Nat} {c : Code} {κ : Kn} {tr : Sem Fin} {K1 : KS}
  (post : oT w s R K0 T) (ro : Ro w s K0 T) (a : At s n t G) (hL : Lv nA A) (j : Nat) (mask : List Bool)
  (bq : bH w b nL c κ tr K1 T) (h : pC o 100 (xU (j + 2) mask) [] [] = ⟨some (c, κ, tr), E2 o, [], some K1, some [], some [], [], true⟩) (hj : kJ K1 ((bk (j + 2) K1).map (·.1)) = kJ K0 (K0.map (·.1))) (hn : Nat.ble nL nA = true) : Mn (az w b A R s K0 n t G) o :=
 kL (Sy := []) post ro a hL 100 j mask bq h hj (List.Sublist.refl _) hn
theorem vU {A B : KS} (h : A.map (·.1) = B.map (·.1)) (j : Nat) : (slot A j).map (·.1) = (slot B j).map (·.1) := by
 rw [slot_get, slot_get, ← List.getElem?_map, ← List.getElem?_map, h]
theorem uq {A B B' : KS} (h : A.map (·.1) = B.map (·.1)) : ∀ {ll : List Nat}, picks B ll = some B' → ∃ A', picks A ll = some A' ∧ A'.map (·.1) = B'.map (·.1) := by
 intro ll
 induction ll generalizing B' with
 | nil => intro hB; simp only [picks, Option.some.injEq] at hB; subst hB; exact ⟨[], rfl, rfl⟩
 | cons j l ih =>
  intro hB
  have hs := vU h j
  simp only [picks] at hB ⊢
  cases e : slot B j with
  | none => rw [e] at hB; cases hB
  | some q =>
   rw [e] at hB hs
   cases e2 : slot A j with
   | none => rw [e2] at hs; cases hs
   | some q2 =>
    rw [e2] at hs
    cases e3 : picks B l with
    | none => simp only [e3] at hB; cases hB
    | some r =>
     simp only [e3, Option.some.injEq] at hB
     obtain ⟨A', h1, h2⟩ := ih e3
     refine ⟨q2 :: A', by simp only [h1], ?_⟩
     rw [← hB, List.map_cons, List.map_cons, h2]
     simp only [Option.map_some, Option.some.injEq] at hs
     rw [hs]
theorem Gj {K1 Dr K0 Kj S : KS} {ll : List Nat} {m : Nat} (hj : picks (K1 ++ Dr) (0 :: 1 :: 2 :: ll) = some Kj) (hl : (0 :: 1 :: 2 :: ll).Nodup) (hm : Kj.map (·.1) = K0.map (·.1)) (h2 : slot K1 2 = slot K0 2) (h3 : (slot K1 2).isSome = true) :
  ∀ x1, g6 K1 x1 → ((id x1 : KS)).map (·.1) = K1.map (·.1) → News m [] → ∃ x, g6 K0 x ∧ oz = oz ∧ ((id x : KS)).map (·.1) = K0.map (·.1) ∧ Of ((id x : KS) ++ []) ((id x1 : KS) ++ (S ++ Dr) ++ []) ∧ News m [] := fun x1 h1 _ hn => by
 obtain ⟨e1, ⟨o0, o1, r, rfl, t0, t1⟩, e3⟩ := h1
 obtain ⟨A', h1, kd⟩ := uq (A := ((140, o0) :: (147, o1) :: r) ++ Dr) (by rw [List.map_append, List.map_append, e1]) hj
 have ke := Of.picks h1 hl
 refine ⟨A', ⟨kd.trans hm, ?_, ?_⟩, rfl, kd.trans hm, ?_, hn⟩
 ·simp only [picks, List.cons_append, slot] at h1
  cases q : slot (r ++ Dr) 0 with
  | none => simp only [q] at h1; cases h1
  | some s2 =>
   simp only [q] at h1
   cases e : picks ((140, o0) :: (147, o1) :: (r ++ Dr)) ll with
   | none => simp only [e] at h1; cases h1
   | some r' =>
    simp only [e, Option.some.injEq] at h1
    exact ⟨o0, o1, s2 :: r', h1.symm, t0, t1⟩
 ·rw [← h2, ← e3]
  rw [← e3] at h3
  cases r with
  | nil => cases h3
  | cons s2 r =>
   simp only [picks, List.cons_append, slot] at h1
   cases e : picks ((140, o0) :: (147, o1) :: s2 :: (r ++ Dr)) ll with
   | none => simp only [e] at h1; cases h1
   | some r' =>
    simp only [e, Option.some.injEq] at h1
    rw [← h1]; rfl
 ·rw [List.append_nil, List.append_nil]
  exact ke.trans (Of.sub ((List.sublist_append_right S Dr).append_left _))
noncomputable def sh (K1 Dr K0 : KS) (ll : List Nat) : Option (Option (Addr × Obj) × Bool × Option (List Addr)) := match ll with
 | 2 :: l => some (slot K1 2, (slot K1 2).isSome, (picks (K1 ++ Dr) (0 :: 1 :: 2 :: l)).map fun k => k.map (·.1))
 | _ => none
theorem KV {K1 Dr K0 : KS} {ll : List Nat} (h : sh K1 Dr K0 ll = some (slot K0 2, true, some (K0.map (·.1)))) : ∃ l Kj, ll = 2 :: l ∧ picks (K1 ++ Dr) (0 :: 1 :: 2 :: l) = some Kj ∧ Kj.map (·.1) = K0.map (·.1) ∧ slot K1 2 = slot K0 2 ∧ (slot K1 2).isSome = true := by
 unfold sh at h
 split at h
 ·rename_i l
  simp only [Option.some.injEq, Prod.mk.injEq] at h
  obtain ⟨h1, h2, h3⟩ := h
  cases e : picks (K1 ++ Dr) (0 :: 1 :: 2 :: l) with
  | none => rw [e] at h3; cases h3
  | some r => rw [e] at h3; exact ⟨l, r, rfl, e, Option.some.inj h3, h1, h2⟩
 ·cases h
noncomputable abbrev rg (a n : Nat) : List Nat := List.range' a n
theorem kD {nL nA : Nat} {c : Code} {κ : Kn} {tr : Sem Fin} {K1 Sy Dr T1 : KS}
  (post : oT w s R K0 T) (ro : Ro w s K0 T) (a : At s n t G) (hL : Lv nA A) (p : Nat) (ii dd ll : List Nat)
  (bq : bH w b nL c κ tr K1 T1) (h : pC o p ii [] dd = ⟨some (c, κ, tr), E2 o, [], some K1, some [], some Dr, Sy, true⟩) (hj : sh K1 Dr K0 ll = some (slot K0 2, true, some (K0.map (·.1)))) (hl : (0 :: 1 :: ll).Nodup)
  (hT : T1.Sublist (Sy ++ T)) (hn : Nat.ble nL nA = true) : Mn (az w b A R s K0 n t G) o := by
 obtain ⟨l, Kj, rfl, g1, g2, g3, g4⟩ := KV hj
 exact lO (S1 := []) (S2 := Sy) post ro a (hL.less (Nat.le_of_ble_eq_true hn)) p ii [] dd bq h hT (Gj g1 hl g2 g3 g4)
end
noncomputable def yj (S : Addr) : List (Str × Addr) := [(Str.ofString "least", S + 15), (Str.ofString "sums", S + 14), (Str.ofString "fars", S + 13), (Str.ofString "steps", S + 12), (Str.ofString "codes", S + 11), (Str.ofString "highs", S + 10), (Str.ofString "lows", S + 9), (Str.ofString "drawn", S + 8), (Str.ofString "folds", S + 7), (Str.ofString "ends", S + 6), (Str.ofString "head", S + 5), (Str.ofString "width", S + 4), (Str.ofString "words", S + 3), (Str.ofString "k", S + 2), (Str.ofString "cells", S + 1)]
noncomputable abbrev bN (S : Addr) : Code := bB cU 250 S (yj S)
noncomputable abbrev dm (S : Addr) : Env := cS cU 250 S (yj S)
noncomputable def b6 (S : Addr) (i : Nat) : Sem Fin := pD (jQ cn i (28 - i)) (dm S)
noncomputable abbrev ae : Obj := ⟨.type "cell", none, .cell none, ⟨[]⟩⟩
noncomputable abbrev fe (w : World) (x : String) (tk : Tok) (v : Value) : DictEntry := av (au w x) x tk v
noncomputable abbrev cls (S : Addr) (c k wo wi hd en fo dr lo hi co st fa su le : Obj) : KS :=
 [(S + 1, c), (S + 2, k), (S + 3, wo), (S + 4, wi), (S + 5, hd), (S + 6, en), (S + 7, fo), (S + 8, dr), (S + 9, lo), (S + 10, hi), (S + 11, co), (S + 12, st), (S + 13, fa), (S + 14, su), (S + 15, le)]
noncomputable def Ic (w : World) (c : Bool) : World := { w with params := { w.params with followText := fun r => cond (PySem.W.S.eqLit 2510650655181157320538776789020469319833841985448949215332 r) c (w.params.followText r) } }
theorem d6 (w : World) : ∃ w' c, w = Ic w' c := by
 refine ⟨w, w.params.followText "comprehension-iter-twice", ?_⟩
 have e := PySem.W.S.eqLit_eq "comprehension-iter-twice" 2510650655181157320538776789020469319833841985448949215332 (by decide +kernel)
 obtain ⟨dr, P⟩ := w
 obtain ⟨_, _, _, _, _, ft⟩ := P
 unfold Ic
 congr 2
 funext r
 have e' := congrFun e r
 simp only at e' ⊢
 rw [← e']
 cases q : (r == "comprehension-iter-twice") with
 | true => rw [eq_of_beq q]; rfl
 | false => rfl
theorem Gk {a b : Bool} (h : ¬ (a = true ∧ b = true)) : @Bool.rec (fun _ => Bool) false b a = false := by
 cases a <;> cases b <;> simp_all
set_option smartUnfolding false
theorem sumZ (it a cl : Addr) (xs : List (Int × Tok)) (ex : Nat) (F : Int) :
 ∀ (m j : Nat) (hm : j + m = xs.length) (j2 : Nat) (hs : j2 = 0 ∨ j2 = 2) (z : Int) (tz : Tok) (hF : z + ((xs.drop j).map (·.1)).sum = F) (e1 : Nat),
  af w b 8 (.builtin "sum.loop" ⟨[.ref it, .ref cl, .int j2 0, .int 0 0], []⟩) [(it, bx a j), (cl, aa [.int z tz] e1), (a, aa (aQ xs) ex)] []
   (X := Tok × Obj × Nat × Value) (fun _ => True) (fun y => .ok (.ret (.int F y.1))) (fun y => [(it, y.2.1), (cl, aa [y.2.2.2] y.2.2.1), (a, aa (aQ xs) ex)]) (fun y => []) := by
 intro m
 induction m with
 | zero =>
  intro j hm j2 hs z tz hF e1
  have bj : (aQ xs)[j]? = none := by simp [aQ]; exact c6
  have hz : z = F := by rw [← hF, List.drop_eq_nil_of_le (by exact c6)]; simp
  subst hz
  rcases hs with rfl | rfl
  all_goals
   exists zA, 3, 5103, zd, zc, a0
   exists zH, 2, 6, [0, 2], gM it a (aQ xs) ex j bj, y, n1, t1
   exact zM 3 [] (fun o => (tz, y.2.2, e1, .int z tz))
 | succ m ih =>
  intro j hm j2 hs z tz hF e1
  obtain ⟨⟨x, tx⟩, hx⟩ : ∃ q, xs[j]? = some q := ⟨xs[j]'(by exact cf), List.getElem?_eq_getElem (by exact cf)⟩
  have bj : (aQ xs)[j]? = some (.int x tx) := by rw [lx, hx]; rfl
  rw [bI xs _ j _ hx, List.sum_cons, ← Int.add_assoc] at hF
  have ax := fun j2 hs tz e1 => ih (j + 1) (by exact cJ) j2 hs (z + x) tz hF e1
  rcases hs with rfl | rfl
  ·by_cases hb : (ZFast.zw18045280158202207255 x = true ∧ ZFast.zw18045280158202207255 (z + x) = true)
   ·exists zA, 3, 5103, zd, zc, a0
    refine zK [0, 2] (dv it a (aQ xs) ex j (.int x tx) bj) @fun _ n1 t1 _ _ _ _ => ?_
    exists ao, bt (band hb.1 hb.2)
    exists zg, 5, 257653
    exact zO [0, 1, 2] (ax 0 (.inl rfl) (t1 + 0) e1)
   ·exists zA, 3, 5103, zd, zc, a0
    refine zK [0, 2] (dv it a (aQ xs) ex j (.int x tx) bj) @fun _ n1 t1 _ _ _ _ => ?_
    exists ao, bf (Gk hb)
    exists zg, 2, 2
    exists zH, 9, 32206632653, [], iT z x tz tx, y2, n2, t2
    exact zO [0, 1, 2] (ax 2 (.inr rfl) y2 e1)
  ·exists zA, 3, 5103, zd, zc, a0
   exists zH, 1, 2, [0, 2], dv it a (aQ xs) ex j (.int x tx) bj, _, n1, t1
   exists zH, 9, 32206632653, [], iT z x tz tx, y2, n2, t2
   exact zO [0, 1, 2] (ax 2 (.inr rfl) y2 e1)
theorem C6 (a : Addr) (xs : List (Int × Tok)) (e : Nat) :
  af w b 8 (.call (.builtin "sum") ⟨[.ref a], []⟩) [(a, aa (aQ xs) e)] []
   (X := Tok) (fun _ => True) (fun y => .ok (.ret (.int (xs.map (·.1)).sum y))) (fun y => [(a, aa (aQ xs) e)]) (fun y => []) := by
 (refine zB ?_; intro zd zc a0)
 exists yg, 13, 1609700130101
 refine aZ (Ta := []) zc.ro a0 zc.hL [1, 2, 0] [] [] (sumZ (zc.S + 0) a (zc.S + 1) xs e (xs.map (·.1)).sum xs.length 0 (by exact Nat.zero_add _) 0 (.inl rfl) (0 : Nat) (zc.s.toks + 0) (by simp) 0) (by kernel_rfl) (by kernel_rfl) (fun _ h => nomatch h) List.nodup_nil fun y n5 t5 G5 a5 _ _ => ?_
 exact eA zc.post zc.ro a5 1 [] y.1 trivial rfl (by kernel_rfl) (by kernel_rfl) (by kernel_rfl) ak
noncomputable abbrev ym (j : Nat) (tj : Tok) : Obj := ⟨.type "slice", none, .fields ⟨[.none, .int j tj, .none]⟩, ⟨[]⟩⟩
set_option smartUnfolding true
theorem kK (xs : List Value) (i : Nat) : jZ xs i = ((min i xs.length : Nat) : Int) := by
 unfold jZ CQ CR
 rw [← ZFast.ze3323075404118771628, ← ZFast.ze15581519595350621649]
 have e1 : ((⟨xs⟩ : Array Value).size : Int) = (xs.length : Int) := rfl
 rw [e1, if_neg (by exact Be _)]
 lia
noncomputable def si (xs : List Value) (j : Nat) : Array Value := (List.filterMap (fun x => (⟨xs⟩ : Array Value)[x]?) (ZFast.zw10209042966406643723 0 (jZ xs j) 1)).toArray
theorem rn (xs : List Value) (j : Nat) : si xs j = ⟨xs.take j⟩ := by
 have h := lr xs 0 (min j xs.length) (Nat.zero_le _) (Nat.min_le_right _ _)
 unfold j0 at h
 rw [gZ xs 0 (Nat.zero_le _), gZ xs (min j xs.length) (Nat.min_le_right _ _)] at h
 unfold si
 rw [kK]
 refine Eq.trans h ?_
 congr 1
 simp
set_option smartUnfolding false
theorem Gl (a1 so : Addr) (xs : List Value) (e1 : Nat) (j : Nat) (tj : Tok) (h : xs.length ≤ 1000) :
  af w b 10 (.call (.builtin "list.__getitem__") ⟨[.ref a1, .ref so], []⟩) [(a1, aa xs e1), (so, ym j tj)] []
   (X := Addr × Nat) (fun _ => True) (fun y => .ok (.ret (.ref y.1))) (fun y => [(a1, aa xs e1), (so, ym j tj)]) (fun y => [(y.1, nv (si xs j) y.2)]) := by
 have h' : ¬ (si xs j).size > sizeLine := by
  rw [rn]
  show ¬ (xs.take j).length > sizeLine
  rw [List.length_take]
  unfold sizeLine
  lia
 exists zA, 8, 1610331632552, zd, zc, a0
 exists dT, ah (mF h' (by kernel_rfl))
 exists zg, 2, 0
 exact zM 2 [true] (fun o => (zc.S, o.ep 2)) (hs := (ar (Nat.le_refl _) ak))
set_option smartUnfolding true
theorem C7 (a1 so : Addr) (xs : List Value) (e1 : Nat) (j : Nat) (tj : Tok) (h : xs.length ≤ 1000) :
  af w b 10 (.call (.builtin "list.__getitem__") ⟨[.ref a1, .ref so], []⟩) [(a1, aa xs e1), (so, ym j tj)] []
   (X := Addr × Nat) (fun _ => True) (fun y => .ok (.ret (.ref y.1))) (fun y => [(a1, aa xs e1), (so, ym j tj)]) (fun y => [(y.1, aa (xs.take j) y.2)]) :=
 (Gl a1 so xs e1 j tj h).map id (fun _ h => h) (fun _ => rfl) (fun _ => rfl) (fun y => by rw [rn]; rfl)
noncomputable def KW (c : Nat) : Str := ⟨⟨[c]⟩⟩
set_option smartUnfolding false
theorem Gm (k : Nat) (hk : k < 6) (t1 t2 : Tok) :
  af w b 4 (.call (.builtin "str.__getitem__") ⟨[.str (Str.ofString "abcdef") t1, .int k t2], []⟩) [] []
   (X := Tok) (fun _ => True) (fun y => .ok (.ret (.str (KW (97 + k)) y))) (fun _ => []) (fun _ => []) := by
 rcases k with _ | _ | _ | _ | _ | _ | k
 case succ.succ.succ.succ.succ.succ => lia
 all_goals
  exists zA, 3, 1, zd, zc, a0
  exact zM 0 [] (fun o => o.rt)
noncomputable def ip : Stmt → Expr
 | .Assign _ v _ => v
 | _ => .Name Str.empty default
noncomputable def yn : Expr := ip (dq cn 2)
noncomputable def oU (D L aX : Addr) : Env := dP [(Str.ofString ".0", .local), (Str.ofString "k", .local), (Str.ofString "cells", .cell)] D [(Str.ofString "cells", aX)] cU L
theorem AB (it D L aX acc : Addr) (j m : Nat) (T : KS) (K : KS) {n : Nat} {X : Type} {P : X → Prop} {rf : X → Result} {Kf Nf : X → KS}
  (H : af w b n (bF yn it acc (oU D L aX)) ((it, cj j m) :: K) T P rf Kf Nf) : af w b (n + 1) (cx yn it acc (oU D L aX)) ((it, cj j m) :: K) T P rf Kf Nf := by
 exists zA, 1, 0, zd, zc, a0
 refine dM ?_
 cases hq : w.params.followText "comprehension-iter-twice"
 ·exists ao, dG (bf hq)
  exists yg, 11, 31881502602
  exact zS H (Nat.ble_eq_true_of_le (Nat.le_succ _))
 ·exists ao, dG (bt hq)
  exists zg, 1, 2
  exact zS H (Nat.ble_eq_true_of_le (Nat.le_succ _))
noncomputable def cv (cs : List (Int × Tok)) : List Int := cs.map Prod.fst ++ [0, 0, 1, 0, 1, 2]
noncomputable def l3 (v : Int) (k : Nat) : Str := ⟨⟨List.replicate (1 + (v % ((6 : Nat) : Int)).toNat) (97 + k)⟩⟩
noncomputable def kM (vs : List Int) : Nat → Nat → List Str
 | 0, _ => []
 | m + 1, k => l3 (vs.getD k 0) k :: kM vs m (k + 1)
theorem C8 (it D L aX acc aC : Addr) (cs : List (Int × Tok)) (dI : cs.length ≤ 100) (ec : Nat) (F : List Str) :
 ∀ (m k : Nat) (hk : k + m = 6) (o : Obj) (hD : De w "k" (decide (k = 0)) o) (done : List (Str × Tok)) (hF : done.map (·.1) ++ kM (cv cs) m k = F) (hd : done.length + m ≤ 100) (ed : Nat),
  af w b 12 (bF yn it acc (oU D L aX)) [(it, cj k m), (D, o), (acc, aa (aE done) ed), (aX, ai (.ref aC)), (aC, aa (aQ cs) ec)] []
   (X := List (Str × Tok) × Nat × Obj × Obj) (fun y => y.1.map (·.1) = F ∧ De w "k" false y.2.2.1) (fun _ => .ok .next)
   (fun y => [(it, y.2.2.2), (D, y.2.2.1), (acc, aa (aE y.1) y.2.1), (aX, ai (.ref aC)), (aC, aa (aQ cs) ec)]) (fun _ => []) := by
 intro m
 induction m with
 | zero =>
  intro k hk o hD done hF hd ed
  rw [show decide (k = 0) = false from decide_eq_false (by lia)] at hD
  exists zA, 3, 102, zd, zc, a0
  exists zH, 2, 8, [0], g9 it k, y, n1, t1
  exact zM 5 [] (fun _ => (done, ed, o, y.2.2)) (hx := ⟨by show done.map (·.1) = F; rw [← hF]; exact (List.append_nil _).symm, hD⟩)
 | succ m ih =>
  intro k hk o hD done hF hd ed
  have vV : ∀ (a b c d e f : Tok), ∃ tv, (aQ cs ++ [.int (0 : Nat) a, .int (0 : Nat) b, .int (1 : Nat) c, .int (0 : Nat) d, .int (1 : Nat) e, .int (2 : Nat) f])[k]? = some (.int ((cv cs).getD k 0) tv) := by
   intro a b c d e f
   have h1 : cv cs = (cs ++ [((0 : Int), a), (0, b), (1, c), (0, d), (1, e), (2, f)]).map Prod.fst := by simp [cv]
   have h2 : (aQ cs ++ [.int (0 : Nat) a, .int (0 : Nat) b, .int (1 : Nat) c, .int (0 : Nat) d, .int (1 : Nat) e, .int (2 : Nat) f]) = aQ (cs ++ [((0 : Int), a), (0, b), (1, c), (0, d), (1, e), (2, f)]) := by simp [aQ]
   rw [h1, h2, lx]
   have et : k < (cs ++ [((0 : Int), a), (0, b), (1, c), (0, d), (1, e), (2, f)]).length := by simp; lia
   rw [List.getElem?_eq_getElem et]
   refine ⟨((cs ++ [((0 : Int), a), (0, b), (1, c), (0, d), (1, e), (2, f)])[k]'et).2, ?_⟩
   rw [List.getD_eq_getElem?_getD, List.getElem?_map, List.getElem?_eq_getElem et]
   rfl
  have ax : ∀ (tk : Tok) (v : Value) (ep : Nat) (t' : Tok) (b8 : Nat), af w b 12 (bF yn it acc (oU D L aX)) [(it, cj (k + 1) m), (D, ay [av (au w "k") "k" tk v] ep), (acc, aa (aE done ++ [.str (l3 ((cv cs).getD k 0) k) t']) b8), (aX, ai (.ref aC)), (aC, aa (aQ cs) ec)] []
   (X := List (Str × Tok) × Nat × Obj × Obj) (fun y => y.1.map (·.1) = F ∧ De w "k" false y.2.2.1) (fun _ => .ok .next)
   (fun y => [(it, y.2.2.2), (D, y.2.2.1), (acc, aa (aE y.1) y.2.1), (aX, ai (.ref aC)), (aC, aa (aQ cs) ec)]) (fun _ => []) := by
   intro tk v ep t' b8
   have h := ih (k + 1) (by exact cJ) (ay [av (au w "k") "k" tk v] ep) (.inr ⟨tk, v, ep, rfl⟩) (done ++ [(l3 ((cv cs).getD k 0) k, t')]) (by rw [← hF, List.map_append, List.append_assoc]; rfl) (by simp; exact gm) b8
   rw [jY] at h
   exact h
  generalize (cv cs).getD k 0 = v at vV ax
  have L2 : (v % ((6 : Nat) : Int)).toNat ≤ 5 := by lia
  rcases hD with ⟨_, rfl⟩ | ⟨tk, v', ep, rfl⟩
  all_goals
   exists zA, 3, 102, zd, zc, a0
   exists zH, 12, 257653, [0], du it k m, y1, n1, t1
   exists zH, 17, 13267805, [], Gm k (by exact cf) (t1 + 1) y1, y2, n2, t2
   skip
  ·obtain ⟨tv, C9⟩ := vV (t2 + 1) (t2 + 2) (t2 + 3) (t2 + 4) (t2 + 5) (t2 + 6)
   exists zH, 8, 13520403, [4, 5], lW aC (n2 + 0) (aQ cs) [.int (0 : Nat) (t2 + 1), .int (0 : Nat) (t2 + 2), .int (1 : Nat) (t2 + 3), .int (0 : Nat) (t2 + 4), .int (1 : Nat) (t2 + 5), .int (2 : Nat) (t2 + 6)] ec 0 (by simp [aQ]; exact aO), y3, n3, t3
   exists zH, 5, 101, [6], dt y3.1 _ y3.2 k (.int v tv) C9 (by lia) y1, _, n4, t4
   exists zH, 2, 2, [], intMod v 6 tv (t4 + 0) (by decide) (by decide), y5, n5, t5
   exists zH, 7, 5051, [], iD 1 (v % ((6 : Nat) : Int)).toNat (t2 + 0) y5, y6, n6, t6
   exists zH, 1, 2, [], tW (97 + k) (1 + (v % ((6 : Nat) : Int)).toNat) y2 y6 (by lia) (by lia), y7, n7, t7
   exists zH, 1, 2, [2], bT acc (aE done) ed (.str (l3 v k) y7) (by simp [aE]; exact gA), y8, n8, t8
   exact zO [0, 1, 2, 3, 4] (ax (t1 + 0) (.int k y1) 1 y7 y8)
  ·obtain ⟨tv, C9⟩ := vV (t2 + 1) (t2 + 2) (t2 + 3) (t2 + 4) (t2 + 5) (t2 + 6)
   exists zH, 8, 13520403, [4, 5], lW aC (n2 + 0) (aQ cs) [.int (0 : Nat) (t2 + 1), .int (0 : Nat) (t2 + 2), .int (1 : Nat) (t2 + 3), .int (0 : Nat) (t2 + 4), .int (1 : Nat) (t2 + 5), .int (2 : Nat) (t2 + 6)] ec 0 (by simp [aQ]; exact aO), y3, n3, t3
   exists zH, 5, 101, [6], dt y3.1 _ y3.2 k (.int v tv) C9 (by lia) y1, _, n4, t4
   exists zH, 2, 2, [], intMod v 6 tv (t4 + 0) (by decide) (by decide), y5, n5, t5
   exists zH, 7, 5051, [], iD 1 (v % ((6 : Nat) : Int)).toNat (t2 + 0) y5, y6, n6, t6
   exists zH, 1, 2, [], tW (97 + k) (1 + (v % ((6 : Nat) : Int)).toNat) y2 y6 (by lia) (by lia), y7, n7, t7
   exists zH, 1, 2, [2], bT acc (aE done) ed (.str (l3 v k) y7) (by simp [aE]; exact gA), y8, n8, t8
   exact zO [0, 1, 2, 3, 4] (ax tk (.int k y1) ep y7 y8)
noncomputable def ur : Stmt → Expr
 | .If t _ _ _ => t
 | _ => .Name Str.empty default
noncomputable def uv (st : Stmt) (i : Nat) : Stmt := (vF st).getD i (.Pass default)
noncomputable def vW : Expr → Expr
 | .Compare _ _ r _ => r.getD 0 (.Name Str.empty default)
 | _ => .Name Str.empty default
noncomputable def Jf : Expr → Nat → Expr
 | .ListComp _ gs _ _, i => (gs[i]?.map fun g => g.ifs.getD 0 (.Name Str.empty default)).getD (.Name Str.empty default)
 | _, _ => .Name Str.empty default
structure Ct where
 a : Addr
 c : List (Nat × Tok)
noncomputable abbrev Ct.O (p : Ct) : Obj := aj (ag p.c)
noncomputable def Ct.K (p : Ct) : Addr × Obj := (p.a, aj (ag p.c))
noncomputable def Ct.n (p : Ct) : List Nat := p.c.map (·.1)
noncomputable abbrev refs (l : List Ct) : List Value := l.map fun p => .ref p.a
noncomputable abbrev nums (l : List Ct) : List (List Nat) := l.map Ct.n
set_option smartUnfolding true
theorem cX (l : List Ct) (j : Nat) : (refs l)[j]? = (l[j]?).map fun p => .ref p.a := by simp [refs]
theorem ig (l : List Ct) (p : Ct) : refs (l ++ [p]) = refs l ++ [.ref p.a] := by simp [refs]
theorem Ct.fk {l : List Ct} {p : Ct} (h : p ∈ l) : p.K ∈ l.map Ct.K := List.mem_map_of_mem h
theorem KY (items : List Value) (i : Nat) (v : Value) (hv : items[i]? = some v) : ((ZFast.zw9430666877037008786 (i : Int) (⟨items⟩ : Array Value).size).bind fun x => (⟨items⟩ : Array Value)[x]?) = some v := by
 have hl : i < items.length := by
  by_cases h : i < items.length
  ·exact h
  ·rw [List.getElem?_eq_none (by exact IP)] at hv; cases hv
 rw [← ZFast.ze9430666877037008786]
 unfold seqIndex?
 have h1 : ¬ ((i : Int) < 0) := by exact Be _
 have h2 : (i : Int) < ((⟨items⟩ : Array Value).size : Int) := by show (i : Int) < (items.length : Int); exact j7
 simp only [if_neg h1, Int.natCast_nonneg, decide_true, h2, Bool.and_self, if_true, Int.toNat_natCast, Option.bind_some]
 simpa using hv
theorem Jg (xs : List Value) (v : Value) : ((ZFast.zw9430666877037008786 (-1) (⟨xs ++ [v]⟩ : Array Value).size).bind fun x => (⟨xs ++ [v]⟩ : Array Value)[x]?) = some v := by
 rw [← ZFast.ze9430666877037008786]
 unfold seqIndex?
 have e : ((⟨xs ++ [v]⟩ : Array Value).size : Int) = (xs.length : Int) + 1 := by show (((xs ++ [v]).length : Nat) : Int) = _; simp
 have h1 : (-1 : Int) < 0 := by lia
 rw [e]
 have h2 : (0 : Int) ≤ -1 + ((xs.length : Int) + 1) := by lia
 have h3 : (-1 : Int) + ((xs.length : Int) + 1) < (xs.length : Int) + 1 := by lia
 have h4 : ((-1 : Int) + ((xs.length : Int) + 1)).toNat = xs.length := by lia
 simp only [if_pos h1, h2, h3, decide_true, Bool.and_self, if_true, h4, Option.bind_some]
 simp
set_option smartUnfolding false
theorem Gn (a : Addr) (items : List Value) (i : Nat) (v : Value) (hv : items[i]? = some v) (hi : i ≤ 1000) (ti : Tok) :
  af w b 1 (.call (.builtin "tuple.__getitem__") ⟨[.ref a, .int i ti], []⟩) [(a, aj items)] []
   (X := Unit) (fun _ => True) (fun y => .ok (.ret v)) (fun y => [(a, aj items)]) (fun y => []) := by
 exists zA, 3, 5052, zd, zc, a0
 exists dT, bf (b5 (by exact nS))
 exists ao, HT (KY items i v hv) (by kernel_rfl)
 exists zg, 1, 0
 exact zM 1 [] (fun _ => ())
theorem AD (a1 a2 : Addr) (ys : List Value) :
  af w b 1 (.call (.builtin "tuple.__add__") ⟨[.ref a1, .ref a2], []⟩) [(a1, aj []), (a2, aj ys)] []
   (X := Unit) (fun _ => True) (fun y => .ok (.ret (.ref a2))) (fun y => [(a1, aj []), (a2, aj ys)]) (fun y => []) := by
 exists zA, 8, 956507552, zd, zc, a0
 exact zM 2 [] (fun _ => ())
theorem AE (a1 a2 : Addr) (x y : Value) (xs ys : List Value) (h : xs.length + ys.length ≤ 100) :
  af w b 1 (.call (.builtin "tuple.__add__") ⟨[.ref a1, .ref a2], []⟩) [(a1, aj (x :: xs)), (a2, aj (y :: ys))] []
   (X := Addr) (fun _ => True) (fun y => .ok (.ret (.ref y))) (fun _ => [(a1, aj (x :: xs)), (a2, aj (y :: ys))]) (fun z => [(z, CO (gK (x :: xs) (y :: ys)))]) := by
 have h' : ¬ (gK (x :: xs) (y :: ys)).size > sizeLine := by
  rw [fN]
  show ¬ ((x :: xs) ++ (y :: ys)).length > sizeLine
  unfold sizeLine
  simp
  lia
 exists zA, 5, 19007552, zd, zc, a0
 exists dT, ah (mF h' (by kernel_rfl))
 exists zg, 2, 0
 exact zM 2 [true] (fun _ => zc.S) (hs := (ar (Nat.le_refl _) ak))
set_option smartUnfolding true
theorem Dc (a1 a2 : Addr) (x y : Value) (xs ys : List Value) (h : xs.length + ys.length ≤ 100) :
  af w b 1 (.call (.builtin "tuple.__add__") ⟨[.ref a1, .ref a2], []⟩) [(a1, aj (x :: xs)), (a2, aj (y :: ys))] []
   (X := Addr) (fun _ => True) (fun y => .ok (.ret (.ref y))) (fun _ => [(a1, aj (x :: xs)), (a2, aj (y :: ys))]) (fun z => [(z, aj ((x :: xs) ++ (y :: ys)))]) :=
 (AE a1 a2 x y xs ys h).map id (fun _ h => h) (fun _ => rfl) (fun _ => rfl) (fun z => by rw [fN]; rfl)
set_option smartUnfolding false
theorem Df (a1 a2 : Addr) (x : Value) (xs : List Value) :
  af w b 1 (.call (.builtin "tuple.__eq__") ⟨[.ref a1, .ref a2], []⟩) [(a1, aj (x :: xs)), (a2, aj [])] []
   (X := Unit) (fun _ => True) (fun y => .ok (.ret (.bool false))) (fun y => [(a1, aj (x :: xs)), (a2, aj [])]) (fun y => []) := by
 exists zA, 6, 19007552, zd, zc, a0
 exact zM 2 [] (fun _ => ())
theorem Dg (a1 a2 : Addr) :
  af w b 1 (.call (.builtin "tuple.__eq__") ⟨[.ref a1, .ref a2], []⟩) [(a1, aj []), (a2, aj [])] []
   (X := Unit) (fun _ => True) (fun y => .ok (.ret (.bool true))) (fun y => [(a1, aj []), (a2, aj [])]) (fun y => []) := by
 exists zA, 6, 19007552, zd, zc, a0
 exact zM 2 [] (fun _ => ())
theorem rp (a1 a2 : Addr) (e1 e2 : Nat) :
  af w b 2 (.call (.builtin "list.__ne__") ⟨[.ref a1, .ref a2], []⟩) [(a1, aa [] e1), (a2, aa [] e2)] []
   (X := Unit) (fun _ => True) (fun y => .ok (.ret (.bool false))) (fun y => [(a1, aa [] e1), (a2, aa [] e2)]) (fun y => []) := by
 exists zA, 11, 5939875331507552, zd, zc, a0
 exact zM 2 [] (fun _ => ())
theorem rq (a1 a2 : Addr) (e1 e2 : Nat) :
  af w b 2 (.call (.builtin "list.__eq__") ⟨[.ref a1, .ref a2], []⟩) [(a1, aa [] e1), (a2, aa [] e2)] []
   (X := Unit) (fun _ => True) (fun y => .ok (.ret (.bool true))) (fun y => [(a1, aa [] e1), (a2, aa [] e2)]) (fun y => []) := by
 exists zA, 11, 5939875331507552, zd, zc, a0
 exact zM 2 [] (fun _ => ())
theorem rr (a1 a2 : Addr) (x : Value) (xs : List Value) (e1 e2 : Nat) :
  af w b 2 (.call (.builtin "list.__eq__") ⟨[.ref a1, .ref a2], []⟩) [(a1, aa (x :: xs) e1), (a2, aa [] e2)] []
   (X := Unit) (fun _ => True) (fun y => .ok (.ret (.bool false))) (fun y => [(a1, aa (x :: xs) e1), (a2, aa [] e2)]) (fun y => []) := by
 exists zA, 7, 19007552, zd, zc, a0
 exact zM 2 [] (fun _ => ())
theorem Dh (a : Addr) (xs : List Value) (v : Value) (ti : Tok) :
  af w b 1 (.call (.builtin "tuple.__getitem__") ⟨[.ref a, .int (-1) ti], []⟩) [(a, aj (xs ++ [v]))] []
   (X := Unit) (fun _ => True) (fun y => .ok (.ret v)) (fun y => [(a, aj (xs ++ [v]))]) (fun y => []) := by
 exists zA, 3, 5052, zd, zc, a0
 exists dT, HT (Jg xs v) (by kernel_rfl)
 exists zg, 1, 0
 exact zM 1 [] (fun _ => ())
noncomputable def Di : Expr := r8 (ur (uv (dq cn 8) 0))
noncomputable def sj (D L : Addr) : Env := dP [(Str.ofString ".0", .local), (Str.ofString "cut", .local), (Str.ofString "_law_fits", .globalImplicit), (Str.ofString "_law_rows", .globalImplicit), (Str.ofString "head", .cell), (Str.ofString "width", .cell), (Str.ofString "words", .cell)] D [(Str.ofString "words", L + 3), (Str.ofString "width", L + 4), (Str.ofString "head", L + 5)] cU L
theorem AF (it a D L acc : Addr) {jj mm : Nat} (T : KS) (K : KS) {n : Nat} {X : Type} {P : X → Prop} {rf : X → Result} {Kf Nf : X → KS}
  (H : af w b n (bF Di it acc (sj D L)) ((it, bx a jj) :: K) T P rf Kf Nf) : af w b (n + 1) (cx Di it acc (sj D L)) ((it, bx a jj) :: K) T P rf Kf Nf := by
 obtain ⟨w, c, rfl⟩ := d6 w
 cases c
 ·(refine zB ?_; intro zd zc a0)
  exists yg, 12, 31881502602
  exact zS H (Nat.ble_eq_true_of_le (Nat.le_succ _))
 ·exists zA, 2, 2, zd, zc, a0
  exact zS H (Nat.ble_eq_true_of_le (Nat.le_succ _))
structure kN (p : Ct) : Prop where
 len : p.c.length ≤ 5
 up : Up (0 :: p.n ++ [6])
noncomputable def fp (wd hd : Nat) (xs : List Str) (cut : List Nat) : Bool := jh wd hd ((cz xs (0 :: cut ++ [6])).map fun r => r.length)
set_option smartUnfolding true
theorem kO (xs : List Str) (l : List Nat) : (cz xs l).length = l.length - 1 := by
 induction l with
 | nil => rfl
 | cons a r ih =>
  cases r with
  | nil => rfl
  | cons b r => show (cz xs (b :: r)).length + 1 = _; rw [ih]; simp
theorem qg {xs : List Str} (hx : ∀ x ∈ xs, c7 x) (h6 : xs.length = 6) (l : List Nat) : ∀ r ∈ cz xs l, r.length ≤ 42 := by
 induction l with
 | nil => intro r hr; cases hr
 | cons a r ih =>
  cases r with
  | nil => intro r hr; cases hr
  | cons b r =>
   intro q hq
   rcases List.mem_cons.mp hq with rfl | hq
   ·rw [gI]
    have h1 := pS (xs := (xs.drop a).take (b - a)) fun x iU => hx x (List.mem_of_mem_drop (List.mem_of_mem_take iU))
    have h2 : ((xs.drop a).take (b - a)).length ≤ 6 := by simp; lia
    lia
   ·exact ih q hq
theorem ly (x : Addr × Obj) : (([x] : KS).map (·.1)).Nodup := by simp
set_option smartUnfolding false
theorem Dj (it aU D L aW acc : Addr) (aw : List Ct) (iW : ∀ p ∈ aw, kN p) (eu hd wd : Nat) (th tw : Tok) (ws : List (Str × Tok)) (cZ : ∀ q ∈ ws, c7 q.1) (h6 : ws.length = 6) (ew : Nat)
 (hF : ∀ p ∈ aw, fp wd hd (ws.map (·.1)) p.n = false) :
 ∀ (m j : Nat) (hm : j + m = aw.length) (o : Obj) (hD : De w "cut" (decide (j = 0)) o),
  af w b 26 (bF Di it acc (sj D L)) [(it, bx aU j), (D, o), (acc, aa [] 0), (aU, aa (refs aw) eu), (L + 3, ai (.ref aW)), (L + 4, ai (.int wd tw)), (L + 5, ai (.int hd th)), (aW, aa (aE ws) ew)] (aw.map Ct.K)
   (X := Obj × Obj) (fun y => De w "cut" (decide (aw.length = 0)) y.1) (fun _ => .ok .next)
   (fun y => [(it, y.2), (D, y.1), (acc, aa [] 0), (aU, aa (refs aw) eu), (L + 3, ai (.ref aW)), (L + 4, ai (.int wd tw)), (L + 5, ai (.int hd th)), (aW, aa (aE ws) ew)]) (fun _ => []) := by
 intro m
 induction m with
 | zero =>
  intro j hm o hD
  have bj : (refs aw)[j]? = none := by simp [refs]; exact c6
  exists zA, 3, 102, zd, zc, a0
  exists zH, 2, 11, [0, 3], gM it aU (refs aw) eu j bj, y, n1, t1
  exact zM 8 [] (fun _ => (o, y.2.2)) (hx := (by (with_reducible conv => whnf); rw [show aw.length = j by exact km]; exact hD))
 | succ m ih =>
  intro j hm o hD
  obtain ⟨p, hp⟩ : ∃ q, aw[j]? = some q := ⟨aw[j]'(by exact cf), List.getElem?_eq_getElem (by exact cf)⟩
  have dn := List.mem_of_getElem? hp
  have bj : (refs aw)[j]? = some (.ref p.a) := by rw [cX, hp]; rfl
  have fb := iW p dn
  have bW := Ct.fk dn
  have ax := fun (tk : Tok) (v : Value) (ep : Nat) => ih (j + 1) (by exact cJ) (ay [av (au w "cut") "cut" tk v] ep) (.inr ⟨tk, v, ep, rfl⟩)
  rcases hD with ⟨_, rfl⟩ | ⟨tk, v, ep, rfl⟩
  all_goals
   exists zA, 3, 102, zd, zc, a0
   exists zH, 18, 1579100127653, [0, 3], dv it aU (refs aw) eu j (.ref p.a) bj, _, n1, t1
   refine zJ (Ta := [(aW, aa (aE ws) ew)]) [] [7] [p.K] (rows aW p.a ws cZ h6 ew p.c fb.len fb.up) (fun q hq => by rw [List.mem_singleton.mp hq]; exact bW) (ly _) @fun y2 n2 t2 G2 a2 fC _ => ?_
   obtain ⟨aR, rs, er⟩ := y2
   dsimp only at fC
   have KZ : rs.length = p.c.length + 1 := by
    have := congrArg List.length fC
    rw [List.length_map, kO] at this
    simpa using this
   have ru : ∀ q ∈ rs, q.1.length ≤ 1000 := fun q hq => by
    have h1 : q.1 ∈ rs.map (·.1) := List.mem_map_of_mem hq
    rw [fC] at h1
    exact Nat.le_trans (qg (fun x hx => by obtain ⟨q, hq, rfl⟩ := List.mem_map.mp hx; exact cZ q hq) (by simpa using h6) _ _ h1) (by decide)
   have fh : jh wd hd (rs.map fun q => q.1.length) = false := by
    rw [← hF p dn]
    unfold fp Ct.n
    rw [← fC, List.map_map]
    rfl
   have jb := fits (w := w) (b := b) aR rs er hd wd th tw (by lia) (by have := fb.len; lia) ru
   rw [fh] at jb
   exists zg, 8, 252858
   (refine zG (Ta := [(aR, aa (aE rs) er)]) 3 2 [] [8] [] jb (fun _ h => nomatch h) List.nodup_nil fun _ n3 t3 => ?_; intro ou)
  ·exact zO [0, 1, 2, 3, 4, 5, 6, 7] (ax (t1 + 0) (.ref p.a) 1)
  ·exact zO [0, 1, 2, 3, 4, 5, 6, 7] (ax tk (.ref p.a) ep)
noncomputable def qh : Expr := ip (uv (dq cn 8) 1)
noncomputable def j3 (D L : Addr) : Env := dP [(Str.ofString ".0", .local), (Str.ofString "cut", .local), (Str.ofString "end", .local), (Str.ofString "range", .globalImplicit)] D [] cU L
noncomputable abbrev mQ (e : Expr) (it acc : Addr) (env : Env) : Code := .compLoop e 1 (.ref it) (.ref acc) env
noncomputable abbrev ny (e : Expr) (it acc : Addr) (env : Env) : Code := .compStart e 1 (.ref it) (.ref acc) env
theorem AG (it a D L acc : Addr) {jj mm : Nat} (T : KS) (K : KS) {n : Nat} {X : Type} {P : X → Prop} {rf : X → Result} {Kf Nf : X → KS}
  (H : af w b n (bF qh it acc (j3 D L)) ((it, bx a jj) :: K) T P rf Kf Nf) : af w b (n + 1) (cx qh it acc (j3 D L)) ((it, bx a jj) :: K) T P rf Kf Nf := by
 obtain ⟨w, c, rfl⟩ := d6 w
 cases c
 ·(refine zB ?_; intro zd zc a0)
  exists yg, 12, 31881502602
  exact zS H (Nat.ble_eq_true_of_le (Nat.le_succ _))
 ·exists zA, 2, 2, zd, zc, a0
  exact zS H (Nat.ble_eq_true_of_le (Nat.le_succ _))
theorem vX (it  D L acc : Addr) {jj mm : Nat} (T : KS) (K : KS) {n : Nat} {X : Type} {P : X → Prop} {rf : X → Result} {Kf Nf : X → KS}
  (H : af w b n (mQ qh it acc (j3 D L)) ((it, cj jj mm) :: K) T P rf Kf Nf) : af w b (n + 1) (ny qh it acc (j3 D L)) ((it, cj jj mm) :: K) T P rf Kf Nf := by
 obtain ⟨w, c, rfl⟩ := d6 w
 cases c
 ·(refine zB ?_; intro zd zc a0)
  exists yg, 12, 31881502602
  exact zS H (Nat.ble_eq_true_of_le (Nat.le_succ _))
 ·exists zA, 2, 2, zd, zc, a0
  exact zS H (Nat.ble_eq_true_of_le (Nat.le_succ _))
noncomputable def iX (cut : List Nat) : Nat → Nat → List (List Nat)
 | 0, _ => []
 | m + 1, k => if cut.getLastD 0 < k then (cut ++ [k]) :: iX cut m (k + 1) else iX cut m (k + 1)
set_option smartUnfolding true
theorem kP {cut : List Nat} {m k : Nat} (h : cut.getLastD 0 < k) : iX cut (m + 1) k = (cut ++ [k]) :: iX cut m (k + 1) := by
 show (if _ then _ else _) = _
 rw [if_pos h]
theorem qi {cut : List Nat} {m k : Nat} (h : ¬ cut.getLastD 0 < k) : iX cut (m + 1) k = iX cut m (k + 1) := by
 show (if _ then _ else _) = _
 rw [if_neg h]
noncomputable def ij (p q : Ct) : Prop := ∃ pre x tx xs y ty ys, p.c = pre ++ (x, tx) :: xs ∧ q.c = pre ++ (y, ty) :: ys ∧ x < y
theorem ij.ext {p q p' q' : Ct} {u v : Nat × Tok} (h : ij p q) (hp : p'.c = p.c ++ [u]) (hq : q'.c = q.c ++ [v]) : ij p' q' := by
 obtain ⟨pre, x, tx, xs, y, ty, ys, h1, h2, h3⟩ := h
 exact ⟨pre, x, tx, xs ++ [u], y, ty, ys ++ [v], by rw [hp, h1]; simp, by rw [hq, h2]; simp, h3⟩
noncomputable def kh (pc : List (Nat × Tok)) (k : Nat) (l : List Ct) : Prop := (∀ p ∈ l, ∃ q t, k ≤ q ∧ p.c = pc ++ [(q, t)]) ∧ l.Pairwise ij
theorem kh.nil {pc : List (Nat × Tok)} {k : Nat} : kh pc k [] := ⟨fun _ h => (nomatch h), List.Pairwise.nil⟩
theorem kh.skip {pc : List (Nat × Tok)} {k : Nat} {l : List Ct} (h : kh pc (k + 1) l) : kh pc k l := ⟨fun p hp => by
 obtain ⟨q, t, h1, h2⟩ := h.1 p hp
 exact ⟨q, t, Nat.le_of_succ_le h1, h2⟩, h.2⟩
theorem kh.cons {pc : List (Nat × Tok)} {k : Nat} {l : List Ct} (h : kh pc (k + 1) l) (a : Addr) (t : Tok) : kh pc k (⟨a, pc ++ [(k, t)]⟩ :: l) :=
 ⟨fun p hp => by
  rcases List.mem_cons.mp hp with rfl | hp
  ·exact ⟨k, t, Nat.le_refl _, rfl⟩
  ·exact h.skip.1 p hp, List.Pairwise.cons (fun p hp => by
  obtain ⟨q, t', h1, h2⟩ := h.1 p hp
  exact ⟨pc, k, t, [], q, t', [], rfl, h2, h1⟩) h.2⟩
structure EB where
 ne : List Ct
 ed : Nat
 D : Obj
 it : Obj
noncomputable def D1 (w : World) (x : Value) (o : Obj) : Prop := ∃ tk ep, o = ay [av (au w "cut") "cut" tk x] ep
noncomputable def D2 (w : World) (o : Obj) : Prop := ∃ tk v ep t2 v2, o = ay [av (au w "cut") "cut" tk v, av (au w "end") "end" t2 v2] ep
noncomputable def uw (w : World) (x : Value) (o : Obj) : Prop := ∃ tk ep t2 v2, o = ay [av (au w "cut") "cut" tk x, av (au w "end") "end" t2 v2] ep
theorem Dk (pa a2 : Addr) (pc : List (Nat × Tok)) (h : pc = []) : af w b 1 (.call (.builtin "tuple.__eq__") ⟨[.ref pa, .ref a2], []⟩) [(pa, aj (ag pc)), (a2, aj [])] [] (X := Unit) (fun _ => True) (fun y => .ok (.ret (.bool true))) (fun y => [(pa, aj (ag pc)), (a2, aj [])]) (fun y => []) := by
 subst h; exact Dg pa a2
theorem Dl (pa a2 : Addr) (pc : List (Nat × Tok)) (h : pc ≠ []) : af w b 1 (.call (.builtin "tuple.__eq__") ⟨[.ref pa, .ref a2], []⟩) [(pa, aj (ag pc)), (a2, aj [])] [] (X := Unit) (fun _ => True) (fun y => .ok (.ret (.bool false))) (fun y => [(pa, aj (ag pc)), (a2, aj [])]) (fun y => []) := by
 cases pc with
 | nil => exact absurd rfl h
 | cons q l => exact Df pa a2 _ _
theorem Dm (pa a2 : Addr) (pc : List (Nat × Tok)) (h : pc = []) (v : Value) : af w b 1 (.call (.builtin "tuple.__add__") ⟨[.ref pa, .ref a2], []⟩) [(pa, aj (ag pc)), (a2, aj [v])] []
   (X := Unit) (fun _ => True) (fun y => .ok (.ret (.ref a2))) (fun y => [(pa, aj (ag pc)), (a2, aj [v])]) (fun y => []) := by
 subst h; exact AD pa a2 [v]
theorem Ds (pa a2 : Addr) (pc : List (Nat × Tok)) (h : pc ≠ []) (h5 : pc.length ≤ 5) (k : Nat) (t : Tok) : af w b 1 (.call (.builtin "tuple.__add__") ⟨[.ref pa, .ref a2], []⟩) [(pa, aj (ag pc)), (a2, aj [.int k t])] []
   (X := Addr) (fun _ => True) (fun y => .ok (.ret (.ref y))) (fun _ => [(pa, aj (ag pc)), (a2, aj [.int k t])]) (fun z => [(z, aj (ag (pc ++ [(k, t)])))]) := by
 rw [show ag (pc ++ [(k, t)]) = ag pc ++ [.int k t] by simp [ag]]
 cases pc with
 | nil => exact absurd rfl h
 | cons q l => exact Dc pa a2 _ (.int k t) (ag l) [] (by simp [ag] at h5 ⊢; exact aO)
theorem Dt {w : World} (pa : Addr) (pc : List (Nat × Tok)) (h : pc ≠ []) : ∃ q : Nat × Tok, (pc.map (·.1)).getLastD 0 = q.1 ∧ ∀ b ti, af w b 1 (.call (.builtin "tuple.__getitem__") ⟨[.ref pa, .int (-1) ti], []⟩) [(pa, aj (ag pc))] []
   (X := Unit) (fun _ => True) (fun y => .ok (.ret (.int q.1 q.2))) (fun y => [(pa, aj (ag pc))]) (fun y => []) := by
 rcases pc.eq_nil_or_concat with rfl | ⟨cs, q, fb⟩
 ·exact absurd rfl h
 ·have fb : pc = cs ++ [q] := by simpa using fb
  subst fb
  refine ⟨q, by simp, fun b ti => ?_⟩
  rw [show ag (cs ++ [q]) = ag cs ++ [.int q.1 q.2] by simp [ag]]; exact Dh pa (ag cs) _ ti
set_option smartUnfolding false
theorem Gq (it D L acc pa : Addr) (pc : List (Nat × Tok)) (ux : pc.length ≤ 5) :
 ∀ (m k : Nat) (hk : 1 ≤ k) (Ie : k + m ≤ 9) (o : Obj) (hD : D1 w (.ref pa) o ∨ uw w (.ref pa) o) (yo : m = 0 → uw w (.ref pa) o) (xs : List Value) (hx : xs.length + m ≤ 900) (ed : Nat),
  af w b 12 (mQ qh it acc (j3 D L)) [(it, cj k m), (D, o), (acc, aa xs ed), (pa, aj (ag pc))] []
   (X := EB) (fun y => uw w (.ref pa) y.D ∧ nums y.ne = iX (pc.map (·.1)) m k ∧ kh pc k y.ne) (fun _ => .ok .next)
   (fun y => [(it, y.it), (D, y.D), (acc, aa (xs ++ refs y.ne) y.ed), (pa, aj (ag pc))]) (fun y => y.ne.map Ct.K) := by
 intro m
 induction m with
 | zero =>
  intro k hk Ie o hD yo xs hx ed
  exists zA, 3, 102, zd, zc, a0
  exists zH, 2, 7, [0], g9 it k, y, n1, t1, G1, a1, _, _
  exact od zc.post zc.ro a1 4 [] (fun _ => ⟨[], ed, o, y.2.2⟩) ⟨yo rfl, rfl, .nil⟩ (fun _ => [(it, y.2.2), (D, o), (acc, aa xs ed), (pa, aj (ag pc))]) (by kernel_rfl) (by (with_reducible conv => rhs; whnf); simp) (by kernel_rfl) ak
 | succ m ih =>
  intro k hk Ie o hD yo xs hx ed
  have ax := fun (tk ep t2) (v2 : Value) K2 iU b8 => ih (k + 1) (by lia) (by exact gm) (ay [av (au w "cut") "cut" tk (.ref pa), av (au w "end") "end" t2 v2] ep) (.inr ⟨_, _, _, _, rfl⟩) (fun _ => ⟨_, _, _, _, rfl⟩) K2 iU b8
  clear ih yo
  rcases hD with ⟨tk, ep, rfl⟩ | ⟨tk, ep, tt, v2, rfl⟩
  all_goals
   exists zA, 3, 102, zd, zc, a0
   exists zH, 13, 7653, [0], du it k m, y1, n1, t1
   refine sQ fun p below l => ?_
   exists ao, dG (ah (ah (ah (ah (ah (ah (fB (fB (ah (bf (d5 l zc.hL (by kernel_rfl))))))))))))
   exists yg, 5, 262805
   skip
  ·rcases Classical.em (pc = []) with h0 | h0
   ·exists zH, 13, 657137653, [3, 4], Dk pa (n1 + 0) pc h0, _, n2, t2, G2, a2, _, _
    exists zH, 2, 2, [3, 5], Dm pa (n2 + 0) pc h0 (.int k y1), _, n3, t3
    exists zH, 1, 2, [2], bT acc xs ed (.ref (n2 + 0)) (by exact gA), y4, n4, t4, G4, a4, _, _
    refine aZ (Ta := []) zc.ro a4 zc.hL [0, 1, 2, 3] [] [] (ax tk (ep + 1) (t1 + 0) (.int k y1) (xs ++ [.ref (n2 + 0)]) (by simp; exact gm) y4) (by kernel_rfl) (by kernel_rfl) (fun _ h => nomatch h) List.nodup_nil fun y n5 t5 G5 a5 hy hN => ?_
    refine eS zc.post zc.ro a5 4 ⟨⟨n2 + 0, [(k, y1)]⟩ :: y.ne, y.ed, y.D, y.it⟩ ⟨hy.1, (congrArg (_ :: ·) hy.2.1).trans (by (with_reducible conv => rhs; whnf); rw [h0]; exact (kP (cut := []) (m := m) (k := k) hk).symm), by have := hy.2.2.cons (n2 + 0) y1; rw [h0] at this ⊢; exact this⟩ rfl ((by kernel_rfl : bk 4 _ = [(it, y.it), (D, y.D), (acc, aa (xs ++ [.ref (n2 + 0)] ++ refs y.ne) y.ed), (pa, aj (ag pc))]).trans (by (with_reducible conv => rhs; whnf); simp [refs])) (jx (B := (n1 + 0, aj []) :: (n2 + 0, aj (ag [(k, y1)])) :: y.ne.map Ct.K) (.cons _ (List.Sublist.refl _)) (by kernel_rfl)) (by kernel_rfl) (ar (Nat.le_trans a2.n (Nat.le_add_right _ _)) hN)
   ·obtain ⟨q, uy, Du⟩ := Dt (w := w) pa pc h0
    exists zH, 16, 1642218877653, [3, 4], Dl pa (n1 + 0) pc h0, _, n2, t2, G2, a2, _, _
    refine zK [3] (Du _ (t2 + 1)) @fun _ n3 t3 _ _ _ _ => ?_
    exists yg, 3, 2
    by_cases f6 : ((q.1 : Nat) : Int) < (k : Int)
    ·exists zH, 12, 657137653, [], (dU (k : Int) (q.1 : Int) y1 q.2).ck (by lia), _, n4, t4, G4, a4, _, _
     exists zH, 2, 2, [3, 5], Ds pa (n4 + 0) pc h0 ux k y1, y5, n5, t5, G5, a5, _, yp
     exists zH, 1, 2, [2], bT acc xs ed (.ref y5) (by exact gA), y6, n6, t6, G6, a6, _, _
     refine aZ (Ta := []) zc.ro a6 zc.hL [0, 1, 2, 3] [] [] (ax tk (ep + 1) (t1 + 0) (.int k y1) (xs ++ [.ref y5]) (by simp; exact gm) y6) (by kernel_rfl) (by kernel_rfl) (fun _ h => nomatch h) List.nodup_nil fun y n7 t7 G7 a7 hy hN => ?_
     refine eS zc.post zc.ro a7 4 ⟨⟨y5, pc ++ [(k, y1)]⟩ :: y.ne, y.ed, y.D, y.it⟩ ⟨hy.1, (congrArg (_ :: ·) hy.2.1).trans (by (with_reducible conv => rhs; whnf); rw [kP (by rw [uy]; exact Hg)]; congr 1; simp [Ct.n]), hy.2.2.cons y5 y1⟩ rfl ((by kernel_rfl : bk 4 _ = [(it, y.it), (D, y.D), (acc, aa (xs ++ [.ref y5] ++ refs y.ne) y.ed), (pa, aj (ag pc))]).trans (by (with_reducible conv => rhs; whnf); simp [refs])) (jx (B := (n1 + 0, aj []) :: (n4 + 0, aj [.int k y1]) :: (y5, aj (ag (pc ++ [(k, y1)]))) :: y.ne.map Ct.K) (.cons _ (.cons _ (List.Sublist.refl _))) (by kernel_rfl)) (by kernel_rfl) (ar (yp (y5, aj (ag (pc ++ [(k, y1)]))) (by simp)) hN)
    ·exists zH, 1, 2, [], (dU (k : Int) (q.1 : Int) y1 q.2).cO (by lia), _, n4, t4, G4, a4, _, _
     exact zO [0, 1, 2, 3] ((ax tk (ep + 1) (t1 + 0) (.int k y1) xs (by lia) ed).map id (fun y h => ⟨h.1, by rw [qi (by rw [uy]; lia)]; exact h.2.1, h.2.2.skip⟩) (fun _ => rfl) (fun _ => rfl) (fun _ => rfl))
  ·rcases Classical.em (pc = []) with h0 | h0
   ·exists zH, 13, 657137653, [3, 4], Dk pa (n1 + 0) pc h0, _, n2, t2, G2, a2, _, _
    exists zH, 2, 2, [3, 5], Dm pa (n2 + 0) pc h0 (.int k y1), _, n3, t3
    exists zH, 1, 2, [2], bT acc xs ed (.ref (n2 + 0)) (by exact gA), y4, n4, t4, G4, a4, _, _
    refine aZ (Ta := []) zc.ro a4 zc.hL [0, 1, 2, 3] [] [] (ax tk ep tt (.int k y1) (xs ++ [.ref (n2 + 0)]) (by simp; exact gm) y4) (by kernel_rfl) (by kernel_rfl) (fun _ h => nomatch h) List.nodup_nil fun y n5 t5 G5 a5 hy hN => ?_
    refine eS zc.post zc.ro a5 4 ⟨⟨n2 + 0, [(k, y1)]⟩ :: y.ne, y.ed, y.D, y.it⟩ ⟨hy.1, (congrArg (_ :: ·) hy.2.1).trans (by (with_reducible conv => rhs; whnf); rw [h0]; exact (kP (cut := []) (m := m) (k := k) hk).symm), by have := hy.2.2.cons (n2 + 0) y1; rw [h0] at this ⊢; exact this⟩ rfl ((by kernel_rfl : bk 4 _ = [(it, y.it), (D, y.D), (acc, aa (xs ++ [.ref (n2 + 0)] ++ refs y.ne) y.ed), (pa, aj (ag pc))]).trans (by (with_reducible conv => rhs; whnf); simp [refs])) (jx (B := (n1 + 0, aj []) :: (n2 + 0, aj (ag [(k, y1)])) :: y.ne.map Ct.K) (.cons _ (List.Sublist.refl _)) (by kernel_rfl)) (by kernel_rfl) (ar (Nat.le_trans a2.n (Nat.le_add_right _ _)) hN)
   ·obtain ⟨q, uy, Du⟩ := Dt (w := w) pa pc h0
    exists zH, 16, 1642218877653, [3, 4], Dl pa (n1 + 0) pc h0, _, n2, t2
    refine zK [3] (Du _ (t2 + 1)) @fun _ n3 t3 _ _ _ _ => ?_
    exists yg, 3, 2
    by_cases f6 : ((q.1 : Nat) : Int) < (k : Int)
    ·exists zH, 12, 657137653, [], (dU (k : Int) (q.1 : Int) y1 q.2).ck (by lia), _, n4, t4, G4, a4, _, _
     exists zH, 2, 2, [3, 5], Ds pa (n4 + 0) pc h0 ux k y1, y5, n5, t5, G5, a5, _, yp
     exists zH, 1, 2, [2], bT acc xs ed (.ref y5) (by exact gA), y6, n6, t6, G6, a6, _, _
     refine aZ (Ta := []) zc.ro a6 zc.hL [0, 1, 2, 3] [] [] (ax tk ep tt (.int k y1) (xs ++ [.ref y5]) (by simp; exact gm) y6) (by kernel_rfl) (by kernel_rfl) (fun _ h => nomatch h) List.nodup_nil fun y n7 t7 G7 a7 hy hN => ?_
     refine eS zc.post zc.ro a7 4 ⟨⟨y5, pc ++ [(k, y1)]⟩ :: y.ne, y.ed, y.D, y.it⟩ ⟨hy.1, (congrArg (_ :: ·) hy.2.1).trans (by (with_reducible conv => rhs; whnf); rw [kP (by rw [uy]; exact Hg)]; congr 1; simp [Ct.n]), hy.2.2.cons y5 y1⟩ rfl ((by kernel_rfl : bk 4 _ = [(it, y.it), (D, y.D), (acc, aa (xs ++ [.ref y5] ++ refs y.ne) y.ed), (pa, aj (ag pc))]).trans (by (with_reducible conv => rhs; whnf); simp [refs])) (jx (B := (n1 + 0, aj []) :: (n4 + 0, aj [.int k y1]) :: (y5, aj (ag (pc ++ [(k, y1)]))) :: y.ne.map Ct.K) (.cons _ (.cons _ (List.Sublist.refl _))) (by kernel_rfl)) (by kernel_rfl) (ar (yp (y5, aj (ag (pc ++ [(k, y1)]))) (by simp)) hN)
    ·exists zH, 1, 2, [], (dU (k : Int) (q.1 : Int) y1 q.2).cO (by lia), _, n4, t4, G4, a4, _, _
     exact zO [0, 1, 2, 3] ((ax tk ep tt (.int k y1) xs (by lia) ed).map id (fun y h => ⟨h.1, by rw [qi (by rw [uy]; lia)]; exact h.2.1, h.2.2.skip⟩) (fun _ => rfl) (fun _ => rfl) (fun _ => rfl))
set_option smartUnfolding true
theorem Dv (it D L acc : Addr) (p : Ct) (ux : p.c.length ≤ 5) (o : Obj) (hD : D1 w (.ref p.a) o ∨ uw w (.ref p.a) o) (xs : List Value) (hx : xs.length ≤ 890) (ed : Nat) :
  af w b 13 (ny qh it acc (j3 D L)) [(it, cj 1 5), (D, o), (acc, aa xs ed)] [p.K]
   (X := EB) (fun y => uw w (.ref p.a) y.D ∧ nums y.ne = iX p.n 5 1 ∧ kh p.c 1 y.ne) (fun _ => .ok .next)
   (fun y => [(it, y.it), (D, y.D), (acc, aa (xs ++ refs y.ne) y.ed)]) (fun y => y.ne.map Ct.K) := by
 refine vX _ _ _ _ _ _ (af.iL (T1 := [p.K]) (T := []) (Kf := fun (y : EB) => [(it, y.it), (D, y.D), (acc, aa (xs ++ refs y.ne) y.ed)]) ?_)
 exact Gq it D L acc p.a p.c ux 5 1 (by decide) (by decide) o hD (fun h => nomatch h) xs (by lia) ed
noncomputable def qj (l : List (List Nat)) : List (List Nat) := l.flatMap fun c => iX c 5 1
theorem j4 (c : List Nat) : ∀ m k, (iX c m k).length ≤ m
 | 0, _ => Nat.le_refl _
 | m + 1, k => by
  by_cases h : c.getLastD 0 < k
  ·rw [kP h]; exact Nat.succ_le_succ (j4 c m (k + 1))
  ·rw [qi h]; exact Nat.le_succ_of_le (j4 c m (k + 1))
noncomputable def Dw (aw l : List Ct) : Prop := (∀ p ∈ l, ∃ c ∈ aw, ∃ u, p.c = c.c ++ [u]) ∧ l.Pairwise ij
theorem kh.step {aw : List Ct} {p : Ct} {l1 l2 : List Ct} (h1 : kh p.c 1 l1) (hR : (p :: aw).Pairwise ij) (h2 : Dw aw l2) : Dw (p :: aw) (l1 ++ l2) := by
 rw [List.pairwise_cons] at hR
 refine ⟨fun q hq => ?_, ?_⟩
 ·rcases List.mem_append.mp hq with hq | hq
  ·obtain ⟨k, t, _, e⟩ := h1.1 q hq
   exact ⟨p, List.mem_cons_self, _, e⟩
  ·obtain ⟨c, hc, u, e⟩ := h2.1 q hq
   exact ⟨c, List.mem_cons_of_mem _ hc, u, e⟩
 ·rw [List.pairwise_append]
  refine ⟨h1.2, h2.2, fun x hx y hy => ?_⟩
  obtain ⟨k, t, _, e1⟩ := h1.1 x hx
  obtain ⟨c, hc, u, e2⟩ := h2.1 y hy
  exact (hR.1 c hc).ext e1 e2
set_option smartUnfolding false
theorem Dx (it aU D L acc : Addr) (aw : List Ct) (iW : ∀ p ∈ aw, p.c.length ≤ 5) (hR : aw.Pairwise ij) (eu : Nat) :
 ∀ (m j : Nat) (hm : j + m = aw.length) (o : Obj) (hD : (j = 0 ∧ o = ay [] 0) ∨ D2 w o) (xs : List Value) (hx : xs.length + 5 * m ≤ 800) (ed : Nat),
  af w b 16 (bF qh it acc (j3 D L)) [(it, bx aU j), (D, o), (acc, aa xs ed), (aU, aa (refs aw) eu)] (aw.map Ct.K)
   (X := EB) (fun y => (aw.length = 0 ∨ D2 w y.D) ∧ nums y.ne = qj (nums (aw.drop j)) ∧ Dw (aw.drop j) y.ne) (fun _ => .ok .next)
   (fun y => [(it, y.it), (D, y.D), (acc, aa (xs ++ refs y.ne) y.ed), (aU, aa (refs aw) eu)]) (fun y => y.ne.map Ct.K) := by
 intro m
 induction m with
 | zero =>
  intro j hm o hD xs hx ed
  have bj : (refs aw)[j]? = none := by simp [refs]; exact c6
  have cW : aw.drop j = [] := List.drop_eq_nil_of_le (by exact c6)
  have Dy : aw.length = 0 ∨ D2 w o := by
   rcases hD with ⟨h, _⟩ | h
   ·exact .inl (by lia)
   ·exact .inr h
  exists zA, 3, 102, zd, zc, a0
  refine zK [0, 3] (gM it aU (refs aw) eu j bj) @fun y n1 t1 G1 a1 _ _ => ?_
  exists zg, 2, 7
  exact od zc.post zc.ro a1 4 [] (fun _ => ⟨[], ed, o, y.2.2⟩) ⟨Dy, by rw [cW]; rfl, fun _ h => (nomatch h), List.Pairwise.nil⟩ (fun _ => [(it, y.2.2), (D, o), (acc, aa xs ed), (aU, aa (refs aw) eu)]) (by kernel_rfl) (by (with_reducible conv => rhs; whnf); simp) (by kernel_rfl) ak
 | succ m ih =>
  intro j hm o hD xs hx ed
  obtain ⟨p, hp⟩ : ∃ q, aw[j]? = some q := ⟨aw[j]'(by exact cf), List.getElem?_eq_getElem (by exact cf)⟩
  have dn := List.mem_of_getElem? hp
  have bj : (refs aw)[j]? = some (.ref p.a) := by rw [cX, hp]; rfl
  have fb := iW p dn
  have bW := Ct.fk dn
  have cW : nums (aw.drop j) = p.n :: nums (aw.drop (j + 1)) := bI aw Ct.n j p hp
  have hex : qj (nums (aw.drop j)) = iX p.n 5 1 ++ qj (nums (aw.drop (j + 1))) := by rw [cW]; rfl
  have Dy : (o = ay [] 0) ∨ ∃ tk v ep t2 v2, o = ay [av (au w "cut") "cut" tk v, av (au w "end") "end" t2 v2] ep := by
   rcases hD with ⟨_, h⟩ | h
   ·exact .inl h
   ·exact .inr h
  have Dz : aw.drop j = p :: aw.drop (j + 1) := by
   have et : j < aw.length := by exact cf
   rw [List.drop_eq_getElem_cons et]
   congr 1
   exact Option.some.inj ((List.getElem?_eq_getElem et).symm.trans hp)
  have Ig : (p :: aw.drop (j + 1)).Pairwise ij := Dz ▸ hR.sublist (List.drop_sublist j aw)
  clear hD cW
  rcases Dy with rfl | ⟨tk, v, ep, gQ, v2, rfl⟩
  all_goals
   exists zA, 3, 102, zd, zc, a0
   refine zK [0, 3] (dv it aU (refs aw) eu j (.ref p.a) bj) fun _ n1 t1 => ?_
   exists zg, 14, 12627653
   refine zK [] (q9 1 6 (t1 + 1) (t1 + 2)) @fun y2 n2 t2 _ _ _ _ => ?_
   exists yg, 6, 5306
   refine zK [4] (ra y2.1 5 (by decide) (t1 + 1) (t1 + 2) y2.2) fun y3 n3 t3 => ?_
   exists zg, 2, 107
   skip
  ·refine zJ (Ta := []) [5, 1, 2] [] [p.K] (Dv y3 D L acc p fb (ay [av (au w "cut") "cut" (t1 + 0) (.ref p.a)] 1) (.inl ⟨_, _, rfl⟩) xs (by lia) ed) (fun q hq => by rw [List.mem_singleton.mp hq]; exact bW) (ly _) @fun y4 n4 t4 G4 a4 ey dH => ?_
   exists zg, 1, 2
   have hl := j4 p.n 5 1
   rw [← ey.2.1, List.length_map] at hl
   refine aZ (Ta := []) zc.ro a4 zc.hL [0, 1, 2, 3] [] (aw.map Ct.K) (ih (j + 1) (by exact cJ) y4.D (.inr ⟨_, _, _, _, _, ey.1.choose_spec.choose_spec.choose_spec.choose_spec⟩) (xs ++ refs y4.ne) (by simp; lia) y4.ed) (by kernel_rfl) (by kernel_rfl) (fun _ h => h) zc.ro.nd fun y n7 t7 G7 a7 hy hN => ?_
   refine eS zc.post zc.ro a7 4 ⟨y4.ne ++ y.ne, y.ed, y.D, y.it⟩ ⟨hy.1, by rw [hex, ← ey.2.1, ← hy.2.1]; simp, by rw [Dz]; exact ey.2.2.step Ig hy.2.2⟩ rfl ((by kernel_rfl : bk 4 _ = [(it, y.it), (D, y.D), (acc, aa (xs ++ refs y4.ne ++ refs y.ne) y.ed), (aU, aa (refs aw) eu)]).trans (by (with_reducible conv => rhs; whnf); simp [refs])) (jx (B := (y2.1, j1 1 6 (t1 + 1) (t1 + 2) y2.2) :: (y3, y4.it) :: (y4.ne.map Ct.K ++ y.ne.map Ct.K)) (.cons _ (.cons _ (by (with_reducible conv => lhs; whnf); rw [List.map_append]; exact List.Sublist.refl _))) (by kernel_rfl)) (by kernel_rfl) (fun q hq => by
    replace hq : q ∈ (y4.ne ++ y.ne).map Ct.K := hq
    rw [List.map_append] at hq
    rcases List.mem_append.mp hq with hq | hq
    ·exact dH q hq
    ·exact hN q hq)
  ·refine zJ (Ta := []) [5, 1, 2] [] [p.K] (Dv y3 D L acc p fb (ay [av (au w "cut") "cut" tk (.ref p.a), av (au w "end") "end" gQ v2] ep) (.inr ⟨_, _, _, _, rfl⟩) xs (by lia) ed) (fun q hq => by rw [List.mem_singleton.mp hq]; exact bW) (ly _) @fun y4 n4 t4 G4 a4 ey dH => ?_
   exists zg, 1, 2
   have hl := j4 p.n 5 1
   rw [← ey.2.1, List.length_map] at hl
   refine aZ (Ta := []) zc.ro a4 zc.hL [0, 1, 2, 3] [] (aw.map Ct.K) (ih (j + 1) (by exact cJ) y4.D (.inr ⟨_, _, _, _, _, ey.1.choose_spec.choose_spec.choose_spec.choose_spec⟩) (xs ++ refs y4.ne) (by simp; lia) y4.ed) (by kernel_rfl) (by kernel_rfl) (fun _ h => h) zc.ro.nd fun y n7 t7 G7 a7 hy hN => ?_
   refine eS zc.post zc.ro a7 4 ⟨y4.ne ++ y.ne, y.ed, y.D, y.it⟩ ⟨hy.1, by rw [hex, ← ey.2.1, ← hy.2.1]; simp, by rw [Dz]; exact ey.2.2.step Ig hy.2.2⟩ rfl ((by kernel_rfl : bk 4 _ = [(it, y.it), (D, y.D), (acc, aa (xs ++ refs y4.ne ++ refs y.ne) y.ed), (aU, aa (refs aw) eu)]).trans (by (with_reducible conv => rhs; whnf); simp [refs])) (jx (B := (y2.1, j1 1 6 (t1 + 1) (t1 + 2) y2.2) :: (y3, y4.it) :: (y4.ne.map Ct.K ++ y.ne.map Ct.K)) (.cons _ (.cons _ (by (with_reducible conv => lhs; whnf); rw [List.map_append]; exact List.Sublist.refl _))) (by kernel_rfl)) (by kernel_rfl) (fun q hq => by
    replace hq : q ∈ (y4.ne ++ y.ne).map Ct.K := hq
    rw [List.map_append] at hq
    rcases List.mem_append.mp hq with hq | hq
    ·exact dH q hq
    ·exact hN q hq)
noncomputable def lvl : Nat → List (List Nat)
 | 0 => [[]]
 | n + 1 => qj (lvl n)
noncomputable def DA (c : List Nat) : Bool := decide (c.length ≤ 5) && decide ((0 :: c ++ [6]).Pairwise (· < ·)) && (0 :: c ++ [6]).all fun x => decide (x ≤ 6)
set_option smartUnfolding true
theorem kQ : ∀ j ≤ 5, 0 < (lvl j).length ∧ (lvl j).length ≤ 10 ∧ ∀ c ∈ lvl j, DA c = true := by decide +kernel
theorem uz {c : List Nat} (h : DA c = true) : c.length ≤ 5 ∧ Up (0 :: c ++ [6]) := by
 unfold DA at h
 rw [Bool.and_eq_true, Bool.and_eq_true, List.all_eq_true] at h
 exact ⟨of_decide_eq_true h.1.1, of_decide_eq_true h.1.2, fun x hx => of_decide_eq_true (h.2 x hx)⟩
theorem qk {j : Nat} (hj : j ≤ 5) {aw : List Ct} (h : nums aw = lvl j) : ∀ p ∈ aw, kN p := fun p hp => by
 have h1 : p.n ∈ lvl j := h ▸ List.mem_map_of_mem hp
 have h2 := uz ((kQ j hj).2.2 _ h1)
 exact ⟨by have := h2.1; unfold Ct.n at this; simpa using this, h2.2⟩
noncomputable abbrev DB (w : World) (k0 k1 k2 k3 tt tf : Tok) (aX aU : Addr) (ba : Int) (front : Str) (tl : List DictEntry) (ep : Nat) : Obj :=
 cK ([fe w "script" k0 (.ref aX), fe w "total" k1 (.int ba tt), fe w "front" k2 (.str front tf), fe w "cuts" k3 (.ref aU)] ++ tl) ep
noncomputable abbrev mR (w : World) (S aX aC aW : Addr) (q0 q1 sX fr : Obj) (wd hd ends : Nat) (tw th tn : Tok) (sC : Obj) (ws : List (Str × Tok)) (ew : Nat) (fo dr lo hi co st fa su le kk : Obj) (r : KS) : KS :=
 [(140, q0), (147, q1), (aX, sX), (S, fr)] ++ cls S (ai (.ref aC)) kk (ai (.ref aW)) (ai (.int wd tw)) (ai (.int hd th)) (ai (.int ends tn)) fo dr lo hi co st fa su le ++ [(aC, sC), (aW, aa (aE ws) ew)] ++ r
set_option smartUnfolding false
theorem vY (S aX aC aW it : Addr) (k : Result → Sem Fin) (sX sC q0 q1 : Obj) (ba : Int) (tt k0 k1 k2 k3 tf tn th tw : Tok) (front : Str) (hd wd ends : Nat) (he : 1 ≤ ends) (ki : ends ≤ 5) (ws : List (Str × Tok)) (cZ : ∀ q ∈ ws, c7 q.1) (h6 : ws.length = 6) (ew : Nat)
 (DC : ∀ t < ends, ∀ c ∈ lvl t, fp wd hd (ws.map (·.1)) c = false)
 (H : ∀ (aU : Addr) (aw : List Ct) (eu ep : Nat) (k4 : Tok) (v4 : Value) (io : Obj), nums aw = lvl ends → aw.Pairwise ij →
  bH w b 28 (bN S) .base (k (.ok .next)) (mR w S aX aC aW q0 q1 sX (DB w k0 k1 k2 k3 tt tf aX aU ba front [fe w "turn" k4 v4] ep) wd hd ends tw th tn sC ws ew ae ae ae ae ae ae ae ae ae ae [(it, io), (aU, aa (refs aw) eu)]) (aw.map Ct.K)) :
 ∀ (m j : Nat) (hj : j + m = ends) (aU : Addr) (aw : List Ct) (hc : nums aw = lvl j) (hR : aw.Pairwise ij) (eu : Nat) (tl : List DictEntry) (kS : (j = 0 ∧ tl = []) ∨ ∃ tk v, tl = [fe w "turn" tk v]) (ep : Nat),
  bH w b 28 (fU (dq cn 8) it (dm S)) (.ret (bN S) none k .base) (den (fU (dq cn 8) it (dm S)))
   (mR w S aX aC aW q0 q1 sX (DB w k0 k1 k2 k3 tt tf aX aU ba front tl ep) wd hd ends tw th tn sC ws ew ae ae ae ae ae ae ae ae ae ae [(it, cj j m), (aU, aa (refs aw) eu)]) (aw.map Ct.K) := by
 intro m
 induction m with
 | zero =>
  intro j hj aU aw hc hR eu tl kS ep
  have K3 : j = ends := by lia
  rcases kS with ⟨h0, _⟩ | ⟨tk, v, rfl⟩
  ·lia
  exists zE, 3, 123, zd, zc, hsz, a
  exists zH, 3, 76, [21], g9 it j, y1, n1, t1, G1, a1, _, _
  exact e9 zc.post zc.ro a1 zc.hL 21 [] (H aU aw eu ep tk v y1.2.2 (K3 ▸ hc) hR) (by kernel_rfl) (by kernel_rfl) (by kernel_rfl)
 | succ m ih =>
  intro j hj aU aw hc hR eu tl kS ep
  have dk : aw.length = (lvl j).length := by rw [← hc]; simp
  have K4 := kQ j (by exact o4)
  have iW := qk (show j ≤ 5 by exact o4) hc
  have hF : ∀ p ∈ aw, fp wd hd (ws.map (·.1)) p.n = false := fun p hp => DC j (by exact cf) _ (hc ▸ List.mem_map_of_mem hp)
  have vZ : tl = [] ∨ ∃ tk v, tl = [fe w "turn" tk v] := by
   rcases kS with ⟨_, h⟩ | h
   ·exact .inl h
   ·exact .inr h
  clear kS
  rcases vZ with rfl | ⟨tk, v, rfl⟩
  all_goals
    exists zE, 3, 123, zd, zc, hsz, a
    refine zK [21] (du it j m) @fun y1 n1 t1 _ _ _ _ => ?_
    exists yg, 23, 4883969215512755
    have hA := fun b => (AF (w := w) (b := b) (n1 + 0) aU (n1 + 2) S (n1 + 1) (jj := 0) (mm := 0) _ _ (Dj (n1 + 0) aU (n1 + 2) S aW (n1 + 1) aw iW eu hd wd th tw ws cZ h6 ew hF aw.length 0 (by exact Nat.zero_add _) (ay [] 0) (.inl ⟨rfl, rfl⟩))).imp'
     (Y := Obj × Tok × Value × Nat) (P' := fun _ => True) (dJ := fun _ => .ok .next)
     (dK := fun y => [(n1 + 0, y.1), (n1 + 2, ay [av (au w "cut") "cut" y.2.1 y.2.2.1] y.2.2.2), (n1 + 1, aa [] 0), (aU, aa (refs aw) eu), (S + 3, ai (.ref aW)), (S + 4, ai (.int wd tw)), (S + 5, ai (.int hd th)), (aW, aa (aE ws) ew)]) (dO := fun _ => [])
     (fun x hx => by
      rcases hx with ⟨h, _⟩ | ⟨tk, v, ep, h⟩
      ·have := of_decide_eq_true h; lia
      ·exact ⟨(x.2, tk, v, ep), trivial, rfl, by rw [h], rfl⟩)
    exists zI, 9, 68877, [23, 25, 24, 22, 6, 7, 8, 20], hA _, y3, n3, t3, G3, a3, ej, _
    refine sQ fun p below l => ?_
    exists ao, dG (ah (ah (ah (ah (ah (fB (fB (ah (bf (d5 l zc.hL (by kernel_rfl)))))))))))
    exists yg, 5, 316426
    refine zK [24, 26] (rp (n1 + 1) (n3 + 0) 0 0) @fun _ n4 t4 _ _ _ _ => ?_
    exists yg, 18, 2016087686205
    have hB := fun b => (AG (w := w) (b := b) (n4 + 0) aU (n4 + 2) S (n4 + 1) (jj := 0) (mm := 0) _ _ (Dx (n4 + 0) aU (n4 + 2) S (n4 + 1) aw (fun p hp => (iW p hp).len) hR eu aw.length 0 (by exact Nat.zero_add _) (ay [] 0) (.inl ⟨rfl, rfl⟩) [] (by simp; lia) 0)).imp'
     (Y := EB × Tok × Value × Nat × Tok × Value) (P' := fun y => nums y.1.ne = lvl (j + 1) ∧ y.1.ne.Pairwise ij) (dJ := fun _ => .ok .next)
     (dK := fun y => [(n4 + 0, y.1.it), (n4 + 2, ay [av (au w "cut") "cut" y.2.1 y.2.2.1, av (au w "end") "end" y.2.2.2.2.1 y.2.2.2.2.2] y.2.2.2.1), (n4 + 1, aa (refs y.1.ne) y.1.ed), (aU, aa (refs aw) eu)]) (dO := fun y => y.1.ne.map Ct.K)
     (fun x hx => by
      obtain ⟨h1, h2, h3⟩ := hx
      rcases h1 with h | ⟨tk, v, ep, t2, v2, h⟩
      ·lia
      ·exact ⟨(x, tk, v, ep, t2, v2), ⟨by rw [h2]; show qj (nums aw) = _; rw [hc]; rfl, h3.2⟩, rfl, by rw [h]; rfl, rfl⟩)
    exists zI, 19, 102838010202755, [27, 29, 28, 22], hB _, y5, n5, t5, G5, a5, eo, yp
    skip
  ·exact kD zc.post zc.ro a5 zc.hL 30 (rg 0 22 ++ [28]) [22] (rg 2 20 ++ [23]) (Dr := [(aU, aa (refs aw) eu)]) (ih (j + 1) (by exact cJ) (n4 + 1) y5.1.ne eo.1 eo.2 y5.1.ed [fe w "turn" (t1 + 0) (.int j y1)] (.inr ⟨_, _, rfl⟩) (ep + 1)) (by kernel_rfl) (by kernel_rfl) (by decide) (List.sublist_append_left _ _) (by kernel_rfl)
  ·exact kD zc.post zc.ro a5 zc.hL 30 (rg 0 22 ++ [28]) [22] (rg 2 20 ++ [23]) (Dr := [(aU, aa (refs aw) eu)]) (ih (j + 1) (by exact cJ) (n4 + 1) y5.1.ne eo.1 eo.2 y5.1.ed [fe w "turn" tk (.int j y1)] (.inr ⟨_, _, rfl⟩) ep) (by kernel_rfl) (by kernel_rfl) (by decide) (List.sublist_append_left _ _) (by kernel_rfl)
noncomputable def kT : List (List Nat) :=
 (List.range 6).flatMap fun a => (List.range 7).flatMap fun b => (List.range 7).flatMap fun c => (List.range 7).flatMap fun d => (List.range 7).filterMap fun e =>
  if 1 ≤ a ∧ a ≤ b ∧ 2 ≤ b ∧ b ≤ c ∧ 3 ≤ c ∧ c ≤ d ∧ 4 ≤ d ∧ d ≤ e ∧ 5 ≤ e then some [a, b, c, d, e, 6] else none
noncomputable def nz (F : List Nat) : List Nat → Bool
 | a :: b :: r => decide (b ≤ F.getD a 0) && nz F (b :: r)
 | _ => true
noncomputable def nB (F cut : List Nat) : Bool := nz F (0 :: cut ++ [6])
noncomputable def lz (F cut B : List Nat) (k : Nat) : List Nat := if k ∈ cut ∨ F.getD (B.getLastD 0) 0 ≤ k then B ++ [k] else B
noncomputable def fi (F cut : List Nat) : List Nat := [1, 2, 3, 4, 5].foldl (lz F cut) []
noncomputable def bz (c : List Nat) : Nat := c.foldl (fun n x => 10 * n + x) 0
noncomputable def dL (a b : List Nat) : Nat := (List.zipWith (fun x y => (x - y) + (y - x)) a b).sum
noncomputable def b0 (F : List Nat) : List (List Nat) := (lvl (fi F []).length).filter (nB F)
noncomputable def dB : Nat → List Int
 | 0 => []
 | n + 1 => dB n ++ [10 ^ n, -10 ^ n]
set_option smartUnfolding true
theorem DD : ∀ F ∈ kT, 1 ≤ (fi F []).length ∧ (fi F []).length ≤ 5 := by decide +kernel
theorem Jh : ∀ F ∈ kT, ∀ t < (fi F []).length, ∀ c ∈ lvl t, nB F c = false := by decide +kernel
theorem Gr : ∀ F ∈ kT, ∀ c ∈ lvl (fi F []).length, (nB F c = true → fi F c = c) ∧ ((fi F c).length = c.length → nB F c = true) := by decide +kernel
theorem uA : ∀ F ∈ kT, (b0 F).getLast? = some (fi F []) := by decide +kernel
theorem Gs : ∀ F ∈ kT, ∀ a ∈ b0 F, ∀ b ∈ b0 F, List.zipWith min a b ∈ b0 F ∧ List.zipWith max a b ∈ b0 F := by decide +kernel
theorem DE : ∀ F ∈ kT, ∀ a ∈ b0 F, ∀ b ∈ b0 F,
  bz b ∈ (f7 ((b0 F).map bz) (dB (fi F []).length) ((b0 F).length - 1) 1 [(bz a, 0)] [bz a]).map (·.1) ∧
  lk (f7 ((b0 F).map bz) (dB (fi F []).length) ((b0 F).length - 1) 1 [(bz a, 0)] [bz a]) (bz b) = dL a b := by decide +kernel
theorem Gu : ∀ t ≤ 5, ∀ c ∈ lvl t, bz c ≤ 100000 ∧ ∀ q ∈ dB t, 0 ≤ (bz c : Int) + q ∧ (bz c : Int) + q ≤ 100000 := by decide +kernel
theorem uB : ∀ t ≤ 5, ((lvl t).map bz).Nodup ∧ ∀ c ∈ lvl t, c.length = t ∧ c.Pairwise (· < ·) ∧ (∀ x ∈ c, 1 ≤ x ∧ x ≤ 5) := by decide +kernel
set_option smartUnfolding false
theorem Ji (S aX aC aW : Addr) (sX sC q0 q1 : Obj) (ba : Int) (tt k0 k1 k2 tf tn th tw : Tok) (front : Str) (hd wd ends : Nat) (he : 1 ≤ ends) (ki : ends ≤ 5) (ws : List (Str × Tok)) (cZ : ∀ q ∈ ws, c7 q.1) (h6 : ws.length = 6) (ew ep : Nat)
 (DC : ∀ t < ends, ∀ c ∈ lvl t, fp wd hd (ws.map (·.1)) c = false)
 (H : ∀ (it aU : Addr) (aw : List Ct) (eu ep : Nat) (k3 k4 : Tok) (v4 : Value) (io : Obj), nums aw = lvl ends → aw.Pairwise ij →
  bH w b 28 (bN S) .base (b6 S 9) (mR w S aX aC aW q0 q1 sX (DB w k0 k1 k2 k3 tt tf aX aU ba front [fe w "turn" k4 v4] ep) wd hd ends tw th tn sC ws ew ae ae ae ae ae ae ae ae ae ae [(aU, aa (refs aw) eu)]) (aw.map Ct.K)) :
  bH w b 28 (bN S) .base (b6 S 7)
   ([(140, q0), (147, q1), (aX, sX), (S, cK [fe w "script" k0 (.ref aX), fe w "total" k1 (.int ba tt), fe w "front" k2 (.str front tf)] ep)] ++ cls S (ai (.ref aC)) ae (ai (.ref aW)) (ai (.int wd tw)) (ai (.int hd th)) (ai (.int ends tn)) ae ae ae ae ae ae ae ae ae ++ [(aC, sC), (aW, aa (aE ws) ew)]) [] := by
 exists zE, 20, 693877755, zd, zc, hsz, a
 refine zK [] (fH ends tn) @fun y1 n1 t1 G1 a1 _ _ => ?_
 exists yg, 6, 6275
 exists zH, 2, 126, [23], fI y1.1 ends (by exact aO) y1.2.1 tn y1.2.2, y2, n2, t2, G2, a2, _, _
 refine kR zc.post zc.ro a2 zc.hL 100 (rg 0 21 ++ [24, 22]) [21] 19 (S1 := [(zc.S + 0, aj [])]) (S2 := []) (vY S aX aC aW y2 ou.kr sX sC q0 q1 ba tt k0 k1 k2 (zc.s.toks + 0) tf tn th tw front hd wd ends he ki ws cZ h6 ew DC ?_ ends 0 (by exact Nat.zero_add _) (zc.S + 1) [⟨zc.S + 0, []⟩] rfl (List.pairwise_singleton _ _) 0 [] (.inl ⟨rfl, rfl⟩) (ep + 1)) (by kernel_rfl) (by kernel_rfl) (List.sublist_append_left _ _) (by kernel_rfl)
 intro aU aw eu ep k4 v4 io hc hR
 (refine zE 0 0 ?_; intro K5 ql hsz a ou)
 exact kD (Sy := []) (Dr := [(y2, io)]) ql.post ql.ro a ql.hL 100 (rg 0 21 ++ [22]) [21] (rg 2 19 ++ [22, 21]) (H y2 aU aw eu ep (zc.s.toks + 0) k4 v4 io hc hR) (by kernel_rfl) (by kernel_rfl) (by decide) (List.Sublist.refl _) (by kernel_rfl)
theorem DF (c : Bool) :
  af w b 1 (.call (.builtin "int.__ne__") ⟨[.bool c, .bool c], []⟩) [] []
   (X := Unit) (fun _ => True) (fun _ => .ok (.ret (.bool false))) (fun y => []) (fun y => []) := by
 cases c
 all_goals
  exists zA, 2, 1, zd, zc, a0
  exact zM 0 [] (fun _ => ())
theorem Gv (x y : Str) (tx ty : Tok) :
  af w b 0 (.call (.builtin "str.__ne__") ⟨[.str x tx, .str y ty], []⟩) [] []
   (X := Bool) (fun v => v = true ↔ ¬ x = y) (fun v => .ok (.ret (.bool v))) (fun _ => []) (fun _ => []) := by
 exists zA, 2, 1, zd, zc, a
 exact eZ zc.post zc.ro a 0 [] (!(x.cps.toList == y.cps.toList)) (by
  (with_reducible conv => whnf)
  rw [Bool.not_eq_true', beq_eq_false_iff_ne]
  obtain ⟨⟨x⟩⟩ := x
  obtain ⟨⟨y⟩⟩ := y
  simp) (by kernel_rfl) (by kernel_rfl) ak
noncomputable abbrev uC (w : World) (k0 k1 k2 k3 k4 tt tf : Tok) (aX aU : Addr) (ba : Int) (front : Str) (v4 : Value) (tl : List DictEntry) (ep : Nat) : Obj :=
 cK ([fe w "script" k0 (.ref aX), fe w "total" k1 (.int ba tt), fe w "front" k2 (.str front tf), fe w "cuts" k3 (.ref aU), fe w "turn" k4 v4] ++ tl) ep
noncomputable def iA (xs : List Str) (cut : List Nat) : Str := cp sN (cz xs (0 :: cut ++ [6]))
set_option smartUnfolding true
theorem kN.z0 {p : Ct} (h : kN p) : 0 ∉ p.c.map (·.1) := fun h0 => by
 have := h.up.1
 have e : (0 :: p.n ++ [6] : List Nat) = 0 :: (p.n ++ [6]) := rfl
 rw [e, List.pairwise_cons] at this
 exact Nat.lt_irrefl 0 (this.1 0 (List.mem_append_left _ h0))
theorem oA {ws : List (Str × Tok)} (cZ : ∀ q ∈ ws, c7 q.1) (h6 : ws.length = 6) {p : Ct} (fb : kN p) {rs : List (Str × Tok)} (hy : rs.map (·.1) = cz (ws.map (·.1)) (0 :: p.c.map (·.1) ++ [6])) (hd wd : Nat) :
  1 ≤ rs.length ∧ rs.length ≤ 6 ∧ (∀ q ∈ rs, q.1.length ≤ 1000) ∧ jh wd hd (rs.map fun q => q.1.length) = fp wd hd (ws.map (·.1)) p.n ∧ cp sN (rs.map (·.1)) = iA (ws.map (·.1)) p.n := by
 have KZ : rs.length = p.c.length + 1 := by
  have := congrArg List.length hy
  rw [List.length_map, kO] at this
  simpa using this
 have := fb.len
 refine ⟨by lia, by lia, fun q hq => ?_, ?_, by rw [hy]; rfl⟩
 ·have h1 : q.1 ∈ rs.map (·.1) := List.mem_map_of_mem hq
  rw [hy] at h1
  exact Nat.le_trans (qg (fun x hx => by obtain ⟨q, hq, rfl⟩ := List.mem_map.mp hx; exact cZ q hq) (by simpa using h6) _ _ h1) (by decide)
 ·unfold fp Ct.n
  rw [← hy, List.map_map]
  rfl
set_option smartUnfolding false
theorem wa (S aX aC aW aU aF it : Addr) (k : Result → Sem Fin) (sX sC : Obj) (ba : Int) (tt k0 k1 k2 k3 k4 tf tn th tw : Tok) (v4 : Value) (front : Str) (hd wd ends eu : Nat) (iv : hd + 7 ≤ wd) (hh : hd ≤ 100) (ws : List (Str × Tok)) (cZ : ∀ q ∈ ws, c7 q.1) (h6 : ws.length = 6) (ew : Nat)
 (aw : List Ct) (iW : ∀ p ∈ aw, kN p) (uD : 0 < aw.length) (dk : aw.length ≤ 10)
 (DG : ∀ p ∈ aw, gc wd hd p.n (ws.map (·.1)) = iA (ws.map (·.1)) p.n ↔ fp wd hd (ws.map (·.1)) p.n = true)
 (HE : ∀ (ab : List Ct) (ef : Nat) (t1 t2 t3 : Tok) (v1 v2 v3 : Value) (ep : Nat) (io q0 q1 : Obj), bg q0 → bo q1 → ab = aw.filter (fun p => fp wd hd (ws.map (·.1)) p.n) →
  bH w b 28 (bN S) .base (k (.ok .next)) (mR w S aX aC aW q0 q1 sX (uC w k0 k1 k2 k3 k4 tt tf aX aU ba front v4 [fe w "cut" t1 v1, fe w "rows" t2 v2, fe w "fits" t3 v3] ep) wd hd ends tw th tn sC ws ew (ai (.ref aF)) ae ae ae ae ae ae ae ae ae [(aU, aa (refs aw) eu), (aF, aa (refs ab) ef), (it, io)]) (aw.map Ct.K)) :
 ∀ (m j : Nat) (hj : j + m = aw.length) (ab : List Ct) (gT : ab = (aw.take j).filter (fun p => fp wd hd (ws.map (·.1)) p.n)) (ef : Nat) (tl : List DictEntry) (kS : (j = 0 ∧ tl = []) ∨ ∃ t1 v1 t2 v2 t3 v3, tl = [fe w "cut" t1 v1, fe w "rows" t2 v2, fe w "fits" t3 v3]) (ep : Nat) (q0 q1 : Obj) (bK : bg q0) (bR : bo q1),
  bH w b 28 (fU (dq cn 10) it (dm S)) (.ret (bN S) none k .base) (den (fU (dq cn 10) it (dm S)))
   (mR w S aX aC aW q0 q1 sX (uC w k0 k1 k2 k3 k4 tt tf aX aU ba front v4 tl ep) wd hd ends tw th tn sC ws ew (ai (.ref aF)) ae ae ae ae ae ae ae ae ae [(aU, aa (refs aw) eu), (aF, aa (refs ab) ef), (it, bx aU j)]) (aw.map Ct.K) := by
 intro m
 induction m with
 | zero =>
  intro j hj ab gT ef tl kS ep q0 q1 bK bR
  have bj : (refs aw)[j]? = none := by simp [refs]; exact c6
  rcases kS with ⟨h0, _⟩ | ⟨oB, v1, gQ, v2, ox, v3, rfl⟩
  ·lia
  exists zE, 3, 125, zd, zc, hsz, a
  exists zH, 3, 77, [23, 21], gM it aU (refs aw) eu j bj, y1, n1, t1, G1, a1, _, _
  exact e9 zc.post zc.ro a1 zc.hL 22 [] (HE ab ef oB gQ ox v1 v2 v3 ep y1.2.2 q0 q1 bK bR (by rw [gT, List.take_of_length_le (by exact c6)])) (by kernel_rfl) (by kernel_rfl) (by kernel_rfl)
 | succ m ih =>
  intro j hj ab gT ef tl kS ep q0 q1 bK bR
  obtain ⟨p, hp⟩ : ∃ q, aw[j]? = some q := ⟨aw[j]'(by exact cf), List.getElem?_eq_getElem (by exact cf)⟩
  have dn := List.mem_of_getElem? hp
  have bj : (refs aw)[j]? = some (.ref p.a) := by rw [cX, hp]; rfl
  have fb := iW p dn
  have bW := Ct.fk dn
  have et : j < aw.length := by exact cf
  have Ih := DG p dn
  have htk : aw.take (j + 1) = aw.take j ++ [p] := by
   rw [List.take_succ, hp]; rfl
  have vZ : tl = [] ∨ ∃ t1 v1 t2 v2 t3 v3, tl = [fe w "cut" t1 v1, fe w "rows" t2 v2, fe w "fits" t3 v3] := by
   rcases kS with ⟨_, h⟩ | h
   ·exact .inl h
   ·exact .inr h
  clear kS
  have hT : fp wd hd (ws.map (·.1)) p.n = true → ab ++ [p] = (aw.take (j + 1)).filter (fun p => fp wd hd (ws.map (·.1)) p.n) := fun h => by
   rw [htk, List.filter_append, ← gT]; simp [h]
  have hN : fp wd hd (ws.map (·.1)) p.n = false → ab = (aw.take (j + 1)).filter (fun p => fp wd hd (ws.map (·.1)) p.n) := fun h => by
   rw [htk, List.filter_append, ← gT]; simp [h]
  have eU : ab.length ≤ 10 := by
   rw [gT]
   exact Nat.le_trans (List.length_filter_le _ _) (Nat.le_trans (List.length_take_le _ _) (by exact qR))
  generalize K6 : fp wd hd (ws.map (·.1)) p.n = fc at Ih hT hN
  clear gT
  have cB := fun b => DF (w := w) (b := b) fc
  rcases vZ with rfl | ⟨oB, v1, gQ, v2, ox, v3, rfl⟩
  all_goals
   cases fc
   all_goals
    exists zE, 3, 125, zd, zc, hsz, a
    exists zH, 17, 31594752755, [23, 21], dv it aU (refs aw) eu j (.ref p.a) bj, _, n1, t1
    refine zJ (Ta := [(aW, aa (aE ws) ew)]) [] [20] [p.K] (rows aW p.a ws cZ h6 ew p.c fb.len fb.up) (fun q hq => by rw [List.mem_singleton.mp hq]; exact bW) (ly _) @fun y2 n2 t2 G2 a2 fC _ => ?_
    obtain ⟨aR, rs, er⟩ := y2
    dsimp only at fC
    obtain ⟨yq, DH, ru, DI, DJ⟩ := oA cZ h6 fb fC hd wd
    rw [K6] at DI
    have jb := fun b => fits (w := w) (b := b) aR rs er hd wd th tw yq (by exact aO) ru
    rw [DI] at jb
    have uE := fun b ts => r5 (w := w) (b := b) aR ts rs er ru yq DH
    rw [DJ] at uE
    exists zg, 20, 1581000627755
    (refine zG (Ta := [(aR, aa (aE rs) er)]) 22 79050032252755 [] [24] [] (jb _) (fun _ h => nomatch h) List.nodup_nil fun _ n3 t3 => ?_; intro ou)
    refine zJ (Ta := [(aW, aa (aE ws) ew)]) [0, 1] [20] [p.K] (written aW p.a hd wd th tw ws cZ h6 ew p.c fb.len fb.z0 iv hh q0 q1 bK bR) (fun q hq => by rw [List.mem_singleton.mp hq]; exact bW) (ly _) @fun y4 n4 t4 G4 a4 ey _ => ?_
    obtain ⟨tx, p0, p1⟩ := y4
    dsimp only at ey
    exists zg, 8, 105
    exists yH, 4, 2, [24], uE _ (t4 + 0), y5, n5, t5
    exists yH, 5, 105, [], (jX (gc wd hd p.n (ws.map (·.1))) (iA (ws.map (·.1)) p.n) tx y5).bool _ Ih.symm, _, n6, t6
    refine zK [] (cB _) @fun _ n7 t7 G7 a7 _ _ => ?_
    skip
  ·exists zg, 5, 105
   exact e9 zc.post zc.ro a7 zc.hL 22 [] (ih (j + 1) (by exact cJ) ab (hN rfl) ef [fe w "cut" (t1 + 0) (.ref p.a), fe w "rows" (t2 + 0) (.ref aR), fe w "fits" (t3 + 0) (.bool false)] (.inr ⟨_, _, _, _, _, _, rfl⟩) (ep + 1 + 1 + 1) p0 p1 ey.1 ey.2) (by kernel_rfl) (by kernel_rfl) (by kernel_rfl)
  ·exists zg, 17, 1648278060605
   exists zH, 2, 2, [22], bT aF (refs ab) ef (.ref p.a) (by simp [refs]; exact aO), y8, n8, t8, G8, a8, _, _
   have ax := ih (j + 1) (by exact cJ) (ab ++ [p]) (hT rfl) y8 [fe w "cut" (t1 + 0) (.ref p.a), fe w "rows" (t2 + 0) (.ref aR), fe w "fits" (t3 + 0) (.bool true)] (.inr ⟨_, _, _, _, _, _, rfl⟩) (ep + 1 + 1 + 1) p0 p1 ey.1 ey.2
   rw [ig] at ax
   exact e9 zc.post zc.ro a8 zc.hL 22 [] ax (by kernel_rfl) (by kernel_rfl) (by kernel_rfl)
  ·exists zg, 5, 105
   exact e9 zc.post zc.ro a7 zc.hL 22 [] (ih (j + 1) (by exact cJ) ab (hN rfl) ef [fe w "cut" oB (.ref p.a), fe w "rows" gQ (.ref aR), fe w "fits" ox (.bool false)] (.inr ⟨_, _, _, _, _, _, rfl⟩) ep p0 p1 ey.1 ey.2) (by kernel_rfl) (by kernel_rfl) (by kernel_rfl)
  ·exists zg, 17, 1648278060605
   exists zH, 2, 2, [22], bT aF (refs ab) ef (.ref p.a) (by simp [refs]; exact aO), y8, n8, t8, G8, a8, _, _
   have ax := ih (j + 1) (by exact cJ) (ab ++ [p]) (hT rfl) y8 [fe w "cut" oB (.ref p.a), fe w "rows" gQ (.ref aR), fe w "fits" ox (.bool true)] (.inr ⟨_, _, _, _, _, _, rfl⟩) ep p0 p1 ey.1 ey.2
   rw [ig] at ax
   exact e9 zc.post zc.ro a8 zc.hL 22 [] ax (by kernel_rfl) (by kernel_rfl) (by kernel_rfl)
noncomputable def nD (x : Str) : Nat := (ZFast.zw15715988071286343644 x sN 0 (min x.length x.length) (x.length + 1)).length
theorem wb (x : Str) (t1 t2 : Tok) :
  af w b 4 (.call (.builtin "str.count") ⟨[.str x t1, .str sN t2], []⟩) [] []
   (X := Tok) (fun _ => True) (fun y => .ok (.ret (.int (nD x) y))) (fun _ => []) (fun _ => []) := by
  exists zA, 3, 1, zd, zc, a0
  exact zM 0 [] (fun o => o.rt)
set_option smartUnfolding true
theorem AH (x : Str) : nD x = (cl x).count 10 := by
 unfold nD
 rw [← ZFast.ze15715988071286343644, Nat.min_self]
 exact tI x sN (by decide +kernel)
noncomputable def kj (wd : Nat) : Nat → List Nat → Nat
 | _, [] => 0
 | z, l :: ls => if z + l ≤ wd then kj wd (z + l) ls + 1 else 0
theorem uF (wd : Nat) : ∀ (ls : List Nat) (z : Nat), kj wd z ls ≤ ls.length
 | [], _ => Nat.le_refl _
 | l :: ls, z => by
  unfold kj
  split
  ·exact Nat.succ_le_succ (uF wd ls _)
  ·exact Nat.zero_le _
theorem nE (wd : Nat) : ∀ (ls : List Nat) (z b : Nat), b ≤ ls.length → (b ≤ kj wd z ls ↔ b = 0 ∨ z + (ls.take b).sum ≤ wd)
 | [], z, b, h => by
  have : b = 0 := by simpa using h
  subst this; simp
 | l :: ls, z, 0, h => by simp
 | l :: ls, z, b + 1, h => by
  unfold kj
  have ih := nE wd ls (z + l) b (by simpa using h)
  rw [List.take_succ_cons, List.sum_cons]
  split
  ·rename_i hz
   rw [Nat.add_le_add_iff_right, ih]
   constructor
   ·rintro (h | h)
    ·subst h; right; simpa using hz
    ·right; lia
   ·rintro (h | h)
    ·lia
    ·right; lia
  ·rename_i hz
   constructor
   ·intro h; lia
   ·rintro (h | h) <;> lia
theorem qm (wd : Nat) : ∀ (ls : List Nat) (z z' : Nat), z' ≤ z → kj wd z ls ≤ kj wd z' ls
 | [], _, _, _ => Nat.le_refl _
 | l :: ls, z, z', h => by
  unfold kj
  split
  ·rw [if_pos (by lia)]
   exact Nat.succ_le_succ (qm wd ls _ _ (by lia))
  ·exact Nat.zero_le _
theorem wc (wd z l : Nat) (ls : List Nat) : kj wd z (l :: ls) ≤ kj wd 0 ls + 1 := by
 show (if _ then _ else _) ≤ _
 split
 ·exact Nat.succ_le_succ (qm wd ls _ _ (Nat.zero_le _))
 ·exact Nat.zero_le _
noncomputable def zv (hd a : Nat) : Nat := if a = 0 then hd else 0
noncomputable def d7 (xs : List Str) : List Nat := xs.map fun x => 1 + x.length
noncomputable def fv (wd hd : Nat) (xs : List Str) (a : Nat) : Nat := a + kj wd (zv hd a) ((d7 xs).drop a)
noncomputable def FW (wd hd : Nat) (xs : List Str) : List Nat := [fv wd hd xs 0, fv wd hd xs 1, fv wd hd xs 2, fv wd hd xs 3, fv wd hd xs 4, fv wd hd xs 5]
theorem qn (wd hd : Nat) (xs : List Str) (a : Nat) (h : a < 6) : (FW wd hd xs).getD a 0 = fv wd hd xs a := by
 match a, h with
 | 0, _ => rfl
 | 1, _ => rfl
 | 2, _ => rfl
 | 3, _ => rfl
 | 4, _ => rfl
 | 5, _ => rfl
theorem we (xs : List Str) : fG xs = (d7 xs).sum := rfl
structure Cfg (wd hd : Nat) (xs : List Str) : Prop where
 ok : ∀ x ∈ xs, c7 x
 six : xs.length = 6
 DK : hd + 7 ≤ wd
 K7 : wd ≤ 11
section
variable {wd hd : Nat} {xs : List Str} (C : Cfg wd hd xs)
include C
theorem Cfg.len : (d7 xs).length = 6 := by unfold d7; rw [List.length_map]; exact C.six
theorem Cfg.item {l : Nat} (h : l ∈ d7 xs) : 2 ≤ l ∧ l ≤ 7 := by
 obtain ⟨x, hx, rfl⟩ := List.mem_map.mp h
 have := (C.ok x hx).h1
 have := (C.ok x hx).h6
 lia
theorem Cfg.drop {a : Nat} (h : a < 6) : ∃ l, (d7 xs).drop a = l :: (d7 xs).drop (a + 1) ∧ 2 ≤ l ∧ l ≤ 7 := by
 have h1 : a < (d7 xs).length := by rw [C.len]; exact h
 exact ⟨(d7 xs)[a], List.drop_eq_getElem_cons h1, C.item (List.getElem_mem h1)⟩
theorem Cfg.K8 (a : Nat) : zv hd a + 7 ≤ wd := by
 have := C.DK
 unfold zv
 split <;> (first | exact gm | lia)
theorem Cfg.lo {a : Nat} (h : a < 6) : a + 1 ≤ fv wd hd xs a := by
 obtain ⟨l, e, h2, h7⟩ := C.drop h
 unfold fv
 rw [e]
 show a + 1 ≤ a + (if _ then _ else _)
 rw [if_pos (by have := C.K8 a; lia)]
 lia
theorem Cfg.hi {a : Nat} (h : a ≤ 6) : fv wd hd xs a ≤ 6 := by
 unfold fv
 have h1 := uF wd ((d7 xs).drop a) (zv hd a)
 rw [List.length_drop, C.len] at h1
 lia
theorem Cfg.mono {a : Nat} (h : a + 1 < 6) : fv wd hd xs a ≤ fv wd hd xs (a + 1) := by
 obtain ⟨l, e, h2, h7⟩ := C.drop (a := a) (by lia)
 unfold fv
 rw [e, show zv hd (a + 1) = 0 by unfold zv; rw [if_neg (by lia)]]
 have := wc wd (zv hd a) l ((d7 xs).drop (a + 1))
 lia
theorem Cfg.f0 : fv wd hd xs 0 ≤ 5 := by
 refine Nat.le_of_lt_succ (Nat.lt_of_not_le fun h => ?_)
 have h1 : 6 ≤ kj wd (zv hd 0) (d7 xs) := by simpa [fv] using h
 rw [nE wd (d7 xs) _ 6 (by rw [C.len]; decide)] at h1
 rcases h1 with h1 | h1
 ·lia
 ·rw [List.take_of_length_le (by rw [C.len]; decide)] at h1
  have h2 : ∀ (l : List Nat), (∀ x ∈ l, 2 ≤ x) → 2 * l.length ≤ l.sum := by
   intro l
   induction l with
   | nil => intro _; simp
   | cons x l ih =>
    intro hl
    have := hl x (by simp)
    have := ih fun y hy => hl y (by simp [hy])
    simp only [List.length_cons, List.sum_cons]
    lia
  have h3 := h2 (d7 xs) fun x hx => (C.item hx).1
  rw [C.len] at h3
  have := C.K7
  lia
theorem Cfg.mem : FW wd hd xs ∈ kT := by
 have a1 := C.lo (a := 0) (by lia)
 have a2 := C.f0
 have b1 := C.lo (a := 1) (by lia)
 have b2 := C.hi (a := 1) (by lia)
 have b3 := C.mono (a := 0) (by lia)
 have c1 := C.lo (a := 2) (by lia)
 have c2 := C.hi (a := 2) (by lia)
 have c3 := C.mono (a := 1) (by lia)
 have d1 := C.lo (a := 3) (by lia)
 have d2 := C.hi (a := 3) (by lia)
 have d3 := C.mono (a := 2) (by lia)
 have e1 := C.lo (a := 4) (by lia)
 have e2 := C.hi (a := 4) (by lia)
 have e3 := C.mono (a := 3) (by lia)
 have g1 := C.lo (a := 5) (by lia)
 have g2 := C.hi (a := 5) (by lia)
 unfold FW kT
 rw [List.mem_flatMap]
 refine ⟨fv wd hd xs 0, List.mem_range.mpr (by lia), ?_⟩
 rw [List.mem_flatMap]
 refine ⟨fv wd hd xs 1, List.mem_range.mpr (by lia), ?_⟩
 rw [List.mem_flatMap]
 refine ⟨fv wd hd xs 2, List.mem_range.mpr (by lia), ?_⟩
 rw [List.mem_flatMap]
 refine ⟨fv wd hd xs 3, List.mem_range.mpr (by lia), ?_⟩
 rw [List.mem_filterMap]
 refine ⟨fv wd hd xs 4, List.mem_range.mpr (by lia), ?_⟩
 rw [if_pos ⟨a1, b3, b1, c3, c1, d3, d1, e3, e1⟩, show fv wd hd xs 5 = 6 by lia]
theorem Cfg.nF {a b : Nat} (h : a < b) (hb : b ≤ 6) : zv hd a + fG ((xs.drop a).take (b - a)) ≤ wd ↔ b ≤ fv wd hd xs a := by
 have e : fG ((xs.drop a).take (b - a)) = (((d7 xs).drop a).take (b - a)).sum := by
  rw [we]; unfold d7; rw [List.map_take, List.map_drop]
 have hr := nE wd ((d7 xs).drop a) (zv hd a) (b - a) (by rw [List.length_drop, C.len]; lia)
 rw [e]
 unfold fv
 constructor
 ·intro h'
  have := hr.mpr (.inr h')
  lia
 ·intro h'
  rcases hr.mp (by lia) with h2 | h2
  ·lia
  ·exact h2
end
theorem AI (l : List Nat) (n : Nat) : fV l ≤ n ↔ ∀ x ∈ l, x ≤ n := by
 induction l with
 | nil => simp [fV]
 | cons x l ih =>
  show max x (fV l) ≤ n ↔ _
  rw [Nat.max_le, ih]
  simp
theorem qo {wd hd : Nat} {xs : List Str} (C : Cfg wd hd xs) : ∀ (r : List Nat) (a : Nat), 0 < a → (a :: r).Pairwise (· < ·) → (∀ x ∈ a :: r, x ≤ 6) →
  ((∀ x ∈ (cz xs (a :: r)).map (fun r => r.length), x ≤ wd) ↔ nz (FW wd hd xs) (a :: r) = true)
 | [], a, _, _, _ => by simp [cz, nz]
 | b :: r, a, h0, hp, h6 => by
  have jl : a < b := (List.pairwise_cons.mp hp).1 b (by simp)
  have DL : b ≤ 6 := h6 b (by simp)
  have ih := qo C r b (by lia) (List.pairwise_cons.mp hp).2 (fun x hx => h6 x (List.mem_cons_of_mem _ hx))
  have hr := C.nF jl DL
  rw [show zv hd a = 0 by unfold zv; rw [if_neg (by exact Bc)], Nat.zero_add] at hr
  show (∀ x ∈ (bV ((xs.drop a).take (b - a))).length :: (cz xs (b :: r)).map (fun r => r.length), x ≤ wd) ↔ (decide (b ≤ (FW wd hd xs).getD a 0) && nz (FW wd hd xs) (b :: r)) = true
  rw [List.forall_mem_cons, ih, gI, hr, qn wd hd xs a (by lia), Bool.and_eq_true, decide_eq_true_iff]
theorem Cfg.fit {wd hd : Nat} {xs : List Str} (C : Cfg wd hd xs) {cut : List Nat} (kH : Up (0 :: cut ++ [6])) : fp wd hd xs cut = nB (FW wd hd xs) cut := by
 unfold fp nB
 obtain ⟨b, r, e⟩ : ∃ b r, cut ++ [6] = b :: r := by
  cases cut with
  | nil => exact ⟨6, [], rfl⟩
  | cons x l => exact ⟨x, l ++ [6], rfl⟩
 have e' : (0 :: cut ++ [6] : List Nat) = 0 :: b :: r := by rw [List.cons_append, e]
 rw [e'] at kH ⊢
 have Ii : 0 < b := (List.pairwise_cons.mp kH.1).1 b (by simp)
 have DL : b ≤ 6 := kH.2 b (by simp)
 have hr := C.nF Ii DL
 have Gw := qo C r b Ii (List.pairwise_cons.mp kH.1).2 (fun x hx => kH.2 x (List.mem_cons_of_mem _ hx))
 have hF := qn wd hd xs 0 (by lia)
 rw [Bool.eq_iff_iff]
 show decide (fV ((hd + (bV ((xs.drop 0).take (b - 0))).length) :: (bV ((xs.drop 0).take (b - 0))).length :: (cz xs (b :: r)).map (fun r => r.length)) ≤ wd) = true ↔ (decide (b ≤ (FW wd hd xs).getD 0 0) && nz (FW wd hd xs) (b :: r)) = true
 rw [decide_eq_true_iff, AI, List.forall_mem_cons, List.forall_mem_cons, Gw, gI, Bool.and_eq_true, decide_eq_true_iff, hF, ← hr]
 show hd + _ ≤ wd ∧ _ ↔ hd + _ ≤ wd ∧ _
 constructor
 ·rintro ⟨h1, _, h2⟩; exact ⟨h1, h2⟩
 ·rintro ⟨h1, h2⟩; exact ⟨h1, by lia, h2⟩
theorem j5 (xs : List Str) (b : Nat) : ∀ (L : List Nat) (a : Nat), cz xs (a :: L ++ [b]) = cz xs (a :: L) ++ [bV ((xs.drop ((a :: L).getLastD 0)).take (b - (a :: L).getLastD 0))]
 | [], a => rfl
 | c :: L, a => by
  show bV _ :: cz xs (c :: L ++ [b]) = bV _ :: cz xs (c :: L) ++ _
  rw [j5 xs b L c]
  rfl
noncomputable def rv (hd : Nat) (xs : List Str) (k : Nat) (B : List Nat) : lG := ⟨cz xs (0 :: B), zv hd (B.getLastD 0), (xs.drop (B.getLastD 0)).take (k - B.getLastD 0)⟩
theorem yr (B : List Nat) : (0 :: B).getLastD 0 = B.getLastD 0 := by
 cases B <;> rfl
theorem yt (B : List Nat) (k : Nat) : (B ++ [k]).getLastD 0 = k := by simp
theorem rx (hd : Nat) (xs : List Str) {k : Nat} (hk : 1 ≤ k) (B : List Nat) {x : Str} (hx : xs[k]? = some x) :
  rv hd xs (k + 1) (B ++ [k]) = ⟨cz xs (0 :: B) ++ [bV ((xs.drop (B.getLastD 0)).take (k - B.getLastD 0))], 0, [x]⟩ := by
 unfold rv
 rw [yt, show (0 :: (B ++ [k]) : List Nat) = 0 :: B ++ [k] from rfl, j5, yr]
 congr 1
 ·unfold zv; rw [if_neg (by exact i4)]
 ·obtain ⟨h1, h2⟩ := List.getElem?_eq_some_iff.mp hx
  rw [List.drop_eq_getElem_cons h1, h2, show k + 1 - k = 1 by lia]
  rfl
theorem wg {wd hd : Nat} {xs : List Str} (C : Cfg wd hd xs) (cut : List Nat) {k : Nat} (hk : 1 ≤ k) (Ij : k < 6) (B : List Nat) (hB : B.getLastD 0 < k) {x : Str} (hx : xs[k]? = some x) :
  c0 wd cut k x (rv hd xs k B) = rv hd xs (k + 1) (lz (FW wd hd xs) cut B k) := by
 have lE : x.length ≤ 6 := (C.ok x (List.mem_of_getElem? hx)).h6
 have h7 := C.DK
 unfold lz
 by_cases hc : k ∈ cut
 ·rw [if_pos (.inl hc), rx hd xs hk B hx]
  unfold c0
  rw [if_pos hc]
  show (if 0 + fG [] + (1 + x.length) ≤ wd then _ else _) = _
  rw [if_pos (by show 0 + 0 + _ ≤ _; lia)]
  rfl
 ·have hr := C.nF (a := B.getLastD 0) (b := k + 1) (by lia) (by lia)
  have htk : (xs.drop (B.getLastD 0)).take (k + 1 - B.getLastD 0) = (xs.drop (B.getLastD 0)).take (k - B.getLastD 0) ++ [x] := by
   rw [show k + 1 - B.getLastD 0 = (k - B.getLastD 0) + 1 by lia, List.take_add_one, List.getElem?_drop, show B.getLastD 0 + (k - B.getLastD 0) = k by lia, hx]
   rfl
  have qp : fG ((xs.drop (B.getLastD 0)).take (k + 1 - B.getLastD 0)) = fG ((xs.drop (B.getLastD 0)).take (k - B.getLastD 0)) + (1 + x.length) := by
   rw [htk]; unfold fG; rw [List.map_append, List.sum_append]; simp
  rw [qp] at hr
  rw [qn wd hd xs _ (by lia : B.getLastD 0 < 6)]
  unfold c0
  rw [if_neg hc]
  show (if zv hd (B.getLastD 0) + fG ((xs.drop (B.getLastD 0)).take (k - B.getLastD 0)) + (1 + x.length) ≤ wd then _ else _) = _
  by_cases hf : zv hd (B.getLastD 0) + fG ((xs.drop (B.getLastD 0)).take (k - B.getLastD 0)) + (1 + x.length) ≤ wd
  ·have := hr.mp (by lia)
   rw [if_pos hf, if_neg (by rintro (h | h); exact hc h; lia)]
   show (⟨cz xs (0 :: B), zv hd (B.getLastD 0), (xs.drop (B.getLastD 0)).take (k - B.getLastD 0) ++ [x]⟩ : lG) = _
   rw [← htk]; rfl
  ·rw [if_neg hf, if_pos (.inr (by
    refine Nat.le_of_not_lt fun h => hf ?_
    have := hr.mpr (by lia)
    lia)), rx hd xs hk B hx]
   rfl
theorem iB {F cut B : List Nat} {k : Nat} (h : B.getLastD 0 < k) : (lz F cut B k).getLastD 0 < k + 1 := by
 unfold lz
 split
 ·rw [yt]; lia
 ·lia
theorem Cfg.text {wd hd : Nat} {xs : List Str} (C : Cfg wd hd xs) (cut : List Nat) (h0 : 0 ∉ cut) : gc wd hd cut xs = iA xs (fi (FW wd hd xs) cut) := by
 have jm := fun k hk Ij B hB x hx => wg C cut (k := k) hk Ij B hB (x := x) hx
 have h7 := C.DK
 have hF : FW wd hd xs = FW wd hd xs := rfl
 generalize fu : FW wd hd xs = F at jm
 have h6 := C.six
 match xs, h6, C, jm with
 | [x0, x1, x2, x3, x4, x5], _, C, jm =>
  have L3 : x0.length ≤ 6 := (C.ok x0 (by simp)).h6
  have s0 : c0 wd cut 0 x0 ⟨[], hd, []⟩ = rv hd [x0, x1, x2, x3, x4, x5] 1 [] := by
   unfold c0
   rw [if_neg h0]
   show (if hd + 0 + (1 + x0.length) ≤ wd then _ else _) = _
   rw [if_pos (by lia)]
   rfl
  have e : lV wd cut 0 [x0, x1, x2, x3, x4, x5] ⟨[], hd, []⟩ = rv hd [x0, x1, x2, x3, x4, x5] 6 (fi F cut) := by
   show c0 wd cut 5 x5 (c0 wd cut 4 x4 (c0 wd cut 3 x3 (c0 wd cut 2 x2 (c0 wd cut 1 x1 (c0 wd cut 0 x0 ⟨[], hd, []⟩))))) = _
   have g1 : (lz F cut [] 1).getLastD 0 < 2 := iB (by decide)
   have g2 := iB (F := F) (cut := cut) g1
   have g3 := iB (F := F) (cut := cut) g2
   have g4 := iB (F := F) (cut := cut) g3
   rw [s0, jm 1 (by exact Nat.le_refl _) (by lia) [] (by decide) x1 rfl, jm 2 (by lia) (by lia) _ g1 x2 rfl, jm 3 (by lia) (by lia) _ g2 x3 rfl,
    jm 4 (by lia) (by lia) _ g3 x4 rfl, jm 5 (by lia) (by lia) _ g4 x5 rfl]
   rfl
  unfold gc iA
  rw [e]
  show cp sN (cz _ (0 :: fi F cut) ++ [bV _]) = _
  rw [j5, yr]
  rfl
theorem c7.Jj {x : Str} (h : c7 x) : 10 ∉ cl x := fun hm => by
 have := h.sp 10 hm
 exact absurd this (by decide +kernel)
theorem sk {ys : List Str} (h : ∀ x ∈ ys, c7 x) : (cl (bV ys)).count 10 = 0 := by
 rw [List.count_eq_zero, je]
 intro hm
 obtain ⟨x, hx, hm⟩ := List.mem_flatMap.mp hm
 rcases List.mem_cons.mp hm with hm | hm
 ·cases hm
 ·exact (h x hx).Jj hm
theorem mS {xs : List Str} (h : ∀ x ∈ xs, c7 x) : ∀ (L : List Nat), ∀ r ∈ cz xs L, (cl r).count 10 = 0
 | [], r, hr => by cases hr
 | [a], r, hr => by cases hr
 | a :: b :: L, r, hr => by
  rcases List.mem_cons.mp hr with rfl | hr
  ·exact sk fun x hx => h x (List.mem_of_mem_drop (List.mem_of_mem_take hx))
  ·exact mS h (b :: L) r hr
theorem sm (rows : List Str) (h : ∀ r ∈ rows, (cl r).count 10 = 0) : (cl (cp sN rows)).count 10 = rows.length - 1 := by
 rw [q7]
 cases rows with
 | nil => rfl
 | cons r rs =>
  show (cl r ++ rs.flatMap fun y => cl sN ++ cl y).count 10 = rs.length
  rw [List.count_append, h r (by simp), Nat.zero_add]
  have h2 : ∀ (l : List Str), (∀ r ∈ l, (cl r).count 10 = 0) → (l.flatMap fun y => cl sN ++ cl y).count 10 = l.length := by
   intro l
   induction l with
   | nil => intro _; rfl
   | cons x l ih =>
    intro hl
    rw [List.flatMap_cons, List.count_append, List.count_append, hl x (by simp), ih fun y hy => hl y (by simp [hy]), show cl sN = [10] from F3]
    simp
    lia
  exact h2 rs fun y hy => h y (by simp [hy])
theorem Cfg.count {wd hd : Nat} {xs : List Str} (C : Cfg wd hd xs) (B : List Nat) : nD (iA xs B) = B.length := by
 rw [AH]
 unfold iA
 rw [sm _ (mS C.ok _), kO]
 simp
set_option smartUnfolding false
theorem Jk (S aX aC aW aU : Addr) (sX sC q0 q1 : Obj) (bK : bg q0) (bR : bo q1) (ba : Int) (tt k0 k1 k2 k3 k4 tf tn th tw : Tok) (v4 : Value) (front : Str) (hd wd ends eu : Nat) (iv : hd + 7 ≤ wd) (hh : hd ≤ 100) (ws : List (Str × Tok)) (cZ : ∀ q ∈ ws, c7 q.1) (h6 : ws.length = 6) (ew ep : Nat)
 (aw : List Ct) (iW : ∀ p ∈ aw, kN p) (uD : 0 < aw.length) (dk : aw.length ≤ 10)
 (DG : ∀ p ∈ aw, gc wd hd p.n (ws.map (·.1)) = iA (ws.map (·.1)) p.n ↔ fp wd hd (ws.map (·.1)) p.n = true)
 (H : ∀ (aF : Addr) (ab : List Ct) (ef : Nat) (t1 t2 t3 : Tok) (v1 v2 v3 : Value) (ep : Nat) (q0 q1 : Obj), bg q0 → bo q1 → ab = aw.filter (fun p => fp wd hd (ws.map (·.1)) p.n) →
  bH w b 28 (bN S) .base (b6 S 11) (mR w S aX aC aW q0 q1 sX (uC w k0 k1 k2 k3 k4 tt tf aX aU ba front v4 [fe w "cut" t1 v1, fe w "rows" t2 v2, fe w "fits" t3 v3] ep) wd hd ends tw th tn sC ws ew (ai (.ref aF)) ae ae ae ae ae ae ae ae ae [(aU, aa (refs aw) eu), (aF, aa (refs ab) ef)]) (ab.map Ct.K)) :
  bH w b 28 (bN S) .base (b6 S 9)
   (mR w S aX aC aW q0 q1 sX (uC w k0 k1 k2 k3 k4 tt tf aX aU ba front v4 [] ep) wd hd ends tw th tn sC ws ew ae ae ae ae ae ae ae ae ae ae [(aU, aa (refs aw) eu)]) (aw.map Ct.K) := by
 (refine zF ?_; intro zd zc hsz a)
 exists yg, 22, 4883953584138112
 refine kR zc.post zc.ro a zc.hL 100 (rg 0 24) [] 20 (S1 := []) (S2 := []) (wa S aX aC aW aU (zc.S + 0) (zc.S + 1) ou.kr sX sC ba tt k0 k1 k2 k3 k4 tf tn th tw v4 front hd wd ends eu iv hh ws cZ h6 ew aw iW uD dk DG ?_ aw.length 0 (by exact Nat.zero_add _) [] rfl 0 [] (.inl ⟨rfl, rfl⟩) ep q0 q1 bK bR) (by kernel_rfl) (by kernel_rfl) (List.Sublist.refl _) (by kernel_rfl)
 intro ab ef t1 t2 t3 v1 v2 v3 ep io q0 q1 bK bR gT
 (refine zE 0 0 ?_; intro K5 ql hsz a ou)
 exact kD (Sy := []) (Dr := [(zc.S + 1, io)]) ql.post ql.ro a ql.hL 100 (rg 0 23) [23] (rg 2 22) (H (zc.S + 0) ab ef t1 t2 t3 v1 v2 v3 ep q0 q1 bK bR gT) (by kernel_rfl) (by kernel_rfl) (by decide) (List.Sublist.map _ (gT ▸ List.filter_sublist)) (by kernel_rfl)
theorem DM (a1 a2 : Addr) (x y : Nat) (tx ty : Tok) (xs ys : List Value) (h : y < x) :
  af w b 2 (.call (.builtin "tuple.__gt__") ⟨[.ref a1, .ref a2], []⟩) [(a1, aj (.int x tx :: xs)), (a2, aj (.int y ty :: ys))] []
   (X := Unit) (fun _ => True) (fun y => .ok (.ret (.bool true))) (fun _ => [(a1, aj (.int x tx :: xs)), (a2, aj (.int y ty :: ys))]) (fun _ => []) := by
 have cB : ¬ ((Value.int (x : Int) tx) = .int (y : Int) ty) := fun e => by injection e with e1 _; lia
 exists zA, 5, 19007552, zd, zc, a0
 exists dT, ah (ah (ah (bf (b5 cB))))
 exists yg, 2, 2
 refine zK [] ((bu (x : Int) (y : Int) tx ty).cO (by lia)) @fun _ n2 t2 _ _ _ _ => ?_
 exists yg, 3, 2
 exists zH, 1, 0, [], (dU (x : Int) (y : Int) tx ty).ck (by exact j7), _, n3, t3
 exact zM 2 [] (fun _ => ())
theorem DN (a1 a2 : Addr) (x y : Nat) (tx ty : Tok) (xs ys : List Value) (h : y < x) (z0 : Nat) (r0 : Tok) :
  af w b 2 (.call (.builtin "tuple.__gt__") ⟨[.ref a1, .ref a2], []⟩) [(a1, aj (.int z0 r0 :: .int x tx :: xs)), (a2, aj (.int z0 r0 :: .int y ty :: ys))] []
   (X := Unit) (fun _ => True) (fun y => .ok (.ret (.bool true))) (fun _ => [(a1, aj (.int z0 r0 :: .int x tx :: xs)), (a2, aj (.int z0 r0 :: .int y ty :: ys))]) (fun _ => []) := by
 have cB : ¬ ((Value.int (x : Int) tx) = .int (y : Int) ty) := fun e => by injection e with e1 _; lia
 exists zA, 5, 19007552, zd, zc, a0
 exists dT, ah (ah (ah (bt (cy rfl))))
 exists zg, 1, 0
 exists dT, ah (ah (ah (bf (b5 cB))))
 exists yg, 2, 2
 refine zK [] ((bu (x : Int) (y : Int) tx ty).cO (by lia)) @fun _ n2 t2 _ _ _ _ => ?_
 exists yg, 3, 2
 exists zH, 1, 0, [], (dU (x : Int) (y : Int) tx ty).ck (by exact j7), _, n3, t3
 exact zM 2 [] (fun _ => ())
theorem DO (a1 a2 : Addr) (x y : Nat) (tx ty : Tok) (xs ys : List Value) (h : y < x) (z0 : Nat) (r0 : Tok) (z1 : Nat) (r1 : Tok) :
  af w b 2 (.call (.builtin "tuple.__gt__") ⟨[.ref a1, .ref a2], []⟩) [(a1, aj (.int z0 r0 :: .int z1 r1 :: .int x tx :: xs)), (a2, aj (.int z0 r0 :: .int z1 r1 :: .int y ty :: ys))] []
   (X := Unit) (fun _ => True) (fun y => .ok (.ret (.bool true))) (fun _ => [(a1, aj (.int z0 r0 :: .int z1 r1 :: .int x tx :: xs)), (a2, aj (.int z0 r0 :: .int z1 r1 :: .int y ty :: ys))]) (fun _ => []) := by
 have cB : ¬ ((Value.int (x : Int) tx) = .int (y : Int) ty) := fun e => by injection e with e1 _; lia
 exists zA, 5, 19007552, zd, zc, a0
 exists dT, ah (ah (ah (bt (cy rfl))))
 exists zg, 1, 0
 exists dT, ah (ah (ah (bt (cy rfl))))
 exists zg, 1, 0
 exists dT, ah (ah (ah (bf (b5 cB))))
 exists yg, 2, 2
 refine zK [] ((bu (x : Int) (y : Int) tx ty).cO (by lia)) @fun _ n2 t2 _ _ _ _ => ?_
 exists yg, 3, 2
 exists zH, 1, 0, [], (dU (x : Int) (y : Int) tx ty).ck (by exact j7), _, n3, t3
 exact zM 2 [] (fun _ => ())
theorem DP (a1 a2 : Addr) (x y : Nat) (tx ty : Tok) (xs ys : List Value) (h : y < x) (z0 : Nat) (r0 : Tok) (z1 : Nat) (r1 : Tok) (z2 : Nat) (r2 : Tok) :
  af w b 2 (.call (.builtin "tuple.__gt__") ⟨[.ref a1, .ref a2], []⟩) [(a1, aj (.int z0 r0 :: .int z1 r1 :: .int z2 r2 :: .int x tx :: xs)), (a2, aj (.int z0 r0 :: .int z1 r1 :: .int z2 r2 :: .int y ty :: ys))] []
   (X := Unit) (fun _ => True) (fun y => .ok (.ret (.bool true))) (fun _ => [(a1, aj (.int z0 r0 :: .int z1 r1 :: .int z2 r2 :: .int x tx :: xs)), (a2, aj (.int z0 r0 :: .int z1 r1 :: .int z2 r2 :: .int y ty :: ys))]) (fun _ => []) := by
 have cB : ¬ ((Value.int (x : Int) tx) = .int (y : Int) ty) := fun e => by injection e with e1 _; lia
 exists zA, 5, 19007552, zd, zc, a0
 exists dT, ah (ah (ah (bt (cy rfl))))
 exists zg, 1, 0
 exists dT, ah (ah (ah (bt (cy rfl))))
 exists zg, 1, 0
 exists dT, ah (ah (ah (bt (cy rfl))))
 exists zg, 1, 0
 exists dT, ah (ah (ah (bf (b5 cB))))
 exists yg, 2, 2
 refine zK [] ((bu (x : Int) (y : Int) tx ty).cO (by lia)) @fun _ n2 t2 _ _ _ _ => ?_
 exists yg, 3, 2
 exists zH, 1, 0, [], (dU (x : Int) (y : Int) tx ty).ck (by exact j7), _, n3, t3
 exact zM 2 [] (fun _ => ())
theorem DQ (a1 a2 : Addr) (x y : Nat) (tx ty : Tok) (xs ys : List Value) (h : y < x) (z0 : Nat) (r0 : Tok) (z1 : Nat) (r1 : Tok) (z2 : Nat) (r2 : Tok) (z3 : Nat) (r3 : Tok) :
  af w b 2 (.call (.builtin "tuple.__gt__") ⟨[.ref a1, .ref a2], []⟩) [(a1, aj (.int z0 r0 :: .int z1 r1 :: .int z2 r2 :: .int z3 r3 :: .int x tx :: xs)), (a2, aj (.int z0 r0 :: .int z1 r1 :: .int z2 r2 :: .int z3 r3 :: .int y ty :: ys))] []
   (X := Unit) (fun _ => True) (fun y => .ok (.ret (.bool true))) (fun _ => [(a1, aj (.int z0 r0 :: .int z1 r1 :: .int z2 r2 :: .int z3 r3 :: .int x tx :: xs)), (a2, aj (.int z0 r0 :: .int z1 r1 :: .int z2 r2 :: .int z3 r3 :: .int y ty :: ys))]) (fun _ => []) := by
 have cB : ¬ ((Value.int (x : Int) tx) = .int (y : Int) ty) := fun e => by injection e with e1 _; lia
 exists zA, 5, 19007552, zd, zc, a0
 exists dT, ah (ah (ah (bt (cy rfl))))
 exists zg, 1, 0
 exists dT, ah (ah (ah (bt (cy rfl))))
 exists zg, 1, 0
 exists dT, ah (ah (ah (bt (cy rfl))))
 exists zg, 1, 0
 exists dT, ah (ah (ah (bt (cy rfl))))
 exists zg, 1, 0
 exists dT, ah (ah (ah (bf (b5 cB))))
 exists yg, 2, 2
 refine zK [] ((bu (x : Int) (y : Int) tx ty).cO (by lia)) @fun _ n2 t2 _ _ _ _ => ?_
 exists yg, 3, 2
 exists zH, 1, 0, [], (dU (x : Int) (y : Int) tx ty).ck (by exact j7), _, n3, t3
 exact zM 2 [] (fun _ => ())
set_option smartUnfolding true
theorem DR (p q : Ct) (h : ij p q) (h5 : p.c.length ≤ 5) :
  af w b 2 (.call (.builtin "tuple.__gt__") ⟨[.ref q.a, .ref p.a], []⟩) [q.K, p.K] []
   (X := Unit) (fun _ => True) (fun y => .ok (.ret (.bool true))) (fun _ => [q.K, p.K]) (fun _ => []) := by
 obtain ⟨pre, x, tx, xs, y, ty, ys, h1, h2, h3⟩ := h
 obtain ⟨pa, pc⟩ := p
 obtain ⟨qa, qc⟩ := q
 dsimp only at h1 h2 h5
 subst h1 h2
 unfold Ct.K
 rcases pre with _ | ⟨⟨z0, r0⟩, _ | ⟨⟨z1, r1⟩, _ | ⟨⟨z2, r2⟩, _ | ⟨⟨z3, r3⟩, _ | ⟨⟨z4, r4⟩, l⟩⟩⟩⟩⟩
 ·exact DM qa pa y x ty tx (ag ys) (ag xs) h3
 ·exact DN qa pa y x ty tx (ag ys) (ag xs) h3 z0 r0
 ·exact DO qa pa y x ty tx (ag ys) (ag xs) h3 z0 r0 z1 r1
 ·exact DP qa pa y x ty tx (ag ys) (ag xs) h3 z0 r0 z1 r1 z2 r2
 ·exact DQ qa pa y x ty tx (ag ys) (ag xs) h3 z0 r0 z1 r1 z2 r2 z3 r3
 ·simp at h5; try omega
theorem Gx {l : List Ct} (nd : ((l.map Ct.K).map (·.1)).Nodup) {i j : Nat} (ov : i ≠ j) {p q : Ct} (hp : l[i]? = some p) (hq : l[j]? = some q) : (([q.K, p.K] : KS).map (·.1)).Nodup := by
 have cB : p.a ≠ q.a := fun e => by
  rw [List.map_map] at nd
  obtain ⟨hi, hp⟩ := List.getElem?_eq_some_iff.mp hp
  obtain ⟨hj, hq⟩ := List.getElem?_eq_some_iff.mp hq
  have qT := List.pairwise_iff_getElem.mp nd
  rcases Nat.lt_or_gt_of_ne ov with h | h
  ·refine qT i j (by simpa using hi) (by simpa using hj) h ?_
   simp only [List.getElem_map, Function.comp_apply]
   rw [hp, hq]; exact e
  ·refine qT j i (by simpa using hj) (by simpa using hi) h ?_
   simp only [List.getElem_map, Function.comp_apply]
   rw [hp, hq]; exact e.symm
 simp only [List.map_cons, List.map_nil, List.nodup_cons, List.mem_singleton, List.not_mem_nil, not_false_eq_true, List.nodup_nil, and_true]
 exact fun e => cB e.symm
set_option smartUnfolding false
theorem wh (it a kI : Addr) (ab : List Ct) (hR : ab.Pairwise ij) (h5 : ∀ p ∈ ab, p.c.length ≤ 5) (ex : Nat) (pl : Ct) (dg : ab.getLast? = some pl) :
 ∀ (m j : Nat) (hm : j + 1 + m = ab.length) (u : Ct) (hp : ab[j]? = some u) (eb : Nat),
  af w b 6 (.builtin "max.loop" ⟨[.ref it, .none, .ref kI], []⟩) [(it, bx a (j + 1 : Nat)), (kI, aa [.ref u.a, .ref u.a] eb), (a, aa (refs ab) ex)] (ab.map Ct.K)
   (X := Obj × Nat) (fun y => True) (fun y => .ok (.ret (.ref pl.a))) (fun y => [(it, y.1), (kI, aa [] y.2), (a, aa (refs ab) ex)]) (fun _ => []) := by
 intro m
 induction m with
 | zero =>
  intro j hm u hp eb
  have bj : (refs ab)[j + 1]? = none := by simp [refs]; exact c6
  have iu : u = pl := by
   rw [List.getLast?_eq_getElem?, show ab.length - 1 = j by lia, hp] at dg
   exact Option.some.inj dg
  subst iu
  exists zA, 3, 5103, zd, zc, a0
  exists zH, 6, 382656, [0, 2], gM it a (refs ab) ex (j + 1) bj, y, n1, t1, G1, a1, _, _
  exact zM 3 [] (fun o => (y.2.2, o.ep 1))
 | succ m ih =>
  intro j hm u hp eb
  obtain ⟨q, hq⟩ : ∃ q, ab[j + 1]? = some q := ⟨ab[j + 1]'(by exact cf), List.getElem?_eq_getElem (by exact cf)⟩
  have bj : (refs ab)[j + 1]? = some (.ref q.a) := by rw [cX, hq]; rfl
  have K9 : ij u q := by
   obtain ⟨hi, tE⟩ := List.getElem?_eq_some_iff.mp hp
   obtain ⟨hj, rh⟩ := List.getElem?_eq_some_iff.mp hq
   rw [← tE, ← rh]
   exact List.pairwise_iff_getElem.mp hR j (j + 1) hi hj (by lia)
  have dn := List.mem_of_getElem? hp
  have DS := List.mem_of_getElem? hq
  have ax := ih (j + 1) (by exact cJ) q hq
  (refine zB ?_; intro zd zc a0)
  have ry := Gx zc.ro.nd (Nat.ne_of_lt (Nat.lt_succ_self j)) hp hq
  exists zg, 3, 5103
  exists zH, 1, 0, [0, 2], dv it a (refs ab) ex (j + 1) (.ref q.a) bj, _, n1, t1, G1, a1, _, _
  refine sQ fun p below l => ?_
  exists ao, ah (Ko (fB (ah (fB (ah (bf (d5 l zc.hL (by kernel_rfl))))))))
  exists zg, 0, 0
  (refine zQ 0 0 q.K (Ct.fk DS) ?_; intro ou)
  (refine zQ 0 0 u.K (Ct.fk dn) ?_; intro ou)
  refine zX q.K (Ct.fk DS) ?_
  exists yg, 2, 2
  refine zJ (Ta := []) [] [] [q.K, u.K] (af.iL (K := []) (T1 := [q.K, u.K]) (T := []) (Kf := fun (_ : Unit) => []) (DR u q K9 (h5 u dn))) (fun x hx => by
   rcases List.mem_cons.mp hx with rfl | hx
   ·exact Ct.fk DS
   ·rw [List.mem_singleton.mp hx]; exact Ct.fk dn) ry @fun _ n2 t2 G2 a2 _ _ => ?_
  exists zg, 7, 257653
  exact zO [0, 1, 2] (ax eb)
theorem Jl (a : Addr) (ab : List Ct) (hR : ab.Pairwise ij) (h5 : ∀ p ∈ ab, p.c.length ≤ 5) (ex : Nat) (pl : Ct) (dg : ab.getLast? = some pl) :
  af w b 8 (.call (.builtin "max") ⟨[.ref a], []⟩) [(a, aa (refs ab) ex)] (ab.map Ct.K)
   (X := Unit) (fun y => True) (fun y => .ok (.ret (.ref pl.a))) (fun y => [(a, aa (refs ab) ex)]) (fun _ => []) := by
 have h0 : 0 < ab.length := by
  cases ab with
  | nil => cases dg
  | cons q l => simp
 obtain ⟨u, hu⟩ : ∃ q, ab[0]? = some q := ⟨ab[0]'h0, List.getElem?_eq_getElem h0⟩
 have bj : (refs ab)[0]? = some (.ref u.a) := by rw [cX, hu]; rfl
 (refine zB ?_; intro zd zc a0)
 exists yg, 15, 201328953450130101
 exists zH, 4, 260204, [1, 0], dv (zc.S + 0) a (refs ab) ex 0 (.ref u.a) bj, _, n1, t1, G1, a1, _, _
 refine aZ (Ta := []) zc.ro a1 zc.hL [1, 2, 0] [] (ab.map Ct.K) (wh (zc.S + 0) a (zc.S + 1) ab hR h5 ex pl dg (ab.length - 1) 0 (by lia) u hu 1) (by kernel_rfl) (by kernel_rfl) (fun _ h => h) zc.ro.nd fun y n5 t5 G5 a5 _ _ => ?_
 exact eA zc.post zc.ro a5 1 [] () trivial rfl (by kernel_rfl) (by kernel_rfl) (by kernel_rfl) ak
noncomputable abbrev iY (w : World) (S aX aC aW aU aF : Addr) (q0 q1 sX sC sU : Obj) (k0 k1 k2 k3 k4 k5 k6 k7 tt tf : Tok) (ba : Int) (front : Str) (v4 v5 v6 v7 : Value) (mT : List DictEntry) (ep wd hd ends : Nat) (tw th tn : Tok) (ws : List (Str × Tok)) (ew : Nat) (ab : List Ct) (ef : Nat) (kk dr lo hi co st fa su le : Obj) (r : KS) : KS :=
 mR w S aX aC aW q0 q1 sX (uC w k0 k1 k2 k3 k4 tt tf aX aU ba front v4 ([fe w "cut" k5 v5, fe w "rows" k6 v6, fe w "fits" k7 v7] ++ mT) ep) wd hd ends tw th tn sC ws ew (ai (.ref aF)) dr lo hi co st fa su le kk ([(aU, sU), (aF, aa (refs ab) ef)] ++ r)
theorem Gy (S aX aC aW aU aF : Addr) (q0 q1 sX sC sU : Obj) (k0 k1 k2 k3 k4 k5 k6 k7 tt tf : Tok) (ba : Int) (front : Str) (v4 v5 v6 v7 : Value) (ep wd hd ends : Nat) (tw th tn : Tok) (ws : List (Str × Tok)) (cZ : ∀ q ∈ ws, c7 q.1) (h6 : ws.length = 6) (ew : Nat) (ab : List Ct) (iW : ∀ p ∈ ab, kN p) (hR : ab.Pairwise ij) (ef : Nat)
 (pl : Ct) (dg : ab.getLast? = some pl) (cP : front = iA (ws.map (·.1)) pl.n)
 (H : bH w b 28 (bN S) .base (b6 S 12) (iY w S aX aC aW aU aF q0 q1 sX sC sU k0 k1 k2 k3 k4 k5 k6 k7 tt tf ba front v4 v5 v6 v7 [] ep wd hd ends tw th tn ws ew ab ef ae ae ae ae ae ae ae ae ae []) (ab.map Ct.K)) :
  bH w b 28 (bN S) .base (b6 S 11) (iY w S aX aC aW aU aF q0 q1 sX sC sU k0 k1 k2 k3 k4 k5 k6 k7 tt tf ba front v4 v5 v6 v7 [] ep wd hd ends tw th tn ws ew ab ef ae ae ae ae ae ae ae ae ae []) (ab.map Ct.K) := by
 have DT : pl ∈ ab := List.mem_of_getLast? dg
 have Jm := Ct.fk DT
 have fb := iW pl DT
 exists zE, 17, 35006395055, zd, zc, hsz, a
 exists zI, 4, 101, [22], Jl aF ab hR (fun p hp => (iW p hp).len) ef pl dg, _, n1, t1
 refine zJ (Ta := [(aW, aa (aE ws) ew)]) [] [20] [pl.K] (rows aW pl.a ws cZ h6 ew pl.c fb.len fb.up) (fun q hq => by rw [List.mem_singleton.mp hq]; exact Jm) (ly _) @fun y2 n2 t2 G2 a2 fC _ => ?_
 obtain ⟨aR, rs, er⟩ := y2
 dsimp only at fC
 obtain ⟨yq, DH, ru, DI, DJ⟩ := oA cZ h6 fb fC hd wd
 have uE := fun b ts => r5 (w := w) (b := b) aR ts rs er ru yq DH
 rw [DJ, ← cP] at uE
 exists zg, 3, 2
 refine zK [23] (uE _ (zc.s.toks + 0)) @fun y5 n5 t5 _ _ _ _ => ?_
 exists yg, 4, 2
 exists zH, 0, 0, [], (Gv front front tf y5).cO (by simp), _, n6, t6, G6, a6, _, _
 exact e9 zc.post zc.ro a6 zc.hL 21 [] H (by kernel_rfl) (by kernel_rfl) (by kernel_rfl)
noncomputable abbrev sq (i j : Nat) (ti tj : Tok) : Obj := ⟨.type "slice", none, .fields ⟨[.int i ti, .int j tj, .none]⟩, ⟨[]⟩⟩
set_option smartUnfolding true
theorem rz (xs : List Value) (i j : Nat) (ov : i ≤ j) : j0 xs i j = ⟨(xs.drop i).take (j - i)⟩ := by
 have h := lr xs (min i xs.length) (min j xs.length) (by lia) (Nat.min_le_right _ _)
 unfold j0 at h ⊢
 rw [gZ xs (min i xs.length) (Nat.min_le_right _ _), gZ xs (min j xs.length) (Nat.min_le_right _ _)] at h
 rw [kK, kK]
 refine Eq.trans h ?_
 congr 1
 by_cases h1 : i ≤ xs.length
 ·rw [Nat.min_eq_left h1]
  by_cases h2 : j ≤ xs.length
  ·rw [Nat.min_eq_left h2]
  ·rw [Nat.min_eq_right (by exact rN), List.take_of_length_le (by simp), List.take_of_length_le (by simp; lia)]
 ·rw [Nat.min_eq_right (show xs.length ≤ i by exact rN), List.drop_eq_nil_of_le (Nat.le_refl _), List.drop_eq_nil_of_le (show xs.length ≤ i by exact rN)]; simp
set_option smartUnfolding false
theorem Gz (a1 so : Addr) (xs : List Value) (e1 : Nat) (i j : Nat) (ti tj : Tok) (ov : i ≤ j) (h : xs.length ≤ 1000) :
  af w b 10 (.call (.builtin "list.__getitem__") ⟨[.ref a1, .ref so], []⟩) [(a1, aa xs e1), (so, sq i j ti tj)] []
   (X := Addr × Nat) (fun _ => True) (fun y => .ok (.ret (.ref y.1))) (fun y => [(a1, aa xs e1), (so, sq i j ti tj)]) (fun y => [(y.1, nv (j0 xs i j) y.2)]) := by
 have h' : ¬ (j0 xs i j).size > sizeLine := by
  rw [rz xs i j ov]
  exact H0 xs i (j - i) h
 exists zA, 8, 1610331632552, zd, zc, a0
 exists dT, ah (mF h' (by kernel_rfl))
 exists zg, 2, 0
 exact zM 2 [true] (fun o => (zc.S, o.ep 2)) (hs := (ar (Nat.le_refl _) ak))
set_option smartUnfolding true
theorem Jn (a1 so : Addr) (xs : List Value) (e1 : Nat) (i j : Nat) (ti tj : Tok) (ov : i ≤ j) (h : xs.length ≤ 1000) :
  af w b 10 (.call (.builtin "list.__getitem__") ⟨[.ref a1, .ref so], []⟩) [(a1, aa xs e1), (so, sq i j ti tj)] []
   (X := Addr × Nat) (fun _ => True) (fun y => .ok (.ret (.ref y.1))) (fun y => [(a1, aa xs e1), (so, sq i j ti tj)]) (fun y => [(y.1, aa ((xs.drop i).take (j - i)) y.2)]) :=
 (Gz a1 so xs e1 i j ti tj ov h).map id (fun _ h => h) (fun _ => rfl) (fun _ => rfl) (fun y => by rw [rz xs i j ov]; rfl)
noncomputable def yu : Expr := ip (dq cn 12)
noncomputable def oV (D L : Addr) : Env := dP [(Str.ofString ".0", .local), (Str.ofString "x", .local), (Str.ofString "len", .globalImplicit), (Str.ofString "folds", .cell)] D [(Str.ofString "folds", L + 7)] cU L
set_option smartUnfolding false
theorem AJ (it a D L acc : Addr) {jj mm : Nat} (T : KS) (K : KS) {n : Nat} {X : Type} {P : X → Prop} {rf : X → Result} {Kf Nf : X → KS}
  (H : af w b n (bF yu it acc (oV D L)) ((it, bx a jj) :: K) T P rf Kf Nf) : af w b (n + 1) (cx yu it acc (oV D L)) ((it, bx a jj) :: K) T P rf Kf Nf := by
 obtain ⟨w, c, rfl⟩ := d6 w
 cases c
 ·(refine zB ?_; intro zd zc a0)
  exists yg, 12, 31881502602
  exact zS H (Nat.ble_eq_true_of_le (Nat.le_succ _))
 ·exists zA, 2, 2, zd, zc, a0
  exact zS H (Nat.ble_eq_true_of_le (Nat.le_succ _))
noncomputable def Dq (w : World) (x : String) (z : Bool) (o : Obj) : Prop := (z = true ∧ o = ay [] 0) ∨ (z = false ∧ ∃ tk v ep, o = ay [av (au w x) x tk v] ep)
set_option smartUnfolding true
theorem Dq.next {w : World} {x : String} {j : Nat} (tk : Tok) (v : Value) (ep : Nat) : Dq w x (decide (j + 1 = 0)) (ay [av (au w x) x tk v] ep) := .inr ⟨by simp, tk, v, ep, rfl⟩
theorem Dq.zero {w : World} {x : String} {o : Obj} (h : Dq w x true o) : o = ay [] 0 := by
 rcases h with ⟨_, h⟩ | ⟨h, _⟩
 ·exact h
 ·cases h
theorem Dq.some {w : World} {x : String} {o : Obj} {n : Nat} (h : Dq w x (decide (n = 0)) o) (hn : ¬ n = 0) : ∃ tk v ep, o = ay [av (au w x) x tk v] ep := by
 rcases h with ⟨h, _⟩ | ⟨_, h⟩
 ·exact absurd (of_decide_eq_true h) hn
 ·exact h
noncomputable def jM (ab : List Ct) (x : Int) : Ct := (ab[(x % (ab.length : Int)).toNat]?).getD ⟨0, []⟩
theorem rA {ab : List Ct} (h0 : 0 < ab.length) (x : Int) : ab[(x % (ab.length : Int)).toNat]? = some (jM ab x) := by
 have h1 := Int.emod_nonneg x (b := (ab.length : Int)) (by lia)
 have h2 := Int.emod_lt_of_pos x (b := (ab.length : Int)) (by lia)
 have h3 : (x % (ab.length : Int)).toNat < ab.length := by lia
 unfold jM
 rw [List.getElem?_eq_getElem h3]; rfl
set_option smartUnfolding false
theorem DU (it a D L aF acc : Addr) (ab : List Ct) (h0 : 0 < ab.length) (ik : ab.length ≤ 10) (ef : Nat) (ds : List (Int × Tok)) (DV : ds.length ≤ 10) (ex : Nat) (F : List Ct) :
 ∀ (m j : Nat) (hm : j + m = ds.length) (o : Obj) (hD : Dq w "x" (decide (j = 0)) o) (done : List Ct) (hF : done ++ (ds.drop j).map (fun q => jM ab q.1) = F) (hd : done.length + m ≤ 100) (ed : Nat),
  af w b 12 (bF yu it acc (oV D L)) [(it, bx a j), (D, o), (acc, aa (refs done) ed), (a, aa (aQ ds) ex), (L + 7, ai (.ref aF)), (aF, aa (refs ab) ef)] []
   (X := Nat × Obj × Obj) (fun y => Dq w "x" (decide (ds.length = 0)) y.2.1) (fun _ => .ok .next)
   (fun y => [(it, y.2.2), (D, y.2.1), (acc, aa (refs F) y.1), (a, aa (aQ ds) ex), (L + 7, ai (.ref aF)), (aF, aa (refs ab) ef)]) (fun _ => []) := by
 intro m
 induction m with
 | zero =>
  intro j hm o hD done hF hd ed
  have bj : (aQ ds)[j]? = none := by simp [aQ]; exact c6
  have qq : done = F := by rw [← hF, List.drop_eq_nil_of_le (by exact c6)]; simp
  subst qq
  exists zA, 3, 102, zd, zc, a0
  exists zH, 2, 9, [0, 3], gM it a (aQ ds) ex j bj, y, n1, t1
  exact zM 6 [] (fun _ => (ed, o, y.2.2)) (hx := (by (with_reducible conv => whnf); rw [show ds.length = j by exact km]; exact hD))
 | succ m ih =>
  intro j hm o hD done hF hd ed
  obtain ⟨⟨x, tx⟩, hx⟩ : ∃ q, ds[j]? = some q := ⟨ds[j]'(by exact cf), List.getElem?_eq_getElem (by exact cf)⟩
  have bj : (aQ ds)[j]? = some (.int x tx) := by rw [lx, hx]; rfl
  have hg : (refs ab)[(x % (ab.length : Int)).toNat]? = some (.ref (jM ab x).a) := by rw [cX, rA h0]; rfl
  have hi : (x % (ab.length : Int)).toNat ≤ 1000 := by
   have := Int.emod_lt_of_pos x (b := (ab.length : Int)) (by lia); lia
  have ax : ∀ (tk : Tok) (v : Value) (ep : Nat) (b8 : Nat), af w b 12 (bF yu it acc (oV D L)) [(it, bx a (j + 1 : Nat)), (D, ay [av (au w "x") "x" tk v] ep), (acc, aa (refs done ++ [.ref (jM ab x).a]) b8), (a, aa (aQ ds) ex), (L + 7, ai (.ref aF)), (aF, aa (refs ab) ef)] []
   (X := Nat × Obj × Obj) (fun y => Dq w "x" (decide (ds.length = 0)) y.2.1) (fun _ => .ok .next)
   (fun y => [(it, y.2.2), (D, y.2.1), (acc, aa (refs F) y.1), (a, aa (aQ ds) ex), (L + 7, ai (.ref aF)), (aF, aa (refs ab) ef)]) (fun _ => []) := by
   intro tk v ep b8
   have h := ih (j + 1) (by exact cJ) (ay [av (au w "x") "x" tk v] ep) (Dq.next tk v ep) (done ++ [jM ab x]) (by rw [← hF, bI ds _ j _ hx]; simp) (by simp; exact gm) b8
   rw [ig] at h
   exact h
  have hlen : (refs ab).length = ab.length := by simp [refs]
  have Ik := fun b => kG (w := w) (b := b) aF (refs ab) ef (by rw [hlen]; exact aO)
  rw [hlen] at Ik
  rcases hD with ⟨_, rfl⟩ | ⟨_, tk, v, ep, rfl⟩
  all_goals
   exists zA, 3, 102, zd, zc, a0
   exists zH, 18, 1656569140153, [0, 3], dv it a (aQ ds) ex j (.int x tx) bj, _, n1, t1
   exists zH, 3, 2, [5], Ik _, y2, n2, t2
   exists zH, 5, 267857, [], intMod x ab.length tx y2 (by lia) (by exact aO), y3, n3, t3
   exists zH, 1, 2, [5], dt aF (refs ab) ef _ _ hg hi y3, _, n4, t4
   exists zH, 1, 2, [2], bT acc (refs done) ed (.ref (jM ab x).a) (by simp [refs]; exact gA), y5, n5, t5
  ·exact zO [0, 1, 2, 3, 4, 5] (ax (t1 + 0) (.int x tx) 1 y5)
  ·exact zO [0, 1, 2, 3, 4, 5] (ax tk (.int x tx) ep y5)
noncomputable def qr : Expr → Expr × List Comprehension × Scope × Pos
 | .ListComp a g c d => (a, g, c, d)
 | e => (e, [], default, default)
noncomputable abbrev jy (e : Expr) : Prop := e = .ListComp (qr e).1 (⟨(oa (qr e).2.1).1.target, (oa (qr e).2.1).1.iter, (oa (qr e).2.1).1.ifs, 0⟩ :: (oa (qr e).2.1).2) (qr e).2.2.1 (qr e).2.2.2
theorem iF {e : Expr} (h : jy e) : ∃ el tg ix ifs gs sc ps, e = .ListComp el (⟨tg, ix, ifs, 0⟩ :: gs) sc ps := ⟨_, _, _, _, _, _, _, h⟩
theorem rB (e : Expr) (hE : jy e) (env : Env) (it a acc : Addr) (jj : Nat) (T : KS) (K : KS) {n : Nat} {X : Type} {P : X → Prop} {rf : X → Result} {Kf Nf : X → KS}
  (H : af w b n (bF e it acc env) ((it, bx a jj) :: K) T P rf Kf Nf) : af w b (n + 1) (cx e it acc env) ((it, bx a jj) :: K) T P rf Kf Nf := by
 obtain ⟨w, c, rfl⟩ := d6 w
 obtain ⟨el, tg, ix, ifs, gs, sc, ps, rfl⟩ := iF hE
 cases c
 ·(refine zB ?_; intro zd zc a0)
  exists yg, 12, 31881502602
  exact zS H (Nat.ble_eq_true_of_le (Nat.le_succ _))
 ·exists zA, 2, 2, zd, zc, a0
  exact zS H (Nat.ble_eq_true_of_le (Nat.le_succ _))
theorem AK (e : Expr) (hE : jy e) (env : Env) (it acc : Addr) (jj mm : Nat) (T : KS) (K : KS) {n : Nat} {X : Type} {P : X → Prop} {rf : X → Result} {Kf Nf : X → KS}
  (H : af w b n (bF e it acc env) ((it, cj jj mm) :: K) T P rf Kf Nf) : af w b (n + 1) (cx e it acc env) ((it, cj jj mm) :: K) T P rf Kf Nf := by
 obtain ⟨w, c, rfl⟩ := d6 w
 obtain ⟨el, tg, ix, ifs, gs, sc, ps, rfl⟩ := iF hE
 cases c
 ·(refine zB ?_; intro zd zc a0)
  exists yg, 12, 31881502602
  exact zS H (Nat.ble_eq_true_of_le (Nat.le_succ _))
 ·exists zA, 2, 2, zd, zc, a0
  exact zS H (Nat.ble_eq_true_of_le (Nat.le_succ _))
theorem GA (n : Nat) (e : Expr) (hE : jy e) (env : Env) (it a acc : Addr) (vals : List Value) (ex N : Nat) (hN : N = vals.length) (T : KS) :
  af w b (n + 1) (bF e it acc env) [(it, bx a N), (a, aa vals ex)] T (X := Obj) (fun _ => True) (fun _ => .ok .next) (fun y => [(it, y), (a, aa vals ex)]) (fun _ => []) := by
 have bj : vals[N]? = none := by rw [hN]; simp
 obtain ⟨el, tg, ix, ifs, gs, sc, ps, rfl⟩ := iF hE
 exists zA, 3, 102, zd, zc, a0
 exists zH, 2, 5, [0, 1], gM it a vals ex N bj, y, n1, t1
 exact zM 2 [] (fun _ => y.2.2)
theorem GB (n : Nat) (e : Expr) (hE : jy e) (env : Env) (it acc : Addr) (j : Nat) (T : KS) :
  af w b (n + 3) (bF e it acc env) [(it, cj j 0)] T (X := Obj) (fun _ => True) (fun _ => .ok .next) (fun y => [(it, y)]) (fun _ => []) := by
 obtain ⟨el, tg, ix, ifs, gs, sc, ps, rfl⟩ := iF hE
 exists zA, 3, 102, zd, zc, a0
 exists zH, 2, 4, [0], g9 it j, y, n1, t1
 exact zM 1 [] (fun _ => y.2.2)
set_option smartUnfolding true
noncomputable def jN (N j : Nat) : Obj := cj j (N - j)
theorem gN {N j m : Nat} (h : N - j = m) : jN N j = cj j m := by unfold jN; rw [h]
structure CE where
 l : List Value
 ed : Nat
 o : Obj
 it : Obj
noncomputable def bP (w : World) (b : Bool) (n : Nat) (e : Expr) (env : Env) (it acc D : Addr) (N : Nat) (io : Nat → Obj) (Ki Kx T : KS) (Vq : Bool → Obj → Prop) (S : Nat → List Value → Prop) (j : Nat) : Prop :=
 ∀ (o : Obj), Vq (decide (j = 0)) o → ∀ (done : List Value) (ed : Nat), S j done →
  af w b n (bF e it acc env) ([(it, io j)] ++ Ki ++ ([(acc, aa done ed), (D, o)] ++ Kx)) T
   (X := CE) (fun y => S N y.l ∧ Vq (decide (N = 0)) y.o) (fun _ => .ok .next) (fun y => [(it, y.it)] ++ Ki ++ ([(acc, aa y.l y.ed), (D, y.o)] ++ Kx)) (fun _ => [])
section
variable {w : World} {b : Bool} {n : Nat} {e : Expr} {env : Env} {it acc D : Addr} {N : Nat} {io : Nat → Obj} {Ki Kx T : KS} {Vq : Bool → Obj → Prop} {S : Nat → List Value → Prop}
theorem bP.all (fin : bP w b n e env it acc D N io Ki Kx T Vq S N) (turn : ∀ j < N, bP w b n e env it acc D N io Ki Kx T Vq S (j + 1) → bP w b n e env it acc D N io Ki Kx T Vq S j) :
  ∀ m j, j + m = N → bP w b n e env it acc D N io Ki Kx T Vq S j := by
 intro m
 induction m with
 | zero => intro j hj; rw [show j = N by lia]; exact fin
 | succ m ih => intro j hj; exact turn j (by exact cf) (ih (j + 1) (by exact cJ))
theorem bP.fin (h : ∀ T, af w b n (bF e it acc env) ([(it, io N)] ++ Ki) T (X := Obj) (fun _ => True) (fun _ => .ok .next) (fun y => [(it, y)] ++ Ki) (fun _ => [])) : bP w b n e env it acc D N io Ki Kx T Vq S N :=
 fun o ho done ed hS => ((h (([(acc, aa done ed), (D, o)] ++ Kx) ++ T)).HK).map (fun y => ⟨done, ed, o, y⟩) (fun _ _ => ⟨hS, ho⟩) (fun _ => rfl) (fun _ => rfl) (fun _ => rfl)
end
section
variable {w : World} {b : Bool} {n : Nat} {e : Expr} {env : Env} {it acc D a : Addr} {vals : List Value} {ex N : Nat} {Kx T : KS} {Vq : Bool → Obj → Prop} {S : Nat → List Value → Prop}
theorem bP.uG (hE : jy e) (h0 : S 0 []) {o : Obj} (ho : Vq true o)
  (turn : ∀ j < vals.length, bP w b (n + 1) e env it acc D vals.length (fun j => bx a j) [(a, aa vals ex)] Kx T Vq S (j + 1) → bP w b (n + 1) e env it acc D vals.length (fun j => bx a j) [(a, aa vals ex)] Kx T Vq S j) :
  af w b (n + 2) (cx e it acc env) ([(it, bx a (0 : Nat)), (a, aa vals ex), (acc, aa [] 0), (D, o)] ++ Kx) T
   (X := CE) (fun y => S vals.length y.l ∧ Vq (decide (vals.length = 0)) y.o) (fun _ => .ok .next) (fun y => [(it, y.it), (a, aa vals ex), (acc, aa y.l y.ed), (D, y.o)] ++ Kx) (fun _ => []) :=
 rB e hE env it a acc 0 T _ (bP.all (bP.fin fun T => GA n e hE env it a acc vals ex vals.length rfl T) turn vals.length 0 (by exact Nat.zero_add _) o ho [] 0 h0)
theorem bP.uH (hE : jy e) (h0 : S 0 []) {o : Obj} (ho : Vq true o)
  (turn : ∀ j < N, bP w b (n + 3) e env it acc D N (jN N) [] Kx T Vq S (j + 1) → bP w b (n + 3) e env it acc D N (jN N) [] Kx T Vq S j) :
  af w b (n + 4) (cx e it acc env) ([(it, cj 0 N), (acc, aa [] 0), (D, o)] ++ Kx) T
   (X := CE) (fun y => S N y.l ∧ Vq (decide (N = 0)) y.o) (fun _ => .ok .next) (fun y => [(it, y.it), (acc, aa y.l y.ed), (D, y.o)] ++ Kx) (fun _ => []) :=
 AK e hE env it acc 0 N T _ (bP.all (io := jN N) (Ki := []) (bP.fin fun T => by
  have h := GB (w := w) (b := b) n e hE env it acc N T
  rw [gN (Nat.sub_self N)]
  exact h) turn N 0 (by exact Nat.zero_add _) o ho [] 0 h0)
end
set_option smartUnfolding false
theorem uI (a : Addr) (c1 : Nat) (q1 : Tok) (h1 : c1 ≤ 9) :
  af w b 8 (.call (.ref 240) ⟨[.ref a], []⟩) [(a, aj [.int (c1 : Nat) q1])] []
   (X := Tok) (fun v => True) (fun v => .ok (.ret (.int ((10 * 0 + c1) : Nat) v))) (fun _ => [(a, aj [.int (c1 : Nat) q1])]) (fun _ => []) := by
 exists zA, 8, 382551, zd, zc, a0
 (refine yP 49 2457171264807251636005964884391262882651 (bB la 240 zc.S []) ?_; intro ou)
 exists zH, 37, 230593311055080235219081627553, [], cL 0 (zc.s.toks + 4) (zc.s.toks + 1) (by decide), y1, n1, t1
 exact zM 1 [] (fun o => o.rt)
theorem uJ (a : Addr) (c1 c2 : Nat) (q1 q2 : Tok) (h1 : c1 ≤ 9) (h2 : c2 ≤ 9) :
  af w b 8 (.call (.ref 240) ⟨[.ref a], []⟩) [(a, aj [.int (c1 : Nat) q1, .int (c2 : Nat) q2])] []
   (X := Tok) (fun v => True) (fun v => .ok (.ret (.int ((10 * (10 * 0 + c1) + c2) : Nat) v))) (fun _ => [(a, aj [.int (c1 : Nat) q1, .int (c2 : Nat) q2])]) (fun _ => []) := by
 have k1 : (10 * 0 + c1) ≤ 1000000 := by lia
 exists zA, 8, 382551, zd, zc, a0
 (refine yP 49 2457171264807251636005964884391262882651 (bB la 240 zc.S []) ?_; intro ou)
 exists zH, 39, 7862948047383205235219081627553, [], cL 0 (zc.s.toks + 4) (zc.s.toks + 1) (by decide), y1, n1, t1
 exists zH, 37, 230593311055080235219081627553, [], cL (10 * 0 + c1) (t1 + 3) (t1 + 0) k1, y2, n2, t2
 exact zM 1 [] (fun o => o.rt)
theorem uK (a : Addr) (c1 c2 c3 : Nat) (q1 q2 q3 : Tok) (h1 : c1 ≤ 9) (h2 : c2 ≤ 9) (h3 : c3 ≤ 9) :
  af w b 8 (.call (.ref 240) ⟨[.ref a], []⟩) [(a, aj [.int (c1 : Nat) q1, .int (c2 : Nat) q2, .int (c3 : Nat) q3])] []
   (X := Tok) (fun v => True) (fun v => .ok (.ret (.int ((10 * (10 * (10 * 0 + c1) + c2) + c3) : Nat) v))) (fun _ => [(a, aj [.int (c1 : Nat) q1, .int (c2 : Nat) q2, .int (c3 : Nat) q3])]) (fun _ => []) := by
 have k1 : (10 * 0 + c1) ≤ 1000000 := by lia
 have k2 : (10 * (10 * 0 + c1) + c2) ≤ 1000000 := by lia
 exists zA, 8, 382551, zd, zc, a0
 (refine yP 49 2457171264807251636005964884391262882651 (bB la 240 zc.S []) ?_; intro ou)
 exists zH, 39, 7862948047383205235219081627553, [], cL 0 (zc.s.toks + 4) (zc.s.toks + 1) (by decide), y1, n1, t1
 exists zH, 39, 7862948047383205235219081627553, [], cL (10 * 0 + c1) (t1 + 3) (t1 + 0) k1, y2, n2, t2
 exists zH, 37, 230593311055080235219081627553, [], cL (10 * (10 * 0 + c1) + c2) (t2 + 3) (t2 + 0) k2, y3, n3, t3
 exact zM 1 [] (fun o => o.rt)
theorem uL (a : Addr) (c1 c2 c3 c4 : Nat) (q1 q2 q3 q4 : Tok) (h1 : c1 ≤ 9) (h2 : c2 ≤ 9) (h3 : c3 ≤ 9) (h4 : c4 ≤ 9) :
  af w b 8 (.call (.ref 240) ⟨[.ref a], []⟩) [(a, aj [.int (c1 : Nat) q1, .int (c2 : Nat) q2, .int (c3 : Nat) q3, .int (c4 : Nat) q4])] []
   (X := Tok) (fun v => True) (fun v => .ok (.ret (.int ((10 * (10 * (10 * (10 * 0 + c1) + c2) + c3) + c4) : Nat) v))) (fun _ => [(a, aj [.int (c1 : Nat) q1, .int (c2 : Nat) q2, .int (c3 : Nat) q3, .int (c4 : Nat) q4])]) (fun _ => []) := by
 have k1 : (10 * 0 + c1) ≤ 1000000 := by lia
 have k2 : (10 * (10 * 0 + c1) + c2) ≤ 1000000 := by lia
 have k3 : (10 * (10 * (10 * 0 + c1) + c2) + c3) ≤ 1000000 := by lia
 exists zA, 8, 382551, zd, zc, a0
 (refine yP 49 2457171264807251636005964884391262882651 (bB la 240 zc.S []) ?_; intro ou)
 exists zH, 39, 7862948047383205235219081627553, [], cL 0 (zc.s.toks + 4) (zc.s.toks + 1) (by decide), y1, n1, t1
 exists zH, 39, 7862948047383205235219081627553, [], cL (10 * 0 + c1) (t1 + 3) (t1 + 0) k1, y2, n2, t2
 exists zH, 39, 7862948047383205235219081627553, [], cL (10 * (10 * 0 + c1) + c2) (t2 + 3) (t2 + 0) k2, y3, n3, t3
 exists zH, 37, 230593311055080235219081627553, [], cL (10 * (10 * (10 * 0 + c1) + c2) + c3) (t3 + 3) (t3 + 0) k3, y4, n4, t4
 exact zM 1 [] (fun o => o.rt)
theorem uM (a : Addr) (c1 c2 c3 c4 c5 : Nat) (q1 q2 q3 q4 q5 : Tok) (h1 : c1 ≤ 9) (h2 : c2 ≤ 9) (h3 : c3 ≤ 9) (h4 : c4 ≤ 9) (h5 : c5 ≤ 9) :
  af w b 8 (.call (.ref 240) ⟨[.ref a], []⟩) [(a, aj [.int (c1 : Nat) q1, .int (c2 : Nat) q2, .int (c3 : Nat) q3, .int (c4 : Nat) q4, .int (c5 : Nat) q5])] []
   (X := Tok) (fun v => True) (fun v => .ok (.ret (.int ((10 * (10 * (10 * (10 * (10 * 0 + c1) + c2) + c3) + c4) + c5) : Nat) v))) (fun _ => [(a, aj [.int (c1 : Nat) q1, .int (c2 : Nat) q2, .int (c3 : Nat) q3, .int (c4 : Nat) q4, .int (c5 : Nat) q5])]) (fun _ => []) := by
 have k1 : (10 * 0 + c1) ≤ 1000000 := by lia
 have k2 : (10 * (10 * 0 + c1) + c2) ≤ 1000000 := by lia
 have k3 : (10 * (10 * (10 * 0 + c1) + c2) + c3) ≤ 1000000 := by lia
 have k4 : (10 * (10 * (10 * (10 * 0 + c1) + c2) + c3) + c4) ≤ 1000000 := by lia
 exists zA, 8, 382551, zd, zc, a0
 (refine yP 49 2457171264807251636005964884391262882651 (bB la 240 zc.S []) ?_; intro ou)
 exists zH, 39, 7862948047383205235219081627553, [], cL 0 (zc.s.toks + 4) (zc.s.toks + 1) (by decide), y1, n1, t1
 exists zH, 39, 7862948047383205235219081627553, [], cL (10 * 0 + c1) (t1 + 3) (t1 + 0) k1, y2, n2, t2
 exists zH, 39, 7862948047383205235219081627553, [], cL (10 * (10 * 0 + c1) + c2) (t2 + 3) (t2 + 0) k2, y3, n3, t3
 exists zH, 39, 7862948047383205235219081627553, [], cL (10 * (10 * (10 * 0 + c1) + c2) + c3) (t3 + 3) (t3 + 0) k3, y4, n4, t4
 exists zH, 37, 230593311055080235219081627553, [], cL (10 * (10 * (10 * (10 * 0 + c1) + c2) + c3) + c4) (t4 + 3) (t4 + 0) k4, y5, n5, t5
 exact zM 1 [] (fun o => o.rt)
theorem wj (a : Addr) (c1 c2 : Nat) (q1 q2 : Tok) (e : Nat) :
  af w b 10 (.call (.builtin "sorted") ⟨[.ref a], []⟩) [(a, aa [.int c1 q1, .int c2 q2] e)] []
   (X := Addr × Nat × List (Nat × Tok)) (fun y => y.2.2.map (·.1) = dS [c1, c2]) (fun y => .ok (.ret (.ref y.1))) (fun _ => [(a, aa [.int c1 q1, .int c2 q2] e)]) (fun y => [(y.1, aa (ag y.2.2) y.2.1)]) := by
 exists zA, 5, 252551, zd, zc, a0
 exists dT, pN (by kernel_rfl)
 exists yg, 20, 1270527742229704081632652
 refine zW (bc c2 c1 q2 q1) 7 510204 6 510204 ?_ ?_
 ·intro h1 n1 t1 _ _ ou
  exact zM 1 [false, true] (fun o => (zc.S + 1, o.ep 2, [(c2, q2), (c1, q1)])) (hx := (bA 2 [c1, c2] rfl [1, 0] (by decide) (HO (bh h1)))) (hs := (ar (Nat.le_add_right _ _) ak))
 ·intro h1 n1 t1 _ _ ou
  exact zM 1 [false, true] (fun o => (zc.S + 1, o.ep 2, [(c1, q1), (c2, q2)])) (hx := (bA 2 [c1, c2] rfl [0, 1] (by decide) (HO (bl h1)))) (hs := (ar (Nat.le_add_right _ _) ak))
theorem wk (a : Addr) (c1 c2 c3 : Nat) (q1 q2 q3 : Tok) (e : Nat) :
  af w b 10 (.call (.builtin "sorted") ⟨[.ref a], []⟩) [(a, aa [.int c1 q1, .int c2 q2, .int c3 q3] e)] []
   (X := Addr × Nat × List (Nat × Tok)) (fun y => y.2.2.map (·.1) = dS [c1, c2, c3]) (fun y => .ok (.ret (.ref y.1))) (fun _ => [(a, aa [.int c1 q1, .int c2 q2, .int c3 q3] e)]) (fun y => [(y.1, aa (ag y.2.2) y.2.1)]) := by
 exists zA, 5, 252551, zd, zc, a0
 exists dT, pN (by kernel_rfl)
 exists yg, 20, 1270527742229704081632652
 refine yW (bc c2 c1 q2 q1) 3 2 2 2 ?_ ?_
 ·intro h1 n1 t1 _ _ ou
  refine yW (bc c3 c2 q3 q2) 6 510204 2 2 ?_ ?_
  ·intro h2 n2 t2 _ _ ou
   exact zM 1 [false, true] (fun o => (zc.S + 1, o.ep 2, [(c3, q3), (c2, q2), (c1, q1)])) (hx := (bA 3 [c1, c2, c3] rfl [2, 1, 0] (by decide) (kz (bh h2) (bh h1)))) (hs := (ar (Nat.le_add_right _ _) ak))
  ·intro h2 n2 t2 _ _ ou
   refine yW (bc c2 c3 q2 q3) 2 2 6 510204 ?_ ?_
   ·intro h3 n3 t3 _ _ ou
    refine yW (bc c3 c1 q3 q1) 3 2 6 510204 ?_ ?_
    ·intro h4 n4 t4 _ _ ou
     refine yW (bc c3 c1 q3 q1) 2 2 6 510204 ?_ ?_
     ·intro h5 n5 t5 _ _ ou
      refine yW (bc c3 c2 q3 q2) 6 510204 6 510204 ?_ ?_
      ·intro h6 n6 t6 _ _ ou
       exact zM 1 [false, true] (fun o => (zc.S + 1, o.ep 2, [(c3, q3), (c2, q2), (c1, q1)])) (hx := (bA 3 [c1, c2, c3] rfl [2, 1, 0] (by decide) (kz (bh h6) (bh h1)))) (hs := (ar (Nat.le_add_right _ _) ak))
      ·intro h6 n6 t6 _ _ ou
       exact zM 1 [false, true] (fun o => (zc.S + 1, o.ep 2, [(c2, q2), (c3, q3), (c1, q1)])) (hx := (bA 3 [c1, c2, c3] rfl [1, 2, 0] (by decide) (kz (bl h6) (bh h5)))) (hs := (ar (Nat.le_add_right _ _) ak))
     ·intro h5 n5 t5 _ _ ou
      exact zM 1 [false, true] (fun o => (zc.S + 1, o.ep 2, [(c2, q2), (c1, q1), (c3, q3)])) (hx := (bA 3 [c1, c2, c3] rfl [1, 0, 2] (by decide) (kz (bh h1) (bl h5)))) (hs := (ar (Nat.le_add_right _ _) ak))
    ·intro h4 n4 t4 _ _ ou
     exact zM 1 [false, true] (fun o => (zc.S + 1, o.ep 2, [(c2, q2), (c1, q1), (c3, q3)])) (hx := (bA 3 [c1, c2, c3] rfl [1, 0, 2] (by decide) (kz (bh h1) (bl h4)))) (hs := (ar (Nat.le_add_right _ _) ak))
   ·intro h3 n3 t3 _ _ ou
    exact zM 1 [false, true] (fun o => (zc.S + 1, o.ep 2, [(c2, q2), (c3, q3), (c1, q1)])) (hx := (bA 3 [c1, c2, c3] rfl [1, 2, 0] (by decide) (kz (bl h2) (Nat.le_trans (bl h3) (bh h1))))) (hs := (ar (Nat.le_add_right _ _) ak))
 ·intro h1 n1 t1 _ _ ou
  refine yW (bc c3 c2 q3 q2) 2 2 6 510204 ?_ ?_
  ·intro h2 n2 t2 _ _ ou
   refine yW (bc c1 c2 q1 q2) 3 2 7 510204 ?_ ?_
   ·intro h3 n3 t3 _ _ ou
    refine yW (bc c3 c2 q3 q2) 2 2 6 510204 ?_ ?_
    ·intro h4 n4 t4 _ _ ou
     refine yW (bc c3 c1 q3 q1) 6 510204 6 510204 ?_ ?_
     ·intro h5 n5 t5 _ _ ou
      exact zM 1 [false, true] (fun o => (zc.S + 1, o.ep 2, [(c3, q3), (c1, q1), (c2, q2)])) (hx := (bA 3 [c1, c2, c3] rfl [2, 0, 1] (by decide) (kz (bh h5) (bh h3)))) (hs := (ar (Nat.le_add_right _ _) ak))
     ·intro h5 n5 t5 _ _ ou
      exact zM 1 [false, true] (fun o => (zc.S + 1, o.ep 2, [(c1, q1), (c3, q3), (c2, q2)])) (hx := (bA 3 [c1, c2, c3] rfl [0, 2, 1] (by decide) (kz (bl h5) (bh h4)))) (hs := (ar (Nat.le_add_right _ _) ak))
    ·intro h4 n4 t4 _ _ ou
     exact zM 1 [false, true] (fun o => (zc.S + 1, o.ep 2, [(c1, q1), (c2, q2), (c3, q3)])) (hx := (bA 3 [c1, c2, c3] rfl [0, 1, 2] (by decide) (kz (bh h3) (bl h4)))) (hs := (ar (Nat.le_add_right _ _) ak))
   ·intro h3 n3 t3 _ _ ou
    exact zM 1 [false, true] (fun o => (zc.S + 1, o.ep 2, [(c3, q3), (c1, q1), (c2, q2)])) (hx := (bA 3 [c1, c2, c3] rfl [2, 0, 1] (by decide) (kz (Nat.le_trans (bh h2) (bl h3)) (bl h1)))) (hs := (ar (Nat.le_add_right _ _) ak))
  ·intro h2 n2 t2 _ _ ou
   exact zM 1 [false, true] (fun o => (zc.S + 1, o.ep 2, [(c1, q1), (c2, q2), (c3, q3)])) (hx := (bA 3 [c1, c2, c3] rfl [0, 1, 2] (by decide) (kz (bl h1) (bl h2)))) (hs := (ar (Nat.le_add_right _ _) ak))
theorem wm (a : Addr) (c1 c2 c3 c4 : Nat) (q1 q2 q3 q4 : Tok) (e : Nat) :
  af w b 10 (.call (.builtin "sorted") ⟨[.ref a], []⟩) [(a, aa [.int c1 q1, .int c2 q2, .int c3 q3, .int c4 q4] e)] []
   (X := Addr × Nat × List (Nat × Tok)) (fun y => y.2.2.map (·.1) = dS [c1, c2, c3, c4]) (fun y => .ok (.ret (.ref y.1))) (fun _ => [(a, aa [.int c1 q1, .int c2 q2, .int c3 q3, .int c4 q4] e)]) (fun y => [(y.1, aa (ag y.2.2) y.2.1)]) := by
 exists zA, 5, 252551, zd, zc, a0
 exists dT, pN (by kernel_rfl)
 exists yg, 20, 1270527742229704081632652
 refine yW (bc c2 c1 q2 q1) 3 2 2 2 ?_ ?_
 ·intro h1 n1 t1 _ _ ou
  refine yW (bc c3 c2 q3 q2) 2 2 2 2 ?_ ?_
  ·intro h2 n2 t2 _ _ ou
   refine yW (bc c4 c3 q4 q3) 6 510204 2 2 ?_ ?_
   ·intro h3 n3 t3 _ _ ou
    exact zM 1 [false, true] (fun o => (zc.S + 1, o.ep 2, [(c4, q4), (c3, q3), (c2, q2), (c1, q1)])) (hx := (bA 4 [c1, c2, c3, c4] rfl [3, 2, 1, 0] (by decide) (cg (bh h3) (bh h2) (bh h1)))) (hs := (ar (Nat.le_add_right _ _) ak))
   ·intro h3 n3 t3 _ _ ou
    refine yW (bc c3 c4 q3 q4) 2 2 6 510204 ?_ ?_
    ·intro h4 n4 t4 _ _ ou
     refine yW (bc c4 c1 q4 q1) 3 2 6 510204 ?_ ?_
     ·intro h5 n5 t5 _ _ ou
      refine yW (bc c4 c2 q4 q2) 2 2 2 2 ?_ ?_
      ·intro h6 n6 t6 _ _ ou
       refine yW (bc c4 c3 q4 q3) 6 510204 6 510204 ?_ ?_
       ·intro h7 n7 t7 _ _ ou
        exact zM 1 [false, true] (fun o => (zc.S + 1, o.ep 2, [(c4, q4), (c3, q3), (c2, q2), (c1, q1)])) (hx := (bA 4 [c1, c2, c3, c4] rfl [3, 2, 1, 0] (by decide) (cg (bh h7) (bh h2) (bh h1)))) (hs := (ar (Nat.le_add_right _ _) ak))
       ·intro h7 n7 t7 _ _ ou
        exact zM 1 [false, true] (fun o => (zc.S + 1, o.ep 2, [(c3, q3), (c4, q4), (c2, q2), (c1, q1)])) (hx := (bA 4 [c1, c2, c3, c4] rfl [2, 3, 1, 0] (by decide) (cg (bl h7) (bh h6) (bh h1)))) (hs := (ar (Nat.le_add_right _ _) ak))
      ·intro h6 n6 t6 _ _ ou
       refine yW (bc c4 c1 q4 q1) 6 510204 6 510204 ?_ ?_
       ·intro h7 n7 t7 _ _ ou
        exact zM 1 [false, true] (fun o => (zc.S + 1, o.ep 2, [(c3, q3), (c2, q2), (c4, q4), (c1, q1)])) (hx := (bA 4 [c1, c2, c3, c4] rfl [2, 1, 3, 0] (by decide) (cg (bh h2) (bl h6) (bh h7)))) (hs := (ar (Nat.le_add_right _ _) ak))
       ·intro h7 n7 t7 _ _ ou
        exact zM 1 [false, true] (fun o => (zc.S + 1, o.ep 2, [(c3, q3), (c2, q2), (c1, q1), (c4, q4)])) (hx := (bA 4 [c1, c2, c3, c4] rfl [2, 1, 0, 3] (by decide) (cg (bh h2) (bh h1) (bl h7)))) (hs := (ar (Nat.le_add_right _ _) ak))
     ·intro h5 n5 t5 _ _ ou
      exact zM 1 [false, true] (fun o => (zc.S + 1, o.ep 2, [(c3, q3), (c2, q2), (c1, q1), (c4, q4)])) (hx := (bA 4 [c1, c2, c3, c4] rfl [2, 1, 0, 3] (by decide) (cg (bh h2) (bh h1) (bl h5)))) (hs := (ar (Nat.le_add_right _ _) ak))
    ·intro h4 n4 t4 _ _ ou
     exact zM 1 [false, true] (fun o => (zc.S + 1, o.ep 2, [(c3, q3), (c4, q4), (c2, q2), (c1, q1)])) (hx := (bA 4 [c1, c2, c3, c4] rfl [2, 3, 1, 0] (by decide) (cg (bl h3) (Nat.le_trans (bl h4) (bh h2)) (bh h1)))) (hs := (ar (Nat.le_add_right _ _) ak))
  ·intro h2 n2 t2 _ _ ou
   refine yW (bc c2 c3 q2 q3) 2 2 2 2 ?_ ?_
   ·intro h3 n3 t3 _ _ ou
    refine yW (bc c3 c1 q3 q1) 3 2 2 2 ?_ ?_
    ·intro h4 n4 t4 _ _ ou
     refine yW (bc c3 c1 q3 q1) 2 2 2 2 ?_ ?_
     ·intro h5 n5 t5 _ _ ou
      refine yW (bc c3 c2 q3 q2) 2 2 2 2 ?_ ?_
      ·intro h6 n6 t6 _ _ ou
       refine yW (bc c4 c2 q4 q2) 2 2 2 2 ?_ ?_
       ·intro h7 n7 t7 _ _ ou
        refine yW (bc c4 c3 q4 q3) 6 510204 6 510204 ?_ ?_
        ·intro h8 n8 t8 _ _ ou
         exact zM 1 [false, true] (fun o => (zc.S + 1, o.ep 2, [(c4, q4), (c3, q3), (c2, q2), (c1, q1)])) (hx := (bA 4 [c1, c2, c3, c4] rfl [3, 2, 1, 0] (by decide) (cg (bh h8) (bh h6) (bh h1)))) (hs := (ar (Nat.le_add_right _ _) ak))
        ·intro h8 n8 t8 _ _ ou
         exact zM 1 [false, true] (fun o => (zc.S + 1, o.ep 2, [(c3, q3), (c4, q4), (c2, q2), (c1, q1)])) (hx := (bA 4 [c1, c2, c3, c4] rfl [2, 3, 1, 0] (by decide) (cg (bl h8) (bh h7) (bh h1)))) (hs := (ar (Nat.le_add_right _ _) ak))
       ·intro h7 n7 t7 _ _ ou
        refine yW (bc c4 c1 q4 q1) 6 510204 6 510204 ?_ ?_
        ·intro h8 n8 t8 _ _ ou
         exact zM 1 [false, true] (fun o => (zc.S + 1, o.ep 2, [(c3, q3), (c2, q2), (c4, q4), (c1, q1)])) (hx := (bA 4 [c1, c2, c3, c4] rfl [2, 1, 3, 0] (by decide) (cg (bh h6) (bl h7) (bh h8)))) (hs := (ar (Nat.le_add_right _ _) ak))
        ·intro h8 n8 t8 _ _ ou
         exact zM 1 [false, true] (fun o => (zc.S + 1, o.ep 2, [(c3, q3), (c2, q2), (c1, q1), (c4, q4)])) (hx := (bA 4 [c1, c2, c3, c4] rfl [2, 1, 0, 3] (by decide) (cg (bh h6) (bh h1) (bl h8)))) (hs := (ar (Nat.le_add_right _ _) ak))
      ·intro h6 n6 t6 _ _ ou
       refine yW (bc c4 c3 q4 q3) 2 2 2 2 ?_ ?_
       ·intro h7 n7 t7 _ _ ou
        refine yW (bc c4 c2 q4 q2) 6 510204 6 510204 ?_ ?_
        ·intro h8 n8 t8 _ _ ou
         exact zM 1 [false, true] (fun o => (zc.S + 1, o.ep 2, [(c4, q4), (c2, q2), (c3, q3), (c1, q1)])) (hx := (bA 4 [c1, c2, c3, c4] rfl [3, 1, 2, 0] (by decide) (cg (bh h8) (bl h6) (bh h5)))) (hs := (ar (Nat.le_add_right _ _) ak))
        ·intro h8 n8 t8 _ _ ou
         exact zM 1 [false, true] (fun o => (zc.S + 1, o.ep 2, [(c2, q2), (c4, q4), (c3, q3), (c1, q1)])) (hx := (bA 4 [c1, c2, c3, c4] rfl [1, 3, 2, 0] (by decide) (cg (bl h8) (bh h7) (bh h5)))) (hs := (ar (Nat.le_add_right _ _) ak))
       ·intro h7 n7 t7 _ _ ou
        refine yW (bc c4 c1 q4 q1) 6 510204 6 510204 ?_ ?_
        ·intro h8 n8 t8 _ _ ou
         exact zM 1 [false, true] (fun o => (zc.S + 1, o.ep 2, [(c2, q2), (c3, q3), (c4, q4), (c1, q1)])) (hx := (bA 4 [c1, c2, c3, c4] rfl [1, 2, 3, 0] (by decide) (cg (bl h6) (bl h7) (bh h8)))) (hs := (ar (Nat.le_add_right _ _) ak))
        ·intro h8 n8 t8 _ _ ou
         exact zM 1 [false, true] (fun o => (zc.S + 1, o.ep 2, [(c2, q2), (c3, q3), (c1, q1), (c4, q4)])) (hx := (bA 4 [c1, c2, c3, c4] rfl [1, 2, 0, 3] (by decide) (cg (bl h6) (bh h5) (bl h8)))) (hs := (ar (Nat.le_add_right _ _) ak))
     ·intro h5 n5 t5 _ _ ou
      refine yW (bc c4 c1 q4 q1) 2 2 2 2 ?_ ?_
      ·intro h6 n6 t6 _ _ ou
       refine yW (bc c4 c2 q4 q2) 6 510204 6 510204 ?_ ?_
       ·intro h7 n7 t7 _ _ ou
        exact zM 1 [false, true] (fun o => (zc.S + 1, o.ep 2, [(c4, q4), (c2, q2), (c1, q1), (c3, q3)])) (hx := (bA 4 [c1, c2, c3, c4] rfl [3, 1, 0, 2] (by decide) (cg (bh h7) (bh h1) (bl h5)))) (hs := (ar (Nat.le_add_right _ _) ak))
       ·intro h7 n7 t7 _ _ ou
        exact zM 1 [false, true] (fun o => (zc.S + 1, o.ep 2, [(c2, q2), (c4, q4), (c1, q1), (c3, q3)])) (hx := (bA 4 [c1, c2, c3, c4] rfl [1, 3, 0, 2] (by decide) (cg (bl h7) (bh h6) (bl h5)))) (hs := (ar (Nat.le_add_right _ _) ak))
      ·intro h6 n6 t6 _ _ ou
       refine yW (bc c4 c3 q4 q3) 6 510204 6 510204 ?_ ?_
       ·intro h7 n7 t7 _ _ ou
        exact zM 1 [false, true] (fun o => (zc.S + 1, o.ep 2, [(c2, q2), (c1, q1), (c4, q4), (c3, q3)])) (hx := (bA 4 [c1, c2, c3, c4] rfl [1, 0, 3, 2] (by decide) (cg (bh h1) (bl h6) (bh h7)))) (hs := (ar (Nat.le_add_right _ _) ak))
       ·intro h7 n7 t7 _ _ ou
        exact zM 1 [false, true] (fun o => (zc.S + 1, o.ep 2, [(c2, q2), (c1, q1), (c3, q3), (c4, q4)])) (hx := (bA 4 [c1, c2, c3, c4] rfl [1, 0, 2, 3] (by decide) (cg (bh h1) (bl h5) (bl h7)))) (hs := (ar (Nat.le_add_right _ _) ak))
    ·intro h4 n4 t4 _ _ ou
     refine yW (bc c4 c3 q4 q3) 3 2 6 510204 ?_ ?_
     ·intro h5 n5 t5 _ _ ou
      refine yW (bc c4 c1 q4 q1) 2 2 2 2 ?_ ?_
      ·intro h6 n6 t6 _ _ ou
       refine yW (bc c4 c2 q4 q2) 6 510204 6 510204 ?_ ?_
       ·intro h7 n7 t7 _ _ ou
        exact zM 1 [false, true] (fun o => (zc.S + 1, o.ep 2, [(c4, q4), (c2, q2), (c1, q1), (c3, q3)])) (hx := (bA 4 [c1, c2, c3, c4] rfl [3, 1, 0, 2] (by decide) (cg (bh h7) (bh h1) (bl h4)))) (hs := (ar (Nat.le_add_right _ _) ak))
       ·intro h7 n7 t7 _ _ ou
        exact zM 1 [false, true] (fun o => (zc.S + 1, o.ep 2, [(c2, q2), (c4, q4), (c1, q1), (c3, q3)])) (hx := (bA 4 [c1, c2, c3, c4] rfl [1, 3, 0, 2] (by decide) (cg (bl h7) (bh h6) (bl h4)))) (hs := (ar (Nat.le_add_right _ _) ak))
      ·intro h6 n6 t6 _ _ ou
       refine yW (bc c4 c3 q4 q3) 6 510204 6 510204 ?_ ?_
       ·intro h7 n7 t7 _ _ ou
        exact zM 1 [false, true] (fun o => (zc.S + 1, o.ep 2, [(c2, q2), (c1, q1), (c4, q4), (c3, q3)])) (hx := (bA 4 [c1, c2, c3, c4] rfl [1, 0, 3, 2] (by decide) (cg (bh h1) (bl h6) (bh h7)))) (hs := (ar (Nat.le_add_right _ _) ak))
       ·intro h7 n7 t7 _ _ ou
        exact zM 1 [false, true] (fun o => (zc.S + 1, o.ep 2, [(c2, q2), (c1, q1), (c3, q3), (c4, q4)])) (hx := (bA 4 [c1, c2, c3, c4] rfl [1, 0, 2, 3] (by decide) (cg (bh h1) (bl h4) (bl h7)))) (hs := (ar (Nat.le_add_right _ _) ak))
     ·intro h5 n5 t5 _ _ ou
      exact zM 1 [false, true] (fun o => (zc.S + 1, o.ep 2, [(c2, q2), (c1, q1), (c3, q3), (c4, q4)])) (hx := (bA 4 [c1, c2, c3, c4] rfl [1, 0, 2, 3] (by decide) (cg (bh h1) (bl h4) (bl h5)))) (hs := (ar (Nat.le_add_right _ _) ak))
   ·intro h3 n3 t3 _ _ ou
    refine yW (bc c4 c3 q4 q3) 6 510204 2 2 ?_ ?_
    ·intro h4 n4 t4 _ _ ou
     exact zM 1 [false, true] (fun o => (zc.S + 1, o.ep 2, [(c4, q4), (c2, q2), (c3, q3), (c1, q1)])) (hx := (bA 4 [c1, c2, c3, c4] rfl [3, 1, 2, 0] (by decide) (cg (Nat.le_trans (bh h4) (bl h3)) (bl h2) (Nat.le_trans (bl h3) (bh h1))))) (hs := (ar (Nat.le_add_right _ _) ak))
    ·intro h4 n4 t4 _ _ ou
     refine yW (bc c3 c4 q3 q4) 2 2 6 510204 ?_ ?_
     ·intro h5 n5 t5 _ _ ou
      refine yW (bc c4 c1 q4 q1) 3 2 6 510204 ?_ ?_
      ·intro h6 n6 t6 _ _ ou
       refine yW (bc c4 c3 q4 q3) 2 2 2 2 ?_ ?_
       ·intro h7 n7 t7 _ _ ou
        refine yW (bc c4 c2 q4 q2) 6 510204 6 510204 ?_ ?_
        ·intro h8 n8 t8 _ _ ou
         exact zM 1 [false, true] (fun o => (zc.S + 1, o.ep 2, [(c4, q4), (c2, q2), (c3, q3), (c1, q1)])) (hx := (bA 4 [c1, c2, c3, c4] rfl [3, 1, 2, 0] (by decide) (cg (bh h8) (bl h2) (Nat.le_trans (bh h5) (bh h6))))) (hs := (ar (Nat.le_add_right _ _) ak))
        ·intro h8 n8 t8 _ _ ou
         exact zM 1 [false, true] (fun o => (zc.S + 1, o.ep 2, [(c2, q2), (c4, q4), (c3, q3), (c1, q1)])) (hx := (bA 4 [c1, c2, c3, c4] rfl [1, 3, 2, 0] (by decide) (cg (bl h8) (bh h7) (Nat.le_trans (bh h5) (bh h6))))) (hs := (ar (Nat.le_add_right _ _) ak))
       ·intro h7 n7 t7 _ _ ou
        refine yW (bc c4 c1 q4 q1) 6 510204 6 510204 ?_ ?_
        ·intro h8 n8 t8 _ _ ou
         exact zM 1 [false, true] (fun o => (zc.S + 1, o.ep 2, [(c2, q2), (c3, q3), (c4, q4), (c1, q1)])) (hx := (bA 4 [c1, c2, c3, c4] rfl [1, 2, 3, 0] (by decide) (cg (bl h2) (bl h7) (bh h8)))) (hs := (ar (Nat.le_add_right _ _) ak))
        ·intro h8 n8 t8 _ _ ou
         exact zM 1 [false, true] (fun o => (zc.S + 1, o.ep 2, [(c2, q2), (c3, q3), (c1, q1), (c4, q4)])) (hx := (bA 4 [c1, c2, c3, c4] rfl [1, 2, 0, 3] (by decide) (cg (bl h2) (Nat.le_trans (bl h7) (bh h6)) (bl h8)))) (hs := (ar (Nat.le_add_right _ _) ak))
      ·intro h6 n6 t6 _ _ ou
       exact zM 1 [false, true] (fun o => (zc.S + 1, o.ep 2, [(c2, q2), (c3, q3), (c1, q1), (c4, q4)])) (hx := (bA 4 [c1, c2, c3, c4] rfl [1, 2, 0, 3] (by decide) (cg (bl h2) (Nat.le_trans (bl h3) (bh h1)) (bl h6)))) (hs := (ar (Nat.le_add_right _ _) ak))
     ·intro h5 n5 t5 _ _ ou
      exact zM 1 [false, true] (fun o => (zc.S + 1, o.ep 2, [(c2, q2), (c3, q3), (c4, q4), (c1, q1)])) (hx := (bA 4 [c1, c2, c3, c4] rfl [1, 2, 3, 0] (by decide) (cg (bl h2) (bl h4) (Nat.le_trans (bl h5) (Nat.le_trans (bl h3) (bh h1)))))) (hs := (ar (Nat.le_add_right _ _) ak))
 ·intro h1 n1 t1 _ _ ou
  refine yW (bc c3 c2 q3 q2) 2 2 2 2 ?_ ?_
  ·intro h2 n2 t2 _ _ ou
   refine yW (bc c1 c2 q1 q2) 3 2 3 2 ?_ ?_
   ·intro h3 n3 t3 _ _ ou
    refine yW (bc c3 c2 q3 q2) 2 2 2 2 ?_ ?_
    ·intro h4 n4 t4 _ _ ou
     refine yW (bc c3 c1 q3 q1) 2 2 2 2 ?_ ?_
     ·intro h5 n5 t5 _ _ ou
      refine yW (bc c4 c1 q4 q1) 2 2 2 2 ?_ ?_
      ·intro h6 n6 t6 _ _ ou
       refine yW (bc c4 c3 q4 q3) 6 510204 6 510204 ?_ ?_
       ·intro h7 n7 t7 _ _ ou
        exact zM 1 [false, true] (fun o => (zc.S + 1, o.ep 2, [(c4, q4), (c3, q3), (c1, q1), (c2, q2)])) (hx := (bA 4 [c1, c2, c3, c4] rfl [3, 2, 0, 1] (by decide) (cg (bh h7) (bh h5) (bh h3)))) (hs := (ar (Nat.le_add_right _ _) ak))
       ·intro h7 n7 t7 _ _ ou
        exact zM 1 [false, true] (fun o => (zc.S + 1, o.ep 2, [(c3, q3), (c4, q4), (c1, q1), (c2, q2)])) (hx := (bA 4 [c1, c2, c3, c4] rfl [2, 3, 0, 1] (by decide) (cg (bl h7) (bh h6) (bh h3)))) (hs := (ar (Nat.le_add_right _ _) ak))
      ·intro h6 n6 t6 _ _ ou
       refine yW (bc c4 c2 q4 q2) 6 510204 6 510204 ?_ ?_
       ·intro h7 n7 t7 _ _ ou
        exact zM 1 [false, true] (fun o => (zc.S + 1, o.ep 2, [(c3, q3), (c1, q1), (c4, q4), (c2, q2)])) (hx := (bA 4 [c1, c2, c3, c4] rfl [2, 0, 3, 1] (by decide) (cg (bh h5) (bl h6) (bh h7)))) (hs := (ar (Nat.le_add_right _ _) ak))
       ·intro h7 n7 t7 _ _ ou
        exact zM 1 [false, true] (fun o => (zc.S + 1, o.ep 2, [(c3, q3), (c1, q1), (c2, q2), (c4, q4)])) (hx := (bA 4 [c1, c2, c3, c4] rfl [2, 0, 1, 3] (by decide) (cg (bh h5) (bh h3) (bl h7)))) (hs := (ar (Nat.le_add_right _ _) ak))
     ·intro h5 n5 t5 _ _ ou
      refine yW (bc c4 c3 q4 q3) 2 2 2 2 ?_ ?_
      ·intro h6 n6 t6 _ _ ou
       refine yW (bc c4 c1 q4 q1) 6 510204 6 510204 ?_ ?_
       ·intro h7 n7 t7 _ _ ou
        exact zM 1 [false, true] (fun o => (zc.S + 1, o.ep 2, [(c4, q4), (c1, q1), (c3, q3), (c2, q2)])) (hx := (bA 4 [c1, c2, c3, c4] rfl [3, 0, 2, 1] (by decide) (cg (bh h7) (bl h5) (bh h4)))) (hs := (ar (Nat.le_add_right _ _) ak))
       ·intro h7 n7 t7 _ _ ou
        exact zM 1 [false, true] (fun o => (zc.S + 1, o.ep 2, [(c1, q1), (c4, q4), (c3, q3), (c2, q2)])) (hx := (bA 4 [c1, c2, c3, c4] rfl [0, 3, 2, 1] (by decide) (cg (bl h7) (bh h6) (bh h4)))) (hs := (ar (Nat.le_add_right _ _) ak))
      ·intro h6 n6 t6 _ _ ou
       refine yW (bc c4 c2 q4 q2) 6 510204 6 510204 ?_ ?_
       ·intro h7 n7 t7 _ _ ou
        exact zM 1 [false, true] (fun o => (zc.S + 1, o.ep 2, [(c1, q1), (c3, q3), (c4, q4), (c2, q2)])) (hx := (bA 4 [c1, c2, c3, c4] rfl [0, 2, 3, 1] (by decide) (cg (bl h5) (bl h6) (bh h7)))) (hs := (ar (Nat.le_add_right _ _) ak))
       ·intro h7 n7 t7 _ _ ou
        exact zM 1 [false, true] (fun o => (zc.S + 1, o.ep 2, [(c1, q1), (c3, q3), (c2, q2), (c4, q4)])) (hx := (bA 4 [c1, c2, c3, c4] rfl [0, 2, 1, 3] (by decide) (cg (bl h5) (bh h4) (bl h7)))) (hs := (ar (Nat.le_add_right _ _) ak))
    ·intro h4 n4 t4 _ _ ou
     refine yW (bc c4 c2 q4 q2) 2 2 2 2 ?_ ?_
     ·intro h5 n5 t5 _ _ ou
      refine yW (bc c4 c1 q4 q1) 6 510204 6 510204 ?_ ?_
      ·intro h6 n6 t6 _ _ ou
       exact zM 1 [false, true] (fun o => (zc.S + 1, o.ep 2, [(c4, q4), (c1, q1), (c2, q2), (c3, q3)])) (hx := (bA 4 [c1, c2, c3, c4] rfl [3, 0, 1, 2] (by decide) (cg (bh h6) (bh h3) (bl h4)))) (hs := (ar (Nat.le_add_right _ _) ak))
      ·intro h6 n6 t6 _ _ ou
       exact zM 1 [false, true] (fun o => (zc.S + 1, o.ep 2, [(c1, q1), (c4, q4), (c2, q2), (c3, q3)])) (hx := (bA 4 [c1, c2, c3, c4] rfl [0, 3, 1, 2] (by decide) (cg (bl h6) (bh h5) (bl h4)))) (hs := (ar (Nat.le_add_right _ _) ak))
     ·intro h5 n5 t5 _ _ ou
      refine yW (bc c4 c3 q4 q3) 6 510204 6 510204 ?_ ?_
      ·intro h6 n6 t6 _ _ ou
       exact zM 1 [false, true] (fun o => (zc.S + 1, o.ep 2, [(c1, q1), (c2, q2), (c4, q4), (c3, q3)])) (hx := (bA 4 [c1, c2, c3, c4] rfl [0, 1, 3, 2] (by decide) (cg (bh h3) (bl h5) (bh h6)))) (hs := (ar (Nat.le_add_right _ _) ak))
      ·intro h6 n6 t6 _ _ ou
       exact zM 1 [false, true] (fun o => (zc.S + 1, o.ep 2, [(c1, q1), (c2, q2), (c3, q3), (c4, q4)])) (hx := (bA 4 [c1, c2, c3, c4] rfl [0, 1, 2, 3] (by decide) (cg (bh h3) (bl h4) (bl h6)))) (hs := (ar (Nat.le_add_right _ _) ak))
   ·intro h3 n3 t3 _ _ ou
    refine yW (bc c4 c3 q4 q3) 6 510204 2 2 ?_ ?_
    ·intro h4 n4 t4 _ _ ou
     exact zM 1 [false, true] (fun o => (zc.S + 1, o.ep 2, [(c4, q4), (c3, q3), (c1, q1), (c2, q2)])) (hx := (bA 4 [c1, c2, c3, c4] rfl [3, 2, 0, 1] (by decide) (cg (bh h4) (Nat.le_trans (bh h2) (bl h3)) (bl h1)))) (hs := (ar (Nat.le_add_right _ _) ak))
    ·intro h4 n4 t4 _ _ ou
     refine yW (bc c3 c4 q3 q4) 2 2 6 510204 ?_ ?_
     ·intro h5 n5 t5 _ _ ou
      refine yW (bc c4 c2 q4 q2) 3 2 6 510204 ?_ ?_
      ·intro h6 n6 t6 _ _ ou
       refine yW (bc c4 c1 q4 q1) 2 2 2 2 ?_ ?_
       ·intro h7 n7 t7 _ _ ou
        refine yW (bc c4 c3 q4 q3) 6 510204 6 510204 ?_ ?_
        ·intro h8 n8 t8 _ _ ou
         exact zM 1 [false, true] (fun o => (zc.S + 1, o.ep 2, [(c4, q4), (c3, q3), (c1, q1), (c2, q2)])) (hx := (bA 4 [c1, c2, c3, c4] rfl [3, 2, 0, 1] (by decide) (cg (bh h8) (Nat.le_trans (bh h5) (bh h7)) (bl h1)))) (hs := (ar (Nat.le_add_right _ _) ak))
        ·intro h8 n8 t8 _ _ ou
         exact zM 1 [false, true] (fun o => (zc.S + 1, o.ep 2, [(c3, q3), (c4, q4), (c1, q1), (c2, q2)])) (hx := (bA 4 [c1, c2, c3, c4] rfl [2, 3, 0, 1] (by decide) (cg (bl h8) (bh h7) (bl h1)))) (hs := (ar (Nat.le_add_right _ _) ak))
       ·intro h7 n7 t7 _ _ ou
        refine yW (bc c4 c2 q4 q2) 6 510204 6 510204 ?_ ?_
        ·intro h8 n8 t8 _ _ ou
         exact zM 1 [false, true] (fun o => (zc.S + 1, o.ep 2, [(c3, q3), (c1, q1), (c4, q4), (c2, q2)])) (hx := (bA 4 [c1, c2, c3, c4] rfl [2, 0, 3, 1] (by decide) (cg (Nat.le_trans (bh h5) (Nat.le_trans (bh h8) (bl h3))) (bl h7) (bh h8)))) (hs := (ar (Nat.le_add_right _ _) ak))
        ·intro h8 n8 t8 _ _ ou
         exact zM 1 [false, true] (fun o => (zc.S + 1, o.ep 2, [(c3, q3), (c1, q1), (c2, q2), (c4, q4)])) (hx := (bA 4 [c1, c2, c3, c4] rfl [2, 0, 1, 3] (by decide) (cg (Nat.le_trans (bh h5) (Nat.le_trans (bh h6) (bl h3))) (bl h1) (bl h8)))) (hs := (ar (Nat.le_add_right _ _) ak))
      ·intro h6 n6 t6 _ _ ou
       exact zM 1 [false, true] (fun o => (zc.S + 1, o.ep 2, [(c3, q3), (c1, q1), (c2, q2), (c4, q4)])) (hx := (bA 4 [c1, c2, c3, c4] rfl [2, 0, 1, 3] (by decide) (cg (Nat.le_trans (bh h2) (bl h3)) (bl h1) (bl h6)))) (hs := (ar (Nat.le_add_right _ _) ak))
     ·intro h5 n5 t5 _ _ ou
      exact zM 1 [false, true] (fun o => (zc.S + 1, o.ep 2, [(c3, q3), (c4, q4), (c1, q1), (c2, q2)])) (hx := (bA 4 [c1, c2, c3, c4] rfl [2, 3, 0, 1] (by decide) (cg (bl h4) (Nat.le_trans (bl h5) (Nat.le_trans (bh h2) (bl h3))) (bl h1)))) (hs := (ar (Nat.le_add_right _ _) ak))
  ·intro h2 n2 t2 _ _ ou
   refine yW (bc c4 c3 q4 q3) 2 2 6 510204 ?_ ?_
   ·intro h3 n3 t3 _ _ ou
    refine yW (bc c1 c3 q1 q3) 3 2 7 510204 ?_ ?_
    ·intro h4 n4 t4 _ _ ou
     refine yW (bc c4 c2 q4 q2) 2 2 2 2 ?_ ?_
     ·intro h5 n5 t5 _ _ ou
      refine yW (bc c4 c1 q4 q1) 6 510204 6 510204 ?_ ?_
      ·intro h6 n6 t6 _ _ ou
       exact zM 1 [false, true] (fun o => (zc.S + 1, o.ep 2, [(c4, q4), (c1, q1), (c2, q2), (c3, q3)])) (hx := (bA 4 [c1, c2, c3, c4] rfl [3, 0, 1, 2] (by decide) (cg (bh h6) (bl h1) (bl h2)))) (hs := (ar (Nat.le_add_right _ _) ak))
      ·intro h6 n6 t6 _ _ ou
       exact zM 1 [false, true] (fun o => (zc.S + 1, o.ep 2, [(c1, q1), (c4, q4), (c2, q2), (c3, q3)])) (hx := (bA 4 [c1, c2, c3, c4] rfl [0, 3, 1, 2] (by decide) (cg (bl h6) (bh h5) (bl h2)))) (hs := (ar (Nat.le_add_right _ _) ak))
     ·intro h5 n5 t5 _ _ ou
      refine yW (bc c4 c3 q4 q3) 6 510204 6 510204 ?_ ?_
      ·intro h6 n6 t6 _ _ ou
       exact zM 1 [false, true] (fun o => (zc.S + 1, o.ep 2, [(c1, q1), (c2, q2), (c4, q4), (c3, q3)])) (hx := (bA 4 [c1, c2, c3, c4] rfl [0, 1, 3, 2] (by decide) (cg (bl h1) (bl h5) (bh h6)))) (hs := (ar (Nat.le_add_right _ _) ak))
      ·intro h6 n6 t6 _ _ ou
       exact zM 1 [false, true] (fun o => (zc.S + 1, o.ep 2, [(c1, q1), (c2, q2), (c3, q3), (c4, q4)])) (hx := (bA 4 [c1, c2, c3, c4] rfl [0, 1, 2, 3] (by decide) (cg (bl h1) (bl h2) (bl h6)))) (hs := (ar (Nat.le_add_right _ _) ak))
    ·intro h4 n4 t4 _ _ ou
     exact zM 1 [false, true] (fun o => (zc.S + 1, o.ep 2, [(c4, q4), (c1, q1), (c2, q2), (c3, q3)])) (hx := (bA 4 [c1, c2, c3, c4] rfl [3, 0, 1, 2] (by decide) (cg (Nat.le_trans (bh h3) (bl h4)) (bl h1) (bl h2)))) (hs := (ar (Nat.le_add_right _ _) ak))
   ·intro h3 n3 t3 _ _ ou
    exact zM 1 [false, true] (fun o => (zc.S + 1, o.ep 2, [(c1, q1), (c2, q2), (c3, q3), (c4, q4)])) (hx := (bA 4 [c1, c2, c3, c4] rfl [0, 1, 2, 3] (by decide) (cg (bl h1) (bl h2) (bl h3)))) (hs := (ar (Nat.le_add_right _ _) ak))
theorem wq (a : Addr) (e : Nat) :
  af w b 10 (.call (.builtin "sorted") ⟨[.ref a], []⟩) [(a, aa [] e)] []
   (X := Addr × Nat × List (Nat × Tok)) (fun y => y.2.2.map (·.1) = dS []) (fun y => .ok (.ret (.ref y.1))) (fun _ => [(a, aa [] e)]) (fun y => [(y.1, aa (ag y.2.2) y.2.1)]) := by
 exists zA, 5, 252551, zd, zc, a0
 exists dT, pN (by kernel_rfl)
 exists zg, 24, 311403858418367229704081632652
 exact zM 1 [false, true] (fun o => (zc.S + 1, o.ep 2, [])) (hx := rfl) (hs := (ar (Nat.le_add_right _ _) ak))
theorem wt (a : Addr) (c1 : Nat) (q1 : Tok) (e : Nat) :
  af w b 10 (.call (.builtin "sorted") ⟨[.ref a], []⟩) [(a, aa [.int c1 q1] e)] []
   (X := Addr × Nat × List (Nat × Tok)) (fun y => y.2.2.map (·.1) = dS [c1]) (fun y => .ok (.ret (.ref y.1))) (fun _ => [(a, aa [.int c1 q1] e)]) (fun y => [(y.1, aa (ag y.2.2) y.2.1)]) := by
 exists zA, 5, 252551, zd, zc, a0
 exists dT, pN (by kernel_rfl)
 exists zg, 24, 311403858418367229704081632652
 exact zM 1 [false, true] (fun o => (zc.S + 1, o.ep 2, [(c1, q1)])) (hx := rfl) (hs := (ar (Nat.le_add_right _ _) ak))
set_option smartUnfolding true
theorem gy (a : Addr) (xs : List (Nat × Tok)) (e : Nat) (h : xs.length ≤ 4) :
  af w b 10 (.call (.builtin "sorted") ⟨[.ref a], []⟩) [(a, aa (ag xs) e)] []
   (X := Addr × Nat × List (Nat × Tok)) (fun y => y.2.2.map (·.1) = dS (xs.map (·.1))) (fun y => .ok (.ret (.ref y.1))) (fun _ => [(a, aa (ag xs) e)]) (fun y => [(y.1, aa (ag y.2.2) y.2.1)]) := by
 rcases xs with _ | ⟨⟨c1, q1⟩, _ | ⟨⟨c2, q2⟩, _ | ⟨⟨c3, q3⟩, _ | ⟨⟨c4, q4⟩, _ | ⟨x, l⟩⟩⟩⟩⟩
 ·exact wq a e
 ·exact wt a c1 q1 e
 ·exact wj a c1 c2 q1 q2 e
 ·exact wk a c1 c2 c3 q1 q2 q3 e
 ·exact wm a c1 c2 c3 c4 q1 q2 q3 q4 e
 ·simp at h
noncomputable def b7 (cs : List Nat) : Nat := (dS cs).getD ((cs.length - 1) / 2) 0
noncomputable def bY (cs : List Nat) : Nat := (dS cs).getD (cs.length / 2) 0
set_option smartUnfolding false
theorem wu (a : Addr) (xs : List (Nat × Tok)) (hn : xs.length = 1) (e : Nat) :
  af w b 14 (.call (.ref 202) ⟨[.ref a], []⟩) [(a, aa (ag xs) e)] []
   (X := Tok) (fun y => True) (fun y => .ok (.ret (.int (b7 (xs.map (·.1)) : Nat) y))) (fun _ => [(a, aa (ag xs) e)]) (fun y => []) := by
 exists zA, 8, 382551, zd, zc, a0
 (refine zP 10 12877551 (bB fM 202 zc.S []) ?_; intro ou)
 refine zK [0] (gy a xs e (by lia)) @fun y1 n1 t1 G1 a1 b4 _ => ?_
 obtain ⟨l1, e1, ys⟩ := y1
 dsimp only at b4
 have hl : ys.length = 1 := by
  have := congrArg List.length b4
  rw [List.length_map, (cE _).length_eq, List.length_map, hn] at this
  exact this
 rcases ys with _ | ⟨⟨v1, r1⟩, _ | ⟨y, l⟩⟩
 all_goals first | (exfalso; simp at hl; done) | skip
 have hm : b7 (xs.map (·.1)) = v1 := by
  unfold b7
  rw [← b4, List.length_map, hn]
  rfl
 clear hl b4
 exists yg, 50, 7859834632099714885953456377653
 exists yH, 14, 12882551, [], lu 1 2 1 (t1 + 2) (t1 + 5) (by decide) (by decide) rfl, _, n2, t2
 exists zH, 10, 62837635204, [], gw 1 2 0 (t1 + 2) (t2 + 1) (.inr (.inr rfl)) rfl, _, n3, t3
 exact zV 1 [] (fun o => r1) (.ok (.ret (.int (v1 : Nat) r1))) (by rw [← hm])
theorem wx (a : Addr) (xs : List (Nat × Tok)) (hn : xs.length = 2) (e : Nat) :
  af w b 14 (.call (.ref 202) ⟨[.ref a], []⟩) [(a, aa (ag xs) e)] []
   (X := Tok) (fun y => True) (fun y => .ok (.ret (.int (b7 (xs.map (·.1)) : Nat) y))) (fun _ => [(a, aa (ag xs) e)]) (fun y => []) := by
 exists zA, 8, 382551, zd, zc, a0
 (refine zP 10 12877551 (bB fM 202 zc.S []) ?_; intro ou)
 refine zK [0] (gy a xs e (by lia)) @fun y1 n1 t1 G1 a1 b4 _ => ?_
 obtain ⟨l1, e1, ys⟩ := y1
 dsimp only at b4
 have hl : ys.length = 2 := by
  have := congrArg List.length b4
  rw [List.length_map, (cE _).length_eq, List.length_map, hn] at this
  exact this
 rcases ys with _ | ⟨⟨v1, r1⟩, _ | ⟨⟨v2, r2⟩, _ | ⟨y, l⟩⟩⟩
 all_goals first | (exfalso; simp at hl; done) | skip
 have hm : b7 (xs.map (·.1)) = v1 := by
  unfold b7
  rw [← b4, List.length_map, hn]
  rfl
 clear hl b4
 exists yg, 50, 7859834632099714885953456377653
 exists yH, 14, 12882551, [], lu 2 2 0 (t1 + 2) (t1 + 5) (by decide) (by decide) rfl, _, n2, t2
 exists zH, 16, 157094088010051, [], gw 2 2 1 (t1 + 2) (t2 + 1) (.inr (.inr rfl)) rfl, _, n3, t3
 exact zV 1 [] (fun o => r1) (.ok (.ret (.int (v1 : Nat) r1))) (by rw [← hm])
theorem wy (a : Addr) (xs : List (Nat × Tok)) (hn : xs.length = 3) (e : Nat) :
  af w b 14 (.call (.ref 202) ⟨[.ref a], []⟩) [(a, aa (ag xs) e)] []
   (X := Tok) (fun y => True) (fun y => .ok (.ret (.int (b7 (xs.map (·.1)) : Nat) y))) (fun _ => [(a, aa (ag xs) e)]) (fun y => []) := by
 exists zA, 8, 382551, zd, zc, a0
 (refine zP 10 12877551 (bB fM 202 zc.S []) ?_; intro ou)
 refine zK [0] (gy a xs e (by lia)) @fun y1 n1 t1 G1 a1 b4 _ => ?_
 obtain ⟨l1, e1, ys⟩ := y1
 dsimp only at b4
 have hl : ys.length = 3 := by
  have := congrArg List.length b4
  rw [List.length_map, (cE _).length_eq, List.length_map, hn] at this
  exact this
 rcases ys with _ | ⟨⟨v1, r1⟩, _ | ⟨⟨v2, r2⟩, _ | ⟨⟨v3, r3⟩, _ | ⟨y, l⟩⟩⟩⟩
 all_goals first | (exfalso; simp at hl; done) | skip
 have hm : b7 (xs.map (·.1)) = v2 := by
  unfold b7
  rw [← b4, List.length_map, hn]
  rfl
 clear hl b4
 exists yg, 50, 7859834632099714885953456377653
 exists yH, 14, 12882551, [], lu 3 2 1 (t1 + 2) (t1 + 5) (by decide) (by decide) rfl, _, n2, t2
 exists zH, 10, 62837635204, [], gw 3 2 1 (t1 + 2) (t2 + 1) (.inr (.inr rfl)) rfl, _, n3, t3
 exact zV 1 [] (fun o => r2) (.ok (.ret (.int (v2 : Nat) r2))) (by rw [← hm])
theorem wz (a : Addr) (xs : List (Nat × Tok)) (hn : xs.length = 4) (e : Nat) :
  af w b 14 (.call (.ref 202) ⟨[.ref a], []⟩) [(a, aa (ag xs) e)] []
   (X := Tok) (fun y => True) (fun y => .ok (.ret (.int (b7 (xs.map (·.1)) : Nat) y))) (fun _ => [(a, aa (ag xs) e)]) (fun y => []) := by
 exists zA, 8, 382551, zd, zc, a0
 (refine zP 10 12877551 (bB fM 202 zc.S []) ?_; intro ou)
 refine zK [0] (gy a xs e (by lia)) @fun y1 n1 t1 G1 a1 b4 _ => ?_
 obtain ⟨l1, e1, ys⟩ := y1
 dsimp only at b4
 have hl : ys.length = 4 := by
  have := congrArg List.length b4
  rw [List.length_map, (cE _).length_eq, List.length_map, hn] at this
  exact this
 rcases ys with _ | ⟨⟨v1, r1⟩, _ | ⟨⟨v2, r2⟩, _ | ⟨⟨v3, r3⟩, _ | ⟨⟨v4, r4⟩, _ | ⟨y, l⟩⟩⟩⟩⟩
 all_goals first | (exfalso; simp at hl; done) | skip
 have hm : b7 (xs.map (·.1)) = v2 := by
  unfold b7
  rw [← b4, List.length_map, hn]
  rfl
 clear hl b4
 exists yg, 50, 7859834632099714885953456377653
 exists yH, 14, 12882551, [], lu 4 2 0 (t1 + 2) (t1 + 5) (by decide) (by decide) rfl, _, n2, t2
 exists zH, 16, 157094088010051, [], gw 4 2 2 (t1 + 2) (t2 + 1) (.inr (.inr rfl)) rfl, _, n3, t3
 exact zV 1 [] (fun o => r2) (.ok (.ret (.int (v2 : Nat) r2))) (by rw [← hm])
set_option smartUnfolding true
theorem uN (a : Addr) (xs : List (Nat × Tok)) (h1 : 1 ≤ xs.length) (h4 : xs.length ≤ 4) (e : Nat) :
  af w b 14 (.call (.ref 202) ⟨[.ref a], []⟩) [(a, aa (ag xs) e)] []
   (X := Tok) (fun y => True) (fun y => .ok (.ret (.int (b7 (xs.map (·.1)) : Nat) y))) (fun _ => [(a, aa (ag xs) e)]) (fun y => []) := by
 rcases (by lia : xs.length = 1 ∨ xs.length = 2 ∨ xs.length = 3 ∨ xs.length = 4) with h | h | h | h
 ·exact wu a xs h e
 ·exact wx a xs h e
 ·exact wy a xs h e
 ·exact wz a xs h e
set_option smartUnfolding false
theorem uO (a : Addr) (xs : List (Nat × Tok)) (hn : xs.length = 1) (e : Nat) :
  af w b 14 (.call (.ref 209) ⟨[.ref a], []⟩) [(a, aa (ag xs) e)] []
   (X := Tok) (fun y => True) (fun y => .ok (.ret (.int (bY (xs.map (·.1)) : Nat) y))) (fun _ => [(a, aa (ag xs) e)]) (fun y => []) := by
 exists zA, 8, 382551, zd, zc, a0
 (refine zP 10 12877551 (bB iz 209 zc.S []) ?_; intro ou)
 refine zK [0] (gy a xs e (by lia)) @fun y1 n1 t1 G1 a1 b4 _ => ?_
 obtain ⟨l1, e1, ys⟩ := y1
 dsimp only at b4
 have hl : ys.length = 1 := by
  have := congrArg List.length b4
  rw [List.length_map, (cE _).length_eq, List.length_map, hn] at this
  exact this
 rcases ys with _ | ⟨⟨v1, r1⟩, _ | ⟨y, l⟩⟩
 all_goals first | (exfalso; simp at hl; done) | skip
 have hm : bY (xs.map (·.1)) = v1 := by
  unfold bY
  rw [← b4, List.length_map, hn]
  rfl
 clear hl b4
 exists yg, 52, 393144258460224714885953456377653
 exists zH, 10, 62837635204, [], gw 1 2 0 (t1 + 2) (t1 + 5) (.inr (.inr rfl)) rfl, _, n3, t3
 exact zV 1 [] (fun o => r1) (.ok (.ret (.int (v1 : Nat) r1))) (by rw [← hm])
theorem uP (a : Addr) (xs : List (Nat × Tok)) (hn : xs.length = 2) (e : Nat) :
  af w b 14 (.call (.ref 209) ⟨[.ref a], []⟩) [(a, aa (ag xs) e)] []
   (X := Tok) (fun y => True) (fun y => .ok (.ret (.int (bY (xs.map (·.1)) : Nat) y))) (fun _ => [(a, aa (ag xs) e)]) (fun y => []) := by
 exists zA, 8, 382551, zd, zc, a0
 (refine zP 10 12877551 (bB iz 209 zc.S []) ?_; intro ou)
 refine zK [0] (gy a xs e (by lia)) @fun y1 n1 t1 G1 a1 b4 _ => ?_
 obtain ⟨l1, e1, ys⟩ := y1
 dsimp only at b4
 have hl : ys.length = 2 := by
  have := congrArg List.length b4
  rw [List.length_map, (cE _).length_eq, List.length_map, hn] at this
  exact this
 rcases ys with _ | ⟨⟨v1, r1⟩, _ | ⟨⟨v2, r2⟩, _ | ⟨y, l⟩⟩⟩
 all_goals first | (exfalso; simp at hl; done) | skip
 have hm : bY (xs.map (·.1)) = v2 := by
  unfold bY
  rw [← b4, List.length_map, hn]
  rfl
 clear hl b4
 exists yg, 52, 393144258460224714885953456377653
 exists zH, 10, 62837635204, [], gw 2 2 1 (t1 + 2) (t1 + 5) (.inr (.inr rfl)) rfl, _, n3, t3
 exact zV 1 [] (fun o => r2) (.ok (.ret (.int (v2 : Nat) r2))) (by rw [← hm])
theorem uQ (a : Addr) (xs : List (Nat × Tok)) (hn : xs.length = 3) (e : Nat) :
  af w b 14 (.call (.ref 209) ⟨[.ref a], []⟩) [(a, aa (ag xs) e)] []
   (X := Tok) (fun y => True) (fun y => .ok (.ret (.int (bY (xs.map (·.1)) : Nat) y))) (fun _ => [(a, aa (ag xs) e)]) (fun y => []) := by
 exists zA, 8, 382551, zd, zc, a0
 (refine zP 10 12877551 (bB iz 209 zc.S []) ?_; intro ou)
 refine zK [0] (gy a xs e (by lia)) @fun y1 n1 t1 G1 a1 b4 _ => ?_
 obtain ⟨l1, e1, ys⟩ := y1
 dsimp only at b4
 have hl : ys.length = 3 := by
  have := congrArg List.length b4
  rw [List.length_map, (cE _).length_eq, List.length_map, hn] at this
  exact this
 rcases ys with _ | ⟨⟨v1, r1⟩, _ | ⟨⟨v2, r2⟩, _ | ⟨⟨v3, r3⟩, _ | ⟨y, l⟩⟩⟩⟩
 all_goals first | (exfalso; simp at hl; done) | skip
 have hm : bY (xs.map (·.1)) = v2 := by
  unfold bY
  rw [← b4, List.length_map, hn]
  rfl
 clear hl b4
 exists yg, 52, 393144258460224714885953456377653
 exists zH, 10, 62837635204, [], gw 3 2 1 (t1 + 2) (t1 + 5) (.inr (.inr rfl)) rfl, _, n3, t3
 exact zV 1 [] (fun o => r2) (.ok (.ret (.int (v2 : Nat) r2))) (by rw [← hm])
theorem uR (a : Addr) (xs : List (Nat × Tok)) (hn : xs.length = 4) (e : Nat) :
  af w b 14 (.call (.ref 209) ⟨[.ref a], []⟩) [(a, aa (ag xs) e)] []
   (X := Tok) (fun y => True) (fun y => .ok (.ret (.int (bY (xs.map (·.1)) : Nat) y))) (fun _ => [(a, aa (ag xs) e)]) (fun y => []) := by
 exists zA, 8, 382551, zd, zc, a0
 (refine zP 10 12877551 (bB iz 209 zc.S []) ?_; intro ou)
 refine zK [0] (gy a xs e (by lia)) @fun y1 n1 t1 G1 a1 b4 _ => ?_
 obtain ⟨l1, e1, ys⟩ := y1
 dsimp only at b4
 have hl : ys.length = 4 := by
  have := congrArg List.length b4
  rw [List.length_map, (cE _).length_eq, List.length_map, hn] at this
  exact this
 rcases ys with _ | ⟨⟨v1, r1⟩, _ | ⟨⟨v2, r2⟩, _ | ⟨⟨v3, r3⟩, _ | ⟨⟨v4, r4⟩, _ | ⟨y, l⟩⟩⟩⟩⟩
 all_goals first | (exfalso; simp at hl; done) | skip
 have hm : bY (xs.map (·.1)) = v3 := by
  unfold bY
  rw [← b4, List.length_map, hn]
  rfl
 clear hl b4
 exists yg, 52, 393144258460224714885953456377653
 exists zH, 10, 62837635204, [], gw 4 2 2 (t1 + 2) (t1 + 5) (.inr (.inr rfl)) rfl, _, n3, t3
 exact zV 1 [] (fun o => r3) (.ok (.ret (.int (v3 : Nat) r3))) (by rw [← hm])
set_option smartUnfolding true
theorem rC (a : Addr) (xs : List (Nat × Tok)) (h1 : 1 ≤ xs.length) (h4 : xs.length ≤ 4) (e : Nat) :
  af w b 14 (.call (.ref 209) ⟨[.ref a], []⟩) [(a, aa (ag xs) e)] []
   (X := Tok) (fun y => True) (fun y => .ok (.ret (.int (bY (xs.map (·.1)) : Nat) y))) (fun _ => [(a, aa (ag xs) e)]) (fun y => []) := by
 rcases (by lia : xs.length = 1 ∨ xs.length = 2 ∨ xs.length = 3 ∨ xs.length = 4) with h | h | h | h
 ·exact uO a xs h e
 ·exact uP a xs h e
 ·exact uQ a xs h e
 ·exact uR a xs h e
set_option smartUnfolding false
theorem Jo (a : Addr) (xs : List (Nat × Tok)) (h1 : 1 ≤ xs.length) (h4 : xs.length ≤ 4) (e : Nat) :
  af w b 24 (.call (.ref 233) ⟨[.ref a], []⟩) [(a, aa (ag xs) e)] []
   (X := Addr × Nat × Tok × Tok) (fun y => True) (fun y => .ok (.ret (.ref y.1))) (fun _ => [(a, aa (ag xs) e)]) (fun y => [(y.1, aa [.int (b7 (xs.map (·.1)) : Nat) y.2.2.1, .int (bY (xs.map (·.1)) : Nat) y.2.2.2] y.2.1)]) := by
  exists zA, 8, 382551, zd, zc, a0
  (refine zP 29 9869182876275382651 (bB dR 233 zc.S []) ?_; intro ou)
  exists zH, 3, 2, [0], uN a xs h1 h4 e, y1, n1, t1, G1, a1, b4, _
  exists zH, 18, 78953463010203, [2], bT (zc.S + 1) [] 0 (.int (b7 (xs.map (·.1)) : Nat) y1) (by simp), y2, n2, t2
  exists zH, 3, 2, [0], rC a xs h1 h4 e, y3, n3, t3
  exists zH, 5, 3, [2], bT (zc.S + 1) [.int (b7 (xs.map (·.1)) : Nat) y1] y2 (.int (bY (xs.map (·.1)) : Nat) y3) (by simp), y4, n4, t4
  exact zM 1 [false, true] (fun o => (zc.S + 1, y4, y1, y3)) (hs := (ar (Nat.le_add_right _ _) ak))
noncomputable def qt : Expr := ip (dq cn 13)
noncomputable def yv : Expr := lX (r6 qt) 0
noncomputable def lA (D L J : Addr) : Env := dP [(Str.ofString ".0", .local), (Str.ofString "j", .cell), (Str.ofString "_law_middles", .globalImplicit), (Str.ofString "drawn", .cell)] D [(Str.ofString "j", J), (Str.ofString "drawn", L + 8)] cU L
noncomputable def oW (D L J : Addr) : Env := dP [(Str.ofString ".0", .local), (Str.ofString "cut", .local), (Str.ofString "j", .cell)] D [(Str.ofString "j", J)] cU L
theorem AL (it  D L J acc : Addr) {jj mm : Nat} (T : KS) (K : KS) {n : Nat} {X : Type} {P : X → Prop} {rf : X → Result} {Kf Nf : X → KS}
  (H : af w b n (bF qt it acc (lA D L J)) ((it, cj jj mm) :: K) T P rf Kf Nf) : af w b (n + 1) (cx qt it acc (lA D L J)) ((it, cj jj mm) :: K) T P rf Kf Nf := by
 obtain ⟨w, c, rfl⟩ := d6 w
 cases c
 ·(refine zB ?_; intro zd zc a0)
  exists yg, 12, 31881502602
  exact zS H (Nat.ble_eq_true_of_le (Nat.le_succ _))
 ·exists zA, 2, 2, zd, zc, a0
  exact zS H (Nat.ble_eq_true_of_le (Nat.le_succ _))
theorem rD (it a D L J acc : Addr) {jj mm : Nat} (T : KS) (K : KS) {n : Nat} {X : Type} {P : X → Prop} {rf : X → Result} {Kf Nf : X → KS}
  (H : af w b n (bF yv it acc (oW D L J)) ((it, bx a jj) :: K) T P rf Kf Nf) : af w b (n + 1) (cx yv it acc (oW D L J)) ((it, bx a jj) :: K) T P rf Kf Nf := by
 obtain ⟨w, c, rfl⟩ := d6 w
 cases c
 ·(refine zB ?_; intro zd zc a0)
  exists yg, 12, 31881502602
  exact zS H (Nat.ble_eq_true_of_le (Nat.le_succ _))
 ·exists zA, 2, 2, zd, zc, a0
  exact zS H (Nat.ble_eq_true_of_le (Nat.le_succ _))
set_option smartUnfolding true
theorem dQ (x : Addr × Obj) : (([x] : KS).map (·.1)).Nodup := by simp
theorem mU (p : Ct) (i : Nat) (v : Value) (hv : (ag p.c)[i]? = some v) (hi : i ≤ 1000) (ti : Tok) :
  af w b 1 (.call (.builtin "tuple.__getitem__") ⟨[.ref p.a, .int i ti], []⟩) [] [p.K]
   (X := Unit) (fun _ => True) (fun y => .ok (.ret v)) (fun y => []) (fun y => []) :=
 af.iL (K := []) (T1 := [p.K]) (T := []) (Kf := fun (_ : Unit) => []) (Gn p.a (ag p.c) i v hv hi ti)
noncomputable def gO (l : List Ct) (j : Nat) : List (Nat × Tok) := l.map fun p => (p.c[j]?).getD (0, 0)
theorem wA {p : Ct} {j : Nat} (h : j < p.c.length) : (ag p.c)[j]? = some (.int ((p.c[j]?).getD (0, 0)).1 ((p.c[j]?).getD (0, 0)).2) := by
 simp [ag, h]
set_option smartUnfolding false
theorem uS (it aD D L J acc : Addr) (drawn : List Ct) (yw : drawn.length ≤ 10) (eD : Nat) (j : Nat) (tj : Tok) (L4 : j ≤ 5) (hlen : ∀ p ∈ drawn, j < p.c.length) (T : KS) (hT : ∀ p ∈ drawn, p.K ∈ T) (F : List (Nat × Tok)) :
 ∀ (m i : Nat) (hm : i + m = drawn.length) (o : Obj) (hD : Dq w "cut" (decide (i = 0)) o) (done : List (Nat × Tok)) (hF : done ++ gO (drawn.drop i) j = F) (hd : done.length + m ≤ 100) (ed : Nat),
  af w b 12 (bF yv it acc (oW D L J)) [(it, bx aD i), (D, o), (acc, aa (ag done) ed), (aD, aa (refs drawn) eD), (J, ai (.int j tj))] T
   (X := Nat × Obj × Obj) (fun y => Dq w "cut" (decide (drawn.length = 0)) y.2.1) (fun _ => .ok .next)
   (fun y => [(it, y.2.2), (D, y.2.1), (acc, aa (ag F) y.1), (aD, aa (refs drawn) eD), (J, ai (.int j tj))]) (fun _ => []) := by
 intro m
 induction m with
 | zero =>
  intro i hm o hD done hF hd ed
  have bj : (refs drawn)[i]? = none := by simp [refs]; exact c6
  have qq : done = F := by rw [← hF, List.drop_eq_nil_of_le (by exact c6)]; simp [gO]
  subst qq
  exists zA, 3, 102, zd, zc, a0
  exists zH, 2, 8, [0, 3], gM it aD (refs drawn) eD i bj, y, n1, t1
  exact zM 5 [] (fun _ => (ed, o, y.2.2)) (hx := (by (with_reducible conv => whnf); rw [show drawn.length = i by exact km]; exact hD))
 | succ m ih =>
  intro i hm o hD done hF hd ed
  obtain ⟨p, hp⟩ : ∃ q, drawn[i]? = some q := ⟨drawn[i]'(by exact cf), List.getElem?_eq_getElem (by exact cf)⟩
  have dn := List.mem_of_getElem? hp
  have bj : (refs drawn)[i]? = some (.ref p.a) := by rw [cX, hp]; rfl
  have bW := hT p dn
  have Il := wA (hlen p dn)
  have cW : gO (drawn.drop i) j = (p.c[j]?).getD (0, 0) :: gO (drawn.drop (i + 1)) j := bI drawn _ i p hp
  have ax : ∀ (tk : Tok) (v : Value) (ep : Nat) (b8 : Nat), af w b 12 (bF yv it acc (oW D L J)) [(it, bx aD (i + 1 : Nat)), (D, ay [av (au w "cut") "cut" tk v] ep), (acc, aa (ag done ++ [.int ((p.c[j]?).getD (0, 0)).1 ((p.c[j]?).getD (0, 0)).2]) b8), (aD, aa (refs drawn) eD), (J, ai (.int j tj))] T
   (X := Nat × Obj × Obj) (fun y => Dq w "cut" (decide (drawn.length = 0)) y.2.1) (fun _ => .ok .next)
   (fun y => [(it, y.2.2), (D, y.2.1), (acc, aa (ag F) y.1), (aD, aa (refs drawn) eD), (J, ai (.int j tj))]) (fun _ => []) := by
   intro tk v ep b8
   have h := ih (i + 1) (by exact cJ) (ay [av (au w "cut") "cut" tk v] ep) (Dq.next tk v ep) (done ++ [(p.c[j]?).getD (0, 0)]) (by rw [← hF, cW]; simp) (by simp; exact gm) b8
   rw [show ag (done ++ [(p.c[j]?).getD (0, 0)]) = ag done ++ [.int ((p.c[j]?).getD (0, 0)).1 ((p.c[j]?).getD (0, 0)).2] by simp [ag]] at h
   exact h
  generalize (p.c[j]?).getD (0, 0) = q at Il ax
  clear ih cW hF
  rcases hD with ⟨_, rfl⟩ | ⟨_, tk, v, ep, rfl⟩
  all_goals
   exists zA, 3, 102, zd, zc, a0
   exists zH, 12, 757653, [0, 3], dv it aD (refs drawn) eD i (.ref p.a) bj, _, n1, t1
   (refine zQ 0 0 p.K bW ?_; intro ou)
   (refine zQ 0 0 p.K bW ?_; intro ou)
   (refine zQ 1 2 p.K bW ?_; intro ou)
   (refine zG (Ta := []) 1 2 [] [] [p.K] (mU p j _ Il (by exact aO) tj) (fun x hx => by rw [List.mem_singleton.mp hx]; exact bW) (dQ _) fun _ n2 t2 => ?_; intro ou)
   exists zH, 1, 2, [2], bT acc (ag done) ed (.int q.1 q.2) (by simp [ag]; exact gA), y3, n3, t3
  ·exact zO [0, 1, 2, 3, 4] (ax (t1 + 0) (.ref p.a) 1 y3)
  ·exact zO [0, 1, 2, 3, 4] (ax tk (.ref p.a) ep y3)
noncomputable abbrev cY (c : Option Value) : Obj := ⟨.type "cell", none, .cell c, ⟨[]⟩⟩
structure Pr where
 a : Addr
 e : Nat
 lo : Nat
 hi : Nat
 tl : Tok
 th : Tok
noncomputable def Pr.K (p : Pr) : Addr × Obj := (p.a, aa [.int p.lo p.tl, .int p.hi p.th] p.e)
noncomputable abbrev cc (l : List Pr) : List Value := l.map fun p => .ref p.a
noncomputable def Pr.v (p : Pr) : Nat × Nat := (p.lo, p.hi)
structure EM where
 pr : List Pr
 ed : Nat
 it : Obj
 c : Option Value
noncomputable def jz (l : List Ct) (j : Nat) : List Nat := (gO l j).map (·.1)
noncomputable def oC (l : List Ct) : Nat → Nat → List (Nat × Nat)
 | 0, _ => []
 | m + 1, j => (b7 (jz l j), bY (jz l j)) :: oC l m (j + 1)
theorem AM (it D L J aD acc : Addr) (drawn : List Ct) (eC : 1 ≤ drawn.length) (gP : drawn.length ≤ 4) (eD n : Nat) (La : n ≤ 5) (hlen : ∀ p ∈ drawn, p.c.length = n) (T : KS) (hT : ∀ p ∈ drawn, p.K ∈ T) :
 ∀ (m j : Nat) (hm : j + m = n) (c : Option Value) (xs : List Value) (hx : xs.length + m ≤ 100) (ed : Nat),
  af w b 26 (bF qt it acc (lA D L J)) [(it, cj j m), (D, ay [] 0), (acc, aa xs ed), (J, cY c), (L + 8, ai (.ref aD)), (aD, aa (refs drawn) eD)] T
   (X := EM) (fun y => y.pr.map Pr.v = oC drawn m j) (fun _ => .ok .next)
   (fun y => [(it, y.it), (D, ay [] 0), (acc, aa (xs ++ cc y.pr) y.ed), (J, cY y.c), (L + 8, ai (.ref aD)), (aD, aa (refs drawn) eD)]) (fun y => y.pr.map Pr.K) := by
 intro m
 induction m with
 | zero =>
  intro j hm c xs hx ed
  exists zA, 3, 102, zd, zc, a0
  exists zH, 2, 9, [0], g9 it j, y, n1, t1, G1, a1, _, _
  exact od zc.post zc.ro a1 6 [] (fun _ => ⟨[], ed, y.2.2, c⟩) rfl (fun _ => [(it, y.2.2), (D, ay [] 0), (acc, aa xs ed), (J, cY c), (L + 8, ai (.ref aD)), (aD, aa (refs drawn) eD)]) (by kernel_rfl) (by (with_reducible conv => rhs; whnf); simp) (by kernel_rfl) ak
 | succ m ih =>
  intro j hm c xs hx ed
  have dk : (gO drawn j).length = drawn.length := by simp [gO]
  exists zA, 3, 102, zd, zc, a0
  refine zK [0] (du it j m) @fun y1 n1 t1 _ _ _ _ => ?_
  exists yg, 22, 210982049107002755
  have iW := fun b => (rD (w := w) (b := b) (n1 + 0) aD (n1 + 2) L J (n1 + 1) (jj := 0) (mm := 0) T _ (uS (n1 + 0) aD (n1 + 2) L J (n1 + 1) drawn (by exact aO) eD j y1 (by exact o4) (fun p hp => by rw [hlen p hp]; exact cf) T hT (gO drawn j) drawn.length 0 (by exact Nat.zero_add _) (ay [] 0) (.inl ⟨rfl, rfl⟩) [] rfl (by simp; exact aO) 0)).imp'
   (Y := Nat × Obj × Tok × Value × Nat) (P' := fun _ => True) (dJ := fun _ => .ok .next)
   (dK := fun y => [(n1 + 0, y.2.1), (n1 + 2, ay [av (au w "cut") "cut" y.2.2.1 y.2.2.2.1] y.2.2.2.2), (n1 + 1, aa (ag (gO drawn j)) y.1), (aD, aa (refs drawn) eD), (J, ai (.int j y1))]) (dO := fun _ => [])
   (fun x hx => by
    obtain ⟨tk, v, ep, h⟩ := hx.some (by exact i4)
    exact ⟨(x.1, x.2.2, tk, v, ep), trivial, rfl, by rw [h], rfl⟩)
  exists zI, 8, 12650510, [6, 8, 7, 5, 3], iW _, y2, n2, t2
  exists zH, 2, 2, [7], Jo (n1 + 1) (gO drawn j) (by lia) (by exact lD) y2.1, y3, n3, t3, G3, a3, _, kf
  exists zH, 1, 2, [2], bT acc xs ed (.ref y3.1) (by exact gA), y4, n4, t4, G4, a4, _, _
  refine aZ (Ta := []) zc.ro a4 zc.hL [0, 1, 2, 3, 4, 5] [] T (ih (j + 1) (by exact cJ) (some (.int j y1)) (xs ++ [.ref y3.1]) (by simp; exact gm) y4) (by kernel_rfl) (by kernel_rfl) (fun _ h => h) zc.ro.nd fun y n5 t5 G5 a5 hy hN => ?_
  refine te zc.post zc.ro a5 6 4 [false, false, false, true] ⟨⟨y3.1, y3.2.1, b7 (jz drawn j), bY (jz drawn j), y3.2.2.1, y3.2.2.2⟩ :: y.pr, y.ed, y.it, y.c⟩ ?_ rfl ((by kernel_rfl : bk 6 _ = [(it, y.it), (D, ay [] 0), (acc, aa (xs ++ [.ref y3.1] ++ cc y.pr) y.ed), (J, cY y.c), (L + 8, ai (.ref aD)), (aD, aa (refs drawn) eD)]).trans (by (with_reducible conv => rhs; whnf); simp)) (by kernel_rfl) (by kernel_rfl) (ar (kf (y3.1, aa [.int (b7 ((gO drawn j).map (·.1)) : Nat) y3.2.2.1, .int (bY ((gO drawn j).map (·.1)) : Nat) y3.2.2.2] y3.2.1) (by simp)) hN)
  exact congrArg ((b7 (jz drawn j), bY (jz drawn j)) :: ·) hy
set_option smartUnfolding true
theorem oE (l : List Pr) (j : Nat) : (cc l)[j]? = (l[j]?).map fun p => .ref p.a := by simp [cc]
theorem yx (p : Pr) (i : Nat) (v : Value) (hv : ([.int p.lo p.tl, .int p.hi p.th] : List Value)[i]? = some v) (hi : i ≤ 1000) (ti : Tok) :
  af w b 1 (.call (.builtin "list.__getitem__") ⟨[.ref p.a, .int i ti], []⟩) [] [p.K]
   (X := Unit) (fun _ => True) (fun y => .ok (.ret v)) (fun y => []) (fun y => []) :=
 af.iL (K := []) (T1 := [p.K]) (T := []) (Kf := fun (_ : Unit) => []) (dt p.a [.int p.lo p.tl, .int p.hi p.th] p.e i v hv hi ti)
noncomputable def yy : Expr := ip (dq cn 15)
noncomputable def oX (D L : Addr) : Env := dP [(Str.ofString ".0", .local), (Str.ofString "pair", .local)] D [] cU L
set_option smartUnfolding false
theorem AN (it a D L acc : Addr) {jj mm : Nat} (T : KS) (K : KS) {n : Nat} {X : Type} {P : X → Prop} {rf : X → Result} {Kf Nf : X → KS}
  (H : af w b n (bF yy it acc (oX D L)) ((it, bx a jj) :: K) T P rf Kf Nf) : af w b (n + 1) (cx yy it acc (oX D L)) ((it, bx a jj) :: K) T P rf Kf Nf := by
 obtain ⟨w, c, rfl⟩ := d6 w
 cases c
 ·(refine zB ?_; intro zd zc a0)
  exists yg, 12, 31881502602
  exact zS H (Nat.ble_eq_true_of_le (Nat.le_succ _))
 ·exists zA, 2, 2, zd, zc, a0
  exact zS H (Nat.ble_eq_true_of_le (Nat.le_succ _))
noncomputable def jn (l : List Pr) : List (Nat × Tok) := l.map fun p => (p.lo, p.tl)
theorem DW (it a D L acc : Addr) (bp : List Pr) (dg : bp.length ≤ 10) (ex : Nat) (T : KS) (hT : ∀ p ∈ bp, p.K ∈ T) (F : List (Nat × Tok)) :
 ∀ (m i : Nat) (hm : i + m = bp.length) (o : Obj) (hD : Dq w "pair" (decide (i = 0)) o) (done : List (Nat × Tok)) (hF : done ++ jn (bp.drop i) = F) (hd : done.length + m ≤ 100) (ed : Nat),
  af w b 12 (bF yy it acc (oX D L)) [(it, bx a i), (D, o), (acc, aa (ag done) ed), (a, aa (cc bp) ex)] T
   (X := Nat × Obj × Obj) (fun y => Dq w "pair" (decide (bp.length = 0)) y.2.1) (fun _ => .ok .next)
   (fun y => [(it, y.2.2), (D, y.2.1), (acc, aa (ag F) y.1), (a, aa (cc bp) ex)]) (fun _ => []) := by
 intro m
 induction m with
 | zero =>
  intro i hm o hD done hF hd ed
  have bj : (cc bp)[i]? = none := by simp [cc]; exact c6
  have qq : done = F := by rw [← hF, List.drop_eq_nil_of_le (by exact c6)]; simp [jn]
  subst qq
  exists zA, 3, 102, zd, zc, a0
  exists zH, 2, 7, [0, 3], gM it a (cc bp) ex i bj, y, n1, t1
  exact zM 4 [] (fun _ => (ed, o, y.2.2)) (hx := (by (with_reducible conv => whnf); rw [show bp.length = i by exact km]; exact hD))
 | succ m ih =>
  intro i hm o hD done hF hd ed
  obtain ⟨p, hp⟩ : ∃ q, bp[i]? = some q := ⟨bp[i]'(by exact cf), List.getElem?_eq_getElem (by exact cf)⟩
  have bj : (cc bp)[i]? = some (.ref p.a) := by rw [oE, hp]; rfl
  have bW := hT p (List.mem_of_getElem? hp)
  have cW : jn (bp.drop i) = (p.lo, p.tl) :: jn (bp.drop (i + 1)) := bI bp _ i p hp
  have ax : ∀ (tk : Tok) (v : Value) (ep : Nat) (b8 : Nat), af w b 12 (bF yy it acc (oX D L)) [(it, bx a (i + 1 : Nat)), (D, ay [av (au w "pair") "pair" tk v] ep), (acc, aa (ag done ++ [.int p.lo p.tl]) b8), (a, aa (cc bp) ex)] T
   (X := Nat × Obj × Obj) (fun y => Dq w "pair" (decide (bp.length = 0)) y.2.1) (fun _ => .ok .next)
   (fun y => [(it, y.2.2), (D, y.2.1), (acc, aa (ag F) y.1), (a, aa (cc bp) ex)]) (fun _ => []) := by
   intro tk v ep b8
   have h := ih (i + 1) (by exact cJ) (ay [av (au w "pair") "pair" tk v] ep) (Dq.next tk v ep) (done ++ [(p.lo, p.tl)]) (by rw [← hF, cW]; simp) (by simp; exact gm) b8
   rw [fj] at h
   exact h
  clear ih cW hF
  rcases hD with ⟨_, rfl⟩ | ⟨_, tk, v, ep, rfl⟩
  all_goals
   exists zA, 3, 102, zd, zc, a0
   exists zH, 11, 7653, [0, 3], dv it a (cc bp) ex i (.ref p.a) bj, _, n1, t1
   (refine zQ 0 0 p.K bW ?_; intro ou)
   (refine zQ 0 0 p.K bW ?_; intro ou)
   (refine zQ 1 2 p.K bW ?_; intro ou)
   (refine zG (Ta := []) 1 2 [] [] [p.K] (yx p 0 _ rfl (by decide) (t1 + 1)) (fun x hx => by rw [List.mem_singleton.mp hx]; exact bW) (dQ _) fun _ n2 t2 => ?_; intro ou)
   exists zH, 1, 2, [2], bT acc (ag done) ed (.int p.lo p.tl) (by simp [ag]; exact gA), y3, n3, t3
  ·exact zO [0, 1, 2, 3] (ax (t1 + 0) (.ref p.a) 1 y3)
  ·exact zO [0, 1, 2, 3] (ax tk (.ref p.a) ep y3)
noncomputable def yz : Expr := ip (dq cn 16)
noncomputable def oY (D L : Addr) : Env := dP [(Str.ofString ".0", .local), (Str.ofString "pair", .local)] D [] cU L
theorem AO (it a D L acc : Addr) {jj mm : Nat} (T : KS) (K : KS) {n : Nat} {X : Type} {P : X → Prop} {rf : X → Result} {Kf Nf : X → KS}
  (H : af w b n (bF yz it acc (oY D L)) ((it, bx a jj) :: K) T P rf Kf Nf) : af w b (n + 1) (cx yz it acc (oY D L)) ((it, bx a jj) :: K) T P rf Kf Nf := by
 obtain ⟨w, c, rfl⟩ := d6 w
 cases c
 ·(refine zB ?_; intro zd zc a0)
  exists yg, 12, 31881502602
  exact zS H (Nat.ble_eq_true_of_le (Nat.le_succ _))
 ·exists zA, 2, 2, zd, zc, a0
  exact zS H (Nat.ble_eq_true_of_le (Nat.le_succ _))
noncomputable def jo (l : List Pr) : List (Nat × Tok) := l.map fun p => (p.hi, p.th)
theorem DX (it a D L acc : Addr) (bp : List Pr) (dg : bp.length ≤ 10) (ex : Nat) (T : KS) (hT : ∀ p ∈ bp, p.K ∈ T) (F : List (Nat × Tok)) :
 ∀ (m i : Nat) (hm : i + m = bp.length) (o : Obj) (hD : Dq w "pair" (decide (i = 0)) o) (done : List (Nat × Tok)) (hF : done ++ jo (bp.drop i) = F) (hd : done.length + m ≤ 100) (ed : Nat),
  af w b 12 (bF yz it acc (oY D L)) [(it, bx a i), (D, o), (acc, aa (ag done) ed), (a, aa (cc bp) ex)] T
   (X := Nat × Obj × Obj) (fun y => Dq w "pair" (decide (bp.length = 0)) y.2.1) (fun _ => .ok .next)
   (fun y => [(it, y.2.2), (D, y.2.1), (acc, aa (ag F) y.1), (a, aa (cc bp) ex)]) (fun _ => []) := by
 intro m
 induction m with
 | zero =>
  intro i hm o hD done hF hd ed
  have bj : (cc bp)[i]? = none := by simp [cc]; exact c6
  have qq : done = F := by rw [← hF, List.drop_eq_nil_of_le (by exact c6)]; simp [jo]
  subst qq
  exists zA, 3, 102, zd, zc, a0
  exists zH, 2, 7, [0, 3], gM it a (cc bp) ex i bj, y, n1, t1
  exact zM 4 [] (fun _ => (ed, o, y.2.2)) (hx := (by (with_reducible conv => whnf); rw [show bp.length = i by exact km]; exact hD))
 | succ m ih =>
  intro i hm o hD done hF hd ed
  obtain ⟨p, hp⟩ : ∃ q, bp[i]? = some q := ⟨bp[i]'(by exact cf), List.getElem?_eq_getElem (by exact cf)⟩
  have bj : (cc bp)[i]? = some (.ref p.a) := by rw [oE, hp]; rfl
  have bW := hT p (List.mem_of_getElem? hp)
  have cW : jo (bp.drop i) = (p.hi, p.th) :: jo (bp.drop (i + 1)) := bI bp _ i p hp
  have ax : ∀ (tk : Tok) (v : Value) (ep : Nat) (b8 : Nat), af w b 12 (bF yz it acc (oY D L)) [(it, bx a (i + 1 : Nat)), (D, ay [av (au w "pair") "pair" tk v] ep), (acc, aa (ag done ++ [.int p.hi p.th]) b8), (a, aa (cc bp) ex)] T
   (X := Nat × Obj × Obj) (fun y => Dq w "pair" (decide (bp.length = 0)) y.2.1) (fun _ => .ok .next)
   (fun y => [(it, y.2.2), (D, y.2.1), (acc, aa (ag F) y.1), (a, aa (cc bp) ex)]) (fun _ => []) := by
   intro tk v ep b8
   have h := ih (i + 1) (by exact cJ) (ay [av (au w "pair") "pair" tk v] ep) (Dq.next tk v ep) (done ++ [(p.hi, p.th)]) (by rw [← hF, cW]; simp) (by simp; exact gm) b8
   rw [fj] at h
   exact h
  clear ih cW hF
  rcases hD with ⟨_, rfl⟩ | ⟨_, tk, v, ep, rfl⟩
  all_goals
   exists zA, 3, 102, zd, zc, a0
   exists zH, 11, 7653, [0, 3], dv it a (cc bp) ex i (.ref p.a) bj, _, n1, t1
   (refine zQ 0 0 p.K bW ?_; intro ou)
   (refine zQ 0 0 p.K bW ?_; intro ou)
   (refine zQ 1 2 p.K bW ?_; intro ou)
   (refine zG (Ta := []) 1 2 [] [] [p.K] (yx p 1 _ rfl (by decide) (t1 + 1)) (fun x hx => by rw [List.mem_singleton.mp hx]; exact bW) (dQ _) fun _ n2 t2 => ?_; intro ou)
   exists zH, 1, 2, [2], bT acc (ag done) ed (.int p.hi p.th) (by simp [ag]; exact gA), y3, n3, t3
  ·exact zO [0, 1, 2, 3] (ax (t1 + 0) (.ref p.a) 1 y3)
  ·exact zO [0, 1, 2, 3] (ax tk (.ref p.a) ep y3)
set_option smartUnfolding true
theorem rE (x : Int) (y : Nat) (tx ty : Tok) (hy : y = 5 ∨ y = 25 ∨ y = 2) :
  af w b 2 (.call (.builtin "int.__floordiv__") ⟨[.int x tx, .int y ty], []⟩) [] []
   (X := Tok) (fun _ => True) (fun v => .ok (.ret (.int (x / y) v))) (fun _ => []) (fun _ => []) :=
 (tV x y tx ty hy).map id (fun _ h => h) (fun _ => by
  have : Z.oDiv.1 x (y : Int) = x / y := by
   rw [Z.oDiv.2, Int.fdiv_eq_ediv_of_nonneg _ (by lia)]
  rw [this]; rfl) (fun _ => rfl) (fun _ => rfl)
theorem AP (x y r : Nat) (tx ty : Tok) (h : r + y = x) :
  af w b 2 (.call (.builtin "int.__sub__") ⟨[.int x tx, .int y ty], []⟩) [] []
   (X := Tok) (fun _ => True) (fun v => .ok (.ret (.int (r : Nat) v))) (fun _ => []) (fun _ => []) :=
 (CT x y tx ty).map id (fun _ h => h) (fun _ => by
  have : (x : Int) - (y : Int) = (r : Nat) := by lia
  rw [this]; rfl) (fun _ => rfl) (fun _ => rfl)
noncomputable def oF (t : Int) : Nat := 7 + ((t + (1 : Nat)) % ((5 : Nat) : Int)).toNat
noncomputable def yB (t : Int) : Nat := ((t / ((5 : Nat) : Int) + ((1 : Nat) : Int)) % (((1 + ((t + (1 : Nat)) % ((5 : Nat) : Int)).toNat : Nat)) : Int)).toNat
set_option smartUnfolding false
theorem Jp (S aX aC aW : Addr) (sX sC sW : Obj) (ba : Int) (tt k0 k1 : Tok) (ep : Nat) (q0 q1 : Obj)
  (H : ∀ (th tw : Tok), bH w b 28 (bN S) .base (b6 S 5)
   ([(140, q0), (147, q1), (aX, sX), (S, cK [fe w "script" k0 (.ref aX), fe w "total" k1 (.int ba tt)] ep)] ++ cls S (ai (.ref aC)) ae (ai (.ref aW)) (ai (.int (oF ba : Nat) tw)) (ai (.int (yB ba : Nat) th)) ae ae ae ae ae ae ae ae ae ae ++ [(aC, sC), (aW, sW)]) []) :
  bH w b 28 (bN S) .base (b6 S 3)
   ([(140, q0), (147, q1), (aX, sX), (S, cK [fe w "script" k0 (.ref aX), fe w "total" k1 (.int ba tt)] ep)] ++ cls S (ai (.ref aC)) ae (ai (.ref aW)) ae ae ae ae ae ae ae ae ae ae ae ae ++ [(aC, sC), (aW, sW)]) [] := by
 have h0 : 0 ≤ (ba + (1 : Nat)) % ((5 : Nat) : Int) := Int.emod_nonneg _ (by decide)
 have h1 : (ba + (1 : Nat)) % ((5 : Nat) : Int) < 5 := Int.emod_lt_of_pos _ (by decide)
 have Lb : (1 + ((ba + (1 : Nat)) % ((5 : Nat) : Int)).toNat) + 6 = oF ba := by unfold oF; lia
 have hm : 1 + ((ba + (1 : Nat)) % ((5 : Nat) : Int)).toNat ≤ 100 := by lia
 clear h0 h1
 exists zE, 7, 105, zd, zc, hsz, a
 exists zH, 3, 2, [], iT ba ((1 : Nat) : Int) tt (zc.s.toks + 1), y1, n1, t1
 exists zH, 2, 2, [], intMod (ba + ((1 : Nat) : Int)) 5 y1 (t1 + 0) (by decide) (by decide), y2, n2, t2
 exists zH, 11, 262959, [], iD 7 ((ba + (1 : Nat)) % ((5 : Nat) : Int)).toNat (zc.s.toks + 0) y2, y3, n3, t3
 exists zH, 3, 2, [], rE ba 5 tt (t3 + 0) (.inl rfl), y4, n4, t4
 exists zH, 5, 109, [], iT (ba / ((5 : Nat) : Int)) ((1 : Nat) : Int) y4 (t4 + 0), y5, n5, t5
 exists zH, 2, 2, [], AP (oF ba) 6 (1 + ((ba + (1 : Nat)) % ((5 : Nat) : Int)).toNat) y3 (t5 + 0) Lb, y6, n6, t6
 exists zH, 5, 510, [], intMod (ba / ((5 : Nat) : Int) + ((1 : Nat) : Int)) (1 + ((ba + (1 : Nat)) % ((5 : Nat) : Int)).toNat) y5 y6 (by lia) hm, y7, n7, t7, G7, a7, _, _
 refine e9 zc.post zc.ro a7 zc.hL 19 [] (H y7 y3) (by kernel_rfl) (by kernel_rfl) (by kernel_rfl)
noncomputable def iZ (ba : Int) : Nat := ((ba / ((25 : Nat) : Int) + ((4 : Nat) : Int)) % ((5 : Nat) : Int)).toNat
noncomputable def kU (cs : List Int) (ba : Int) : List Int := ((cs.drop 6).take 4 ++ [0, 4, 3, 1]).take (iZ ba)
set_option smartUnfolding true
theorem qu (cs : List Int) (ba : Int) : (kU cs ba).length = iZ ba ∧ iZ ba ≤ 4 := by
 have h : iZ ba ≤ 4 := by unfold iZ; lia
 refine ⟨?_, h⟩
 unfold kU
 simp
 lia
noncomputable abbrev yC (cs : List (Int × Tok)) (t1 : Tok) (n : Nat) : List Value := (((aQ cs).drop 6).take (10 - 6) ++ [Value.int (0 : Nat) (t1 + 0), Value.int (4 : Nat) (t1 + 1), Value.int (3 : Nat) (t1 + 2), Value.int (1 : Nat) (t1 + 3)]).take n
set_option smartUnfolding false
theorem GC (S aX aC aW aU aF : Addr) (q0 q1 sX sU : Obj) (k0 k1 k2 k3 k4 k5 k6 k7 tt tf : Tok) (ba : Int) (front : Str) (v4 v5 v6 v7 : Value) (ep wd hd ends : Nat) (tw th tn : Tok) (ws : List (Str × Tok)) (ew : Nat) (ab : List Ct) (h0 : 0 < ab.length) (ik : ab.length ≤ 10) (ef : Nat)
 (cs : List (Int × Tok)) (dI : cs.length ≤ 60) (ec : Nat)
 (H : ∀ (aD eD : Nat) (drawn : List Ct), drawn = (kU (cs.map (·.1)) ba).map (jM ab) →
  bH w b 28 (bN S) .base (b6 S 13) (iY w S aX aC aW aU aF q0 q1 sX (aa (aQ cs) ec) sU k0 k1 k2 k3 k4 k5 k6 k7 tt tf ba front v4 v5 v6 v7 [] ep wd hd ends tw th tn ws ew ab ef ae (ai (.ref aD)) ae ae ae ae ae ae ae [(aD, aa (refs drawn) eD)]) (ab.map Ct.K)) :
  bH w b 28 (bN S) .base (b6 S 12) (iY w S aX aC aW aU aF q0 q1 sX (aa (aQ cs) ec) sU k0 k1 k2 k3 k4 k5 k6 k7 tt tf ba front v4 v5 v6 v7 [] ep wd hd ends tw th tn ws ew ab ef ae ae ae ae ae ae ae ae ae []) (ab.map Ct.K) := by
 exists zE, 11, 15178556, zd, zc, hsz, a
 exists zH, 13, 316376, [19, 23], Jn aC (zc.S + 0) (aQ cs) ec 6 10 (zc.s.toks + 0) (zc.s.toks + 1) (by decide) (by simp [aQ]; exact aO), y1, n1, t1
 exists zH, 6, 105, [24, 25], lW y1.1 (n1 + 0) (((aQ cs).drop 6).take (10 - 6)) [.int (0 : Nat) (t1 + 0), .int (4 : Nat) (t1 + 1), .int (3 : Nat) (t1 + 2), .int (1 : Nat) (t1 + 3)] y1.2 0 (by simp [aQ]; lia), y2, n2, t2
 exists zH, 3, 2, [], rE ba 25 tt (t2 + 0) (.inr (.inl rfl)), y3, n3, t3
 exists zH, 3, 2, [], iT (ba / ((25 : Nat) : Int)) ((4 : Nat) : Int) y3 (t3 + 0), y4, n4, t4
 exists zH, 6, 321428, [], intMod (ba / ((25 : Nat) : Int) + ((4 : Nat) : Int)) 5 y4 (t4 + 0) (by decide) (by decide), y5, n5, t5
 refine zK [26, 27] (C7 y2.1 (n5 + 0) (((aQ cs).drop 6).take (10 - 6) ++ [.int (0 : Nat) (t1 + 0), .int (4 : Nat) (t1 + 1), .int (3 : Nat) (t1 + 2), .int (1 : Nat) (t1 + 3)]) y2.2 (iZ ba) y5 (by simp [aQ]; lia)) @fun y6 n6 t6 G6 a6 _ _ => ?_
 have DV : yC cs t1 (iZ ba) = aQ (((cs.drop 6).take 4 ++ [((0 : Int), t1 + 0), (4, t1 + 1), (3, t1 + 2), (1, t1 + 3)]).take (iZ ba)) := by
  simp [yC, aQ, List.map_take, List.map_drop]
 have Im : (((cs.drop 6).take 4 ++ [((0 : Int), t1 + 0), (4, t1 + 1), (3, t1 + 2), (1, t1 + 3)]).take (iZ ba)).map (fun q => jM ab q.1) = (kU (cs.map (·.1)) ba).map (jM ab) := by
  unfold kU
  simp [List.map_take, List.map_drop, Function.comp_def]
 have L5 := (qu (cs.map (·.1)) ba).2
 have yw : (((cs.drop 6).take 4 ++ [((0 : Int), t1 + 0), (4, t1 + 1), (3, t1 + 2), (1, t1 + 3)]).take (iZ ba)).length = iZ ba := by simp; lia
 generalize ((cs.drop 6).take 4 ++ [((0 : Int), t1 + 0), (4, t1 + 1), (3, t1 + 2), (1, t1 + 3)]).take (iZ ba) = ds at DV Im yw
 have cW := fun b aD it D acc => AJ (w := w) (b := b) it aD D S acc (jj := 0) (mm := 0) _ _ (DU it aD D S aF acc ab h0 ik ef ds (by exact lD) y6.2 ((kU (cs.map (·.1)) ba).map (jM ab)) ds.length 0 (by exact Nat.zero_add _) (ay [] 0) (.inl ⟨rfl, rfl⟩) [] (by rw [← Im]; rfl) (by simp; exact lD) 0)
 rw [← DV] at cW
 exists yg, 16, 2047375201501
 by_cases Io : ds.length = 0
 ·refine zK [29, 31, 30, 28, 10, 22] ((cW _ y6.1 (n6 + 0) (n6 + 2) (n6 + 1)).imp' (Y := Nat × Obj) (P' := fun _ => True) (dJ := fun _ => .ok .next)
   (dK := fun y => [(n6 + 0, y.2), (n6 + 2, ay [] 0), (n6 + 1, aa (refs ((kU (cs.map (·.1)) ba).map (jM ab))) y.1), (y6.1, aa (yC cs t1 (iZ ba)) y6.2), (S + 7, ai (.ref aF)), (aF, aa (refs ab) ef)]) (dO := fun _ => []) (fun x hx => by
    have hz : Dq w "x" true x.2.1 := by rw [← decide_eq_true Io]; exact hx
    exact ⟨(x.1, x.2.2), trivial, rfl, by rw [hz.zero], rfl⟩)) @fun y7 n7 t7 G7 a7 _ _ => ?_
  exists zg, 6, 33183
  exact e9 zc.post zc.ro a7 zc.hL 21 [false, false, false, false, false, false, false, true] (H (n6 + 1) y7.1 _ rfl) (by kernel_rfl) (by kernel_rfl) (by kernel_rfl)
 ·refine zK [29, 31, 30, 28, 10, 22] ((cW _ y6.1 (n6 + 0) (n6 + 2) (n6 + 1)).imp' (Y := Nat × Obj × Tok × Value × Nat) (P' := fun _ => True) (dJ := fun _ => .ok .next)
   (dK := fun y => [(n6 + 0, y.2.1), (n6 + 2, ay [av (au w "x") "x" y.2.2.1 y.2.2.2.1] y.2.2.2.2), (n6 + 1, aa (refs ((kU (cs.map (·.1)) ba).map (jM ab))) y.1), (y6.1, aa (yC cs t1 (iZ ba)) y6.2), (S + 7, ai (.ref aF)), (aF, aa (refs ab) ef)]) (dO := fun _ => []) (fun x hx => by
    obtain ⟨tk, v, ep, h⟩ := hx.some Io
    exact ⟨(x.1, x.2.2, tk, v, ep), trivial, rfl, by rw [h], rfl⟩)) @fun y7 n7 t7 G7 a7 _ _ => ?_
  exists zg, 10, 82959183
  exact e9 zc.post zc.ro a7 zc.hL 21 [false, false, false, false, false, false, false, true] (H (n6 + 1) y7.1 _ rfl) (by kernel_rfl) (by kernel_rfl) (by kernel_rfl)
theorem GD (S aX aC aW aU aF aD : Addr) (q0 q1 sX sC sU : Obj) (k0 k1 k2 k3 k4 k5 k6 k7 tt tf : Tok) (ba : Int) (front : Str) (v4 v5 v6 v7 : Value) (ep wd hd ends : Nat) (ki : ends ≤ 5) (tw th tn : Tok) (ws : List (Str × Tok)) (ew : Nat) (ab : List Ct) (ef : Nat) (drawn : List Ct) (eC : 1 ≤ drawn.length) (gP : drawn.length ≤ 4) (dY : ∀ p ∈ drawn, p ∈ ab) (hlen : ∀ p ∈ drawn, p.c.length = ends) (eD : Nat)
 (H : ∀ (aM eM ep : Nat) (k8 : Tok) (bp : List Pr), bp.map Pr.v = oC drawn ends 0 →
  bH w b 28 (bN S) .base (b6 S 14) (iY w S aX aC aW aU aF q0 q1 sX sC sU k0 k1 k2 k3 k4 k5 k6 k7 tt tf ba front v4 v5 v6 v7 [fe w "middles" k8 (.ref aM)] ep wd hd ends tw th tn ws ew ab ef ae (ai (.ref aD)) ae ae ae ae ae ae ae [(aD, aa (refs drawn) eD), (aM, aa (cc bp) eM)]) (bp.map Pr.K ++ ab.map Ct.K)) :
  bH w b 28 (bN S) .base (b6 S 13) (iY w S aX aC aW aU aF q0 q1 sX sC sU k0 k1 k2 k3 k4 k5 k6 k7 tt tf ba front v4 v5 v6 v7 [] ep wd hd ends tw th tn ws ew ab ef ae (ai (.ref aD)) ae ae ae ae ae ae ae [(aD, aa (refs drawn) eD)]) (ab.map Ct.K) := by
 exists zE, 8, 277551, zd, zc, hsz, a
 refine zK [] (fH ends tn) @fun y1 n1 t1 _ _ _ _ => ?_
 exists yg, 6, 6326
 exists zH, 6, 127, [24], fI y1.1 ends (by exact aO) y1.2.1 tn y1.2.2, y2, n2, t2
 have hm := fun b => AL (w := w) (b := b) y2 (n2 + 1) S (n2 + 2) (n2 + 0) (jj := 0) (mm := ends) (ab.map Ct.K) _ (AM y2 (n2 + 1) S (n2 + 2) aD (n2 + 0) drawn eC gP eD ends ki hlen (ab.map Ct.K) (fun p hp => Ct.fk (dY p hp)) ends 0 (by exact Nat.zero_add _) none [] (by simp; exact aO) 0)
 exists zI, 9, 255, [25, 27, 26, 28, 11, 23], hm _, y3, n3, t3, G3, a3, ej, kf
 exact kL zc.post zc.ro a3 zc.hL 29 22 [false, false, true, false, false] (H (n2 + 0) y3.ed (ep + 1) (t3 + 0) y3.pr ej) (by kernel_rfl) (by kernel_rfl) (List.Sublist.refl _) (by kernel_rfl)
theorem GF (S aX aC aW aU aF aD aM : Addr) (q0 q1 sX sC sU : Obj) (k0 k1 k2 k3 k4 k5 k6 k7 k8 tt tf : Tok) (ba : Int) (front : Str) (v4 v5 v6 v7 : Value) (ep wd hd ends : Nat) (tw th tn : Tok) (ws : List (Str × Tok)) (ew : Nat) (ab : List Ct) (ef : Nat) (drawn : List Ct) (eD eM : Nat) (bp : List Pr) (eC : 1 ≤ drawn.length)
 (H : bH w b 28 (bN S) .base (b6 S 15) (iY w S aX aC aW aU aF q0 q1 sX sC sU k0 k1 k2 k3 k4 k5 k6 k7 tt tf ba front v4 v5 v6 v7 [fe w "middles" k8 (.ref aM)] ep wd hd ends tw th tn ws ew ab ef ae (ai (.ref aD)) ae ae ae ae ae ae ae [(aD, aa (refs drawn) eD), (aM, aa (cc bp) eM)]) (bp.map Pr.K ++ ab.map Ct.K)) :
  bH w b 28 (bN S) .base (b6 S 14) (iY w S aX aC aW aU aF q0 q1 sX sC sU k0 k1 k2 k3 k4 k5 k6 k7 tt tf ba front v4 v5 v6 v7 [fe w "middles" k8 (.ref aM)] ep wd hd ends tw th tn ws ew ab ef ae (ai (.ref aD)) ae ae ae ae ae ae ae [(aD, aa (refs drawn) eD), (aM, aa (cc bp) eM)]) (bp.map Pr.K ++ ab.map Ct.K) := by
 obtain ⟨u, l, cW⟩ : ∃ u l, drawn = u :: l := by
  cases drawn with
  | nil => simp at eC
  | cons u l => exact ⟨u, l, rfl⟩
 have Lc : ∀ b a2 e2, af w b 2 (.call (.builtin "list.__eq__") ⟨[.ref aD, .ref a2], []⟩) [(aD, aa (refs drawn) eD), (a2, aa [] e2)] []
   (X := Unit) (fun _ => True) (fun y => .ok (.ret (.bool false))) (fun y => [(aD, aa (refs drawn) eD), (a2, aa [] e2)]) (fun y => []) := fun b a2 e2 => by
  rw [cW]; exact rr aD a2 _ _ eD e2
 exists zE, 7, 13, zd, zc, hsz, a
 refine sQ fun p below l => ?_
 exists ao, ah (dG (ah (ah (ah (ah (fB (fB (ah (bf (d5 l zc.hL (by kernel_rfl)))))))))))
 exists yg, 5, 313875
 exists zH, 1, 0, [23, 25], Lc _ (zc.S + 0) 0, _, n1, t1, G1, a1, _, _
 exact e9 zc.post zc.ro a1 zc.hL 23 [] H (by kernel_rfl) (by kernel_rfl) (by kernel_rfl)
theorem GG (S aX aC aW aU aF aD aM : Addr) (q0 q1 sX sC sU : Obj) (k0 k1 k2 k3 k4 k5 k6 k7 k8 tt tf : Tok) (ba : Int) (front : Str) (v4 v5 v6 v7 : Value) (ep wd hd ends : Nat) (tw th tn : Tok) (ws : List (Str × Tok)) (ew : Nat) (ab : List Ct) (ef : Nat) (drawn : List Ct) (eD eM : Nat) (bp : List Pr) (L6 : 1 ≤ bp.length) (ux : bp.length ≤ 5)
 (H : ∀ (aL eL aH eH : Nat), bH w b 28 (bN S) .base (b6 S 17) (iY w S aX aC aW aU aF q0 q1 sX sC sU k0 k1 k2 k3 k4 k5 k6 k7 tt tf ba front v4 v5 v6 v7 [fe w "middles" k8 (.ref aM)] ep wd hd ends tw th tn ws ew ab ef ae (ai (.ref aD)) (ai (.ref aL)) (ai (.ref aH)) ae ae ae ae ae [(aD, aa (refs drawn) eD), (aM, aa (cc bp) eM), (aL, aa (ag (jn bp)) eL), (aH, aa (ag (jo bp)) eH)]) (bp.map Pr.K ++ ab.map Ct.K)) :
  bH w b 28 (bN S) .base (b6 S 15) (iY w S aX aC aW aU aF q0 q1 sX sC sU k0 k1 k2 k3 k4 k5 k6 k7 tt tf ba front v4 v5 v6 v7 [fe w "middles" k8 (.ref aM)] ep wd hd ends tw th tn ws ew ab ef ae (ai (.ref aD)) ae ae ae ae ae ae ae [(aD, aa (refs drawn) eD), (aM, aa (cc bp) eM)]) (bp.map Pr.K ++ ab.map Ct.K) := by
 (refine zF ?_; intro zd zc hsz a)
 exists yg, 16, 1984850191305
 have hlo := fun b => (AN (w := w) (b := b) (zc.S + 0) aM (zc.S + 2) S (zc.S + 1) (jj := 0) (mm := 0) (bp.map Pr.K ++ ab.map Ct.K) _ (DW (zc.S + 0) aM (zc.S + 2) S (zc.S + 1) bp (by exact aO) eM (bp.map Pr.K ++ ab.map Ct.K) (fun p hp => List.mem_append_left _ (List.mem_map_of_mem hp)) (jn bp) bp.length 0 (by exact Nat.zero_add _) (ay [] 0) (.inl ⟨rfl, rfl⟩) [] rfl (by simp; exact aO) 0)).imp'
  (Y := Nat × Obj × Tok × Value × Nat) (P' := fun _ => True) (dJ := fun _ => .ok .next)
  (dK := fun y => [(zc.S + 0, y.2.1), (zc.S + 2, ay [av (au w "pair") "pair" y.2.2.1 y.2.2.2.1] y.2.2.2.2), (zc.S + 1, aa (ag (jn bp)) y.1), (aM, aa (cc bp) eM)]) (dO := fun _ => [])
  (fun x hx => by
   obtain ⟨tk, v, ep, h⟩ := hx.some (by exact i4)
   exact ⟨(x.1, x.2.2, tk, v, ep), trivial, rfl, by rw [h], rfl⟩)
 refine zL [25, 27, 26, 24] (hlo _) @fun y1 n1 t1 _ _ _ _ => ?_
 exists yg, 26, 634914122282901823979
 have mV := fun b => (AO (w := w) (b := b) (n1 + 0) aM (n1 + 2) S (n1 + 1) (jj := 0) (mm := 0) (bp.map Pr.K ++ ab.map Ct.K) _ (DX (n1 + 0) aM (n1 + 2) S (n1 + 1) bp (by exact aO) eM (bp.map Pr.K ++ ab.map Ct.K) (fun p hp => List.mem_append_left _ (List.mem_map_of_mem hp)) (jo bp) bp.length 0 (by exact Nat.zero_add _) (ay [] 0) (.inl ⟨rfl, rfl⟩) [] rfl (by simp; exact aO) 0)).imp'
  (Y := Nat × Obj × Tok × Value × Nat) (P' := fun _ => True) (dJ := fun _ => .ok .next)
  (dK := fun y => [(n1 + 0, y.2.1), (n1 + 2, ay [av (au w "pair") "pair" y.2.2.1 y.2.2.2.1] y.2.2.2.2), (n1 + 1, aa (ag (jo bp)) y.1), (aM, aa (cc bp) eM)]) (dO := fun _ => [])
  (fun x hx => by
   obtain ⟨tk, v, ep, h⟩ := hx.some (by exact i4)
   exact ⟨(x.1, x.2.2, tk, v, ep), trivial, rfl, by rw [h], rfl⟩)
 exists zI, 10, 95706632, [28, 30, 29, 24], mV _, y2, n2, t2, G2, a2, _, _
 exact e9 zc.post zc.ro a2 zc.hL 23 [false, true, false, false, true, false] (H (zc.S + 1) y1.1 (n1 + 1) y2.1) (by kernel_rfl) (by kernel_rfl) (by kernel_rfl)
noncomputable def DY : Expr := r8 (ur (dq cn 17))
noncomputable def sr (D L : Addr) : Env := dP [(Str.ofString ".0", .local), (Str.ofString "x", .local), (Str.ofString "isinstance", .globalImplicit), (Str.ofString "int", .globalImplicit)] D [] cU L
theorem AQ (it a D L acc : Addr) {jj mm : Nat} (T : KS) (K : KS) {n : Nat} {X : Type} {P : X → Prop} {rf : X → Result} {Kf Nf : X → KS}
  (H : af w b n (bF DY it acc (sr D L)) ((it, bx a jj) :: K) T P rf Kf Nf) : af w b (n + 1) (cx DY it acc (sr D L)) ((it, bx a jj) :: K) T P rf Kf Nf := by
 obtain ⟨w, c, rfl⟩ := d6 w
 cases c
 ·(refine zB ?_; intro zd zc a0)
  exists yg, 12, 31881502602
  exact zS H (Nat.ble_eq_true_of_le (Nat.le_succ _))
 ·exists zA, 2, 2, zd, zc, a0
  exact zS H (Nat.ble_eq_true_of_le (Nat.le_succ _))
theorem DZ (it a D L acc : Addr) (xs : List (Nat × Tok)) (ex : Nat) :
 ∀ (m i : Nat) (hm : i + m = xs.length) (o : Obj) (hD : Dq w "x" (decide (i = 0)) o),
  af w b 12 (bF DY it acc (sr D L)) [(it, bx a i), (D, o), (acc, aa [] 0), (a, aa (ag xs) ex)] []
   (X := Obj × Obj) (fun y => Dq w "x" (decide (xs.length = 0)) y.1) (fun _ => .ok .next)
   (fun y => [(it, y.2), (D, y.1), (acc, aa [] 0), (a, aa (ag xs) ex)]) (fun _ => []) := by
 intro m
 induction m with
 | zero =>
  intro i hm o hD
  have bj : (ag xs)[i]? = none := by simp [ag]; exact c6
  exists zA, 3, 102, zd, zc, a0
  exists zH, 2, 7, [0, 3], gM it a (ag xs) ex i bj, y, n1, t1
  exact zM 4 [] (fun _ => (o, y.2.2)) (hx := (by (with_reducible conv => whnf); rw [show xs.length = i by exact km]; exact hD))
 | succ m ih =>
  intro i hm o hD
  obtain ⟨⟨x, tx⟩, hx⟩ : ∃ q, xs[i]? = some q := ⟨xs[i]'(by exact cf), List.getElem?_eq_getElem (by exact cf)⟩
  have bj : (ag xs)[i]? = some (.int x tx) := by rw [fy, hx]; rfl
  have ax := fun (tk : Tok) (v : Value) (ep : Nat) => ih (i + 1) (by exact cJ) (ay [av (au w "x") "x" tk v] ep) (Dq.next tk v ep)
  rcases hD with ⟨_, rfl⟩ | ⟨_, tk, v, ep, rfl⟩
  all_goals
   exists zA, 3, 102, zd, zc, a0
   exists zH, 24, 197305484706377653, [0, 3], dv it a (ag xs) ex i (.int x tx) bj, _, n1, t1
  ·exact zO [0, 1, 2, 3] (ax (t1 + 0) (.int x tx) 1)
  ·exact zO [0, 1, 2, 3] (ax tk (.int x tx) ep)
theorem GH (S aX aC aW aU aF aD aM aL aH : Addr) (q0 q1 sX sC sU : Obj) (k0 k1 k2 k3 k4 k5 k6 k7 k8 tt tf : Tok) (ba : Int) (front : Str) (v4 v5 v6 v7 : Value) (ep wd hd ends : Nat) (tw th tn : Tok) (ws : List (Str × Tok)) (ew : Nat) (ab : List Ct) (ef : Nat) (drawn : List Ct) (eD eM : Nat) (bp : List Pr) (eL eH : Nat) (lows highs : List (Nat × Tok)) (oG : 1 ≤ lows.length) (hlo : lows.length ≤ 10) (mV : highs.length ≤ 10)
 (H : bH w b 28 (bN S) .base (b6 S 18) (iY w S aX aC aW aU aF q0 q1 sX sC sU k0 k1 k2 k3 k4 k5 k6 k7 tt tf ba front v4 v5 v6 v7 [fe w "middles" k8 (.ref aM)] ep wd hd ends tw th tn ws ew ab ef ae (ai (.ref aD)) (ai (.ref aL)) (ai (.ref aH)) ae ae ae ae ae [(aD, aa (refs drawn) eD), (aM, aa (cc bp) eM), (aL, aa (ag lows) eL), (aH, aa (ag highs) eH)]) (bp.map Pr.K ++ ab.map Ct.K)) :
  bH w b 28 (bN S) .base (b6 S 17) (iY w S aX aC aW aU aF q0 q1 sX sC sU k0 k1 k2 k3 k4 k5 k6 k7 tt tf ba front v4 v5 v6 v7 [fe w "middles" k8 (.ref aM)] ep wd hd ends tw th tn ws ew ab ef ae (ai (.ref aD)) (ai (.ref aL)) (ai (.ref aH)) ae ae ae ae ae [(aD, aa (refs drawn) eD), (aM, aa (cc bp) eM), (aL, aa (ag lows) eL), (aH, aa (ag highs) eH)]) (bp.map Pr.K ++ ab.map Ct.K) := by
 exists zE, 11, 797318264, zd, zc, hsz, a
 refine zK [25, 26] (lW aL aH (ag lows) (ag highs) eL eH (by simp [ag]; lia)) @fun y1 n1 t1 _ _ _ _ => ?_
 exists yg, 14, 40634878979
 have hn := fun b => (AQ (w := w) (b := b) (n1 + 0) y1.1 (n1 + 2) S (n1 + 1) (jj := 0) (mm := 0) [] _ (DZ (n1 + 0) y1.1 (n1 + 2) S (n1 + 1) (lows ++ highs) y1.2 (lows ++ highs).length 0 (by exact Nat.zero_add _) (ay [] 0) (.inl ⟨rfl, rfl⟩))).imp'
  (Y := Obj × Tok × Value × Nat) (P' := fun _ => True) (dJ := fun _ => .ok .next)
  (dK := fun y => [(n1 + 0, y.1), (n1 + 2, ay [av (au w "x") "x" y.2.1 y.2.2.1] y.2.2.2), (n1 + 1, aa [] 0), (y1.1, aa (ag (lows ++ highs)) y1.2)]) (dO := fun _ => [])
  (fun x hx => by
   obtain ⟨tk, v, ep, h⟩ := hx.some (by rw [List.length_append]; lia)
   exact ⟨(x.2, tk, v, ep), trivial, rfl, by rw [h], rfl⟩)
 rw [show ag (lows ++ highs) = ag lows ++ ag highs by simp [ag]] at hn
 exists zH, 9, 81632, [28, 30, 29, 27], hn _, y2, n2, t2
 refine sQ fun p below l => ?_
 exists ao, ah (dG (ah (ah (ah (ah (fB (fB (ah (bf (d5 l zc.hL (by kernel_rfl)))))))))))
 exists yg, 5, 329181
 exists zH, 1, 0, [29, 31], rp (n1 + 1) (n2 + 0) 0 0, _, n4, t4, G4, a4, _, _
 exact e9 zc.post zc.ro a4 zc.hL 25 [] H (by kernel_rfl) (by kernel_rfl) (by kernel_rfl)
structure Lq where
 (S aX aC aW aU aF aD aM aL aH : Addr)
 (q0 q1 sX sC sU : Obj)
 (k0 k1 k2 k3 k4 k5 k6 k7 k8 tt tf tw th tn : Tok)
 ba : Int
 front : Str
 (v4 v5 v6 v7 : Value)
 (ep wd hd ends ew ef eD eM eL eH : Nat)
 ws : List (Str × Tok)
 (ab drawn : List Ct)
 bp : List Pr
 (lows highs : List (Nat × Tok))
noncomputable abbrev Lq.Ge (p : Lq) (w : World) (ep : Nat) (mT : List DictEntry) (kk co st fa su le : Obj) (r : KS) : KS :=
 iY w p.S p.aX p.aC p.aW p.aU p.aF p.q0 p.q1 p.sX p.sC p.sU p.k0 p.k1 p.k2 p.k3 p.k4 p.k5 p.k6 p.k7 p.tt p.tf p.ba p.front p.v4 p.v5 p.v6 p.v7 ([fe w "middles" p.k8 (.ref p.aM)] ++ mT) ep p.wd p.hd p.ends p.tw p.th p.tn p.ws p.ew p.ab p.ef kk (ai (.ref p.aD)) (ai (.ref p.aL)) (ai (.ref p.aH)) co st fa su le r
noncomputable abbrev Lq.G (p : Lq) (w : World) (mT : List DictEntry) (kk co st fa su le : Obj) (r : KS) : KS := p.Ge w p.ep mT kk co st fa su le r
noncomputable abbrev Lq.Fe (p : Lq) (w : World) (ep : Nat) (mT : List DictEntry) (kk co st fa su le : Obj) (r : KS) : KS :=
 p.Ge w ep mT kk co st fa su le ([(p.aD, aa (refs p.drawn) p.eD), (p.aL, aa (ag p.lows) p.eL), (p.aH, aa (ag p.highs) p.eH)] ++ r)
noncomputable abbrev Lq.F (p : Lq) (w : World) (mT : List DictEntry) (kk co st fa su le : Obj) (r : KS) : KS := p.Fe w p.ep mT kk co st fa su le r
structure CF where
 cs : List (Nat × Tok)
 ed : Nat
 tk : Tok
 v : Value
 ep : Nat
 it : Obj
section
set_option smartUnfolding true
theorem wB (a : Addr) (c : List (Nat × Tok)) (h1 : 1 ≤ c.length) (h5 : c.length ≤ 5) (h9 : ∀ q ∈ c, q.1 ≤ 9) :
  af w b 8 (.call (.ref 240) ⟨[.ref a], []⟩) [(a, aj (ag c))] []
   (X := Tok) (fun v => True) (fun v => .ok (.ret (.int (bz (c.map (·.1)) : Nat) v))) (fun _ => [(a, aj (ag c))]) (fun _ => []) :=
 match c, h1, h5, h9 with
 | [q1], _, _, h9 => uI a q1.1 q1.2 (h9 _ (by simp))
 | [q1, q2], _, _, h9 => uJ a q1.1 q2.1 q1.2 q2.2 (h9 _ (by simp)) (h9 _ (by simp))
 | [q1, q2, q3], _, _, h9 => uK a q1.1 q2.1 q3.1 q1.2 q2.2 q3.2 (h9 _ (by simp)) (h9 _ (by simp)) (h9 _ (by simp))
 | [q1, q2, q3, q4], _, _, h9 => uL a q1.1 q2.1 q3.1 q4.1 q1.2 q2.2 q3.2 q4.2 (h9 _ (by simp)) (h9 _ (by simp)) (h9 _ (by simp)) (h9 _ (by simp))
 | [q1, q2, q3, q4, q5], _, _, h9 => uM a q1.1 q2.1 q3.1 q4.1 q5.1 q1.2 q2.2 q3.2 q4.2 q5.2 (h9 _ (by simp)) (h9 _ (by simp)) (h9 _ (by simp)) (h9 _ (by simp)) (h9 _ (by simp))
structure l4 (p : Ct) : Prop where
 l1 : 1 ≤ p.c.length
 l5 : p.c.length ≤ 5
 d9 : ∀ q ∈ p.c, q.1 ≤ 9
theorem qv (p : Ct) (h : l4 p) :
  af w b 8 (.call (.ref 240) ⟨[.ref p.a], []⟩) [] [p.K]
   (X := Tok) (fun v => True) (fun v => .ok (.ret (.int (bz p.n : Nat) v))) (fun _ => []) (fun _ => []) :=
 af.iL (K := []) (T1 := [p.K]) (T := []) (Kf := fun (_ : Tok) => []) (wB p.a p.c h.l1 h.l5 h.d9)
noncomputable def D0 : Expr := ip (dq cn 19)
noncomputable def sx (D L : Addr) : Env := dP [(Str.ofString ".0", .local), (Str.ofString "cut", .local), (Str.ofString "_law_code", .globalImplicit)] D [] cU L
noncomputable def rF (ab : List Ct) (j : Nat) (done : List Value) : Prop := ∃ cs : List (Nat × Tok), done = ag cs ∧ cs.map (·.1) = (ab.take j).map fun p => bz p.n
theorem take_snoc {α β : Type} {l : List α} {j : Nat} {x : α} (f : α → β) (h : l[j]? = some x) : (l.take (j + 1)).map f = (l.take j).map f ++ [f x] := by
 rw [List.take_succ, h]; simp
theorem rF.next {ab : List Ct} {j : Nat} {p : Ct} (hp : ab[j]? = some p) {cs : List (Nat × Tok)} (h : cs.map (·.1) = (ab.take j).map fun p => bz p.n) (tk : Tok) : rF ab (j + 1) (ag cs ++ [.int (bz p.n : Nat) tk]) :=
 ⟨cs ++ [(bz p.n, tk)], (fj cs _ _).symm, by rw [take_snoc _ hp, List.map_append, h]; rfl⟩
set_option smartUnfolding false
theorem D3 (it a D L acc : Addr) (ab : List Ct) (ik : ab.length ≤ 10) (hcd : ∀ p ∈ ab, l4 p) (ex : Nat) (T : KS) (hT : ∀ p ∈ ab, p.K ∈ T) (j : Nat) (hj : j < (refs ab).length)
  (ih : bP w b 13 D0 (sx D L) it acc D (refs ab).length (fun j => bx a j) [(a, aa (refs ab) ex)] [] T (Dq w "cut") (rF ab) (j + 1)) :
  bP w b 13 D0 (sx D L) it acc D (refs ab).length (fun j => bx a j) [(a, aa (refs ab) ex)] [] T (Dq w "cut") (rF ab) j := by
 intro o hD done ed ⟨cs, fD, dI⟩
 subst fD
 rw [List.length_map] at hj
 obtain ⟨p, hp⟩ : ∃ q, ab[j]? = some q := ⟨ab[j]'hj, List.getElem?_eq_getElem hj⟩
 have dn := List.mem_of_getElem? hp
 have bj : (refs ab)[j]? = some (.ref p.a) := by rw [cX, hp]; rfl
 have bW := hT p dn
 have fb := hcd p dn
 have dk : (ag cs).length ≤ 10 := by
  have := congrArg List.length dI
  simp only [List.length_map, List.length_take] at this
  simp only [ag, List.length_map]
  lia
 have cq := rF.next hp dI
 have ax := fun o' eV fO h' b8 => ih o' eV fO b8 h'
 clear ih hj dI
 rcases hD with ⟨_, rfl⟩ | ⟨_, tk, v, ep, rfl⟩
 all_goals
  exists zA, 3, 102, zd, zc, a0
  exists zH, 14, 631877755, [0, 1], dv it a (refs ab) ex j (.ref p.a) bj, _, n1, t1
  (refine zG (Ta := []) 2 2 [] [] [p.K] (qv p fb) (fun x hx => by rw [List.mem_singleton.mp hx]; exact bW) (dQ _) fun y2 n2 t2 => ?_; intro ou)
  exists zH, 1, 2, [2], bT acc (ag cs) ed (.int (bz p.n : Nat) y2) (by exact aO), y3, n3, t3
 ·exact zO [0, 1, 2, 3] (ax _ (Dq.next (t1 + 0) (.ref p.a) 1) _ (cq y2) y3)
 ·exact zO [0, 1, 2, 3] (ax _ (Dq.next tk (.ref p.a) ep) _ (cq y2) y3)
end
theorem GI (p : Lq) (h1 : 1 ≤ p.ab.length) (ik : p.ab.length ≤ 10) (hcd : ∀ q ∈ p.ab, l4 q)
 (H : ∀ (aK eK : Nat) (cs : List (Nat × Tok)), cs.map (·.1) = (nums p.ab).map bz → bH w b 28 (bN p.S) .base (b6 p.S 20) (p.F w [] ae (ai (.ref aK)) ae ae ae ae [(aK, aa (ag cs) eK)]) (p.ab.map Ct.K)) :
  bH w b 28 (bN p.S) .base (b6 p.S 19) (p.F w [] ae ae ae ae ae ae []) (p.ab.map Ct.K) := by
 (refine zF ?_; intro zd zc hsz a)
 exists yg, 16, 2000462686212
 have hc := fun b => (bP.uG (w := w) (b := b) (n := 12) (e := D0) (env := sx (zc.S + 2) p.S) (it := zc.S + 0) (acc := zc.S + 1) (D := zc.S + 2) (a := p.aF) (vals := refs p.ab) (ex := p.ef) (Kx := []) (T := p.ab.map Ct.K) (Vq := Dq w "cut") (S := rF p.ab) (by kernel_rfl) ⟨[], rfl, rfl⟩ (.inl ⟨rfl, rfl⟩)
   (fun j hj ih => D3 _ _ _ _ _ p.ab ik hcd p.ef _ (fun q hq => Ct.fk hq) j hj ih)).imp'
  (Y := CF) (P' := fun y => (y.cs.map (·.1)) = (nums p.ab).map bz) (dJ := fun _ => .ok .next)
  (dK := fun y => [(zc.S + 0, y.it), (p.aF, aa (refs p.ab) p.ef), (zc.S + 1, aa (ag y.cs) y.ed), (zc.S + 2, ay [av (au w "cut") "cut" y.tk y.v] y.ep)]) (dO := fun _ => [])
  (fun x hx => by
   obtain ⟨⟨cs, h1, h2⟩, hq⟩ := hx
   obtain ⟨tk, v, ep, h⟩ := hq.some (by simpa using (by exact i4 : ¬ p.ab.length = 0))
   exact ⟨⟨cs, x.ed, tk, v, ep, x.it⟩, by rw [h2, List.take_of_length_le (by simp)]; simp, rfl, by rw [h1, h]; rfl, rfl⟩)
 exists zI, 10, 102076530, [26, 22, 27, 28], hc _, y1, n1, t1, G1, a1, b4, _
 exact e9 zc.post zc.ro a1 zc.hL 24 [false, true, false] (H (zc.S + 1) y1.ed y1.cs b4) (by kernel_rfl) (by kernel_rfl) (by kernel_rfl)
section
noncomputable def rG : Expr := ip (dq cn 20)
noncomputable def lB (D L : Addr) : Env := dP [(Str.ofString ".0", .local), (Str.ofString "j", .local), (Str.ofString "way", .local)] D [] cU L
theorem D4 (tx : Tok) :
  af w b 1 (.call (.builtin "int.__neg__") ⟨[.int (1 : Nat) tx], []⟩) [] []
   (X := Tok) (fun _ => True) (fun v => .ok (.ret (.int (-1) v))) (fun _ => []) (fun _ => []) := by
 exists zA, 3, 1, zd, zc, a0
 exact zM 0 [] (fun o => o.rt)
set_option smartUnfolding true
theorem oZ (j : Int) (h : ZFast.zw11032021987095106713 (((4 : Nat) : Int) * j) = false) : ZFast.zw11032021987095106713 (((bitsQ ((10 : Nat) : Int) : Nat) : Int) * j) = false := by
 rw [show bitsQ ((10 : Nat) : Int) = 4 from tU]; exact h
set_option smartUnfolding false
theorem AR (tx ty : Tok) :
  af w b 1 (.call (.builtin "int.__pow__") ⟨[.int (10 : Nat) tx, .int (0 : Nat) ty], []⟩) [] []
   (X := Tok) (fun _ => True) (fun v => .ok (.ret (.int (1 : Nat) v))) (fun _ => []) (fun _ => []) := by
 exists zA, 3, 1, zd, zc, a0
 exact zM 0 [] (fun o => o.rt)
theorem AS (tx ty : Tok) :
  af w b 1 (.call (.builtin "int.__pow__") ⟨[.int (10 : Nat) tx, .int (1 : Nat) ty], []⟩) [] []
   (X := Tok) (fun _ => True) (fun v => .ok (.ret (.int (10 : Nat) v))) (fun _ => []) (fun _ => []) := by
 exists zA, 1, 1, zd, zc, a0
 exists dT, bf (oZ (1 : Nat) (by decide +kernel))
 exists zg, 2, 0
 exact zM 0 [] (fun o => o.rt)
theorem AU (tx ty : Tok) :
  af w b 1 (.call (.builtin "int.__pow__") ⟨[.int (10 : Nat) tx, .int (2 : Nat) ty], []⟩) [] []
   (X := Tok) (fun _ => True) (fun v => .ok (.ret (.int (100 : Nat) v))) (fun _ => []) (fun _ => []) := by
 exists zA, 1, 1, zd, zc, a0
 exists dT, bf (oZ (2 : Nat) (by decide +kernel))
 exists zg, 2, 0
 exact zM 0 [] (fun o => o.rt)
theorem AV (tx ty : Tok) :
  af w b 1 (.call (.builtin "int.__pow__") ⟨[.int (10 : Nat) tx, .int (3 : Nat) ty], []⟩) [] []
   (X := Tok) (fun _ => True) (fun v => .ok (.ret (.int (1000 : Nat) v))) (fun _ => []) (fun _ => []) := by
 exists zA, 1, 1, zd, zc, a0
 exists dT, bf (oZ (3 : Nat) (by decide +kernel))
 exists zg, 2, 0
 exact zM 0 [] (fun o => o.rt)
theorem AW (tx ty : Tok) :
  af w b 1 (.call (.builtin "int.__pow__") ⟨[.int (10 : Nat) tx, .int (4 : Nat) ty], []⟩) [] []
   (X := Tok) (fun _ => True) (fun v => .ok (.ret (.int (10000 : Nat) v))) (fun _ => []) (fun _ => []) := by
 exists zA, 1, 1, zd, zc, a0
 exists dT, bf (oZ (4 : Nat) (by decide +kernel))
 exists zg, 2, 0
 exact zM 0 [] (fun o => o.rt)
set_option smartUnfolding true
theorem pow10 (j : Nat) (hj : j ≤ 4) (tx ty : Tok) :
  af w b 1 (.call (.builtin "int.__pow__") ⟨[.int (10 : Nat) tx, .int (j : Nat) ty], []⟩) [] []
   (X := Tok) (fun _ => True) (fun v => .ok (.ret (.int (10 ^ j : Nat) v))) (fun _ => []) (fun _ => []) :=
 match j, hj with
 | 0, _ => AR tx ty
 | 1, _ => AS tx ty
 | 2, _ => AU tx ty
 | 3, _ => AV tx ty
 | 4, _ => AW tx ty
theorem D5 (x y : Int) (hx : bitsQ x ≤ 4) : (@Bool.rec (fun _ => Bool) ((fun _ => false) ()) ((fun _ => ZFast.zw11032021987095106713 (↑(bitsQ x) + ↑(bitsQ y))) ()) (decide (bitsQ x > shortFactorBits) && decide (bitsQ y > shortFactorBits))) = false := by
 have e : (decide (bitsQ x > shortFactorBits) && decide (bitsQ y > shortFactorBits)) = false := by
  have : ¬ bitsQ x > shortFactorBits := Nat.not_lt.mpr (Nat.le_trans hx (by decide +kernel))
  rw [decide_eq_false this, Bool.false_and]
 rw [e]
set_option smartUnfolding false
theorem rH (x y : Int) (tx ty : Tok) (hx : bitsQ x ≤ 4) :
  af w b 1 (.call (.builtin "int.__mul__") ⟨[.int x tx, .int y ty], []⟩) [] []
   (X := Tok) (fun _ => True) (fun v => .ok (.ret (.int (x * y) v))) (fun _ => []) (fun _ => []) := by
 exists zA, 1, 1, zd, zc, a0
 exists dT, bf (D5 x y hx)
 exists zg, 2, 0
 exact zM 0 [] (fun o => o.rt)
set_option smartUnfolding true
theorem Jq (y : Nat) (tx ty : Tok) :
  af w b 1 (.call (.builtin "int.__mul__") ⟨[.int (1 : Nat) tx, .int (y : Nat) ty], []⟩) [] []
   (X := Tok) (fun _ => True) (fun v => .ok (.ret (.int (y : Nat) v))) (fun _ => []) (fun _ => []) :=
 (rH 1 y tx ty (by rw [← bitsQ_eq]; decide +kernel)).map id (fun _ h => h) (fun _ => by rw [Int.one_mul]; rfl) (fun _ => rfl) (fun _ => rfl)
theorem Jr (y : Nat) (tx ty : Tok) :
  af w b 1 (.call (.builtin "int.__mul__") ⟨[.int (-1) tx, .int (y : Nat) ty], []⟩) [] []
   (X := Tok) (fun _ => True) (fun v => .ok (.ret (.int (-(y : Int)) v))) (fun _ => []) (fun _ => []) :=
 (rH (-1) y tx ty (by rw [← bitsQ_eq]; decide +kernel)).map id (fun _ h => h) (fun _ => by rw [Int.neg_one_mul]; rfl) (fun _ => rfl) (fun _ => rfl)
noncomputable abbrev d4 (a : Addr) (j : Nat) : Obj := ⟨.type "tuple_iterator", none, .fields ⟨[.ref a, .int j 0]⟩, ⟨[]⟩⟩
noncomputable abbrev dj (w : World) (t1 : Tok) (v1 : Value) : DictEntry := av (au w "j") "j" t1 v1
noncomputable abbrev dw (w : World) (t1 : Tok) (v1 : Value) : DictEntry := av (au w "way") "way" t1 v1
structure EW where
 it : Obj
 t : Tok
 v : Value
 ep : Nat
 q1 : Tok
 q2 : Tok
 ed : Nat
set_option smartUnfolding false
theorem D6 (it a D L acc : Addr) (j : Nat) (hj : j ≤ 4) (u1 u2 t1 tj : Tok) (o : Obj) (ho : (∃ ep, o = ay [dj w t1 (.int j tj)] ep) ∨ ∃ t2 v2 ep, o = ay [dj w t1 (.int j tj), dw w t2 v2] ep) (xs : List Value) (hx : xs.length ≤ 100) (ed : Nat) :
  af w b 8 (mQ rG it acc (lB D L)) [(it, d4 a 0), (a, aj [.int (1 : Nat) u1, .int (-1) u2]), (D, o), (acc, aa xs ed)] []
   (X := EW) (fun _ => True) (fun _ => .ok .next) (fun y => [(it, y.it), (a, aj [.int (1 : Nat) u1, .int (-1) u2]), (D, ay [dj w t1 (.int j tj), dw w y.t y.v] y.ep), (acc, aa (xs ++ [.int (10 ^ j : Nat) y.q1] ++ [.int (-((10 ^ j : Nat) : Int)) y.q2]) y.ed)]) (fun _ => []) := by
 rcases ho with ⟨ep, rfl⟩ | ⟨t2, v2, ep, rfl⟩
 all_goals
  exists zA, 25, 25410554767235012630052, zd, zc, a0
  exists zH, 2, 2, [], pow10 j hj (zc.s.toks + 1) tj, y1, n1, k1
  exists zH, 1, 2, [], Jq (10 ^ j) u1 y1, y2, n2, k2
  exists zH, 26, 1270527738361750631502601, [3], bT acc xs ed (.int (10 ^ j : Nat) y2) (by exact aO), y3, n3, k3
  exists zH, 2, 2, [], pow10 j hj (k3 + 1) tj, y4, n4, k4
  exists zH, 1, 2, [], Jr (10 ^ j) u2 y4, y5, n5, k5
  exists zH, 18, 687580500631502601, [3], bT acc (xs ++ [.int (10 ^ j : Nat) y2]) y3 (.int (-((10 ^ j : Nat) : Int)) y5) (by simp; exact aO), y6, n6, k6
 ·exact zM 4 [] (fun o => ⟨o.ob 0, zc.s.toks + 0, .int (-1) u2, o.ep 2, y2, y5, y6⟩)
 ·exact zM 4 [] (fun o => ⟨o.ob 0, t2, .int (-1) u2, o.ep 2, y2, y5, y6⟩)
theorem qw (it a D L acc : Addr) (T : KS) (K : KS) {n : Nat} {X : Type} {P : X → Prop} {rf : X → Result} {Kf Nf : X → KS}
  (H : af w b n (mQ rG it acc (lB D L)) ((it, d4 a 0) :: K) T P rf Kf Nf) : af w b (n + 1) (ny rG it acc (lB D L)) ((it, d4 a 0) :: K) T P rf Kf Nf := by
 obtain ⟨w, c, rfl⟩ := d6 w
 cases c
 ·(refine zB ?_; intro zd zc a0)
  exists yg, 12, 31881502602
  exact zS H (Nat.ble_eq_true_of_le (Nat.le_succ _))
 ·exists zA, 2, 2, zd, zc, a0
  exact zS H (Nat.ble_eq_true_of_le (Nat.le_succ _))
noncomputable def D7 (w : World) (x y : String) (z : Bool) (o : Obj) : Prop := (z = true ∧ o = ay [] 0) ∨ (z = false ∧ ∃ t1 v1 t2 v2 ep, o = ay [av (au w x) x t1 v1, av (au w y) y t2 v2] ep)
noncomputable def rI (j : Nat) (done : List Value) : Prop := ∃ zs : List (Int × Tok), done = aQ zs ∧ zs.map (·.1) = dB j
set_option smartUnfolding true
theorem mW (j : Nat) : (dB j).length = 2 * j := by
 induction j with
 | zero => rfl
 | succ j ih => show (dB j ++ [10 ^ j, -10 ^ j]).length = _; rw [List.length_append, ih]; simp; lia
theorem rI.next {j : Nat} {zs : List (Int × Tok)} (h : zs.map (·.1) = dB j) (q1 q2 : Tok) : rI (j + 1) (aQ zs ++ [.int (10 ^ j : Nat) q1] ++ [.int (-((10 ^ j : Nat) : Int)) q2]) :=
 ⟨zs ++ [(((10 ^ j : Nat) : Int), q1), (-((10 ^ j : Nat) : Int), q2)], by simp [aQ], by
  rw [List.map_append, h]
  show _ = dB j ++ [10 ^ j, -10 ^ j]
  simp⟩
set_option smartUnfolding false
theorem D8 (it D L acc : Addr) (N : Nat) (h5 : N ≤ 5) (T : KS) (j : Nat) (hj : j < N)
  (ih : bP w b 13 rG (lB D L) it acc D N (jN N) [] [] T (D7 w "j" "way") rI (j + 1)) :
  bP w b 13 rG (lB D L) it acc D N (jN N) [] [] T (D7 w "j" "way") rI j := by
 intro o hD done ed ⟨zs, fD, qx⟩
 subst fD
 have dk : (aQ zs).length ≤ 10 := by
  have := congrArg List.length qx
  rw [mW, List.length_map] at this
  simp only [aQ, List.length_map]
  lia
 have cq := rI.next qx
 obtain ⟨m, hm⟩ : ∃ m, N - j = m + 1 := ⟨N - j - 1, by exact w0⟩
 have ax := fun o' eV fO h' b8 => ih o' eV fO b8 h'
 rw [gN (by exact wZ : N - (j + 1) = m)] at ax
 rw [gN hm]
 have yD : j ≤ 4 := by lia
 clear ih hj qx hm
 rcases hD with ⟨_, rfl⟩ | ⟨_, t1, v1, t2, v2, ep, rfl⟩
 all_goals
  exists zA, 3, 102, zd, zc, a0
  exists zH, 12, 5204, [0], du it j m, y1, n1, k1
  refine zK [] (D4 (k1 + 2)) @fun y2 n2 k2 _ _ _ _ => ?_
  exists yg, 12, 33131877755
 ·have hs := fun b => qw (w := w) (b := b) (n2 + 1) (n2 + 0) D L acc [] _ (D6 (n2 + 1) (n2 + 0) D L acc j yD (k1 + 1) y2 (k1 + 0) y1 _ (.inl ⟨1, rfl⟩) (aQ zs) (by exact aO) ed)
  exists zH, 1, 2, [4, 3, 2, 1], hs _, y3, n3, k3
  exact zO [0, 1, 2] (ax _ (.inr ⟨by simp, k1 + 0, .int j y1, y3.t, y3.v, y3.ep, rfl⟩) _ (cq y3.q1 y3.q2) y3.ed)
 ·have hs := fun b => qw (w := w) (b := b) (n2 + 1) (n2 + 0) D L acc [] _ (D6 (n2 + 1) (n2 + 0) D L acc j yD (k1 + 1) y2 t1 y1 _ (.inr ⟨t2, v2, ep, rfl⟩) (aQ zs) (by exact aO) ed)
  exists zH, 1, 2, [4, 3, 2, 1], hs _, y3, n3, k3
  exact zO [0, 1, 2] (ax _ (.inr ⟨by simp, t1, .int j y1, y3.t, y3.v, y3.ep, rfl⟩) _ (cq y3.q1 y3.q2) y3.ed)
end
structure CW where
 cs : List (Int × Tok)
 ed : Nat
 t1 : Tok
 v1 : Value
 t2 : Tok
 v2 : Value
 ep : Nat
 it : Obj
theorem GJ (p : Lq) (rJ : 1 ≤ p.ends) (ki : p.ends ≤ 5) (aK eK : Nat) (cs : List (Nat × Tok))
 (H : ∀ (aS eS : Nat) (zs : List (Int × Tok)), zs.map (·.1) = dB p.ends → bH w b 28 (bN p.S) .base (b6 p.S 21) (p.F w [] ae (ai (.ref aK)) (ai (.ref aS)) ae ae ae [(aK, aa (ag cs) eK), (aS, aa (aQ zs) eS)]) (p.ab.map Ct.K)) :
  bH w b 28 (bN p.S) .base (b6 p.S 20) (p.F w [] ae (ai (.ref aK)) ae ae ae ae [(aK, aa (ag cs) eK)]) (p.ab.map Ct.K) := by
 exists zE, 8, 277551, zd, zc, hsz, a
 refine zK [] (fH p.ends p.tn) @fun y1 n1 t1 _ _ _ _ => ?_
 exists yg, 6, 6479
 exists zH, 4, 130, [27], fI y1.1 p.ends (by exact aO) y1.2.1 p.tn y1.2.2, y2, n2, t2
 have hc := fun b => (bP.uH (w := w) (b := b) (n := 10) (e := rG) (env := lB (n2 + 1) p.S) (it := y2) (acc := n2 + 0) (D := n2 + 1) (N := p.ends) (Kx := []) (T := p.ab.map Ct.K) (Vq := D7 w "j" "way") (S := rI) (by kernel_rfl) ⟨[], rfl, rfl⟩ (.inl ⟨rfl, rfl⟩)
   (fun j hj ih => D8 _ _ _ _ p.ends ki _ j hj ih)).imp'
  (Y := CW) (P' := fun y => (y.cs.map (·.1)) = dB p.ends) (dJ := fun _ => .ok .next)
  (dK := fun y => [(y2, y.it), (n2 + 0, aa (aQ y.cs) y.ed), (n2 + 1, ay [av (au w "j") "j" y.t1 y.v1, av (au w "way") "way" y.t2 y.v2] y.ep)]) (dO := fun _ => [])
  (fun x hx => by
   obtain ⟨⟨cs, h1, h2⟩, hq⟩ := hx
   rcases hq with ⟨h, _⟩ | ⟨_, t1, v1, t2, v2, ep, h⟩
   ·exact absurd (of_decide_eq_true h) (by exact i4)
   ·exact ⟨⟨cs, x.ed, t1, v1, t2, v2, ep, x.it⟩, h2, rfl, by rw [h1, h]; rfl, rfl⟩)
 exists zI, 15, 13557079081632, [28, 29, 30], hc _, y3, n3, t3, G3, a3, ej, _
 exact e9 zc.post zc.ro a3 zc.hL 25 [false, false, true, false] (H (n2 + 0) y3.ed y3.cs ej) (by kernel_rfl) (by kernel_rfl) (by kernel_rfl)
structure SG where
 aJ : List Fe
 ef : Nat
 it : Obj
 ln : Addr
 tl : List DictEntry
 ep : Nat
theorem Js (aC aS : Addr) (st : Nat) (us : Tok) (LN : st ≤ 100000) (codes : List (Nat × Tok)) (dk : codes.length ≤ 10) (Ip : st ∈ codes.map (·.1)) (j9 : 1 ≤ codes.length) (ec : Nat) (steps : List (Int × Tok)) (rm : 0 < steps.length) (es : Nat)
  (ei : ∀ c : Nat, c ∈ codes.map (·.1) → ∀ q ∈ steps, ∃ n : Nat, (c : Int) + q.1 = n ∧ n ≤ 100000) (hb : ∀ c ∈ codes.map (·.1), c ≤ 100000)
  (D9 : ∀ q ∈ codes, q.1 ∈ (f7 (codes.map (·.1)) (steps.map (·.1)) (codes.length - 1) 1 [(st, 0)] [st]).map (·.1)) :
  af w b 24 (.call (.ref 245) ⟨[.int st us, .ref aC, .ref aS], []⟩)
   [(aC, aa (ag codes) ec), (aS, aa (aQ steps) es)] []
   (X := Addr × List (Nat × Tok) × Nat) (fun y => y.2.1.map (·.1) = codes.map (fun q => lk (f7 (codes.map (·.1)) (steps.map (·.1)) (codes.length - 1) 1 [(st, 0)] [st]) q.1)) (fun y => .ok (.ret (.ref y.1))) (fun y => [(aC, aa (ag codes) ec), (aS, aa (aQ steps) es)]) (fun y => [(y.1, aa (ag y.2.1) y.2.2)]) := by
  obtain ⟨n', Jt⟩ : ∃ n', codes.length = n' + 1 := ⟨codes.length - 1, by lia⟩
  have hlen : ∀ b, af w b 10 (.call (.builtin "len") ⟨[.ref aC], []⟩) [(aC, aa (ag codes) ec)] []
    (X := Tok) (fun _ => True) (fun y => .ok (.ret (.int (n' + 1 : Nat) y))) (fun y => [(aC, aa (ag codes) ec)]) (fun y => []) := fun b => by
   have h := kG (w := w) (b := b) aC (ag codes) ec (by simp [ag]; exact aO)
   rw [show (ag codes).length = n' + 1 by simp [ag]; lia] at h
   exact h
  (refine zU 17 3188775510051 ?_; intro zd zc hsz a ou)
  refine dN (bB i6 245 zc.S [(Str.ofString "far", (zc.S + 1))]) ?_ zc.hL
  exists yg, 11, 5201
  refine zK [] (mO st us (by exact aO)) @fun y1 n1 t1 G1 a1 b4 _ => ?_
  have Ld : (st : Int) < 2 ^ 63 := by exact sP
  exists ao, ah (dG (ah (ah (ah (ah (ah (fB (ah (ah (ah (ah (bt (cy Ld)))))))))))))
  exists zg, 34, 1269780373206314094515306
  refine zK [0] (hlen _) fun y2 n2 t2 => ?_
  exists zg, 3, 2
  refine zK [] (q9 1 (n' + 1) (t1 + 1) y2) @fun y3 n3 t3 _ _ _ _ => ?_
  exists yg, 6, 5408
  refine zK [6] (ra y3.1 n' (by lia) (t1 + 1) y2 y3.2) fun y4 n4 t4 => ?_
  exists zg, 2, 109
  have eU := fun b => AA (w := w) (b := b) zc.S aC aS (zc.S + 2) (zc.S + 1) y4 (Nat.le_add_left 2 _) st (zc.s.toks + 0) (zc.s.toks + 1) (zc.s.toks + 2) (t1 + 0) us codes (by exact aO) ec steps rm es ei (f7 (codes.map (·.1)) (steps.map (·.1)) (codes.length - 1) 1 [(st, 0)] [st]) n' 1 (n1 + 0) [(st, us)] (fun q hq => by rw [List.mem_singleton.mp hq]; exact Ip) 0
   (fJ w st aC aS (n1 + 0) (zc.s.toks + 0) (zc.s.toks + 1) (zc.s.toks + 2) (t1 + 0) us [] 4) (.inl ⟨_, rfl⟩) [⟨st, us, 0, zc.s.toks + 3⟩] ⟨by simp, fun e he => by rw [List.mem_singleton.mp he]; exact Ip, Nat.zero_le _, fun _ h => nomatch h⟩ (by rw [Jt]; rfl) 1
  have wC := fun b => (eU b).imp' (Y := SG) (P' := fun y => FI (codes.map (·.1)) y.aJ [] ∧ cT y.aJ = f7 (codes.map (·.1)) (steps.map (·.1)) (codes.length - 1) 1 [(st, 0)] [st]) (dJ := fun _ => .ok .next)
   (dK := fun y => [(zc.S, fJ w st aC aS y.ln (zc.s.toks + 0) (zc.s.toks + 1) (zc.s.toks + 2) (t1 + 0) us y.tl y.ep), (y4, y.it), (zc.S + 2, dz y.aJ y.ef), (aC, aa (ag codes) ec), (aS, aa (aQ steps) es), (zc.S + 1, ai (.ref (zc.S + 2))), (n1 + 0, aa (ag [(st, us)]) 0)]) (dO := fun _ => [])
   (fun x hx => by
    obtain ⟨h1, h2, qf, h3⟩ := hx
    rcases h3 with ⟨ep, h3⟩ | ⟨u6, tv, u7, fv, ep, h3⟩ | ⟨u6, tv, u7, fv, u8, code, uc, u9, v9, ep, h3⟩
    ·exact ⟨⟨x.aJ, x.ef, x.it, qf, _, ep⟩, ⟨h1, h2⟩, rfl, by rw [h3], rfl⟩
    ·exact ⟨⟨x.aJ, x.ef, x.it, qf, _, ep⟩, ⟨h1, h2⟩, rfl, by rw [h3], rfl⟩
    ·exact ⟨⟨x.aJ, x.ef, x.it, qf, _, ep⟩, ⟨h1, h2⟩, rfl, by rw [h3], rfl⟩)
  refine zK [2, 7, 4, 0, 1, 3, 5] (wC _) @fun y5 n5 t5 G5 a5 eo _ => ?_
  have Ju : ∀ q ∈ codes, q.1 ∈ y5.aJ.map (·.c) := fun q hq => by
   have := D9 q hq
   rw [← eo.2, l0] at this
   exact this
  have Le : ∀ e ∈ y5.aJ, e.c ≤ 100000 := fun e he => hb _ (eo.1.sub e he)
  exists yg, 16, 1719075130104
  have hg := fun b => (C4 (w := w) (b := b) (n5 + 0) aC (n5 + 2) zc.S (zc.S + 1) (n5 + 1) 0 [] _ (Gi (b := b) (n5 + 0) aC (n5 + 2) zc.S (zc.S + 1) (zc.S + 2) (n5 + 1) codes (by exact aO) ec y5.aJ eo.1.nd Ju Le y5.ef (codes.map fun q => lk (cT y5.aJ) q.1) codes.length 0 (by exact Nat.zero_add _) (ay [] 0) (.inl ⟨rfl, rfl⟩) [] (by simp) (by simp; exact aO) 0)).imp'
   (Y := List (Nat × Tok) × Nat × Obj × Tok × Value × Nat) (P' := fun y => y.1.map (·.1) = codes.map fun q => lk (cT y5.aJ) q.1) (dJ := fun _ => .ok .next)
   (dK := fun y => [(n5 + 0, y.2.2.1), (n5 + 2, ay [av (au w "code") "code" y.2.2.2.1 y.2.2.2.2.1] y.2.2.2.2.2), (n5 + 1, aa (ag y.1) y.2.1), (aC, aa (ag codes) ec), (zc.S + 1, ai (.ref (zc.S + 2))), (zc.S + 2, dz y5.aJ y5.ef)]) (dO := fun _ => [])
   (fun x hx => by
    obtain ⟨h1, h2⟩ := hx
    rcases h2 with ⟨h, _⟩ | ⟨tk, v, ep, h⟩
    ·have := of_decide_eq_true h; lia
    ·exact ⟨(x.1, x.2.1, x.2.2.2, tk, v, ep), h1, rfl, by rw [h], rfl⟩)
  refine zK [8, 10, 9, 0, 3, 4] (hg _) @fun y6 n6 t6 G6 a6 ub _ => ?_
  exists zg, 6, 30612
  exact zM 2 [false, false, false, false, false, false, false, true] (fun _ => (n5 + 1, y6.1, y6.2.1)) (hx := (by (with_reducible conv => whnf); rw [← eo.2]; exact ub)) (hs := (ar (Nat.le_trans a5.n (Nat.le_add_right _ _)) ak))
section
noncomputable def Iq : Expr := ip (dq cn 21)
noncomputable def yE (D L : Addr) : Env := dP [(Str.ofString ".0", .local), (Str.ofString "cut", .local), (Str.ofString "_law_far", .globalImplicit), (Str.ofString "_law_code", .globalImplicit), (Str.ofString "codes", .cell), (Str.ofString "steps", .cell)] D [(Str.ofString "steps", L + 12), (Str.ofString "codes", L + 11)] cU L
structure Fl where
 a : Addr
 c : List (Nat × Tok)
 e : Nat
noncomputable def Fl.K (p : Fl) : Addr × Obj := (p.a, aa (ag p.c) p.e)
noncomputable def Fl.n (p : Fl) : List Nat := p.c.map (·.1)
noncomputable abbrev cm (l : List Fl) : List Value := l.map fun p => .ref p.a
structure Lf where
 fl : List Fl
 ed : Nat
 o : Obj
 it : Obj
noncomputable def oH (codes : List Nat) (zs : List Int) (c : Nat) : List (Nat × Nat) := f7 codes zs (codes.length - 1) 1 [(c, 0)] [c]
noncomputable def mX (codes : List Nat) (zs : List Int) (c : Nat) : List Nat := codes.map fun q => lk (oH codes zs c) q
structure mY (codes : List Nat) (zs : List Int) (cs : List Nat) : Prop where
 l1 : 1 ≤ codes.length
 Lg : codes.length ≤ 10
 z0 : 0 < zs.length
 ei : ∀ c ∈ codes, ∀ q ∈ zs, ∃ n : Nat, (c : Int) + q = n ∧ n ≤ 100000
 hb : ∀ c ∈ codes, c ≤ 100000
 hs : ∀ c ∈ cs, c ∈ codes
 hr : ∀ c ∈ cs, ∀ q ∈ codes, q ∈ (oH codes zs c).map (·.1)
set_option smartUnfolding true
theorem Ea (aC aS : Addr) (st : Nat) (us : Tok) (codes : List (Nat × Tok)) (ec : Nat) (zs : List (Int × Tok)) (es : Nat) (cs : List Nat) (h : mY (codes.map (·.1)) (zs.map (·.1)) cs) (hc : st ∈ cs) :
  af w b 24 (.call (.ref 245) ⟨[.int st us, .ref aC, .ref aS], []⟩)
   [(aC, aa (ag codes) ec), (aS, aa (aQ zs) es)] []
   (X := Fl) (fun y => y.n = mX (codes.map (·.1)) (zs.map (·.1)) st) (fun y => .ok (.ret (.ref y.a))) (fun y => [(aC, aa (ag codes) ec), (aS, aa (aQ zs) es)]) (fun y => [y.K]) := by
 have e : codes.length - 1 = (codes.map (·.1)).length - 1 := by simp
 have h1 := h.l1
 have h2 := h.Lg
 have h3 := h.z0
 simp only [List.length_map] at h1 h2 h3
 have H := Js (w := w) (b := b) aC aS st us (h.hb _ (h.hs _ hc)) codes h2 (h.hs _ hc) h1 ec zs h3 es
  (fun c hc q hq => h.ei c hc q.1 (List.mem_map_of_mem hq)) h.hb (fun q hq => by
   have := h.hr st hc q.1 (List.mem_map_of_mem hq)
   unfold oH at this
   rw [e]; exact this)
 rw [e] at H
 refine H.map (fun y => ⟨y.1, y.2.1, y.2.2⟩) (fun y hy => ?_) (fun _ => rfl) (fun _ => rfl) (fun _ => rfl)
 show y.2.1.map (·.1) = _
 rw [hy]
 unfold mX oH
 rw [List.map_map]
 rfl
set_option smartUnfolding false
theorem Eb (it a D L aK aS acc : Addr) (drawn : List Ct) (ik : drawn.length ≤ 10) (hcd : ∀ p ∈ drawn, l4 p) (ex : Nat) (codes : List (Nat × Tok)) (eK : Nat) (zs : List (Int × Tok)) (eS : Nat) (hf : mY (codes.map (·.1)) (zs.map (·.1)) (drawn.map fun p => bz p.n)) (T : KS) (hT : ∀ p ∈ drawn, p.K ∈ T) :
 ∀ (m j : Nat) (hm : j + m = drawn.length) (o : Obj) (hD : Dq w "cut" (decide (j = 0)) o) (xs : List Value) (hx : xs.length + m ≤ 100) (ed : Nat),
  af w b 26 (bF Iq it acc (yE D L)) [(it, bx a j), (D, o), (acc, aa xs ed), (a, aa (refs drawn) ex), (L + 11, ai (.ref aK)), (L + 12, ai (.ref aS)), (aK, aa (ag codes) eK), (aS, aa (aQ zs) eS)] T
   (X := Lf) (fun y => y.fl.map Fl.n = (drawn.drop j).map (fun p => mX (codes.map (·.1)) (zs.map (·.1)) (bz p.n)) ∧ Dq w "cut" (decide (drawn.length = 0)) y.o) (fun _ => .ok .next)
   (fun y => [(it, y.it), (D, y.o), (acc, aa (xs ++ cm y.fl) y.ed), (a, aa (refs drawn) ex), (L + 11, ai (.ref aK)), (L + 12, ai (.ref aS)), (aK, aa (ag codes) eK), (aS, aa (aQ zs) eS)]) (fun y => y.fl.map Fl.K) := by
 intro m
 induction m with
 | zero =>
  intro j hm o hD xs hx ed
  have bj : (refs drawn)[j]? = none := by simp [refs]; exact c6
  exists zA, 3, 102, zd, zc, a0
  exists zH, 2, 11, [0, 3], gM it a (refs drawn) ex j bj, y, n1, t1, G1, a1, _, _
  exact od zc.post zc.ro a1 8 [] (fun _ => ⟨[], ed, o, y.2.2⟩) ⟨by rw [List.drop_eq_nil_of_le (by exact c6)]; rfl, by rw [show drawn.length = j by exact km]; exact hD⟩ (fun _ => [(it, y.2.2), (D, o), (acc, aa xs ed), (a, aa (refs drawn) ex), (L + 11, ai (.ref aK)), (L + 12, ai (.ref aS)), (aK, aa (ag codes) eK), (aS, aa (aQ zs) eS)]) (by kernel_rfl) (by (with_reducible conv => rhs; whnf); simp) (by kernel_rfl) ak
 | succ m ih =>
  intro j hm o hD xs hx ed
  obtain ⟨p, hp⟩ : ∃ q, drawn[j]? = some q := ⟨drawn[j]'(by exact cf), List.getElem?_eq_getElem (by exact cf)⟩
  have dn := List.mem_of_getElem? hp
  have bj : (refs drawn)[j]? = some (.ref p.a) := by rw [cX, hp]; rfl
  have bW := hT p dn
  have fb := hcd p dn
  have Lh : bz p.n ∈ drawn.map fun p => bz p.n := List.mem_map.mpr ⟨p, dn, rfl⟩
  have cW := bI drawn (fun p => mX (codes.map (·.1)) (zs.map (·.1)) (bz p.n)) j p hp
  have ax := fun o' eV (v : Value) b8 => ih (j + 1) (by exact cJ) o' eV (xs ++ [v]) (by simp; exact gm) b8
  clear ih
  rcases hD with ⟨_, rfl⟩ | ⟨_, tk, v, ep, rfl⟩
  all_goals
   exists zA, 3, 102, zd, zc, a0
   exists zH, 16, 31581377653, [0, 3], dv it a (refs drawn) ex j (.ref p.a) bj, _, n1, t1
   (refine zG (Ta := []) 8 252856 [] [] [p.K] (qv p fb) (fun x hx => by rw [List.mem_singleton.mp hx]; exact bW) (dQ _) fun y2 n2 t2 => ?_; intro ou)
   exists zH, 2, 2, [6, 7], Ea aK aS (bz p.n) y2 codes eK zs eS _ hf Lh, y3, n3, t3, G3, a3, ej, kf
   exists zH, 1, 2, [2], bT acc xs ed (.ref y3.a) (by exact gA), y4, n4, t4, G4, a4, _, _
  ·refine aZ (Ta := []) zc.ro a4 zc.hL [0, 1, 2, 3, 4, 5, 6, 7] [] T (ax _ (Dq.next (t1 + 0) (.ref p.a) 1) (.ref y3.a) y4) (by kernel_rfl) (by kernel_rfl) (fun _ h => h) zc.ro.nd fun y n5 t5 G5 a5 hy hN => ?_
   refine te zc.post zc.ro a5 8 1 [true] ⟨y3 :: y.fl, y.ed, y.o, y.it⟩ ⟨?_, hy.2⟩ rfl ((by kernel_rfl : bk 8 _ = [(it, y.it), (D, y.o), (acc, aa (xs ++ [.ref y3.a] ++ cm y.fl) y.ed), (a, aa (refs drawn) ex), (L + 11, ai (.ref aK)), (L + 12, ai (.ref aS)), (aK, aa (ag codes) eK), (aS, aa (aQ zs) eS)]).trans (by (with_reducible conv => rhs; whnf); simp)) (by kernel_rfl) (by kernel_rfl) (ar (kf y3.K (by simp)) hN)
   rw [cW, List.map_cons, ej, hy.1]
  ·refine aZ (Ta := []) zc.ro a4 zc.hL [0, 1, 2, 3, 4, 5, 6, 7] [] T (ax _ (Dq.next tk (.ref p.a) ep) (.ref y3.a) y4) (by kernel_rfl) (by kernel_rfl) (fun _ h => h) zc.ro.nd fun y n5 t5 G5 a5 hy hN => ?_
   refine te zc.post zc.ro a5 8 1 [true] ⟨y3 :: y.fl, y.ed, y.o, y.it⟩ ⟨?_, hy.2⟩ rfl ((by kernel_rfl : bk 8 _ = [(it, y.it), (D, y.o), (acc, aa (xs ++ [.ref y3.a] ++ cm y.fl) y.ed), (a, aa (refs drawn) ex), (L + 11, ai (.ref aK)), (L + 12, ai (.ref aS)), (aK, aa (ag codes) eK), (aS, aa (aQ zs) eS)]).trans (by (with_reducible conv => rhs; whnf); simp)) (by kernel_rfl) (by kernel_rfl) (ar (kf y3.K (by simp)) hN)
   rw [cW, List.map_cons, ej, hy.1]
end
structure Li where
 fl : List Fl
 ed : Nat
 tk : Tok
 v : Value
 ep : Nat
 it : Obj
theorem GK (p : Lq) (eC : 1 ≤ p.drawn.length) (gP : p.drawn.length ≤ 10) (dY : ∀ q ∈ p.drawn, q ∈ p.ab) (hcd : ∀ q ∈ p.drawn, l4 q) (aK eK : Nat) (cs : List (Nat × Tok)) (aS eS : Nat) (zs : List (Int × Tok)) (hf : mY (cs.map (·.1)) (zs.map (·.1)) (p.drawn.map fun q => bz q.n))
 (H : ∀ (aR eR : Nat) (fl : List Fl), fl.map Fl.n = p.drawn.map (fun q => mX (cs.map (·.1)) (zs.map (·.1)) (bz q.n)) → bH w b 28 (bN p.S) .base (b6 p.S 22) (p.F w [] ae (ai (.ref aK)) (ai (.ref aS)) (ai (.ref aR)) ae ae [(aK, aa (ag cs) eK), (aS, aa (aQ zs) eS), (aR, aa (cm fl) eR)]) (fl.map Fl.K ++ p.ab.map Ct.K)) :
  bH w b 28 (bN p.S) .base (b6 p.S 21) (p.F w [] ae (ai (.ref aK)) (ai (.ref aS)) ae ae ae [(aK, aa (ag cs) eK), (aS, aa (aQ zs) eS)]) (p.ab.map Ct.K) := by
 (refine zF ?_; intro zd zc hsz a)
 exists yg, 16, 2031718938763
 have hc := fun b => (rB (w := w) (b := b) Iq (by kernel_rfl) (yE (zc.S + 2) p.S) (zc.S + 0) p.aD (zc.S + 1) 0 (p.ab.map Ct.K) _ (Eb (zc.S + 0) p.aD (zc.S + 2) p.S aK aS (zc.S + 1) p.drawn gP hcd p.eD cs eK zs eS hf (p.ab.map Ct.K) (fun q hq => Ct.fk (dY q hq)) p.drawn.length 0 (by exact Nat.zero_add _) (ay [] 0) (.inl ⟨rfl, rfl⟩) [] (by simp; exact aO) 0)).imp'
  (Y := Li) (P' := fun y => y.fl.map Fl.n = p.drawn.map (fun q => mX (cs.map (·.1)) (zs.map (·.1)) (bz q.n))) (dJ := fun _ => .ok .next)
  (dK := fun y => [(zc.S + 0, y.it), (zc.S + 2, ay [av (au w "cut") "cut" y.tk y.v] y.ep), (zc.S + 1, aa (cm y.fl) y.ed), (p.aD, aa (refs p.drawn) p.eD), (p.S + 11, ai (.ref aK)), (p.S + 12, ai (.ref aS)), (aK, aa (ag cs) eK), (aS, aa (aQ zs) eS)]) (dO := fun y => y.fl.map Fl.K)
  (fun x hx => by
   obtain ⟨tk, v, ep, h⟩ := hx.2.some (by exact i4)
   exact ⟨⟨x.fl, x.ed, tk, v, ep, x.it⟩, by rw [hx.1]; rfl, rfl, by rw [h]; rfl, rfl⟩)
 exists zI, 10, 114831632, [28, 30, 29, 23, 14, 15, 26, 27], hc _, y1, n1, t1, G1, a1, b4, Ec
 exact kL zc.post zc.ro a1 zc.hL 31 26 [false, true, false] (H (zc.S + 1) y1.ed y1.fl b4) (by kernel_rfl) (by kernel_rfl) (List.Sublist.refl _) (by kernel_rfl)
section
noncomputable def yF : Expr := ip (dq cn 22)
noncomputable def Ed : Expr := lX (r6 yF) 0
noncomputable def sy (D L J : Addr) : Env := dP [(Str.ofString ".0", .local), (Str.ofString "n", .cell), (Str.ofString "sum", .globalImplicit), (Str.ofString "fars", .cell)] D [(Str.ofString "n", J), (Str.ofString "fars", L + 13)] cU L
noncomputable def sA (D L J : Addr) : Env := dP [(Str.ofString ".0", .local), (Str.ofString "far", .local), (Str.ofString "n", .cell)] D [(Str.ofString "n", J)] cU L
noncomputable def bX (l : List Nat) (n : Nat) : Nat := l.getD n 0
set_option smartUnfolding true
theorem uT (l : List Fl) (j : Nat) : (cm l)[j]? = (l[j]?).map fun p => .ref p.a := by simp [cm]
theorem Fl.get {p : Fl} {n : Nat} (h : n < p.c.length) : ∃ tk, (ag p.c)[n]? = some (.int (bX p.n n : Nat) tk) := by
 refine ⟨(p.c[n]'h).2, ?_⟩
 simp [ag, bX, Fl.n, h]
theorem Ee (p : Fl) (i : Nat) (v : Value) (hv : (ag p.c)[i]? = some v) (hi : i ≤ 1000) (ti : Tok) :
  af w b 1 (.call (.builtin "list.__getitem__") ⟨[.ref p.a, .int i ti], []⟩) [] [p.K]
   (X := Unit) (fun _ => True) (fun y => .ok (.ret v)) (fun y => []) (fun y => []) :=
 af.iL (K := []) (T1 := [p.K]) (T := []) (Kf := fun (_ : Unit) => []) (dt p.a (ag p.c) p.e i v hv hi ti)
noncomputable def ff (f : Nat → List Nat) (j : Nat) (done : List Value) : Prop := ∃ xs : List (Nat × Tok), done = ag xs ∧ xs.map (·.1) = f j
theorem ff.next {f : Nat → List Nat} {j v : Nat} {xs : List (Nat × Tok)} (h : xs.map (·.1) = f j) (he : f (j + 1) = f j ++ [v]) (tk : Tok) : ff f (j + 1) (ag xs ++ [.int v tk]) :=
 ⟨xs ++ [(v, tk)], (fj xs _ _).symm, by rw [he, List.map_append, h]; rfl⟩
theorem ff.len {f : Nat → List Nat} {j : Nat} {xs : List (Nat × Tok)} (h : xs.map (·.1) = f j) : (ag xs).length = (f j).length := by
 rw [← h]; simp [ag]
set_option smartUnfolding false
theorem Ef (it a D L J acc : Addr) (n : Nat) (tn : Tok) (hn : n ≤ 100) (fl : List Fl) (ik : fl.length ≤ 10) (eU : ∀ p ∈ fl, n < p.c.length) (ex : Nat) (T : KS) (hT : ∀ p ∈ fl, p.K ∈ T) (j : Nat) (hj : j < (cm fl).length)
  (ih : bP w b 13 Ed (sA D L J) it acc D (cm fl).length (fun j => bx a j) [(a, aa (cm fl) ex)] [(J, ai (.int n tn))] T (Dq w "far") (ff fun j => (fl.take j).map fun p => bX p.n n) (j + 1)) :
  bP w b 13 Ed (sA D L J) it acc D (cm fl).length (fun j => bx a j) [(a, aa (cm fl) ex)] [(J, ai (.int n tn))] T (Dq w "far") (ff fun j => (fl.take j).map fun p => bX p.n n) j := by
 intro o hD done ed ⟨cs, fD, dI⟩
 subst fD
 rw [List.length_map] at hj
 obtain ⟨p, hp⟩ : ∃ q, fl[j]? = some q := ⟨fl[j]'hj, List.getElem?_eq_getElem hj⟩
 have dn := List.mem_of_getElem? hp
 have bj : (cm fl)[j]? = some (.ref p.a) := by rw [uT, hp]; rfl
 have bW := hT p dn
 obtain ⟨tq, hq⟩ := Fl.get (eU p dn)
 have dk : (ag cs).length ≤ 10 := by rw [ff.len (f := fun j => (fl.take j).map fun p => bX p.n n) dI]; simp; lia
 have cq := ff.next (f := fun j => (fl.take j).map fun p => bX p.n n) dI (take_snoc (fun p : Fl => bX p.n n) hp) tq
 have ax := fun o' eV b8 => ih o' eV _ b8 cq
 clear ih hj dI cq
 rcases hD with ⟨_, rfl⟩ | ⟨_, tk, v, ep, rfl⟩
 all_goals
  exists zA, 3, 102, zd, zc, a0
  exists zH, 12, 762755, [0, 1], dv it a (cm fl) ex j (.ref p.a) bj, _, n1, t1
  (refine zQ 0 0 p.K bW ?_; intro ou)
  (refine zQ 0 0 p.K bW ?_; intro ou)
  (refine zQ 1 2 p.K bW ?_; intro ou)
  (refine zG (Ta := []) 1 2 [] [] [p.K] (Ee p n _ hq (by exact aO) tn) (fun x hx => by rw [List.mem_singleton.mp hx]; exact bW) (dQ _) fun _ n2 t2 => ?_; intro ou)
  exists zH, 1, 2, [2], bT acc (ag cs) ed (.int (bX p.n n : Nat) tq) (by exact aO), y3, n3, t3
 ·exact zO [0, 1, 2, 3, 4] (ax _ (Dq.next (t1 + 0) (.ref p.a) 1) y3)
 ·exact zO [0, 1, 2, 3, 4] (ax _ (Dq.next tk (.ref p.a) ep) y3)
set_option smartUnfolding true
theorem AX (xs : List (Nat × Tok)) : ag xs = aQ (xs.map fun q => ((q.1 : Int), q.2)) := by simp [ag, aQ]
theorem AY (xs : List (Nat × Tok)) : ((xs.map fun q => ((q.1 : Int), q.2)).map (·.1)).sum = ((xs.map (·.1)).sum : Nat) := by
 induction xs with
 | nil => rfl
 | cons x l ih => simp only [List.map_cons, List.sum_cons] at ih ⊢; rw [ih]; simp
theorem Jv (a : Addr) (xs : List (Nat × Tok)) (e : Nat) :
  af w b 8 (.call (.builtin "sum") ⟨[.ref a], []⟩) [(a, aa (ag xs) e)] []
   (X := Tok) (fun _ => True) (fun y => .ok (.ret (.int ((xs.map (·.1)).sum : Nat) y))) (fun y => [(a, aa (ag xs) e)]) (fun y => []) := by
 have h := C6 (w := w) (b := b) a (xs.map fun q => ((q.1 : Int), q.2)) e
 rw [← AX, AY] at h
 exact h
noncomputable def j6 (fl : List (List Nat)) (n : Nat) : Nat := (fl.map fun f => bX f n).sum
noncomputable def fE (fl : List (List Nat)) (n : Nat) : List Nat := (List.range n).map (j6 fl)
theorem sD (fl : List (List Nat)) (n : Nat) : fE fl (n + 1) = fE fl n ++ [j6 fl n] := by simp [fE, List.range_succ]
set_option smartUnfolding false
theorem Eg (it aR D L J acc : Addr) (fl : List Fl) (h0 : 1 ≤ fl.length) (ik : fl.length ≤ 10) (N : Nat) (hN : N ≤ 10) (eU : ∀ p ∈ fl, p.c.length = N) (eR : Nat) (T : KS) (hT : ∀ p ∈ fl, p.K ∈ T) (j : Nat) (hj : j < N)
  (ih : bP w b 17 yF (sy D L J) it acc J N (jN N) [] [(D, ay [] 0), (L + 13, ai (.ref aR)), (aR, aa (cm fl) eR)] T (fun _ o => ∃ c, o = cY c) (ff (fE (fl.map Fl.n))) (j + 1)) :
  bP w b 17 yF (sy D L J) it acc J N (jN N) [] [(D, ay [] 0), (L + 13, ai (.ref aR)), (aR, aa (cm fl) eR)] T (fun _ o => ∃ c, o = cY c) (ff (fE (fl.map Fl.n))) j := by
 intro o hD done ed ⟨cs, fD, dI⟩
 subst fD
 obtain ⟨c, rfl⟩ := hD
 have dk : (ag cs).length ≤ 10 := by rw [ff.len dI]; simp [fE]; exact qR
 obtain ⟨m, hm⟩ : ∃ m, N - j = m + 1 := ⟨N - j - 1, by exact w0⟩
 have cq := fun tk => ff.next dI (sD (fl.map Fl.n) j) tk
 have ax := fun o' eV tk b8 => ih o' eV _ b8 (cq tk)
 rw [gN (by exact wZ : N - (j + 1) = m)] at ax
 rw [gN hm]
 have wC : ∀ p ∈ fl, j < p.c.length := fun p hp => by rw [eU p hp]; lia
 have yD : j ≤ 100 := by exact qR
 have Lj : ((fl.take (cm fl).length).map fun p => bX p.n j).sum = j6 (fl.map Fl.n) j := by
  rw [List.take_of_length_le (by simp)]; unfold j6; rw [List.map_map]; rfl
 clear ih hj dI hm cq
 exists zA, 3, 102, zd, zc, a0
 refine zK [0] (du it j m) @fun y1 n1 t1 _ _ _ _ => ?_
 exists yg, 23, 10549102455350127704
 have hc := fun b => (bP.uG (w := w) (b := b) (n := 12) (e := Ed) (env := sA (n1 + 2) L J) (it := n1 + 0) (acc := n1 + 1) (D := n1 + 2) (a := aR) (vals := cm fl) (ex := eR) (Kx := [(J, ai (.int j y1))]) (T := T) (Vq := Dq w "far") (S := ff fun i => (fl.take i).map fun p => bX p.n j) (by kernel_rfl) ⟨[], rfl, rfl⟩ (.inl ⟨rfl, rfl⟩)
   (fun i hi ih => Ef _ _ _ _ _ _ j y1 yD fl ik wC eR _ hT i hi ih)).imp'
  (Y := CF) (P' := fun y => (y.cs.map (·.1)).sum = j6 (fl.map Fl.n) j) (dJ := fun _ => .ok .next)
  (dK := fun y => [(n1 + 0, y.it), (aR, aa (cm fl) eR), (n1 + 1, aa (ag y.cs) y.ed), (n1 + 2, ay [av (au w "far") "far" y.tk y.v] y.ep), (J, ai (.int j y1))]) (dO := fun _ => [])
  (fun x hx => by
   obtain ⟨⟨cs, h1, h2⟩, hq⟩ := hx
   obtain ⟨tk, v, ep, h⟩ := hq.some (by simpa using (by exact i4 : ¬ fl.length = 0))
   exact ⟨⟨cs, x.ed, tk, v, ep, x.it⟩, by rw [h2]; exact Lj, rfl, by rw [h1, h]; rfl, rfl⟩)
 exists zI, 7, 275510, [6, 5, 7, 8, 2], hc _, y2, n2, t2, G2, a2, fC, _
 have Ir := fun b => Jv (w := w) (b := b) (n1 + 1) y2.cs y2.ed
 rw [fC] at Ir
 exists zH, 2, 2, [7], Ir _, y3, n3, t3
 exists zH, 1, 2, [1], bT acc (ag cs) ed (.int (j6 (fl.map Fl.n) j : Nat) y3) (by exact aO), y4, n4, t4
 exact zO [0, 1, 2, 3, 4, 5] (ax _ ⟨some (.int j y1), rfl⟩ y3 y4)
end
structure CG where
 cs : List (Nat × Tok)
 ed : Nat
 c : Option Value
 it : Obj
theorem GL (p : Lq) (It : 1 ≤ p.ab.length) (qy : p.ab.length ≤ 10) (aK eK : Nat) (cs : List (Nat × Tok)) (aS eS : Nat) (zs : List (Int × Tok)) (aR eR : Nat) (fl : List Fl) (h0 : 1 ≤ fl.length) (ik : fl.length ≤ 10) (eU : ∀ q ∈ fl, q.c.length = p.ab.length)
 (H : ∀ (aY eY : Nat) (ss : List (Nat × Tok)), ss.map (·.1) = fE (fl.map Fl.n) p.ab.length → bH w b 28 (bN p.S) .base (b6 p.S 23) (p.F w [] ae (ai (.ref aK)) (ai (.ref aS)) (ai (.ref aR)) (ai (.ref aY)) ae [(aK, aa (ag cs) eK), (aS, aa (aQ zs) eS), (aR, aa (cm fl) eR), (aY, aa (ag ss) eY)]) (fl.map Fl.K ++ p.ab.map Ct.K)) :
  bH w b 28 (bN p.S) .base (b6 p.S 22) (p.F w [] ae (ai (.ref aK)) (ai (.ref aS)) (ai (.ref aR)) ae ae [(aK, aa (ag cs) eK), (aS, aa (aQ zs) eS), (aR, aa (cm fl) eR)]) (fl.map Fl.K ++ p.ab.map Ct.K) := by
 (refine zF ?_; intro zd zc hsz a)
 have hlen : ∀ b, af w b 10 (.call (.builtin "len") ⟨[.ref p.aF], []⟩) [(p.aF, aa (refs p.ab) p.ef)] []
    (X := Tok) (fun _ => True) (fun y => .ok (.ret (.int (p.ab.length : Nat) y))) (fun y => [(p.aF, aa (refs p.ab) p.ef)]) (fun y => []) := fun b => by
  have h := kG (w := w) (b := b) p.aF (refs p.ab) p.ef (by simp; exact aO)
  rw [show (refs p.ab).length = p.ab.length by simp] at h
  exact h
 exists zg, 11, 700127551
 exists zH, 3, 2, [22], hlen _, y0, n0, t0
 refine zK [] (fH p.ab.length y0) @fun y1 n1 t1 _ _ _ _ => ?_
 exists yg, 6, 6581
 exists zH, 5, 132, [29], fI y1.1 p.ab.length (by exact aO) y1.2.1 y0 y1.2.2, y2, n2, t2
 have hc := fun b => (bP.uH (w := w) (b := b) (n := 14) (e := yF) (env := sy (n2 + 1) p.S (n2 + 2)) (it := y2) (acc := n2 + 0) (D := n2 + 2) (N := p.ab.length) (Kx := [(n2 + 1, ay [] 0), (p.S + 13, ai (.ref aR)), (aR, aa (cm fl) eR)]) (T := fl.map Fl.K ++ p.ab.map Ct.K) (Vq := fun _ o => ∃ c, o = cY c) (S := ff (fE (fl.map Fl.n))) (o := cY none) (by kernel_rfl) ⟨[], rfl, rfl⟩ ⟨none, rfl⟩
   (fun j hj ih => Eg _ _ _ _ _ _ fl h0 ik p.ab.length qy eU eR _ (fun q hq => List.mem_append_left _ (List.mem_map_of_mem hq)) j hj ih)).imp'
  (Y := CG) (P' := fun y => (y.cs.map (·.1)) = fE (fl.map Fl.n) p.ab.length) (dJ := fun _ => .ok .next)
  (dK := fun y => [(y2, y.it), (n2 + 0, aa (ag y.cs) y.ed), (n2 + 2, cY y.c), (n2 + 1, ay [] 0), (p.S + 13, ai (.ref aR)), (aR, aa (cm fl) eR)]) (dO := fun _ => [])
  (fun x hx => by
   obtain ⟨⟨cs, h1, h2⟩, c, h⟩ := hx
   exact ⟨⟨cs, x.ed, c, x.it⟩, h2, rfl, by rw [h1, h]; rfl, rfl⟩)
 exists zI, 6, 969, [30, 31, 33, 32, 16, 28], hc _, y3, n3, t3, G3, a3, ej, _
 exact e9 zc.post zc.ro a3 zc.hL 27 [false, false, true, false, false] (H (n2 + 0) y3.ed y3.cs ej) (by kernel_rfl) (by kernel_rfl) (by kernel_rfl)
noncomputable def nG (c : Nat) (l : List Nat) : Nat := l.foldl min c
noncomputable def cQ : List Nat → Nat
 | [] => 0
 | x :: l => nG x l
section
theorem AZ (it a kI : Addr) (xs : List (Nat × Tok)) (ex : Nat) (F : Nat) :
 ∀ (m j : Nat) (hm : j + m = xs.length) (c : Nat) (tc : Tok) (hF : nG c ((xs.drop j).map (·.1)) = F) (eb : Nat),
  af w b 6 (.builtin "min.loop" ⟨[.ref it, .none, .ref kI], []⟩) [(it, bx a j), (kI, aa [.int c tc, .int c tc] eb), (a, aa (ag xs) ex)] []
   (X := Tok × Obj × Nat) (fun y => True) (fun y => .ok (.ret (.int F y.1))) (fun y => [(it, y.2.1), (kI, aa [] y.2.2), (a, aa (ag xs) ex)]) (fun _ => []) := by
 intro m
 induction m with
 | zero =>
  intro j hm c tc hF eb
  have bj : (ag xs)[j]? = none := by simp [ag]; exact c6
  have hc : c = F := by rw [← hF, List.drop_eq_nil_of_le (by exact c6)]; rfl
  subst hc
  exists zA, 3, 5103, zd, zc, a0
  exists zH, 6, 382656, [0, 2], gM it a (ag xs) ex j bj, y, n1, t1
  exact zM 3 [] (fun o => (tc, y.2.2, o.ep 1))
 | succ m ih =>
  intro j hm c tc hF eb
  obtain ⟨⟨x, tx⟩, hx⟩ : ∃ q, xs[j]? = some q := ⟨xs[j]'(by exact cf), List.getElem?_eq_getElem (by exact cf)⟩
  have bj : (ag xs)[j]? = some (.int x tx) := by rw [fy, hx]; rfl
  rw [bI xs _ j _ hx] at hF
  have ue : nG (min c x) ((xs.drop (j + 1)).map (·.1)) = F := hF
  by_cases f6 : ((x : Nat) : Int) < (c : Nat)
  ·have ax := ih (j + 1) (by exact cJ) x tx (by rw [← ue, show min c x = x by lia])
   exists zA, 3, 5103, zd, zc, a0
   refine zK [0, 2] (dv it a (ag xs) ex j (.int x tx) bj) @fun _ n1 t1 _ _ _ _ => ?_
   exists yg, 2, 2
   exists zH, 7, 257653, [], (bc x c tx tc).ck f6, _, n2, t2
   exact zO [0, 1, 2] (ax eb)
  ·have ax := ih (j + 1) (by exact cJ) c tc (by rw [← ue, show min c x = c by lia])
   exists zA, 3, 5103, zd, zc, a0
   refine zK [0, 2] (dv it a (ag xs) ex j (.int x tx) bj) @fun _ n1 t1 _ _ _ _ => ?_
   exists yg, 2, 2
   exists zH, 4, 2, [], (bc x c tx tc).cO f6, _, n2, t2
   exact zO [0, 1, 2] (ax eb)
theorem Jw (a : Addr) (xs : List (Nat × Tok)) (ex : Nat) (h0 : 0 < xs.length) :
  af w b 8 (.call (.builtin "min") ⟨[.ref a], []⟩) [(a, aa (ag xs) ex)] []
   (X := Tok) (fun y => True) (fun y => .ok (.ret (.int (cQ (xs.map (·.1))) y))) (fun y => [(a, aa (ag xs) ex)]) (fun _ => []) := by
 obtain ⟨⟨x, tx⟩, hx⟩ : ∃ q, xs[0]? = some q := ⟨xs[0]'(by lia), List.getElem?_eq_getElem (by lia)⟩
 have bj : (ag xs)[0]? = some (.int x tx) := by rw [fy, hx]; rfl
 have hF : nG x ((xs.drop 1).map (·.1)) = cQ (xs.map (·.1)) := by
  have := bI xs (·.1) 0 _ hx
  rw [List.drop_zero] at this
  rw [this]; rfl
 (refine zB ?_; intro zd zc a0)
 exists yg, 15, 201328953450130101
 exists zH, 4, 260204, [1, 0], dv (zc.S + 0) a (ag xs) ex 0 (.int x tx) bj, _, n1, t1, G1, a1, _, _
 refine aZ (Ta := []) zc.ro a1 zc.hL [1, 2, 0] [] [] (AZ (zc.S + 0) a (zc.S + 1) xs ex (cQ (xs.map (·.1))) (xs.length - 1) 1 (by lia) x tx hF 1) (by kernel_rfl) (by kernel_rfl) (fun _ h => nomatch h) List.nodup_nil fun y n5 t5 G5 a5 _ _ => ?_
 exact eA zc.post zc.ro a5 1 [] y.1 trivial rfl (by kernel_rfl) (by kernel_rfl) (by kernel_rfl) ak
end
theorem GN (p : Lq) (aK eK : Nat) (cs : List (Nat × Tok)) (aS eS : Nat) (zs : List (Int × Tok)) (aR eR : Nat) (fl : List Fl) (aY eY : Nat) (ss : List (Nat × Tok)) (h1 : 0 < ss.length)
 (H : ∀ (tl : Tok), bH w b 28 (bN p.S) .base (b6 p.S 24) (p.F w [] ae (ai (.ref aK)) (ai (.ref aS)) (ai (.ref aR)) (ai (.ref aY)) (ai (.int (cQ (ss.map (·.1)) : Nat) tl)) [(aK, aa (ag cs) eK), (aS, aa (aQ zs) eS), (aR, aa (cm fl) eR), (aY, aa (ag ss) eY)]) (fl.map Fl.K ++ p.ab.map Ct.K)) :
  bH w b 28 (bN p.S) .base (b6 p.S 23) (p.F w [] ae (ai (.ref aK)) (ai (.ref aS)) (ai (.ref aR)) (ai (.ref aY)) ae [(aK, aa (ag cs) eK), (aS, aa (aQ zs) eS), (aR, aa (cm fl) eR), (aY, aa (ag ss) eY)]) (fl.map Fl.K ++ p.ab.map Ct.K) := by
 exists zE, 8, 297551, zd, zc, hsz, a
 exists zH, 6, 1020, [29], Jw aY ss eY h1, y0, n0, t0, G0, a0, _, _
 exact e9 zc.post zc.ro a0 zc.hL 28 [] (H y0) (by kernel_rfl) (by kernel_rfl) (by kernel_rfl)
noncomputable def fz (ab : List Ct) (sv : List Nat) (l j : Nat) : List Ct := ((List.range j).filter fun n => bX sv n = l).filterMap fun n => ab[n]?
set_option smartUnfolding true
theorem uU {ab : List Ct} {sv : List Nat} {l j : Nat} {p : Ct} (h : bX sv j = l) (hp : ab[j]? = some p) : fz ab sv l (j + 1) = fz ab sv l j ++ [p] := by
 unfold fz
 rw [List.range_succ, List.filter_append, List.filterMap_append]
 simp [h, hp]
theorem uV {ab : List Ct} {sv : List Nat} {l j : Nat} (h : ¬ bX sv j = l) : fz ab sv l (j + 1) = fz ab sv l j := by
 unfold fz
 rw [List.range_succ, List.filter_append, List.filterMap_append]
 simp [h]
theorem wD (ab : List Ct) (sv : List Nat) (l j : Nat) : (fz ab sv l j).length ≤ j := by
 unfold fz
 refine Nat.le_trans (List.length_filterMap_le _ _) (Nat.le_trans (List.length_filter_le _ _) ?_)
 simp
noncomputable def qz (ab : List Ct) (sv : List Nat) (l j : Nat) (done : List Value) : Prop := done = refs (fz ab sv l j)
section
noncomputable def Eh : Expr := ip (dq cn 24)
noncomputable def sF (D L : Addr) : Env := dP [(Str.ofString ".0", .local), (Str.ofString "n", .local), (Str.ofString "folds", .cell), (Str.ofString "least", .cell), (Str.ofString "sums", .cell)] D [(Str.ofString "sums", L + 14), (Str.ofString "least", L + 15), (Str.ofString "folds", L + 7)] cU L
set_option smartUnfolding false
theorem Ei (it aF aY D L acc : Addr) (ab : List Ct) (ef : Nat) (ss : List (Nat × Tok)) (eY l : Nat) (tl : Tok) (hl : ss.length = ab.length) (ik : ab.length ≤ 10) (T : KS) (j : Nat) (hj : j < ab.length)
  (ih : bP w b 13 Eh (sF D L) it acc D ab.length (jN ab.length) [] [(L + 7, ai (.ref aF)), (L + 14, ai (.ref aY)), (L + 15, ai (.int l tl)), (aF, aa (refs ab) ef), (aY, aa (ag ss) eY)] T (Dq w "n") (qz ab (ss.map (·.1)) l) (j + 1)) :
  bP w b 13 Eh (sF D L) it acc D ab.length (jN ab.length) [] [(L + 7, ai (.ref aF)), (L + 14, ai (.ref aY)), (L + 15, ai (.int l tl)), (aF, aa (refs ab) ef), (aY, aa (ag ss) eY)] T (Dq w "n") (qz ab (ss.map (·.1)) l) j := by
 intro o hD done ed fD
 have l6 : done = refs (fz ab (ss.map (·.1)) l j) := fD
 subst l6
 obtain ⟨p, hp⟩ : ∃ q, ab[j]? = some q := ⟨ab[j]'hj, List.getElem?_eq_getElem hj⟩
 have bj : (refs ab)[j]? = some (.ref p.a) := by rw [cX, hp]; rfl
 obtain ⟨tq, hq⟩ := Fl.get (p := ⟨0, ss, 0⟩) (n := j) (by show j < ss.length; exact w1)
 have rh : (ag ss)[j]? = some (.int (bX (ss.map (·.1)) j : Nat) tq) := hq
 have dk : (refs (fz ab (ss.map (·.1)) l j)).length ≤ 10 := by
  have := wD ab (ss.map (·.1)) l j
  simp only [List.length_map]
  lia
 obtain ⟨m, hm⟩ : ∃ m, ab.length - j = m + 1 := ⟨ab.length - j - 1, by exact w0⟩
 have ax := fun o' eV fO h' b8 => ih o' eV fO b8 h'
 rw [gN (by exact wZ : ab.length - (j + 1) = m)] at ax
 rw [gN hm]
 have mZ : j ≤ 100 := by exact qR
 clear ih hj hm fD hq hl
 by_cases heq : bX (ss.map (·.1)) j = l
 ·have cq : qz ab (ss.map (·.1)) l (j + 1) (refs (fz ab (ss.map (·.1)) l j) ++ [.ref p.a]) := by
   unfold qz
   rw [uU heq hp, ig]
  rcases hD with ⟨_, rfl⟩ | ⟨_, tk, v, ep, rfl⟩
  all_goals
   exists zA, 3, 102, zd, zc, a0
   exists zH, 16, 1705994265204, [0], du it j m, y1, n1, t1
   refine zK [7] (dt aY (ag ss) eY j _ rh (by exact aO) y1) @fun _ n2 t2 _ _ _ _ => ?_
   exists yg, 5, 107
   exists zH, 9, 676020205, [], (bu (bX (ss.map (·.1)) j : Nat) l tq tl).ck (by rw [heq]), _, n3, t3
   exists zH, 1, 2, [6], dt aF (refs ab) ef j _ bj (by exact aO) y1, _, n4, t4
   exists zH, 1, 2, [1], bT acc (refs (fz ab (ss.map (·.1)) l j)) ed (.ref p.a) (by exact aO), y5, n5, t5
  ·exact zO [0, 1, 2, 3, 4, 5, 6, 7] (ax _ (Dq.next (t1 + 0) (.int j y1) 1) _ cq y5)
  ·exact zO [0, 1, 2, 3, 4, 5, 6, 7] (ax _ (Dq.next tk (.int j y1) ep) _ cq y5)
 ·have cq : qz ab (ss.map (·.1)) l (j + 1) (refs (fz ab (ss.map (·.1)) l j)) := by
   unfold qz
   rw [uV heq]
  have cB : ¬ ((bX (ss.map (·.1)) j : Nat) : Int) = (l : Nat) := fun h => heq (Int.ofNat.inj h)
  rcases hD with ⟨_, rfl⟩ | ⟨_, tk, v, ep, rfl⟩
  all_goals
   exists zA, 3, 102, zd, zc, a0
   exists zH, 16, 1705994265204, [0], du it j m, y1, n1, t1
   refine zK [7] (dt aY (ag ss) eY j _ rh (by exact aO) y1) @fun _ n2 t2 _ _ _ _ => ?_
   exists yg, 5, 107
   exists zH, 1, 2, [], (bu (bX (ss.map (·.1)) j : Nat) l tq tl).cO cB, _, n3, t3
  ·exact zO [0, 1, 2, 3, 4, 5, 6, 7] (ax _ (Dq.next (t1 + 0) (.int j y1) 1) _ cq ed)
  ·exact zO [0, 1, 2, 3, 4, 5, 6, 7] (ax _ (Dq.next tk (.int j y1) ep) _ cq ed)
end
structure CH where
 ed : Nat
 tk : Tok
 v : Value
 ep : Nat
 it : Obj
theorem GO (p : Lq) (It : 1 ≤ p.ab.length) (qy : p.ab.length ≤ 10) (aK eK : Nat) (cs : List (Nat × Tok)) (aS eS : Nat) (zs : List (Int × Tok)) (aR eR : Nat) (fl : List Fl) (aY eY : Nat) (ss : List (Nat × Tok)) (tl : Tok) (hl : ss.length = p.ab.length)
 (H : ∀ (aB eB : Nat) (k9 : Tok) (ep : Nat), bH w b 28 (bN p.S) .base (b6 p.S 25) (p.Fe w ep [fe w "best" k9 (.ref aB)] ae (ai (.ref aK)) (ai (.ref aS)) (ai (.ref aR)) (ai (.ref aY)) (ai (.int (cQ (ss.map (·.1)) : Nat) tl)) [(aK, aa (ag cs) eK), (aS, aa (aQ zs) eS), (aR, aa (cm fl) eR), (aY, aa (ag ss) eY), (aB, aa (refs (fz p.ab (ss.map (·.1)) (cQ (ss.map (·.1))) p.ab.length)) eB)]) (fl.map Fl.K ++ p.ab.map Ct.K)) :
  bH w b 28 (bN p.S) .base (b6 p.S 24) (p.F w [] ae (ai (.ref aK)) (ai (.ref aS)) (ai (.ref aR)) (ai (.ref aY)) (ai (.int (cQ (ss.map (·.1)) : Nat) tl)) [(aK, aa (ag cs) eK), (aS, aa (aQ zs) eS), (aR, aa (cm fl) eR), (aY, aa (ag ss) eY)]) (fl.map Fl.K ++ p.ab.map Ct.K) := by
 (refine zF ?_; intro zd zc hsz a)
 have hlen : ∀ b, af w b 10 (.call (.builtin "len") ⟨[.ref p.aF], []⟩) [(p.aF, aa (refs p.ab) p.ef)] []
    (X := Tok) (fun _ => True) (fun y => .ok (.ret (.int (p.ab.length : Nat) y))) (fun y => [(p.aF, aa (refs p.ab) p.ef)]) (fun y => []) := fun b => by
  have h := kG (w := w) (b := b) p.aF (refs p.ab) p.ef (by simp; exact aO)
  rw [show (refs p.ab).length = p.ab.length by simp] at h
  exact h
 exists zg, 11, 700127551
 exists zH, 3, 2, [22], hlen _, y0, n0, t0
 refine zK [] (fH p.ab.length y0) @fun y1 n1 t1 _ _ _ _ => ?_
 exists yg, 6, 6632
 exists zH, 5, 133, [30], fI y1.1 p.ab.length (by exact aO) y1.2.1 y0 y1.2.2, y2, n2, t2
 have hc := fun b => (bP.uH (w := w) (b := b) (n := 10) (e := Eh) (env := sF (n2 + 1) p.S) (it := y2) (acc := n2 + 0) (D := n2 + 1) (N := p.ab.length) (Kx := [(p.S + 7, ai (.ref p.aF)), (p.S + 14, ai (.ref aY)), (p.S + 15, ai (.int (cQ (ss.map (·.1)) : Nat) tl)), (p.aF, aa (refs p.ab) p.ef), (aY, aa (ag ss) eY)]) (T := fl.map Fl.K ++ p.ab.map Ct.K) (Vq := Dq w "n") (S := qz p.ab (ss.map (·.1)) (cQ (ss.map (·.1)))) (by kernel_rfl) rfl (.inl ⟨rfl, rfl⟩)
   (fun j hj ih => Ei _ _ _ _ _ _ p.ab p.ef ss eY (cQ (ss.map (·.1))) tl hl qy _ j hj ih)).imp'
  (Y := CH) (P' := fun _ => True) (dJ := fun _ => .ok .next)
  (dK := fun y => [(y2, y.it), (n2 + 0, aa (refs (fz p.ab (ss.map (·.1)) (cQ (ss.map (·.1))) p.ab.length)) y.ed), (n2 + 1, ay [av (au w "n") "n" y.tk y.v] y.ep), (p.S + 7, ai (.ref p.aF)), (p.S + 14, ai (.ref aY)), (p.S + 15, ai (.int (cQ (ss.map (·.1)) : Nat) tl)), (p.aF, aa (refs p.ab) p.ef), (aY, aa (ag ss) eY)]) (dO := fun _ => [])
  (fun x hx => by
   obtain ⟨h1, hq⟩ := hx
   obtain ⟨tk, v, ep, h⟩ := hq.some (by exact i4)
   have eO : x.l = _ := h1
   exact ⟨⟨x.ed, tk, v, ep, x.it⟩, trivial, rfl, by rw [eO, h]; rfl, rfl⟩)
 exists zI, 13, 223212755, [31, 32, 33, 10, 17, 18, 22, 29], hc _, y3, n3, t3, G3, a3, _, _
 exact e9 zc.post zc.ro a3 zc.hL 28 [false, false, true, false] (H (n2 + 0) y3.ed (t3 + 0) (p.ep + 1)) (by kernel_rfl) (by kernel_rfl) (by kernel_rfl)
noncomputable def V0 (w : World) (b : Bool) (dd : Drawn) : RV := ⟨prog, dE w b, ⟨none, 0, none, none, 0⟩, fun _ _ => True, fun _ _ => True, dd, default, gV w.params, default, [], 0, 0, [], false⟩
noncomputable abbrev Iu (a1 a2 : Addr) : Code := .call (.builtin "tuple.__eq__") ⟨[.ref a1, .ref a2], []⟩
noncomputable abbrev Lk (a1 a2 : Addr) : Code := .builtin "tuple.__eq__" ⟨[.ref a1, .ref a2], []⟩
noncomputable def Ll (w : World) (b : Bool) (dd : Drawn) (a1 a2 : Addr) (k : Nat) (xs ys : List Value) : Sem Fin :=
 (run (V0 w b dd) (5 + k) [1, 0, 2, 1, 2] (Iu a1 a2) .base (den (Iu a1 a2)) [(a1, aj xs), (a2, aj ys)] 0 0 [] []).tr
noncomputable def TQ (w : World) (b : Bool) (dd : Drawn) (a1 a2 : Addr) (o1 o2 : Obj) (k : Nat) (p1 p2 : List Value) (v : Bool) : Prop :=
 og w b 2 (Lk a1 a2) .base (Ll w b dd a1 a2 k p1 p2) [(a1, o1), (a2, o2)] [] (X := Unit) (fun _ => True) (fun _ => .ok (.ret (.bool v))) (fun _ => [(a1, o1), (a2, o2)]) (fun _ => [])
theorem Jx (dd : Drawn) (a1 a2 : Addr) (o1 o2 : Obj) : TQ w b dd a1 a2 o1 o2 0 ([]) ([]) true := by
 exists zE, 1, 0, zd, zc, hsz, a0
 exact zM 2 [] (fun _ => ())
theorem Jy (dd : Drawn) (a1 a2 : Addr) (o1 o2 : Obj) : TQ w b dd a1 a2 o1 o2 1 (.none :: []) (.none :: []) true := by
 exists zE, 1, 0, zd, zc, hsz, a0
 exact zM 2 [] (fun _ => ())
theorem Jz (dd : Drawn) (a1 a2 : Addr) (o1 o2 : Obj) : TQ w b dd a1 a2 o1 o2 2 (.none :: .none :: []) (.none :: .none :: []) true := by
 exists zE, 1, 0, zd, zc, hsz, a0
 exact zM 2 [] (fun _ => ())
theorem JA (dd : Drawn) (a1 a2 : Addr) (o1 o2 : Obj) : TQ w b dd a1 a2 o1 o2 3 (.none :: .none :: .none :: []) (.none :: .none :: .none :: []) true := by
 exists zE, 1, 0, zd, zc, hsz, a0
 exact zM 2 [] (fun _ => ())
theorem JB (dd : Drawn) (a1 a2 : Addr) (o1 o2 : Obj) : TQ w b dd a1 a2 o1 o2 4 (.none :: .none :: .none :: .none :: []) (.none :: .none :: .none :: .none :: []) true := by
 exists zE, 1, 0, zd, zc, hsz, a0
 exact zM 2 [] (fun _ => ())
theorem JC (dd : Drawn) (a1 a2 : Addr) (o1 o2 : Obj) : TQ w b dd a1 a2 o1 o2 5 (.none :: .none :: .none :: .none :: .none :: []) (.none :: .none :: .none :: .none :: .none :: []) true := by
 exists zE, 1, 0, zd, zc, hsz, a0
 exact zM 2 [] (fun _ => ())
theorem JD (dd : Drawn) (a1 a2 : Addr) (o1 o2 : Obj) (x y : Nat) (tx ty : Tok) (xs ys : List Value) (v : Bool) (h : x = y → TQ w b dd a1 a2 o1 o2 (4 + 1) (.none :: .none :: .none :: .none :: .none :: xs) (.none :: .none :: .none :: .none :: .none :: ys) v) (hv : ¬ x = y → v = false) :
  TQ w b dd a1 a2 o1 o2 4 (.none :: .none :: .none :: .none :: .int x tx :: xs) (.none :: .none :: .none :: .none :: .int y ty :: ys) v := by
 by_cases fq : x = y
 ·by_cases jq : (Value.int (x : Int) tx) = .int (y : Int) ty
  ·(refine zF ?_; intro zd zc hsz a0)
   exists ao, ah (ah (ah (bt (cy jq))))
   exists zg, 1, 0
   exact iO zc.post zc.ro a0 zc.hL 100 2 [] (Sy := []) (h fq) (by kernel_rfl) rfl (List.Sublist.refl _) (by kernel_rfl) (fun x1 _ => ⟨(), trivial, rfl, rfl, rfl⟩)
  ·(refine zF ?_; intro zd zc hsz a0)
   exists ao, ah (ah (ah (bf (b5 jq))))
   exists yg, 2, 2
   exists zH, 0, 0, [], (bu (x : Int) (y : Int) tx ty).ck (by lia), _, n2, t2, G2, a2, _, _
   exact iO zc.post zc.ro a2 zc.hL 100 2 [] (Sy := []) (h fq) (by kernel_rfl) rfl (List.Sublist.refl _) (by kernel_rfl) (fun x1 _ => ⟨(), trivial, rfl, rfl, rfl⟩)
 ·have cB : ¬ ((Value.int (x : Int) tx) = .int (y : Int) ty) := fun e => by injection e with e1 _; lia
  obtain rfl := hv fq
  (refine zF ?_; intro zd zc hsz a0)
  exists ao, ah (ah (ah (bf (b5 cB))))
  exists yg, 2, 2
  exists zH, 1, 0, [], (bu (x : Int) (y : Int) tx ty).cO (by exact sR), _, n2, t2
  exact zM 2 [] (fun _ => ())
theorem JE (dd : Drawn) (a1 a2 : Addr) (o1 o2 : Obj) (x y : Nat) (tx ty : Tok) (xs ys : List Value) (v : Bool) (h : x = y → TQ w b dd a1 a2 o1 o2 (3 + 1) (.none :: .none :: .none :: .none :: xs) (.none :: .none :: .none :: .none :: ys) v) (hv : ¬ x = y → v = false) :
  TQ w b dd a1 a2 o1 o2 3 (.none :: .none :: .none :: .int x tx :: xs) (.none :: .none :: .none :: .int y ty :: ys) v := by
 by_cases fq : x = y
 ·by_cases jq : (Value.int (x : Int) tx) = .int (y : Int) ty
  ·(refine zF ?_; intro zd zc hsz a0)
   exists ao, ah (ah (ah (bt (cy jq))))
   exists zg, 1, 0
   exact iO zc.post zc.ro a0 zc.hL 100 2 [] (Sy := []) (h fq) (by kernel_rfl) rfl (List.Sublist.refl _) (by kernel_rfl) (fun x1 _ => ⟨(), trivial, rfl, rfl, rfl⟩)
  ·(refine zF ?_; intro zd zc hsz a0)
   exists ao, ah (ah (ah (bf (b5 jq))))
   exists yg, 2, 2
   exists zH, 0, 0, [], (bu (x : Int) (y : Int) tx ty).ck (by lia), _, n2, t2, G2, a2, _, _
   exact iO zc.post zc.ro a2 zc.hL 100 2 [] (Sy := []) (h fq) (by kernel_rfl) rfl (List.Sublist.refl _) (by kernel_rfl) (fun x1 _ => ⟨(), trivial, rfl, rfl, rfl⟩)
 ·have cB : ¬ ((Value.int (x : Int) tx) = .int (y : Int) ty) := fun e => by injection e with e1 _; lia
  obtain rfl := hv fq
  (refine zF ?_; intro zd zc hsz a0)
  exists ao, ah (ah (ah (bf (b5 cB))))
  exists yg, 2, 2
  exists zH, 1, 0, [], (bu (x : Int) (y : Int) tx ty).cO (by exact sR), _, n2, t2
  exact zM 2 [] (fun _ => ())
theorem JF (dd : Drawn) (a1 a2 : Addr) (o1 o2 : Obj) (x y : Nat) (tx ty : Tok) (xs ys : List Value) (v : Bool) (h : x = y → TQ w b dd a1 a2 o1 o2 (2 + 1) (.none :: .none :: .none :: xs) (.none :: .none :: .none :: ys) v) (hv : ¬ x = y → v = false) :
  TQ w b dd a1 a2 o1 o2 2 (.none :: .none :: .int x tx :: xs) (.none :: .none :: .int y ty :: ys) v := by
 by_cases fq : x = y
 ·by_cases jq : (Value.int (x : Int) tx) = .int (y : Int) ty
  ·(refine zF ?_; intro zd zc hsz a0)
   exists ao, ah (ah (ah (bt (cy jq))))
   exists zg, 1, 0
   exact iO zc.post zc.ro a0 zc.hL 100 2 [] (Sy := []) (h fq) (by kernel_rfl) rfl (List.Sublist.refl _) (by kernel_rfl) (fun x1 _ => ⟨(), trivial, rfl, rfl, rfl⟩)
  ·(refine zF ?_; intro zd zc hsz a0)
   exists ao, ah (ah (ah (bf (b5 jq))))
   exists yg, 2, 2
   exists zH, 0, 0, [], (bu (x : Int) (y : Int) tx ty).ck (by lia), _, n2, t2, G2, a2, _, _
   exact iO zc.post zc.ro a2 zc.hL 100 2 [] (Sy := []) (h fq) (by kernel_rfl) rfl (List.Sublist.refl _) (by kernel_rfl) (fun x1 _ => ⟨(), trivial, rfl, rfl, rfl⟩)
 ·have cB : ¬ ((Value.int (x : Int) tx) = .int (y : Int) ty) := fun e => by injection e with e1 _; lia
  obtain rfl := hv fq
  (refine zF ?_; intro zd zc hsz a0)
  exists ao, ah (ah (ah (bf (b5 cB))))
  exists yg, 2, 2
  exists zH, 1, 0, [], (bu (x : Int) (y : Int) tx ty).cO (by exact sR), _, n2, t2
  exact zM 2 [] (fun _ => ())
theorem JG (dd : Drawn) (a1 a2 : Addr) (o1 o2 : Obj) (x y : Nat) (tx ty : Tok) (xs ys : List Value) (v : Bool) (h : x = y → TQ w b dd a1 a2 o1 o2 (1 + 1) (.none :: .none :: xs) (.none :: .none :: ys) v) (hv : ¬ x = y → v = false) :
  TQ w b dd a1 a2 o1 o2 1 (.none :: .int x tx :: xs) (.none :: .int y ty :: ys) v := by
 by_cases fq : x = y
 ·by_cases jq : (Value.int (x : Int) tx) = .int (y : Int) ty
  ·(refine zF ?_; intro zd zc hsz a0)
   exists ao, ah (ah (ah (bt (cy jq))))
   exists zg, 1, 0
   exact iO zc.post zc.ro a0 zc.hL 100 2 [] (Sy := []) (h fq) (by kernel_rfl) rfl (List.Sublist.refl _) (by kernel_rfl) (fun x1 _ => ⟨(), trivial, rfl, rfl, rfl⟩)
  ·(refine zF ?_; intro zd zc hsz a0)
   exists ao, ah (ah (ah (bf (b5 jq))))
   exists yg, 2, 2
   exists zH, 0, 0, [], (bu (x : Int) (y : Int) tx ty).ck (by lia), _, n2, t2, G2, a2, _, _
   exact iO zc.post zc.ro a2 zc.hL 100 2 [] (Sy := []) (h fq) (by kernel_rfl) rfl (List.Sublist.refl _) (by kernel_rfl) (fun x1 _ => ⟨(), trivial, rfl, rfl, rfl⟩)
 ·have cB : ¬ ((Value.int (x : Int) tx) = .int (y : Int) ty) := fun e => by injection e with e1 _; lia
  obtain rfl := hv fq
  (refine zF ?_; intro zd zc hsz a0)
  exists ao, ah (ah (ah (bf (b5 cB))))
  exists yg, 2, 2
  exists zH, 1, 0, [], (bu (x : Int) (y : Int) tx ty).cO (by exact sR), _, n2, t2
  exact zM 2 [] (fun _ => ())
theorem JH (dd : Drawn) (a1 a2 : Addr) (o1 o2 : Obj) (x y : Nat) (tx ty : Tok) (xs ys : List Value) (v : Bool) (h : x = y → TQ w b dd a1 a2 o1 o2 (0 + 1) (.none :: xs) (.none :: ys) v) (hv : ¬ x = y → v = false) :
  TQ w b dd a1 a2 o1 o2 0 (.int x tx :: xs) (.int y ty :: ys) v := by
 by_cases fq : x = y
 ·by_cases jq : (Value.int (x : Int) tx) = .int (y : Int) ty
  ·(refine zF ?_; intro zd zc hsz a0)
   exists ao, ah (ah (ah (bt (cy jq))))
   exists zg, 1, 0
   exact iO zc.post zc.ro a0 zc.hL 100 2 [] (Sy := []) (h fq) (by kernel_rfl) rfl (List.Sublist.refl _) (by kernel_rfl) (fun x1 _ => ⟨(), trivial, rfl, rfl, rfl⟩)
  ·(refine zF ?_; intro zd zc hsz a0)
   exists ao, ah (ah (ah (bf (b5 jq))))
   exists yg, 2, 2
   exists zH, 0, 0, [], (bu (x : Int) (y : Int) tx ty).ck (by lia), _, n2, t2, G2, a2, _, _
   exact iO zc.post zc.ro a2 zc.hL 100 2 [] (Sy := []) (h fq) (by kernel_rfl) rfl (List.Sublist.refl _) (by kernel_rfl) (fun x1 _ => ⟨(), trivial, rfl, rfl, rfl⟩)
 ·have cB : ¬ ((Value.int (x : Int) tx) = .int (y : Int) ty) := fun e => by injection e with e1 _; lia
  obtain rfl := hv fq
  (refine zF ?_; intro zd zc hsz a0)
  exists ao, ah (ah (ah (bf (b5 cB))))
  exists yg, 2, 2
  exists zH, 1, 0, [], (bu (x : Int) (y : Int) tx ty).cO (by exact sR), _, n2, t2
  exact zM 2 [] (fun _ => ())
set_option smartUnfolding true
theorem JI (dd : Drawn) (a1 a2 : Addr) (o1 o2 : Obj) (p q : List (Nat × Tok)) (hl : p.length = q.length) (h5 : p.length ≤ 0) : TQ w b dd a1 a2 o1 o2 5 (.none :: .none :: .none :: .none :: .none :: ag p) (.none :: .none :: .none :: .none :: .none :: ag q) (decide (p.map (·.1) = q.map (·.1))) := by
 cases p with
 | nil =>
  cases q with
  | nil => exact JC dd a1 a2 o1 o2
  | cons y q => simp at hl
 | cons x p =>
  cases q with
  | nil => simp at hl
  | cons y q =>
   simp at h5
theorem JJ (dd : Drawn) (a1 a2 : Addr) (o1 o2 : Obj) (p q : List (Nat × Tok)) (hl : p.length = q.length) (h5 : p.length ≤ 1) : TQ w b dd a1 a2 o1 o2 4 (.none :: .none :: .none :: .none :: ag p) (.none :: .none :: .none :: .none :: ag q) (decide (p.map (·.1) = q.map (·.1))) := by
 cases p with
 | nil =>
  cases q with
  | nil => exact JB dd a1 a2 o1 o2
  | cons y q => simp at hl
 | cons x p =>
  cases q with
  | nil => simp at hl
  | cons y q =>
   refine JD dd a1 a2 o1 o2 x.1 y.1 x.2 y.2 (ag p) (ag q) _ (fun e => ?_) (fun e => by simp [e])
   have h := JI (w := w) (b := b) dd a1 a2 o1 o2 p q (by simpa using hl) (by rw [List.length_cons] at h5; lia)
   simp only [List.map_cons, List.cons.injEq, e, true_and]
   exact h
theorem JK (dd : Drawn) (a1 a2 : Addr) (o1 o2 : Obj) (p q : List (Nat × Tok)) (hl : p.length = q.length) (h5 : p.length ≤ 2) : TQ w b dd a1 a2 o1 o2 3 (.none :: .none :: .none :: ag p) (.none :: .none :: .none :: ag q) (decide (p.map (·.1) = q.map (·.1))) := by
 cases p with
 | nil =>
  cases q with
  | nil => exact JA dd a1 a2 o1 o2
  | cons y q => simp at hl
 | cons x p =>
  cases q with
  | nil => simp at hl
  | cons y q =>
   refine JE dd a1 a2 o1 o2 x.1 y.1 x.2 y.2 (ag p) (ag q) _ (fun e => ?_) (fun e => by simp [e])
   have h := JJ (w := w) (b := b) dd a1 a2 o1 o2 p q (by simpa using hl) (by rw [List.length_cons] at h5; lia)
   simp only [List.map_cons, List.cons.injEq, e, true_and]
   exact h
theorem JL (dd : Drawn) (a1 a2 : Addr) (o1 o2 : Obj) (p q : List (Nat × Tok)) (hl : p.length = q.length) (h5 : p.length ≤ 3) : TQ w b dd a1 a2 o1 o2 2 (.none :: .none :: ag p) (.none :: .none :: ag q) (decide (p.map (·.1) = q.map (·.1))) := by
 cases p with
 | nil =>
  cases q with
  | nil => exact Jz dd a1 a2 o1 o2
  | cons y q => simp at hl
 | cons x p =>
  cases q with
  | nil => simp at hl
  | cons y q =>
   refine JF dd a1 a2 o1 o2 x.1 y.1 x.2 y.2 (ag p) (ag q) _ (fun e => ?_) (fun e => by simp [e])
   have h := JK (w := w) (b := b) dd a1 a2 o1 o2 p q (by simpa using hl) (by rw [List.length_cons] at h5; lia)
   simp only [List.map_cons, List.cons.injEq, e, true_and]
   exact h
theorem JM (dd : Drawn) (a1 a2 : Addr) (o1 o2 : Obj) (p q : List (Nat × Tok)) (hl : p.length = q.length) (h5 : p.length ≤ 4) : TQ w b dd a1 a2 o1 o2 1 (.none :: ag p) (.none :: ag q) (decide (p.map (·.1) = q.map (·.1))) := by
 cases p with
 | nil =>
  cases q with
  | nil => exact Jy dd a1 a2 o1 o2
  | cons y q => simp at hl
 | cons x p =>
  cases q with
  | nil => simp at hl
  | cons y q =>
   refine JG dd a1 a2 o1 o2 x.1 y.1 x.2 y.2 (ag p) (ag q) _ (fun e => ?_) (fun e => by simp [e])
   have h := JL (w := w) (b := b) dd a1 a2 o1 o2 p q (by simpa using hl) (by rw [List.length_cons] at h5; lia)
   simp only [List.map_cons, List.cons.injEq, e, true_and]
   exact h
theorem JN (dd : Drawn) (a1 a2 : Addr) (o1 o2 : Obj) (p q : List (Nat × Tok)) (hl : p.length = q.length) (h5 : p.length ≤ 5) : TQ w b dd a1 a2 o1 o2 0 (ag p) (ag q) (decide (p.map (·.1) = q.map (·.1))) := by
 cases p with
 | nil =>
  cases q with
  | nil => exact Jx dd a1 a2 o1 o2
  | cons y q => simp at hl
 | cons x p =>
  cases q with
  | nil => simp at hl
  | cons y q =>
   refine JH dd a1 a2 o1 o2 x.1 y.1 x.2 y.2 (ag p) (ag q) _ (fun e => ?_) (fun e => by simp [e])
   have h := JM (w := w) (b := b) dd a1 a2 o1 o2 p q (by simpa using hl) (by rw [List.length_cons] at h5; lia)
   simp only [List.map_cons, List.cons.injEq, e, true_and]
   exact h
set_option smartUnfolding false
theorem Ej (a1 a2 : Addr) (p q : List (Nat × Tok)) (hl : p.length = q.length) (h5 : p.length ≤ 5) (v : Bool) (hv : v = true ↔ p.map (·.1) = q.map (·.1)) :
  af w b 3 (.call (.builtin "tuple.__eq__") ⟨[.ref a1, .ref a2], []⟩) [(a1, aj (ag p)), (a2, aj (ag q))] []
   (X := Unit) (fun _ => True) (fun y => .ok (.ret (.bool v))) (fun _ => [(a1, aj (ag p)), (a2, aj (ag q))]) (fun _ => []) := by
 have e : v = decide (p.map (·.1) = q.map (·.1)) := Bool.eq_iff_iff.mpr (by rw [decide_eq_true_iff]; exact hv)
 subst e
 (refine zB ?_; intro zd zc a0)
 have h := JN (w := w) (b := b) zc.s.drawn a1 a2 (aj (ag p)) (aj (ag q)) p q hl h5
 exists zg, 5, 19007552
 exact iO zc.post zc.ro a0 zc.hL 100 2 [] (Sy := []) h (by kernel_rfl) rfl (List.Sublist.refl _) (by kernel_rfl) (fun x1 _ => ⟨(), trivial, rfl, rfl, rfl⟩)
theorem GP (a : Addr) (xs : List Value) (e : Nat) (h : xs.length ≤ 1000) :
  af w b 10 (.call (.type "tuple") ⟨[.ref a], []⟩) [(a, aa xs e)] []
   (X := Addr) (fun _ => True) (fun y => .ok (.ret (.ref y))) (fun _ => [(a, aa xs e)]) (fun y => [(y, CO (gK [] xs))]) := by
 have h' : ¬ (gK [] xs).size > sizeLine := by
  rw [fN]
  show ¬ ([] ++ xs).length > sizeLine
  unfold sizeLine
  simp
  exact aO
 exists zA, 8, 31569002551, zd, zc, a0
 exists dT, pN (by kernel_rfl)
 exists zg, 5, 19132652
 refine dM ?_
 with_unfolding_all conv => (arg 5; whnf; arg @29; whnf)
 have hm : memC (gK [] xs).size = none := om (by rw [fN]; simpa using h)
 generalize hx : ZFast.zw12520540566002728236 _ = x
 obtain rfl : x = none := hx.symm.trans (Eq.trans (b := memC (gK [] xs).size) (by kernel_rfl) hm)
 clear hx
 exists zg, 2, 3
 exists dT, ah (mF h' (by kernel_rfl))
 exists zg, 10, 1256752704
 exact zM 1 [false, true] (fun _ => zc.S + 1) (hs := (ar (Nat.le_add_right _ _) ak))
set_option smartUnfolding true
theorem Ek (a : Addr) (xs : List Value) (e : Nat) (h : xs.length ≤ 1000) :
  af w b 10 (.call (.type "tuple") ⟨[.ref a], []⟩) [(a, aa xs e)] []
   (X := Addr) (fun _ => True) (fun y => .ok (.ret (.ref y))) (fun _ => [(a, aa xs e)]) (fun y => [(y, aj xs)]) :=
 (GP a xs e h).map id (fun _ h => h) (fun _ => rfl) (fun _ => rfl) (fun y => by rw [fN]; rfl)
set_option smartUnfolding false
theorem inLoop (a aT : Addr) (ab : List Ct) (ik : ab.length ≤ 10) (xq : List (Nat × Tok)) (h5 : xq.length ≤ 5) (hlen : ∀ u ∈ ab, u.c.length = xq.length) (e : Nat) :
 ∀ (m j : Nat) (hm : j + m = ab.length) (iy : xq.map (·.1) ∈ nums (ab.drop j)),
  af w b 7 (.builtin "list.__contains__.loop" ⟨[.ref a, .ref aT, .int j 0], []⟩) [(a, aa (refs ab) e), (aT, aj (ag xq))] (ab.map Ct.K)
   (X := Unit) (fun _ => True) (fun y => .ok (.ret (.bool true))) (fun _ => [(a, aa (refs ab) e), (aT, aj (ag xq))]) (fun y => []) := by
 intro m
 induction m with
 | zero =>
  intro j hm iy
  rw [List.drop_eq_nil_of_le (by exact c6)] at iy
  cases iy
 | succ m ih =>
  intro j hm iy
  obtain ⟨u, hu⟩ : ∃ q, ab[j]? = some q := ⟨ab[j]'(by exact cf), List.getElem?_eq_getElem (by exact cf)⟩
  have Iv : u ∈ ab := List.mem_of_getElem? hu
  have iU : (refs ab)[j]? = some (.ref u.a) := by rw [cX, hu]; rfl
  have uW : u.K ∈ ab.map Ct.K := Ct.fk Iv
  have cW : ab.drop j = u :: ab.drop (j + 1) := by
   rw [List.drop_eq_getElem_cons (by exact cf)]
   rw [List.getElem?_eq_getElem (by exact cf)] at hu
   rw [Option.some.inj hu]
  rw [cW] at iy
  have Lm : u.c.length = xq.length := hlen u Iv
  have hq := fun b v hv => (af.iL (K := []) (T1 := [u.K, (aT, aj (ag xq))]) (T := []) (Kf := fun (_ : Unit) => []) (Ej (w := w) (b := b) u.a aT u.c xq Lm (by exact lD) v hv)).perm (List.Perm.swap (aT, aj (ag xq)) u.K [])
  have ax := ih (j + 1) (by exact cJ)
  clear ih
  (refine zB ?_; intro zd zc a0)
  have cB : ¬ (Value.ref u.a = .ref aT) := by
   intro h
   injection h with h
   exact zc.ro.off u.K uW (by show u.a ∈ [a, aT]; rw [h]; simp)
  exists zg, 1, 2
  refine dM ?_
  with_unfolding_all conv => (arg 5; whnf)
  generalize hg : @getElem? (Array Value) Nat Value (fun xs i => i < xs.size) _ _ _ = oe
  obtain rfl : oe = some (.ref u.a) := hg.symm.trans (Eq.trans (b := (⟨refs ab⟩ : Array Value)[j]?) (by kernel_rfl) (by simpa using iU))
  clear hg
  exists ao, ah (fB (bf (b5 cB)))
  exists zg, 1, 0
  refine sQ fun p below l => ?_
  exists ao, ah (fB (ah (fB (ah (bf (d5 l zc.hL (by kernel_rfl)))))))
  exists zg, 0, 0
  (refine zQ 1 3 u.K uW ?_; intro ou)
  refine zX u.K uW ?_
  exists yg, 2, 2
  by_cases hv : u.c.map (·.1) = xq.map (·.1)
  ·(refine zG (Ta := [(aT, aj (ag xq))]) 1 0 [] [1] [u.K] (hq _ true (by simp [hv])) (fun x hx => by rw [List.mem_singleton.mp hx]; exact uW) (dQ _) fun _ n2 t2 => ?_; intro ou)
   exact zM 2 [] (fun _ => ())
  ·have JO : xq.map (·.1) ∈ nums (ab.drop (j + 1)) := by
    rcases List.mem_cons.mp iy with h | h
    ·exact absurd h.symm hv
    ·exact h
   (refine zG (Ta := [(aT, aj (ag xq))]) 1 2 [] [1] [u.K] (hq _ false (by simp [hv])) (fun x hx => by rw [List.mem_singleton.mp hx]; exact uW) (dQ _) fun _ n2 t2 => ?_; intro ou)
   exact zO [0, 1] (ax JO)
theorem Iw (a aT : Addr) (ab : List Ct) (ik : ab.length ≤ 10) (xq : List (Nat × Tok)) (h5 : xq.length ≤ 5) (hlen : ∀ u ∈ ab, u.c.length = xq.length) (e : Nat) (iy : xq.map (·.1) ∈ nums ab) :
  af w b 8 (.call (.builtin "list.__contains__") ⟨[.ref a, .ref aT], []⟩) [(a, aa (refs ab) e), (aT, aj (ag xq))] (ab.map Ct.K)
   (X := Unit) (fun _ => True) (fun y => .ok (.ret (.bool true))) (fun _ => [(a, aa (refs ab) e), (aT, aj (ag xq))]) (fun y => []) := by
 have h := inLoop (w := w) (b := b) a aT ab ik xq h5 hlen e ab.length 0 (by exact Nat.zero_add _) (by simpa using iy)
 exists zA, 3, 5052, zd, zc, a0
 exact zO [0, 1] h
section
theorem El (a1 a2 : Addr) (l : List Ct) (e1 e2 : Nat) :
 ∀ (m j : Nat) (hm : j + m = l.length),
  af w b 4 (.builtin "list.__eq__.loop" ⟨[.ref a1, .ref a2, .int j 0, .int (3 : Nat) 0], []⟩) [(a1, aa (refs l) e1), (a2, aa (refs l) e2)] []
   (X := Bool) (fun y => y = false) (fun y => .ok (.ret (.bool y))) (fun y => [(a1, aa (refs l) e1), (a2, aa (refs l) e2)]) (fun y => []) := by
 intro m
 induction m with
 | zero =>
  intro j hm
  have iU : (refs l)[j]? = none := by simp [refs]; exact c6
  exists zA, 2, 152, zd, zc, a0
  refine dM ?_
  with_unfolding_all conv => (arg 5; whnf)
  generalize hg : @getElem? (Array Value) Nat Value (fun xs i => i < xs.size) _ _ _ = oe
  obtain rfl : oe = none := hg.symm.trans (Eq.trans (b := (⟨refs l⟩ : Array Value)[j]?) (by kernel_rfl) (by simpa using iU))
  clear hg
  exists zg, 3, 152
  exact zN 2 [] (!((⟨refs l⟩ : Array Value).size == (⟨refs l⟩ : Array Value).size)) (hx := (by (with_reducible conv => whnf); simp))
 | succ m ih =>
  intro j hm
  obtain ⟨p, hp⟩ : ∃ q, l[j]? = some q := ⟨l[j]'(by exact cf), List.getElem?_eq_getElem (by exact cf)⟩
  have iU : (refs l)[j]? = some (.ref p.a) := by rw [cX, hp]; rfl
  have ax := ih (j + 1) (by exact cJ)
  clear ih
  exists zA, 2, 152, zd, zc, a0
  refine dM ?_
  with_unfolding_all conv => (arg 5; whnf)
  generalize hg : @getElem? (Array Value) Nat Value (fun xs i => i < xs.size) _ _ _ = oe
  obtain rfl : oe = some (.ref p.a) := hg.symm.trans (Eq.trans (b := (⟨refs l⟩ : Array Value)[j]?) (by kernel_rfl) (by simpa using iU))
  clear hg
  exists ao, ah (fB (bt (cy rfl)))
  exists zg, 2, 2
  exact zO [0, 1] ax
theorem A1 (a1 a2 : Addr) (l : List Ct) (e1 e2 : Nat) :
  af w b 5 (.call (.builtin "list.__ne__") ⟨[.ref a1, .ref a2], []⟩) [(a1, aa (refs l) e1), (a2, aa (refs l) e2)] []
   (X := Bool) (fun y => y = false) (fun y => .ok (.ret (.bool y))) (fun y => [(a1, aa (refs l) e1), (a2, aa (refs l) e2)]) (fun y => []) := by
 have h := El (w := w) (b := b) a1 a2 l e1 e2 l.length 0 (by exact Nat.zero_add _)
 exists zA, 5, 19007552, zd, zc, a0
 exists dT, bf (by simp)
 exists zg, 1, 2
 exact zO [0, 1] h
set_option smartUnfolding true
theorem A2 (a1 a2 : Addr) (l : List Ct) (e1 e2 : Nat) :
  af w b 5 (.call (.builtin "list.__ne__") ⟨[.ref a1, .ref a2], []⟩) [(a1, aa (refs l) e1), (a2, aa (refs l) e2)] []
   (X := Unit) (fun _ => True) (fun y => .ok (.ret (.bool false))) (fun y => [(a1, aa (refs l) e1), (a2, aa (refs l) e2)]) (fun y => []) :=
 (A1 a1 a2 l e1 e2).imp' fun x hx => ⟨(), trivial, by rw [hx], rfl, rfl⟩
end
noncomputable def qA (lo hi c : List Nat) (i : Nat) : Bool := decide (bX lo i ≤ bX c i) && decide (bX c i ≤ bX hi i)
noncomputable def eW (lo hi c : List Nat) (n : Nat) : List Nat := (List.range n).filter fun i => !(qA lo hi c i)
theorem Em {lo hi c : List Nat} {n : Nat} (h : qA lo hi c n = true) : eW lo hi c (n + 1) = eW lo hi c n := by
 unfold eW; rw [List.range_succ, List.filter_append]; simp [h]
theorem uX {lo hi c : List Nat} {n : Nat} (h : qA lo hi c n = false) : eW lo hi c (n + 1) = eW lo hi c n ++ [n] := by
 unfold eW; rw [List.range_succ, List.filter_append]; simp [h]
theorem wF (lo hi c : List Nat) (n : Nat) : (eW lo hi c n).length ≤ n := by
 unfold eW
 refine Nat.le_trans (List.length_filter_le _ _) ?_
 simp
noncomputable def gk (ab : List Ct) (lo hi : List Nat) (N : Nat) : List Ct := ab.filter fun p => eW lo hi p.n N = []
noncomputable def qB (ab : List Ct) (lo hi : List Nat) (N j : Nat) (done : List Value) : Prop := done = refs (gk (ab.take j) lo hi N)
theorem En {ab : List Ct} {lo hi : List Nat} {N j : Nat} {p : Ct} (hp : ab[j]? = some p) (h : eW lo hi p.n N = []) : gk (ab.take (j + 1)) lo hi N = gk (ab.take j) lo hi N ++ [p] := by
 unfold gk
 rw [List.take_add_one, hp, List.filter_append]
 simp [h]
theorem Eo {ab : List Ct} {lo hi : List Nat} {N j : Nat} {p : Ct} (hp : ab[j]? = some p) (h : ¬ eW lo hi p.n N = []) : gk (ab.take (j + 1)) lo hi N = gk (ab.take j) lo hi N := by
 unfold gk
 rw [List.take_add_one, hp, List.filter_append]
 simp [h]
section
noncomputable def yJ : Expr := vW (ur (dq cn 25))
noncomputable def yK : Expr := r8 (Jf yJ 0)
noncomputable def sG (D L J : Addr) : Env := dP [(Str.ofString ".0", .local), (Str.ofString "cut", .cell), (Str.ofString "range", .globalImplicit), (Str.ofString "ends", .cell), (Str.ofString "highs", .cell), (Str.ofString "lows", .cell)] D [(Str.ofString "cut", J), (Str.ofString "lows", L + 9), (Str.ofString "highs", L + 10), (Str.ofString "ends", L + 6)] cU L
noncomputable def o3 (D L J : Addr) : Env := dP [(Str.ofString ".0", .local), (Str.ofString "j", .local), (Str.ofString "cut", .cell), (Str.ofString "highs", .cell), (Str.ofString "lows", .cell)] D [(Str.ofString "lows", L + 9), (Str.ofString "highs", L + 10), (Str.ofString "cut", J)] cU L
theorem Ep {xs : List (Nat × Tok)} {n : Nat} (h : n < xs.length) : ∃ tk, (ag xs)[n]? = some (.int (bX (xs.map (·.1)) n : Nat) tk) := Fl.get (p := ⟨0, xs, 0⟩) h
set_option smartUnfolding false
theorem uY (it aL aH D L J acc : Addr) (p : Ct) (lows highs : List (Nat × Tok)) (eL eH N : Nat) (hN : N ≤ 10) (dg : p.c.length = N) (gu : lows.length = N) (lH : highs.length = N) (T : KS) (bW : p.K ∈ T) (j : Nat) (hj : j < N)
  (ih : bP w b 13 yK (o3 D L J) it acc D N (jN N) [] [(L + 9, ai (.ref aL)), (L + 10, ai (.ref aH)), (J, ai (.ref p.a)), (aL, aa (ag lows) eL), (aH, aa (ag highs) eH)] T (Dq w "j") (ff (eW (lows.map (·.1)) (highs.map (·.1)) p.n)) (j + 1)) :
  bP w b 13 yK (o3 D L J) it acc D N (jN N) [] [(L + 9, ai (.ref aL)), (L + 10, ai (.ref aH)), (J, ai (.ref p.a)), (aL, aa (ag lows) eL), (aH, aa (ag highs) eH)] T (Dq w "j") (ff (eW (lows.map (·.1)) (highs.map (·.1)) p.n)) j := by
 intro o hD done ed ⟨cs, fD, dI⟩
 subst fD
 obtain ⟨oB, Er⟩ := Ep (xs := lows) (n := j) (by exact w1)
 obtain ⟨ox, Iy⟩ := Ep (xs := highs) (n := j) (by exact w1)
 obtain ⟨gQ, qC⟩ := Ep (xs := p.c) (n := j) (by exact w1)
 have qC : (ag p.c)[j]? = some (.int (bX p.n j : Nat) gQ) := qC
 have dk : (ag cs).length ≤ 10 := by
  rw [ff.len dI]
  have := wF (lows.map (·.1)) (highs.map (·.1)) p.n j
  lia
 obtain ⟨m, hm⟩ : ∃ m, N - j = m + 1 := ⟨N - j - 1, by exact w0⟩
 have ax := fun o' eV fO h' b8 => ih o' eV fO b8 h'
 rw [gN (by exact wZ : N - (j + 1) = m)] at ax
 rw [gN hm]
 have mZ : j ≤ 1000 := by exact qR
 clear ih hj hm hN dg gu lH
 by_cases h1 : ((bX (lows.map (·.1)) j : Nat) : Int) ≤ (bX p.n j : Nat)
 ·by_cases h2 : ((bX p.n j : Nat) : Int) ≤ (bX (highs.map (·.1)) j : Nat)
  ·have cq : ff (eW (lows.map (·.1)) (highs.map (·.1)) p.n) (j + 1) (ag cs) := ⟨cs, rfl, by rw [Em (by unfold qA; rw [decide_eq_true (Int.ofNat_le.mp h1), decide_eq_true (Int.ofNat_le.mp h2)]; rfl), dI]⟩
   rcases hD with ⟨_, rfl⟩ | ⟨_, tk, v, ep, rfl⟩
   all_goals
    exists zA, 3, 102, zd, zc, a0
    exists zH, 16, 1690050512704, [0], du it j m, y1, n1, t1
    exists zH, 5, 207, [6], dt aL (ag lows) eL j _ Er mZ y1, _, n2, t2
    (refine zQ 0 0 p.K bW ?_; intro ou)
    (refine zQ 0 0 p.K bW ?_; intro ou)
    (refine zQ 1 2 p.K bW ?_; intro ou)
    refine zJ (Ta := []) [] [] [p.K] (mU p j _ qC mZ y1) (fun x hx => by rw [List.mem_singleton.mp hx]; exact bW) (dQ _) @fun _ n3 t3 _ _ _ _ => ?_
    exists yg, 3, 2
    exists zH, 9, 682397706, [], (hC (bX (lows.map (·.1)) j : Nat) (bX p.n j : Nat) oB gQ).ck h1, _, n4, t4
    refine zK [7] (dt aH (ag highs) eH j _ Iy mZ y1) @fun _ n5 t5 _ _ _ _ => ?_
    exists yg, 3, 2
    exists zH, 1, 2, [], (hC (bX p.n j : Nat) (bX (highs.map (·.1)) j : Nat) gQ ox).ck h2, _, n6, t6
   ·exact zO [0, 1, 2, 3, 4, 5, 6, 7] (ax _ (Dq.next (t1 + 0) (.int j y1) 1) _ cq ed)
   ·exact zO [0, 1, 2, 3, 4, 5, 6, 7] (ax _ (Dq.next tk (.int j y1) ep) _ cq ed)
  ·have cq := fun tk => ff.next (v := j) dI (uX (by unfold qA; rw [decide_eq_false (p := bX p.n j ≤ bX (highs.map (·.1)) j) (fun h => h2 (Int.ofNat_le.mpr h)), Bool.and_false])) tk
   rcases hD with ⟨_, rfl⟩ | ⟨_, tk, v, ep, rfl⟩
   all_goals
    exists zA, 3, 102, zd, zc, a0
    exists zH, 16, 1690050512704, [0], du it j m, y1, n1, t1
    exists zH, 5, 207, [6], dt aL (ag lows) eL j _ Er mZ y1, _, n2, t2
    (refine zQ 0 0 p.K bW ?_; intro ou)
    (refine zQ 0 0 p.K bW ?_; intro ou)
    (refine zQ 1 2 p.K bW ?_; intro ou)
    refine zJ (Ta := []) [] [] [p.K] (mU p j _ qC mZ y1) (fun x hx => by rw [List.mem_singleton.mp hx]; exact bW) (dQ _) @fun _ n3 t3 _ _ _ _ => ?_
    exists yg, 3, 2
    exists zH, 9, 682397706, [], (hC (bX (lows.map (·.1)) j : Nat) (bX p.n j : Nat) oB gQ).ck h1, _, n4, t4
    refine zK [7] (dt aH (ag highs) eH j _ Iy mZ y1) @fun _ n5 t5 _ _ _ _ => ?_
    exists yg, 3, 2
    exists zH, 3, 104, [], (hC (bX p.n j : Nat) (bX (highs.map (·.1)) j : Nat) gQ ox).cO h2, _, n6, t6
    exists zH, 1, 2, [1], bT acc (ag cs) ed (.int j y1) (by exact aO), y7, n7, t7
   ·exact zO [0, 1, 2, 3, 4, 5, 6, 7] (ax _ (Dq.next (t1 + 0) (.int j y1) 1) _ (cq y1) y7)
   ·exact zO [0, 1, 2, 3, 4, 5, 6, 7] (ax _ (Dq.next tk (.int j y1) ep) _ (cq y1) y7)
 ·have cq := fun tk => ff.next (v := j) dI (uX (by unfold qA; rw [decide_eq_false (p := bX (lows.map (·.1)) j ≤ bX p.n j) (fun h => h1 (Int.ofNat_le.mpr h)), Bool.false_and])) tk
  rcases hD with ⟨_, rfl⟩ | ⟨_, tk, v, ep, rfl⟩
  all_goals
   exists zA, 3, 102, zd, zc, a0
   exists zH, 16, 1690050512704, [0], du it j m, y1, n1, t1
   exists zH, 5, 207, [6], dt aL (ag lows) eL j _ Er mZ y1, _, n2, t2
   (refine zQ 0 0 p.K bW ?_; intro ou)
   (refine zQ 0 0 p.K bW ?_; intro ou)
   (refine zQ 1 2 p.K bW ?_; intro ou)
   refine zJ (Ta := []) [] [] [p.K] (mU p j _ qC mZ y1) (fun x hx => by rw [List.mem_singleton.mp hx]; exact bW) (dQ _) @fun _ n3 t3 _ _ _ _ => ?_
   exists yg, 3, 2
   exists zH, 3, 104, [], (hC (bX (lows.map (·.1)) j : Nat) (bX p.n j : Nat) oB gQ).cO h1, _, n4, t4
   exists zH, 1, 2, [1], bT acc (ag cs) ed (.int j y1) (by exact aO), y7, n7, t7
  ·exact zO [0, 1, 2, 3, 4, 5, 6, 7] (ax _ (Dq.next (t1 + 0) (.int j y1) 1) _ (cq y1) y7)
  ·exact zO [0, 1, 2, 3, 4, 5, 6, 7] (ax _ (Dq.next tk (.int j y1) ep) _ (cq y1) y7)
end
section
structure CI where
 x : Nat × Tok
 cs : List (Nat × Tok)
 ed : Nat
 tk : Tok
 v : Value
 ep : Nat
 it : Obj
theorem Es (it aF aL aH Dd L J acc : Addr) (ab : List Ct) (ik : ab.length ≤ 10) (ef : Nat) (lows highs : List (Nat × Tok)) (eL eH N : Nat) (tn : Tok) (Ec : 1 ≤ N) (hN : N ≤ 10) (eU : ∀ ct ∈ ab, ct.c.length = N) (gu : lows.length = N) (lH : highs.length = N) (T : KS) (hT : ∀ ct ∈ ab, ct.K ∈ T) (j : Nat) (hj : j < (refs ab).length)
  (ih : bP w b 19 yJ (sG Dd L J) it acc J (refs ab).length (fun j => bx aF j) [(aF, aa (refs ab) ef)] [(Dd, ay [] 0), (L + 6, ai (.int N tn)), (L + 9, ai (.ref aL)), (L + 10, ai (.ref aH)), (aL, aa (ag lows) eL), (aH, aa (ag highs) eH)] T (fun _ o => ∃ c, o = cY c) (qB ab (lows.map (·.1)) (highs.map (·.1)) N) (j + 1)) :
  bP w b 19 yJ (sG Dd L J) it acc J (refs ab).length (fun j => bx aF j) [(aF, aa (refs ab) ef)] [(Dd, ay [] 0), (L + 6, ai (.int N tn)), (L + 9, ai (.ref aL)), (L + 10, ai (.ref aH)), (aL, aa (ag lows) eL), (aH, aa (ag highs) eH)] T (fun _ o => ∃ c, o = cY c) (qB ab (lows.map (·.1)) (highs.map (·.1)) N) j := by
 intro o hD done ed fD
 have l6 : done = refs (gk (ab.take j) (lows.map (·.1)) (highs.map (·.1)) N) := fD
 subst l6
 obtain ⟨c, rfl⟩ := hD
 rw [List.length_map] at hj
 obtain ⟨ct, hp⟩ : ∃ q, ab[j]? = some q := ⟨ab[j]'hj, List.getElem?_eq_getElem hj⟩
 have dn := List.mem_of_getElem? hp
 have bj : (refs ab)[j]? = some (.ref ct.a) := by rw [cX, hp]; rfl
 have bW := hT ct dn
 have dg := eU ct dn
 have dk : (refs (gk (ab.take j) (lows.map (·.1)) (highs.map (·.1)) N)).length ≤ 10 := by
  have h1 : (gk (ab.take j) (lows.map (·.1)) (highs.map (·.1)) N).length ≤ (ab.take j).length := List.length_filter_le _ _
  rw [List.length_take] at h1
  simp only [List.length_map]
  lia
 have ax := fun o' eV fO h' b8 => ih o' eV fO b8 h'
 clear ih hj fD
 by_cases hb : eW (lows.map (·.1)) (highs.map (·.1)) ct.n N = []
 ·have cq : qB ab (lows.map (·.1)) (highs.map (·.1)) N (j + 1) (refs (gk (ab.take j) (lows.map (·.1)) (highs.map (·.1)) N) ++ [.ref ct.a]) := by
   unfold qB
   rw [En hp hb, ig]
  exists zA, 3, 102, zd, zc, a0
  exists zH, 12, 668877755, [0, 1], dv it aF (refs ab) ef j (.ref ct.a) bj, _, n1, t1
  refine zK [] (fH N tn) @fun y1 n1 t1 _ _ _ _ => ?_
  exists yg, 6, 5612
  exists zH, 4, 113, [10], fI y1.1 N (by exact aO) y1.2.1 tn y1.2.2, y2, n2, t2
  have hc := fun b => (bP.uH (w := w) (b := b) (n := 10) (e := yK) (env := o3 (n2 + 1) L J) (it := y2) (acc := n2 + 0) (D := n2 + 1) (N := N) (Kx := [(L + 9, ai (.ref aL)), (L + 10, ai (.ref aH)), (J, ai (.ref ct.a)), (aL, aa (ag lows) eL), (aH, aa (ag highs) eH)]) (T := T) (Vq := Dq w "j") (S := ff (eW (lows.map (·.1)) (highs.map (·.1)) ct.n)) (by kernel_rfl) ⟨[], rfl, rfl⟩ (.inl ⟨rfl, rfl⟩)
    (fun j hj ih => uY (w := w) (b := b) y2 aL aH (n2 + 1) L J (n2 + 0) ct lows highs eL eH N hN dg gu lH T bW j hj ih)).imp'
   (Y := CH) (P' := fun _ => True) (dJ := fun _ => .ok .next)
   (dK := fun y => [(y2, y.it), (n2 + 0, aa ([]) y.ed), (n2 + 1, ay [av (au w "j") "j" y.tk y.v] y.ep), (L + 9, ai (.ref aL)), (L + 10, ai (.ref aH)), (J, ai (.ref ct.a)), (aL, aa (ag lows) eL), (aH, aa (ag highs) eH)]) (dO := fun _ => [])
   (fun x hx => by
    obtain ⟨⟨cs, h1, h2⟩, hq⟩ := hx
    obtain ⟨tk, v, ep, h⟩ := hq.some (by exact i4)
    rw [hb] at h2
    have h3 : cs = [] := List.map_eq_nil_iff.mp h2
    subst h3
    exact ⟨⟨x.ed, tk, v, ep, x.it⟩, trivial, rfl, by rw [h1, h]; rfl, rfl⟩)
  exists zI, 9, 38265, [11, 12, 13, 6, 7, 3, 8, 9], hc _, y3, n3, t3
  refine sQ fun p below l => ?_
  exists ao, dG (ah (ah (ah (ah (ah (fB (fB (ah (bf (d5 l zc.hL (by kernel_rfl)))))))))))
  exists yg, 5, 285814
  exists zH, 4, 105, [12, 14], rq (n2 + 0) (n3 + 0) y3.ed 0, _, n4, t4
  exists zH, 1, 2, [2], bT acc (refs (gk (ab.take j) (lows.map (·.1)) (highs.map (·.1)) N)) ed (.ref ct.a) (by exact aO), y5, n5, t5
  exact zO [0, 1, 2, 3, 4, 5, 6, 7, 8, 9] (ax _ ⟨some (.ref ct.a), rfl⟩ _ cq y5)
 ·have cq : qB ab (lows.map (·.1)) (highs.map (·.1)) N (j + 1) (refs (gk (ab.take j) (lows.map (·.1)) (highs.map (·.1)) N)) := by
   unfold qB
   rw [Eo hp hb]
  exists zA, 3, 102, zd, zc, a0
  exists zH, 12, 668877755, [0, 1], dv it aF (refs ab) ef j (.ref ct.a) bj, _, n1, t1
  refine zK [] (fH N tn) @fun y1 n1 t1 _ _ _ _ => ?_
  exists yg, 6, 5612
  exists zH, 4, 113, [10], fI y1.1 N (by exact aO) y1.2.1 tn y1.2.2, y2, n2, t2
  have hc := fun b => (bP.uH (w := w) (b := b) (n := 10) (e := yK) (env := o3 (n2 + 1) L J) (it := y2) (acc := n2 + 0) (D := n2 + 1) (N := N) (Kx := [(L + 9, ai (.ref aL)), (L + 10, ai (.ref aH)), (J, ai (.ref ct.a)), (aL, aa (ag lows) eL), (aH, aa (ag highs) eH)]) (T := T) (Vq := Dq w "j") (S := ff (eW (lows.map (·.1)) (highs.map (·.1)) ct.n)) (by kernel_rfl) ⟨[], rfl, rfl⟩ (.inl ⟨rfl, rfl⟩)
    (fun j hj ih => uY (w := w) (b := b) y2 aL aH (n2 + 1) L J (n2 + 0) ct lows highs eL eH N hN dg gu lH T bW j hj ih)).imp'
   (Y := CI) (P' := fun _ => True) (dJ := fun _ => .ok .next)
   (dK := fun y => [(y2, y.it), (n2 + 0, aa (.int (y.x.1 : Nat) y.x.2 :: ag y.cs) y.ed), (n2 + 1, ay [av (au w "j") "j" y.tk y.v] y.ep), (L + 9, ai (.ref aL)), (L + 10, ai (.ref aH)), (J, ai (.ref ct.a)), (aL, aa (ag lows) eL), (aH, aa (ag highs) eH)]) (dO := fun _ => [])
   (fun x hx => by
    obtain ⟨⟨cs, h1, h2⟩, hq⟩ := hx
    obtain ⟨tk, v, ep, h⟩ := hq.some (by exact i4)
    cases cs with
    | nil => exact absurd h2.symm hb
    | cons q cs => exact ⟨⟨q, cs, x.ed, tk, v, ep, x.it⟩, trivial, rfl, by rw [h1, h]; rfl, rfl⟩)
  exists zI, 9, 38265, [11, 12, 13, 6, 7, 3, 8, 9], hc _, y3, n3, t3
  refine sQ fun p below l => ?_
  exists ao, dG (ah (ah (ah (ah (ah (fB (fB (ah (bf (d5 l zc.hL (by kernel_rfl)))))))))))
  exists yg, 5, 285814
  exists zH, 2, 2, [12, 14], rr (n2 + 0) (n3 + 0) (.int (y3.x.1 : Nat) y3.x.2) (ag y3.cs) y3.ed 0, _, n4, t4
  exact zO [0, 1, 2, 3, 4, 5, 6, 7, 8, 9] (ax _ ⟨some (.ref ct.a), rfl⟩ _ cq ed)
end
structure CJ where
 ed : Nat
 c : Option Value
 it : Obj
theorem GQ (lq : Lq) (rJ : 1 ≤ lq.ends) (ki : lq.ends ≤ 5) (It : 1 ≤ lq.ab.length) (qy : lq.ab.length ≤ 10) (eU : ∀ q ∈ lq.ab, q.c.length = lq.ends) (gu : lq.lows.length = lq.ends) (lH : lq.highs.length = lq.ends) (aK eK : Nat) (cs : List (Nat × Tok)) (aS eS : Nat) (zs : List (Int × Tok)) (aR eR : Nat) (fl : List Fl) (aY eY : Nat) (ss : List (Nat × Tok)) (tl : Tok) (aB eB : Nat) (k9 : Tok) (best : List Ct) (ep : Nat)
 (GR : best = gk lq.ab (lq.lows.map (·.1)) (lq.highs.map (·.1)) lq.ends)
 (H : bH w b 28 (bN lq.S) .base (b6 lq.S 26) (lq.Fe w ep [fe w "best" k9 (.ref aB)] ae (ai (.ref aK)) (ai (.ref aS)) (ai (.ref aR)) (ai (.ref aY)) (ai (.int (cQ (ss.map (·.1)) : Nat) tl)) [(aK, aa (ag cs) eK), (aS, aa (aQ zs) eS), (aR, aa (cm fl) eR), (aY, aa (ag ss) eY), (aB, aa (refs best) eB)]) (fl.map Fl.K ++ lq.ab.map Ct.K)) :
  bH w b 28 (bN lq.S) .base (b6 lq.S 25) (lq.Fe w ep [fe w "best" k9 (.ref aB)] ae (ai (.ref aK)) (ai (.ref aS)) (ai (.ref aR)) (ai (.ref aY)) (ai (.int (cQ (ss.map (·.1)) : Nat) tl)) [(aK, aa (ag cs) eK), (aS, aa (aQ zs) eS), (aR, aa (cm fl) eR), (aY, aa (ag ss) eY), (aB, aa (refs best) eB)]) (fl.map Fl.K ++ lq.ab.map Ct.K) := by
 (refine zF ?_; intro zd zc hsz a)
 exists yg, 19, 103929384310605
 have hc := fun b => (bP.uG (w := w) (b := b) (n := 18) (e := yJ) (env := sG (zc.S + 2) lq.S (zc.S + 3)) (it := zc.S + 0) (acc := zc.S + 1) (D := zc.S + 3) (a := lq.aF) (vals := refs lq.ab) (ex := lq.ef) (Kx := [(zc.S + 2, ay [] 0), (lq.S + 6, ai (.int lq.ends lq.tn)), (lq.S + 9, ai (.ref lq.aL)), (lq.S + 10, ai (.ref lq.aH)), (lq.aL, aa (ag lq.lows) lq.eL), (lq.aH, aa (ag lq.highs) lq.eH)]) (T := fl.map Fl.K ++ lq.ab.map Ct.K) (Vq := fun _ o => ∃ c, o = cY c) (S := qB lq.ab (lq.lows.map (·.1)) (lq.highs.map (·.1)) lq.ends) (o := cY none) (by kernel_rfl) rfl ⟨none, rfl⟩
   (fun j hj ih => Es (w := w) (b := b) (zc.S + 0) lq.aF lq.aL lq.aH (zc.S + 2) lq.S (zc.S + 3) (zc.S + 1) lq.ab qy lq.ef lq.lows lq.highs lq.eL lq.eH lq.ends lq.tn rJ (by exact aO) eU gu lH (fl.map Fl.K ++ lq.ab.map Ct.K) (fun q hq => List.mem_append_right _ (Ct.fk hq)) j hj ih)).imp'
  (Y := CJ) (P' := fun _ => True) (dJ := fun _ => .ok .next)
  (dK := fun y => [(zc.S + 0, y.it), (lq.aF, aa (refs lq.ab) lq.ef), (zc.S + 1, aa (refs best) y.ed), (zc.S + 3, cY y.c), (zc.S + 2, ay [] 0), (lq.S + 6, ai (.int lq.ends lq.tn)), (lq.S + 9, ai (.ref lq.aL)), (lq.S + 10, ai (.ref lq.aH)), (lq.aL, aa (ag lq.lows) lq.eL), (lq.aH, aa (ag lq.highs) lq.eH)]) (dO := fun _ => [])
  (fun x hx => by
   obtain ⟨h1, c, h⟩ := hx
   have eO : x.l = refs best := by rw [GR, show x.l = _ from h1, List.take_of_length_le (by simp)]
   exact ⟨⟨x.ed, c, x.it⟩, trivial, rfl, by rw [eO, h]; rfl, rfl⟩)
 exists zI, 3, 0, [31, 22, 32, 34, 33, 9, 12, 13, 24, 25], hc _, y1, n1, t1
 refine sQ fun p below l => ?_
 exists ao, ah (dG (ah (ah (ah (ah (fB (fB (ah (bf (d5 l zc.hL (by kernel_rfl)))))))))))
 exists yg, 5, 331732
 exists zH, 1, 0, [30, 32], A2 aB (zc.S + 1) best eB y1.ed, _, n2, t2, G2, a2, _, _
 exact e9 zc.post zc.ro a2 zc.hL 29 [] H (by kernel_rfl) (by kernel_rfl) (by kernel_rfl)
noncomputable def bQ (c : List Nat) (k : Nat) : Nat := (c.filter fun x => decide (x ≤ k)).length
noncomputable def cN (xs : List (Nat × Tok)) (k : Nat) : List (Nat × Tok) := xs.filter fun q => decide (q.1 ≤ k)
set_option smartUnfolding true
theorem l7 (xs : List (Nat × Tok)) (k : Nat) : (cN xs k).length = bQ (xs.map (·.1)) k := by
 unfold cN bQ
 rw [List.filter_map, List.length_map]
 rfl
noncomputable def jr (xs : List (Nat × Tok)) (k j : Nat) (done : List Value) : Prop := done = ag (cN (xs.take j) k)
theorem uZ {xs : List (Nat × Tok)} {k j : Nat} {q : Nat × Tok} (hq : xs[j]? = some q) (h : q.1 ≤ k) : cN (xs.take (j + 1)) k = cN (xs.take j) k ++ [q] := by
 unfold cN
 rw [List.take_add_one, hq, List.filter_append]
 simp [h]
theorem u0 {xs : List (Nat × Tok)} {k j : Nat} {q : Nat × Tok} (hq : xs[j]? = some q) (h : ¬ q.1 ≤ k) : cN (xs.take (j + 1)) k = cN (xs.take j) k := by
 unfold cN
 rw [List.take_add_one, hq, List.filter_append]
 simp [h]
theorem rK (xs : List (Nat × Tok)) (k j : Nat) : (cN (xs.take j) k).length ≤ xs.length :=
 Nat.le_trans (List.length_filter_le _ _) (by simp; lia)
section
noncomputable def va (p1 p2 p3 p4 p5 p6 : Pos) (ix : Expr) (sc : Scope) : Expr := .ListComp (.Name (Str.ofString "end") p1) [⟨.Name (Str.ofString "end") p2, ix, [.Compare (.Name (Str.ofString "end") p3) [.LtE] [.Name (Str.ofString "k") p4] p5], 0⟩] sc p6
noncomputable def js (D L : Addr) : Env := dP [(Str.ofString ".0", .local), (Str.ofString "end", .local), (Str.ofString "k", .cell)] D [(Str.ofString "k", L + 2)] cU L
set_option smartUnfolding false
theorem Ln (it a : Addr) (items : List Value) (j : Nat) (v : Value) (hv : items[j]? = some v) :
  af w b 0 (.call (.builtin "tuple_iterator.__next__") ⟨[.ref it], []⟩) [(it, d4 a j), (a, aj items)] []
   (X := Unit) (fun _ => True) (fun _ => .ok (.ret v)) (fun _ => [(it, d4 a (j + 1 : Nat)), (a, aj items)]) (fun _ => []) := by
 exists zA, 5, 19005052, zd, zc, a0
 exists dT, os (by simpa using hv)
 exists zg, 3, 102
 exact zM 2 [] (fun _ => ())
theorem Lo (it a : Addr) (items : List Value) (j : Nat) (hv : items[j]? = none) :
  af w b 0 (.call (.builtin "tuple_iterator.__next__") ⟨[.ref it], []⟩) [(it, d4 a j), (a, aj items)] []
   (X := Addr × Addr × Obj) (fun _ => True) (fun y => .error (.ref y.2.1)) (fun y => [(it, y.2.2), (a, aj items)]) (fun y => [(y.1, aj []), (y.2.1, lg y.1)]) := by
 exists zA, 5, 19005052, zd, zc, a0
 exists dT, on (by simpa using hv)
 exists zg, 7, 102
 exact zM 2 [true, true] (fun o => (zc.S, zc.S + 1, o.ob 0)) (hs := (ar (Nat.le_refl _) (ar (Nat.le_add_right _ _) ak)))
set_option smartUnfolding true
theorem Et (it : Addr) (p : Ct) (j : Nat) (v : Value) (hv : (ag p.c)[j]? = some v) :
  af w b 0 (.call (.builtin "tuple_iterator.__next__") ⟨[.ref it], []⟩) [(it, d4 p.a j)] [p.K]
   (X := Unit) (fun _ => True) (fun _ => .ok (.ret v)) (fun _ => [(it, d4 p.a (j + 1 : Nat))]) (fun _ => []) :=
 af.iL (K := [(it, d4 p.a j)]) (T1 := [p.K]) (T := []) (Kf := fun (_ : Unit) => [(it, d4 p.a (j + 1 : Nat))]) (Ln it p.a (ag p.c) j v hv)
theorem JP (it : Addr) (p : Ct) (j : Nat) (hv : (ag p.c)[j]? = none) :
  af w b 0 (.call (.builtin "tuple_iterator.__next__") ⟨[.ref it], []⟩) [(it, d4 p.a j)] [p.K]
   (X := Addr × Addr × Obj) (fun _ => True) (fun y => .error (.ref y.2.1)) (fun y => [(it, y.2.2)]) (fun y => [(y.1, aj []), (y.2.1, lg y.1)]) :=
 af.iL (K := [(it, d4 p.a j)]) (T1 := [p.K]) (T := []) (Kf := fun (y : Addr × Addr × Obj) => [(it, y.2.2)]) (Lo it p.a (ag p.c) j hv)
set_option smartUnfolding false
theorem GS (n : Nat) (e : Expr) (hE : jy e) (env : Env) (it acc : Addr) (p : Ct) (T : KS) (bW : p.K ∈ T) :
  af w b (n + 1) (bF e it acc env) [(it, d4 p.a p.c.length)] T (X := Obj) (fun _ => True) (fun _ => .ok .next) (fun y => [(it, y)]) (fun _ => []) := by
 have bj : (ag p.c)[p.c.length]? = none := by simp [ag]
 obtain ⟨el, tg, ix, ifs, gs, sc, ps, rfl⟩ := iF hE
 exists zA, 3, 102, zd, zc, a0
 (refine zG (Ta := []) 2 4 [0] [] [p.K] (JP it p p.c.length bj) (fun x hx => by rw [List.mem_singleton.mp hx]; exact bW) (dQ _) fun y n1 t1 => ?_; intro ou)
 exact zM 1 [] (fun _ => y.2.2)
theorem A3 (e : Expr) (hE : jy e) (env : Env) (it a acc : Addr) (jj : Nat) (T : KS) (K : KS) {n : Nat} {X : Type} {P : X → Prop} {rf : X → Result} {Kf Nf : X → KS}
  (H : af w b n (bF e it acc env) ((it, d4 a jj) :: K) T P rf Kf Nf) : af w b (n + 1) (cx e it acc env) ((it, d4 a jj) :: K) T P rf Kf Nf := by
 obtain ⟨w, c, rfl⟩ := d6 w
 obtain ⟨el, tg, ix, ifs, gs, sc, ps, rfl⟩ := iF hE
 cases c
 ·(refine zB ?_; intro zd zc a0)
  exists yg, 12, 31881502602
  exact zS H (Nat.ble_eq_true_of_le (Nat.le_succ _))
 ·exists zA, 2, 2, zd, zc, a0
  exact zS H (Nat.ble_eq_true_of_le (Nat.le_succ _))
set_option smartUnfolding true
theorem bP.Lp {n : Nat} {e : Expr} {env : Env} {it acc D : Addr} {p : Ct} {Kx T : KS} {Vq : Bool → Obj → Prop} {S : Nat → List Value → Prop} (hE : jy e) (bW : p.K ∈ T) (h0 : S 0 []) {o : Obj} (ho : Vq true o)
  (turn : ∀ j < p.c.length, bP w b (n + 1) e env it acc D p.c.length (fun j => d4 p.a j) [] Kx T Vq S (j + 1) → bP w b (n + 1) e env it acc D p.c.length (fun j => d4 p.a j) [] Kx T Vq S j) :
  af w b (n + 2) (cx e it acc env) ([(it, d4 p.a (0 : Nat)), (acc, aa [] 0), (D, o)] ++ Kx) T
   (X := CE) (fun y => S p.c.length y.l ∧ Vq (decide (p.c.length = 0)) y.o) (fun _ => .ok .next) (fun y => [(it, y.it), (acc, aa y.l y.ed), (D, y.o)] ++ Kx) (fun _ => []) :=
 A3 e hE env it p.a acc 0 T _ (bP.all (io := fun j => d4 p.a j) (Ki := []) (fun o ho done ed hS => ((GS n e hE env it acc p (([(acc, aa done ed), (D, o)] ++ Kx) ++ T) (List.mem_append_right _ bW)).HK).map (fun y => ⟨done, ed, o, y⟩) (fun _ _ => ⟨hS, ho⟩) (fun _ => rfl) (fun _ => rfl) (fun _ => rfl)) turn p.c.length 0 (by exact Nat.zero_add _) o ho [] 0 h0)
set_option smartUnfolding false
theorem A4 (p1 p2 p3 p4 p5 p6 : Pos) (ix : Expr) (sc : Scope) (it D L acc : Addr) (ct : Ct) (dk : ct.c.length ≤ 10) (k : Nat) (fL : Tok) (T : KS) (bW : ct.K ∈ T) (j : Nat) (hj : j < ct.c.length)
  (ih : bP w b 13 (va p1 p2 p3 p4 p5 p6 ix sc) (js D L) it acc D ct.c.length (fun j => d4 ct.a j) [] [(L + 2, ai (.int k fL))] T (Dq w "end") (jr ct.c k) (j + 1)) :
  bP w b 13 (va p1 p2 p3 p4 p5 p6 ix sc) (js D L) it acc D ct.c.length (fun j => d4 ct.a j) [] [(L + 2, ai (.int k fL))] T (Dq w "end") (jr ct.c k) j := by
 intro o hD done ed fD
 have l6 : done = ag (cN (ct.c.take j) k) := fD
 subst l6
 have lI : j < ct.c.length := by simpa [ag] using hj
 obtain ⟨q, hq⟩ : ∃ q, ct.c[j]? = some q := ⟨ct.c[j]'lI, List.getElem?_eq_getElem lI⟩
 have bj : (ag ct.c)[j]? = some (.int q.1 q.2) := by rw [fy, hq]; rfl
 have JQ : (ag (cN (ct.c.take j) k)).length ≤ 10 := by
  have := rK ct.c k j
  simp only [ag, List.length_map]
  lia
 have ax := fun o' eV fO h' b8 => ih o' eV fO b8 h'
 clear ih hj fD lI
 by_cases hle : q.1 ≤ k
 ·have cq : jr ct.c k (j + 1) (ag (cN (ct.c.take j) k) ++ [.int q.1 q.2]) := by
   unfold jr
   rw [uZ hq hle, fj]
  rcases hD with ⟨_, rfl⟩ | ⟨_, tk, v, ep, rfl⟩
  all_goals
   exists zA, 3, 102, zd, zc, a0
   refine zJ (Ta := []) [0] [] [ct.K] (Et it ct j (.int q.1 q.2) bj) (fun x hx => by rw [List.mem_singleton.mp hx]; exact bW) (dQ _) @fun _ n1 t1 _ _ _ _ => ?_
   exists yg, 14, 13135204
   exists zH, 3, 104, [], (hC q.1 k q.2 fL).ck (Int.ofNat_le.mpr hle), _, n2, t2
   exists zH, 1, 2, [1], bT acc (ag (cN (ct.c.take j) k)) ed (.int q.1 q.2) (by exact aO), y3, n3, t3
  ·exact zO [0, 1, 2, 3] (ax _ (Dq.next (t1 + 0) (.int q.1 q.2) 1) _ cq y3)
  ·exact zO [0, 1, 2, 3] (ax _ (Dq.next tk (.int q.1 q.2) ep) _ cq y3)
 ·have cq : jr ct.c k (j + 1) (ag (cN (ct.c.take j) k)) := by
   unfold jr
   rw [u0 hq hle]
  rcases hD with ⟨_, rfl⟩ | ⟨_, tk, v, ep, rfl⟩
  all_goals
   exists zA, 3, 102, zd, zc, a0
   refine zJ (Ta := []) [0] [] [ct.K] (Et it ct j (.int q.1 q.2) bj) (fun x hx => by rw [List.mem_singleton.mp hx]; exact bW) (dQ _) @fun _ n1 t1 _ _ _ _ => ?_
   exists yg, 14, 13135204
   exists zH, 1, 2, [], (hC q.1 k q.2 fL).cO (fun h => hle (Int.ofNat_le.mp h)), _, n2, t2
  ·exact zO [0, 1, 2, 3] (ax _ (Dq.next (t1 + 0) (.int q.1 q.2) 1) _ cq ed)
  ·exact zO [0, 1, 2, 3] (ax _ (Dq.next tk (.int q.1 q.2) ep) _ cq ed)
theorem A5 (p1 p2 p3 p4 p5 p6 : Pos) (ix : Expr) (sc : Scope) (it D L acc : Addr) (a : Addr) (xs : List (Nat × Tok)) (dk : xs.length ≤ 10) (ex : Nat) (k : Nat) (fL : Tok) (T : KS) (j : Nat) (hj : j < (ag xs).length)
  (ih : bP w b 13 (va p1 p2 p3 p4 p5 p6 ix sc) (js D L) it acc D (ag xs).length (fun j => bx a j) [(a, aa (ag xs) ex)] [(L + 2, ai (.int k fL))] T (Dq w "end") (jr xs k) (j + 1)) :
  bP w b 13 (va p1 p2 p3 p4 p5 p6 ix sc) (js D L) it acc D (ag xs).length (fun j => bx a j) [(a, aa (ag xs) ex)] [(L + 2, ai (.int k fL))] T (Dq w "end") (jr xs k) j := by
 intro o hD done ed fD
 have l6 : done = ag (cN (xs.take j) k) := fD
 subst l6
 have lI : j < xs.length := by simpa [ag] using hj
 obtain ⟨q, hq⟩ : ∃ q, xs[j]? = some q := ⟨xs[j]'lI, List.getElem?_eq_getElem lI⟩
 have bj : (ag xs)[j]? = some (.int q.1 q.2) := by rw [fy, hq]; rfl
 have JQ : (ag (cN (xs.take j) k)).length ≤ 10 := by
  have := rK xs k j
  simp only [ag, List.length_map]
  lia
 have ax := fun o' eV fO h' b8 => ih o' eV fO b8 h'
 clear ih hj fD lI
 by_cases hle : q.1 ≤ k
 ·have cq : jr xs k (j + 1) (ag (cN (xs.take j) k) ++ [.int q.1 q.2]) := by
   unfold jr
   rw [uZ hq hle, fj]
  rcases hD with ⟨_, rfl⟩ | ⟨_, tk, v, ep, rfl⟩
  all_goals
   exists zA, 3, 102, zd, zc, a0
   refine zK [0, 1] (dv it a (ag xs) ex j (.int q.1 q.2) bj) @fun _ n1 t1 _ _ _ _ => ?_
   exists yg, 14, 13262755
   exists zH, 3, 105, [], (hC q.1 k q.2 fL).ck (Int.ofNat_le.mpr hle), _, n2, t2
   exists zH, 1, 2, [2], bT acc (ag (cN (xs.take j) k)) ed (.int q.1 q.2) (by exact aO), y3, n3, t3
  ·exact zO [0, 1, 2, 3, 4] (ax _ (Dq.next (t1 + 0) (.int q.1 q.2) 1) _ cq y3)
  ·exact zO [0, 1, 2, 3, 4] (ax _ (Dq.next tk (.int q.1 q.2) ep) _ cq y3)
 ·have cq : jr xs k (j + 1) (ag (cN (xs.take j) k)) := by
   unfold jr
   rw [u0 hq hle]
  rcases hD with ⟨_, rfl⟩ | ⟨_, tk, v, ep, rfl⟩
  all_goals
   exists zA, 3, 102, zd, zc, a0
   refine zK [0, 1] (dv it a (ag xs) ex j (.int q.1 q.2) bj) @fun _ n1 t1 _ _ _ _ => ?_
   exists yg, 14, 13262755
   exists zH, 1, 2, [], (hC q.1 k q.2 fL).cO (fun h => hle (Int.ofNat_le.mp h)), _, n2, t2
  ·exact zO [0, 1, 2, 3, 4] (ax _ (Dq.next (t1 + 0) (.int q.1 q.2) 1) _ cq ed)
  ·exact zO [0, 1, 2, 3, 4] (ax _ (Dq.next tk (.int q.1 q.2) ep) _ cq ed)
end
noncomputable def JR : Expr → List Pos
 | .ListComp (.Name _ p1) (⟨.Name _ p2, _, .Compare (.Name _ p3) _ (.Name _ p4 :: _) p5 :: _, _⟩ :: _) _ p6 => [p1, p2, p3, p4, p5, p6]
 | _ => []
noncomputable def wG : Expr → Expr
 | .ListComp _ (⟨_, ix, _, _⟩ :: _) _ _ => ix
 | e => e
noncomputable def wH (d : Scope) : Expr → Scope
 | .ListComp _ _ sc _ => sc
 | _ => d
noncomputable def dW (e : Expr) (i : Nat) : Pos := (JR e).getD i default
noncomputable def yL (e : Expr) : Expr := va (dW e 0) (dW e 1) (dW e 2) (dW e 3) (dW e 4) (dW e 5) (wG e) (wH default e)
section
noncomputable def yM : Expr := ip (uv (dq cn 26) 0)
noncomputable def sH (D L : Addr) : Env := dP [(Str.ofString ".0", .local), (Str.ofString "cut", .local), (Str.ofString "len", .globalImplicit), (Str.ofString "k", .cell)] D [(Str.ofString "k", L + 2)] cU L
structure CK where
 ed : Nat
 tk : Tok
 v : Value
 ep : Nat
 it : Obj
set_option smartUnfolding true
theorem GU (E : Expr) (it D L acc : Addr) (ct : Ct) (h1 : 1 ≤ ct.c.length) (dk : ct.c.length ≤ 10) (k : Nat) (fL : Tok) (T : KS) (bW : ct.K ∈ T) :
  af w b 14 (cx (yL E) it acc (js D L)) [(it, d4 ct.a (0 : Nat)), (acc, aa [] 0), (D, ay [] 0), (L + 2, ai (.int k fL))] T
   (X := CK) (fun y => True) (fun _ => .ok .next) (fun y => [(it, y.it), (acc, aa (ag (cN ct.c k)) y.ed), (D, ay [av (au w "end") "end" y.tk y.v] y.ep), (L + 2, ai (.int k fL))]) (fun _ => []) := by
 have h := bP.Lp (w := w) (b := b) (n := 12) (e := yL E) (env := js D L) (it := it) (acc := acc) (D := D) (p := ct) (Kx := [(L + 2, ai (.int k fL))]) (T := T) (Vq := Dq w "end") (S := jr ct.c k) rfl bW rfl (o := ay [] 0) (.inl ⟨rfl, rfl⟩)
  (fun j hj ih => A4 (w := w) (b := b) (dW E 0) (dW E 1) (dW E 2) (dW E 3) (dW E 4) (dW E 5) (wG E) (wH default E) it D L acc ct dk k fL T bW j hj ih)
 refine h.imp' fun x hx => ?_
 obtain ⟨eO, hq⟩ := hx
 obtain ⟨tk, v, ep, h⟩ := hq.some (by exact i4)
 have eO : x.l = ag (cN ct.c k) := by rw [show x.l = _ from eO, List.take_of_length_le (Nat.le_refl _)]
 exact ⟨⟨x.ed, tk, v, ep, x.it⟩, trivial, rfl, by rw [eO, h]; rfl, rfl⟩
theorem yN (E : Expr) (it a D L acc : Addr) (xs : List (Nat × Tok)) (h1 : 1 ≤ xs.length) (dk : xs.length ≤ 10) (ex : Nat) (k : Nat) (fL : Tok) (T : KS) :
  af w b 14 (cx (yL E) it acc (js D L)) [(it, bx a (0 : Nat)), (a, aa (ag xs) ex), (acc, aa [] 0), (D, ay [] 0), (L + 2, ai (.int k fL))] T
   (X := CK) (fun y => True) (fun _ => .ok .next) (fun y => [(it, y.it), (a, aa (ag xs) ex), (acc, aa (ag (cN xs k)) y.ed), (D, ay [av (au w "end") "end" y.tk y.v] y.ep), (L + 2, ai (.int k fL))]) (fun _ => []) := by
 have h := bP.uG (w := w) (b := b) (n := 12) (e := yL E) (env := js D L) (it := it) (acc := acc) (D := D) (a := a) (vals := ag xs) (ex := ex) (Kx := [(L + 2, ai (.int k fL))]) (T := T) (Vq := Dq w "end") (S := jr xs k) rfl rfl (o := ay [] 0) (.inl ⟨rfl, rfl⟩)
  (fun j hj ih => A5 (w := w) (b := b) (dW E 0) (dW E 1) (dW E 2) (dW E 3) (dW E 4) (dW E 5) (wG E) (wH default E) it D L acc a xs dk ex k fL T j hj ih)
 refine h.imp' fun x hx => ?_
 obtain ⟨eO, hq⟩ := hx
 have hl : (ag xs).length = xs.length := by simp [ag]
 obtain ⟨tk, v, ep, h⟩ := hq.some (by lia)
 have eO : x.l = ag (cN xs k) := by rw [show x.l = _ from eO, List.take_of_length_le (by lia)]
 exact ⟨⟨x.ed, tk, v, ep, x.it⟩, trivial, rfl, by rw [eO, h]; rfl, rfl⟩
theorem wI (a : Addr) (xs : List (Nat × Tok)) (e N : Nat) (h : xs.length ≤ 1000) (hN : xs.length = N) :
  af w b 10 (.call (.builtin "len") ⟨[.ref a], []⟩) [(a, aa (ag xs) e)] []
   (X := Tok) (fun _ => True) (fun y => .ok (.ret (.int (N : Nat) y))) (fun y => [(a, aa (ag xs) e)]) (fun y => []) := by
 have h := kG (w := w) (b := b) a (ag xs) e (by simpa [ag] using h)
 rw [show (ag xs).length = N by simpa [ag] using hN] at h
 exact h
set_option smartUnfolding false
theorem Eu (it aD D L acc : Addr) (drawn : List Ct) (ik : drawn.length ≤ 10) (j9 : ∀ p ∈ drawn, 1 ≤ p.c.length ∧ p.c.length ≤ 10) (eD k : Nat) (fL : Tok) (T : KS) (hT : ∀ p ∈ drawn, p.K ∈ T) (j : Nat) (hj : j < (refs drawn).length)
  (ih : bP w b 19 yM (sH D L) it acc D (refs drawn).length (fun j => bx aD j) [(aD, aa (refs drawn) eD)] [(L + 2, ai (.int k fL))] T (Dq w "cut") (ff fun j => (drawn.take j).map fun p => bQ p.n k) (j + 1)) :
  bP w b 19 yM (sH D L) it acc D (refs drawn).length (fun j => bx aD j) [(aD, aa (refs drawn) eD)] [(L + 2, ai (.int k fL))] T (Dq w "cut") (ff fun j => (drawn.take j).map fun p => bQ p.n k) j := by
 intro o hD done ed ⟨cs, fD, dI⟩
 subst fD
 rw [List.length_map] at hj
 obtain ⟨ct, hp⟩ : ∃ q, drawn[j]? = some q := ⟨drawn[j]'hj, List.getElem?_eq_getElem hj⟩
 have dn := List.mem_of_getElem? hp
 have bj : (refs drawn)[j]? = some (.ref ct.a) := by rw [cX, hp]; rfl
 have bW := hT ct dn
 obtain ⟨oG, qD⟩ := j9 ct dn
 have dk : (ag cs).length ≤ 10 := by rw [ff.len (f := fun j => (drawn.take j).map fun p => bQ p.n k) dI]; simp; lia
 have cq := fun tk => ff.next (f := fun j => (drawn.take j).map fun p => bQ p.n k) dI (take_snoc (fun p : Ct => bQ p.n k) hp) tk
 have ax := fun o' eV tk b8 => ih o' eV _ b8 (cq tk)
 have hle : (cN ct.c k).length = bQ ct.n k := l7 ct.c k
 have JS : (cN ct.c k).length ≤ 1000 := Nat.le_trans (List.length_filter_le _ _) (by exact aO)
 clear ih hj dI cq
 rcases hD with ⟨_, rfl⟩ | ⟨_, tk, v, ep, rfl⟩
 all_goals
  exists zA, 3, 102, zd, zc, a0
  exists zH, 13, 31377755, [0, 1], dv it aD (refs drawn) eD j (.ref ct.a) bj, _, n1, t1
  (refine zQ 0 0 ct.K bW ?_; intro ou)
  refine zX ct.K bW ?_
  exists yg, 2, 1
  (refine zQ 7 5351 ct.K bW ?_; intro ou)
  exists zI, 7, 272959, [5, 6, 7, 4], GU (lX (r6 yM) 0) (n1 + 0) (n1 + 2) L (n1 + 1) ct oG qD k fL T bW, y2, n2, t2
  exists zH, 2, 2, [6], wI (n1 + 1) (cN ct.c k) y2.ed _ JS hle, y3, n3, t3
  exists zH, 1, 2, [2], bT acc (ag cs) ed (.int (bQ ct.n k : Nat) y3) (by exact aO), y4, n4, t4
 ·exact zO [0, 1, 2, 3, 4] (ax _ (Dq.next (t1 + 0) (.ref ct.a) 1) y3 y4)
 ·exact zO [0, 1, 2, 3, 4] (ax _ (Dq.next tk (.ref ct.a) ep) y3 y4)
end
theorem Ew (x : Int) (tx ty : Tok) :
  af w b 1 (.call (.builtin "int.__ne__") ⟨[.int x tx, .int x ty], []⟩) [] []
   (X := Bool) (fun y => y = false) (fun y => .ok (.ret (.bool y))) (fun y => []) (fun y => []) := by
 exists zA, 2, 1, zd, zc, a0
 exact zN 0 [] (!(@decide (x = x) (Z.eqZ x x))) (hx := (by (with_reducible conv => whnf); rw [(@decide_eq_true_iff _ (Z.eqZ x x)).mpr rfl]; rfl))
set_option smartUnfolding true
theorem vb (x : Int) (tx ty : Tok) :
  af w b 1 (.call (.builtin "int.__ne__") ⟨[.int x tx, .int x ty], []⟩) [] []
   (X := Unit) (fun y => True) (fun y => .ok (.ret (.bool false))) (fun y => []) (fun y => []) :=
 (Ew x tx ty).imp' fun x hx => ⟨(), trivial, by rw [hx], rfl, rfl⟩
set_option smartUnfolding false
theorem GV (lq : Lq) (it : Addr) (kr : Result → Sem Fin) (eC : 1 ≤ lq.drawn.length) (gP : lq.drawn.length ≤ 4) (dY : ∀ q ∈ lq.drawn, q ∈ lq.ab) (j9 : ∀ q ∈ lq.drawn, 1 ≤ q.c.length ∧ q.c.length ≤ 10)
 (oG : 1 ≤ lq.lows.length) (qD : lq.lows.length ≤ 10) (Ex : 1 ≤ lq.highs.length) (wJ : lq.highs.length ≤ 10) (aK eK : Nat) (cs : List (Nat × Tok)) (aS eS : Nat) (zs : List (Int × Tok)) (aR eR : Nat) (fl : List Fl) (aY eY : Nat) (ss : List (Nat × Tok)) (tl : Tok) (aB eB : Nat) (k9 : Tok) (best : List Ct)
 (dg : ∀ k < 6, bY (lq.drawn.map fun q => bQ q.n k) = bQ (lq.lows.map (·.1)) k ∧ b7 (lq.drawn.map fun q => bQ q.n k) = bQ (lq.highs.map (·.1)) k)
 (H : ∀ (ep : Nat) (jO : Tok) (v : Value) (c : Option Value) (io : Obj), bH w b 28 (bN lq.S) .base (kr (.ok .next)) (lq.Fe w ep ([fe w "best" k9 (.ref aB)] ++ [fe w "places" jO v]) (cY c) (ai (.ref aK)) (ai (.ref aS)) (ai (.ref aR)) (ai (.ref aY)) (ai (.int (cQ (ss.map (·.1)) : Nat) tl)) [(aK, aa (ag cs) eK), (aS, aa (aQ zs) eS), (aR, aa (cm fl) eR), (aY, aa (ag ss) eY), (aB, aa (refs best) eB), (it, io)]) (fl.map Fl.K ++ lq.ab.map Ct.K)) :
 ∀ (m j : Nat) (hm : j + m = 6) (ft : List DictEntry) (jb : (j = 0 ∧ ft = []) ∨ ∃ jO v, ft = [fe w "places" jO v]) (c : Option Value) (ep : Nat),
  bH w b 28 (fU (dq cn 26) it (dm lq.S)) (.ret (bN lq.S) none kr .base) (den (fU (dq cn 26) it (dm lq.S))) (lq.Fe w ep ([fe w "best" k9 (.ref aB)] ++ ft) (cY c) (ai (.ref aK)) (ai (.ref aS)) (ai (.ref aR)) (ai (.ref aY)) (ai (.int (cQ (ss.map (·.1)) : Nat) tl)) [(aK, aa (ag cs) eK), (aS, aa (aQ zs) eS), (aR, aa (cm fl) eR), (aY, aa (ag ss) eY), (aB, aa (refs best) eB), (it, cj j m)]) (fl.map Fl.K ++ lq.ab.map Ct.K) := by
 have hT : ∀ q ∈ lq.drawn, q.K ∈ (fl.map Fl.K ++ lq.ab.map Ct.K) := fun q hq => List.mem_append_right _ (Ct.fk (dY q hq))
 intro m
 induction m with
 | zero =>
  intro j hm ft jb c ep
  rcases jb with ⟨h0, _⟩ | ⟨jO, v, rfl⟩
  ·lia
  exists zE, 3, 133, zd, zc, hsz, a
  exists zH, 3, 85, [31], g9 it j, y1, n1, t1, G1, a1, _, _
  exact e9 zc.post zc.ro a1 zc.hL 30 [] (H ep jO v c y1.2.2) (by kernel_rfl) (by kernel_rfl) (by kernel_rfl)
 | succ m ih =>
  intro j hm ft jb c ep
  have Iz := dg j (by exact cf)
  have JT : (cN lq.lows j).length ≤ 1000 := Nat.le_trans (List.length_filter_le _ _) (by exact aO)
  have JU : (cN lq.highs j).length ≤ 1000 := Nat.le_trans (List.length_filter_le _ _) (by exact aO)
  have ax := fun jO v c ep => ih (j + 1) (by exact cJ) [fe w "places" jO v] (.inr ⟨jO, v, rfl⟩) c ep
  clear ih dg H dY
  have JV : ft = [] ∨ ∃ jO v, ft = [fe w "places" jO v] := jb.imp (·.2) id
  clear jb
  rcases JV with rfl | ⟨jO, v, rfl⟩
  all_goals
   exists zE, 3, 133, zd, zc, hsz, a
   refine zK [31] (du it j m) @fun y1 n1 t1 _ _ _ _ => ?_
   exists yg, 22, 5235547346907857
   have hc := fun b => (bP.uG (w := w) (b := b) (n := 18) (e := yM) (env := sH (n1 + 2) lq.S) (it := n1 + 0) (acc := n1 + 1) (D := n1 + 2) (a := lq.aD) (vals := refs lq.drawn) (ex := lq.eD) (Kx := [(lq.S + 2, ai (.int j y1))]) (T := (fl.map Fl.K ++ lq.ab.map Ct.K)) (Vq := Dq w "cut") (S := ff fun i => (lq.drawn.take i).map fun p => bQ p.n j) (by kernel_rfl) ⟨[], rfl, rfl⟩ (o := ay [] 0) (.inl ⟨rfl, rfl⟩)
     (fun i hi ih => Eu (w := w) (b := b) (n1 + 0) lq.aD (n1 + 2) lq.S (n1 + 1) lq.drawn (by exact aO) j9 lq.eD j y1 (fl.map Fl.K ++ lq.ab.map Ct.K) hT i hi ih)).imp'
    (Y := CF) (P' := fun y => y.cs.map (·.1) = lq.drawn.map fun p => bQ p.n j) (dJ := fun _ => .ok .next)
    (dK := fun y => [(n1 + 0, y.it), (lq.aD, aa (refs lq.drawn) lq.eD), (n1 + 1, aa (ag y.cs) y.ed), (n1 + 2, ay [av (au w "cut") "cut" y.tk y.v] y.ep), (lq.S + 2, ai (.int j y1))]) (dO := fun _ => [])
    (fun x hx => by
     obtain ⟨⟨cs, h1, h2⟩, hq⟩ := hx
     obtain ⟨tk, v, ep, h⟩ := hq.some (by simpa using (by exact i4 : ¬ lq.drawn.length = 0))
     exact ⟨⟨cs, x.ed, tk, v, ep, x.it⟩, h2.trans (by dsimp only; rw [List.take_of_length_le (by simp)]), rfl, by rw [h1, h]; rfl, rfl⟩)
   refine zL [32, 23, 33, 34, 5] (hc _) @fun y2 n2 t2 G2 a2 fC _ => ?_
   have hlen := congrArg List.length fC
   rw [List.length_map, List.length_map] at hlen
   have IA := fun b => rC (w := w) (b := b) (n1 + 1) y2.cs (by lia) (by exact lD) y2.ed
   have IB := fun b => uN (w := w) (b := b) (n1 + 1) y2.cs (by lia) (by exact lD) y2.ed
   rw [fC, Iz.1] at IA
   rw [fC, Iz.2] at IB
   exists zg, 21, 78984917090255
   refine zK [33] (IA _) @fun y3 n3 t3 _ _ _ _ => ?_
   exists yg, 19, 5352750478285051
   exists zI, 7, 349489, [35, 24, 36, 37, 5], yN (lX (vW (ur (uv (dq cn 26) 1))) 0) (n3 + 0) lq.aL (n3 + 2) lq.S (n3 + 1) lq.lows oG qD lq.eL j y1 (fl.map Fl.K ++ lq.ab.map Ct.K), y4, n4, t4
   refine zK [36] (wI (n3 + 1) (cN lq.lows j) y4.ed _ JT (l7 lq.lows j)) @fun y5 n5 t5 _ _ _ _ => ?_
   exists yg, 4, 2
   exists zH, 8, 252751, [], vb (bQ (lq.lows.map (·.1)) j : Nat) y3 y5, _, n6, t6
   refine zK [33] (IB _) @fun y7 n7 t7 _ _ _ _ => ?_
   exists yg, 19, 5469953609662551
   exists zI, 7, 357142, [38, 25, 39, 40, 5], yN (lX (vW (ur (uv (dq cn 26) 2))) 0) (n7 + 0) lq.aH (n7 + 2) lq.S (n7 + 1) lq.highs Ex wJ lq.eH j y1 (fl.map Fl.K ++ lq.ab.map Ct.K), y8, n8, t8
   refine zK [39] (wI (n7 + 1) (cN lq.highs j) y8.ed _ JU (l7 lq.highs j)) @fun y9 n9 t9 _ _ _ _ => ?_
   exists yg, 4, 2
   exists zH, 1, 2, [], vb (bQ (lq.highs.map (·.1)) j : Nat) y7 y9, _, qZ, q6, L7, IC, _, _
  ·exact e9 zc.post zc.ro IC zc.hL 30 [] (ax (t2 + 0) (.ref (n1 + 1)) (some (.int j y1)) (ep + 1)) (by kernel_rfl) (by kernel_rfl) (by kernel_rfl)
  ·exact e9 zc.post zc.ro IC zc.hL 30 [] (ax jO (.ref (n1 + 1)) (some (.int j y1)) ep) (by kernel_rfl) (by kernel_rfl) (by kernel_rfl)
theorem GW (lq : Lq) (bK : bg lq.q0) (bR : bo lq.q1) (eC : 1 ≤ lq.drawn.length) (gP : lq.drawn.length ≤ 4) (dY : ∀ q ∈ lq.drawn, q ∈ lq.ab) (j9 : ∀ q ∈ lq.drawn, 1 ≤ q.c.length ∧ q.c.length ≤ 10)
 (oG : 1 ≤ lq.lows.length) (qD : lq.lows.length ≤ 10) (Ex : 1 ≤ lq.highs.length) (wJ : lq.highs.length ≤ 10) (aK eK : Nat) (cs : List (Nat × Tok)) (aS eS : Nat) (zs : List (Int × Tok)) (aR eR : Nat) (fl : List Fl) (aY eY : Nat) (ss : List (Nat × Tok)) (tl : Tok) (aB eB : Nat) (k9 : Tok) (best : List Ct) (ep : Nat)
 (dg : ∀ k < 6, bY (lq.drawn.map fun q => bQ q.n k) = bQ (lq.lows.map (·.1)) k ∧ b7 (lq.drawn.map fun q => bQ q.n k) = bQ (lq.highs.map (·.1)) k) :
  bH w b 28 (bN lq.S) .base (b6 lq.S 26) (lq.Fe w ep ([fe w "best" k9 (.ref aB)] ++ []) ae (ai (.ref aK)) (ai (.ref aS)) (ai (.ref aR)) (ai (.ref aY)) (ai (.int (cQ (ss.map (·.1)) : Nat) tl)) [(aK, aa (ag cs) eK), (aS, aa (aQ zs) eS), (aR, aa (cm fl) eR), (aY, aa (ag ss) eY), (aB, aa (refs best) eB)]) (fl.map Fl.K ++ lq.ab.map Ct.K) := by
 exists zE, 7, 5051, zd, zc, hsz, a
 refine zK [] (fH 6 (zc.s.toks + 0)) @fun y1 n1 t1 G1 a1 _ _ => ?_
 exists yg, 6, 6683
 exists zH, 2, 134, [31], fI y1.1 6 (by lia) y1.2.1 (zc.s.toks + 0) y1.2.2, y2, n2, t2, G2, a2, _, _
 refine kR zc.post zc.ro a2 zc.hL 100 (rg 0 31 ++ [32]) [] 29 (S1 := []) (S2 := []) (GV lq y2 ou.kr eC gP dY j9 oG qD Ex wJ aK eK cs aS eS zs aR eR fl aY eY ss tl aB eB k9 best dg ?_ 6 0 (by exact Nat.zero_add _) [] (.inl ⟨rfl, rfl⟩) none ep) (by kernel_rfl) (by kernel_rfl) (List.Sublist.refl _) (by kernel_rfl)
 intro ep jO v c io
 exists zE, 2, 0, zd, zc, hsz, a
 exact zM 32 [] (fun o => (140, lq.q0) :: (147, lq.q1) :: cu 2 (bk 32 o.qs.K)) (hx := ⟨by kernel_rfl, ⟨lq.q0, lq.q1, _, rfl, bK, bR⟩, by kernel_rfl⟩)
set_option smartUnfolding true
theorem jt : ∀ (l : List Nat), l.Pairwise (· ≤ ·) → ∀ (k i : Nat), i < (l.filter fun x => decide (x ≤ k)).length ↔ i < l.length ∧ l.getD i 0 ≤ k
 | [], _, k, i => by simp
 | x :: l, hp, k, i => by
  have hx := (List.pairwise_cons.mp hp).1
  have ih := jt l (List.pairwise_cons.mp hp).2 k
  by_cases h : x ≤ k
  ·rw [List.filter_cons_of_pos (by simpa using h)]
   cases i with
   | zero => simp [h]
   | succ i =>
    rw [List.length_cons, Nat.add_lt_add_iff_right, ih i]
    simp
  ·have hn : l.filter (fun x => decide (x ≤ k)) = [] := by
    rw [List.filter_eq_nil_iff]
    intro y hy
    have := hx y hy
    simp only [decide_eq_true_eq]
    lia
   rw [List.filter_cons_of_neg (by simpa using h), hn]
   constructor
   ·intro h'; simp at h'
   ·rintro ⟨h1, h2⟩
    cases i with
    | zero => exact absurd h2 h
    | succ i =>
     have eO : i < l.length := by simpa using h1
     have kd : l.getD i 0 ≤ k := by simpa using h2
     have := (ih i).mpr ⟨eO, kd⟩
     rw [hn] at this
     exact absurd this (Nat.not_lt_zero _)
theorem kW (l : List Nat) : (dS l).length = l.length := (cE l).length_eq
theorem oI (l : List Nat) (k : Nat) : ((dS l).filter fun x => decide (x ≤ k)).length = bQ l k := ((cE l).filter _).length_eq
theorem nH {l : List Nat} (h : 1 ≤ l.length) (k : Nat) : b7 l ≤ k ↔ (l.length - 1) / 2 < bQ l k := by
 have := jt (dS l) (jV l) k ((l.length - 1) / 2)
 rw [oI, kW] at this
 rw [this]
 unfold b7
 constructor
 ·intro h'; exact ⟨by lia, h'⟩
 ·exact fun h' => h'.2
theorem l8 {l : List Nat} (h : 1 ≤ l.length) (k : Nat) : bY l ≤ k ↔ l.length / 2 < bQ l k := by
 have := jt (dS l) (jV l) k (l.length / 2)
 rw [oI, kW] at this
 rw [this]
 unfold bY
 constructor
 ·intro h'; exact ⟨by lia, h'⟩
 ·exact fun h' => h'.2
noncomputable def col (ds : List (List Nat)) (j : Nat) : List Nat := ds.map fun d => bX d j
noncomputable def cI (ds : List (List Nat)) (e : Nat) : List Nat := (List.range e).map fun j => b7 (col ds j)
noncomputable def c9 (ds : List (List Nat)) (e : Nat) : List Nat := (List.range e).map fun j => bY (col ds j)
theorem iG (f : Nat → Nat) {e j : Nat} (h : j < e) : bX ((List.range e).map f) j = f j := by
 simp [bX, h]
theorem sI {a : List Nat} {e : Nat} (h : a.length = e) : a = (List.range e).map (bX a) := by
 subst h
 apply List.ext_getElem
 ·simp
 ·intro i h1 h2
  simp [bX, h1]
theorem qE (op : Nat → Nat → Nat) (f g : Nat → Nat) (e : Nat) : List.zipWith op ((List.range e).map f) ((List.range e).map g) = (List.range e).map fun j => op (f j) (g j) := by
 rw [List.zipWith_map, List.zipWith_self]
noncomputable def gS (l : List Nat) (x : Nat) : Nat := (l.map fun d => (d - x) + (x - d)).sum
theorem qF {x y : Nat} (h : ∀ k, x ≤ k ↔ y ≤ k) : x = y := Nat.le_antisymm ((h y).mpr (Nat.le_refl _)) ((h x).mp (Nat.le_refl _))
theorem cnt_nil (k : Nat) : bQ [] k = 0 := rfl
theorem cnt_cons (a : Nat) (l : List Nat) (k : Nat) : bQ (a :: l) k = (decide (a ≤ k)).toNat + bQ l k := by
 unfold bQ
 rw [List.filter_cons]
 cases decide (a ≤ k)
 ·rw [Bool.toNat_false, Nat.zero_add]; rfl
 ·rw [Bool.toNat_true, Nat.add_comm]; rfl
theorem nI (a b k : Nat) : decide (min a b ≤ k) = (decide (a ≤ k) || decide (b ≤ k)) := by
 rw [← Bool.decide_or]
 refine decide_eq_decide.mpr ⟨fun h => ?_, fun h => ?_⟩
 ·rcases Nat.le_total a b with e | e
  ·rw [Nat.min_eq_left e] at h; exact .inl h
  ·rw [Nat.min_eq_right e] at h; exact .inr h
 ·rcases h with h | h
  ·exact Nat.le_trans (Nat.min_le_left _ _) h
  ·exact Nat.le_trans (Nat.min_le_right _ _) h
theorem nJ (a b k : Nat) : decide (max a b ≤ k) = (decide (a ≤ k) && decide (b ≤ k)) := by
 rw [← Bool.decide_and]; exact decide_eq_decide.mpr Nat.max_le
theorem Ey (a : Nat) : b7 [a] = a ∧ bY [a] = a := by constructor <;> simp [b7, bY, dS, ky]
theorem wK {l : List Nat} {y : Nat} (h : 1 ≤ l.length) (H : ∀ k, decide ((l.length - 1) / 2 < bQ l k) = decide (y ≤ k)) : b7 l = y := qF fun k => (nH h k).trans (decide_eq_decide.mp (H k))
theorem wL {l : List Nat} {y : Nat} (h : 1 ≤ l.length) (H : ∀ k, decide (l.length / 2 < bQ l k) = decide (y ≤ k)) : bY l = y := qF fun k => (l8 h k).trans (decide_eq_decide.mp (H k))
theorem Ez (a b : Nat) : b7 [a, b] = min a b ∧ bY [a, b] = max a b := by
 constructor
 ·refine wK (Nat.le_add_left 1 _) fun k => ?_
  simp only [cnt_cons, cnt_nil, nI, nJ, List.length_cons, List.length_nil, Nat.reduceAdd, Nat.reduceSub, Nat.reduceDiv]
  generalize decide (a ≤ k) = p
  generalize decide (b ≤ k) = q
  revert p q
  decide
 ·refine wL (Nat.le_add_left 1 _) fun k => ?_
  simp only [cnt_cons, cnt_nil, nI, nJ, List.length_cons, List.length_nil, Nat.reduceAdd, Nat.reduceSub, Nat.reduceDiv]
  generalize decide (a ≤ k) = p
  generalize decide (b ≤ k) = q
  revert p q
  decide
theorem EA (a b c : Nat) : b7 [a, b, c] = max (min a b) (min (max a b) c) ∧ bY [a, b, c] = max (min a b) (min (max a b) c) := by
 constructor
 ·refine wK (Nat.le_add_left 1 _) fun k => ?_
  simp only [cnt_cons, cnt_nil, nI, nJ, List.length_cons, List.length_nil, Nat.reduceAdd, Nat.reduceSub, Nat.reduceDiv]
  generalize decide (a ≤ k) = p
  generalize decide (b ≤ k) = q
  generalize decide (c ≤ k) = r
  revert p q r
  decide
 ·refine wL (Nat.le_add_left 1 _) fun k => ?_
  simp only [cnt_cons, cnt_nil, nI, nJ, List.length_cons, List.length_nil, Nat.reduceAdd, Nat.reduceSub, Nat.reduceDiv]
  generalize decide (a ≤ k) = p
  generalize decide (b ≤ k) = q
  generalize decide (c ≤ k) = r
  revert p q r
  decide
theorem EC (a b c d : Nat) : b7 [a, b, c, d] = min (max (min a b) (min c d)) (min (max a b) (max c d)) ∧ bY [a, b, c, d] = max (max (min a b) (min c d)) (min (max a b) (max c d)) := by
 constructor
 ·refine wK (Nat.le_add_left 1 _) fun k => ?_
  simp only [cnt_cons, cnt_nil, nI, nJ, List.length_cons, List.length_nil, Nat.reduceAdd, Nat.reduceSub, Nat.reduceDiv]
  generalize decide (a ≤ k) = p
  generalize decide (b ≤ k) = q
  generalize decide (c ≤ k) = r
  generalize decide (d ≤ k) = t
  revert p q r t
  decide
 ·refine wL (Nat.le_add_left 1 _) fun k => ?_
  simp only [cnt_cons, cnt_nil, nI, nJ, List.length_cons, List.length_nil, Nat.reduceAdd, Nat.reduceSub, Nat.reduceDiv]
  generalize decide (a ≤ k) = p
  generalize decide (b ≤ k) = q
  generalize decide (c ≤ k) = r
  generalize decide (d ≤ k) = t
  revert p q r t
  decide
theorem rL {l l' : List Nat} (h : l.Perm l') (x : Nat) : gS l x = gS l' x := (h.map _).sum_nat
noncomputable def d2 (a x : Nat) : Nat := (a - x) + (x - a)
theorem sJ (x p : Nat) : d2 (x + p) x = p := by rw [d2, Nat.add_sub_cancel_left, Nat.sub_eq_zero_of_le (Nat.le_add_right _ _)]; rfl
theorem yO (a p : Nat) : d2 a (a + p) = p := by rw [d2, Nat.add_sub_cancel_left, Nat.sub_eq_zero_of_le (Nat.le_add_right _ _), Nat.zero_add]
theorem kX (a x : Nat) : d2 a x = 0 ↔ a = x := by
 rw [d2, Nat.add_eq_zero_iff, Nat.sub_eq_zero_iff_le, Nat.sub_eq_zero_iff_le]
 exact ⟨fun h => Nat.le_antisymm h.1 h.2, fun h => ⟨Nat.le_of_eq h, Nat.le_of_eq h.symm⟩⟩
theorem i0 {a b : Nat} (h : a ≤ b) (x : Nat) : b - a ≤ d2 a x + d2 b x ∧ (d2 a x + d2 b x = b - a ↔ a ≤ x ∧ x ≤ b) := by
 obtain ⟨q, rfl⟩ := Nat.exists_eq_add_of_le h
 rw [Nat.add_sub_cancel_left]
 rcases Nat.lt_or_ge x a with h1 | h1
 ·obtain ⟨p, rfl⟩ := Nat.exists_eq_add_of_lt h1
  rw [Nat.add_assoc x p 1, sJ, Nat.add_assoc x (p + 1) q, sJ]
  refine ⟨by lia, fun e => ?_, fun e => absurd h1 (Nat.not_lt_of_le e.1)⟩
  lia
 ·obtain ⟨p, rfl⟩ := Nat.exists_eq_add_of_le h1
  rw [yO]
  rcases Nat.le_total p q with h2 | h2
  ·obtain ⟨r, rfl⟩ := Nat.exists_eq_add_of_le h2
   rw [← Nat.add_assoc a p r, sJ]
   refine ⟨Nat.le_refl _, fun _ => ⟨Nat.le_add_right _ _, ?_⟩, fun _ => rfl⟩
   rw [Nat.add_assoc a p r]; exact Nat.add_le_add_left (Nat.le_add_right _ _) _
  ·obtain ⟨r, rfl⟩ := Nat.exists_eq_add_of_le h2
   rw [← Nat.add_assoc a q r, yO]
   refine ⟨by lia, fun e => ⟨Nat.add_assoc .. ▸ h1, ?_⟩, fun e => ?_⟩ <;> lia
theorem lC {m1 m2 u1 u2 : Nat} (h1 : m1 ≤ u1) (h2 : m2 ≤ u2) : m1 + m2 ≤ u1 + u2 ∧ (u1 + u2 = m1 + m2 ↔ u1 = m1 ∧ u2 = m2) := by
 refine ⟨Nat.add_le_add h1 h2, fun e => ?_, fun e => by rw [e.1, e.2]⟩
 constructor <;> lia
theorem GX (l : List Nat) (h1 : 1 ≤ l.length) (h4 : l.length ≤ 4) (x : Nat) : gS l (b7 l) ≤ gS l x ∧ (gS l x = gS l (b7 l) ↔ b7 l ≤ x ∧ x ≤ bY l) := by
 have hp := cE l
 have hs := jV l
 rw [← rL hp x, ← rL hp (b7 l)]
 unfold b7 bY
 have hl := kW l
 rw [← hl] at h1 h4 ⊢
 generalize dS l = s at hs h1 h4
 have key : ∀ {g : Nat → Nat} {m lo hi : Nat}, lo ≤ hi → (m ≤ g x ∧ (g x = m ↔ lo ≤ x ∧ x ≤ hi)) → g lo = m → g lo ≤ g x ∧ (g x = g lo ↔ lo ≤ x ∧ x ≤ hi) := fun _ h e => by rw [e]; exact h
 match s, h1, h4, hs with
 | [a], _, _, _ =>
  have e : ∀ y, gS [a] y = d2 a y := fun y => rfl
  simp only [List.length_cons, List.length_nil, Nat.reduceAdd, Nat.reduceSub, Nat.reduceDiv, List.getD_cons_succ, List.getD_cons_zero]
  show gS [a] a ≤ gS [a] x ∧ (gS [a] x = gS [a] a ↔ a ≤ x ∧ x ≤ a)
  rw [e, e]
  refine key (g := fun y => d2 a y) (m := 0) (lo := a) (hi := a) (Nat.le_refl _) ⟨Nat.zero_le _, (kX a x).trans ⟨fun h => ⟨Nat.le_of_eq h, Nat.le_of_eq h.symm⟩, fun h => Nat.le_antisymm h.1 h.2⟩⟩ ((kX a a).mpr rfl)
 | [a, b], _, _, hs =>
  have jl := (List.pairwise_cons.mp hs).1 b List.mem_cons_self
  have e : ∀ y, gS [a, b] y = d2 a y + d2 b y := fun y => rfl
  simp only [List.length_cons, List.length_nil, Nat.reduceAdd, Nat.reduceSub, Nat.reduceDiv, List.getD_cons_succ, List.getD_cons_zero]
  show gS [a, b] a ≤ gS [a, b] x ∧ (gS [a, b] x = gS [a, b] a ↔ a ≤ x ∧ x ≤ b)
  rw [e, e]
  exact key (g := fun y => d2 a y + d2 b y) (lo := a) (hi := b) jl (i0 jl x) ((i0 jl a).2.mpr ⟨Nat.le_refl _, jl⟩)
 | [a, b, c], _, _, hs =>
  have jl := (List.pairwise_cons.mp hs).1 b List.mem_cons_self
  have kl := (List.pairwise_cons.mp (List.pairwise_cons.mp hs).2).1 c List.mem_cons_self
  have yQ := Nat.le_trans jl kl
  have e : ∀ y, gS [a, b, c] y = d2 a y + d2 c y + d2 b y := fun y => (Nat.add_right_comm (d2 a y) (d2 c y) (d2 b y) ▸ (Nat.add_assoc (d2 a y) (d2 b y) (d2 c y)).symm : d2 a y + (d2 b y + d2 c y) = _)
  simp only [List.length_cons, List.length_nil, Nat.reduceAdd, Nat.reduceSub, Nat.reduceDiv, List.getD_cons_succ, List.getD_cons_zero]
  show gS [a, b, c] b ≤ gS [a, b, c] x ∧ (gS [a, b, c] x = gS [a, b, c] b ↔ b ≤ x ∧ x ≤ b)
  rw [e, e]
  have t := lC (i0 yQ x).1 (Nat.zero_le (d2 b x))
  refine key (g := fun y => d2 a y + d2 c y + d2 b y) (lo := b) (hi := b) (Nat.le_refl _) ⟨t.1, t.2.trans ⟨fun h => ?_, fun h => ?_⟩⟩ ((lC (i0 yQ b).1 (Nat.zero_le (d2 b b))).2.mpr ⟨(i0 yQ b).2.mpr ⟨jl, kl⟩, (kX b b).mpr rfl⟩)
  ·have := (kX b x).mp h.2; exact ⟨Nat.le_of_eq this, Nat.le_of_eq this.symm⟩
  ·have := Nat.le_antisymm h.1 h.2; subst this; exact ⟨(i0 yQ b).2.mpr ⟨jl, kl⟩, (kX b b).mpr rfl⟩
 | [a, b, c, d], _, _, hs =>
  have p1 := List.pairwise_cons.mp hs
  have p2 := List.pairwise_cons.mp p1.2
  have jl := p1.1 b List.mem_cons_self
  have kl := p2.1 c List.mem_cons_self
  have hcd := (List.pairwise_cons.mp p2.2).1 d List.mem_cons_self
  have ID := Nat.le_trans kl hcd
  have yR := Nat.le_trans jl ID
  have e : ∀ y, gS [a, b, c, d] y = d2 a y + d2 d y + (d2 b y + d2 c y) := fun y => by
   show d2 a y + (d2 b y + (d2 c y + d2 d y)) = _
   rw [← Nat.add_assoc (d2 b y), Nat.add_comm _ (d2 d y), Nat.add_assoc]
  simp only [List.length_cons, List.length_nil, Nat.reduceAdd, Nat.reduceSub, Nat.reduceDiv, List.getD_cons_succ, List.getD_cons_zero]
  show gS [a, b, c, d] b ≤ gS [a, b, c, d] x ∧ (gS [a, b, c, d] x = gS [a, b, c, d] b ↔ b ≤ x ∧ x ≤ c)
  rw [e, e]
  have t := lC (i0 yR x).1 (i0 kl x).1
  refine key (g := fun y => d2 a y + d2 d y + (d2 b y + d2 c y)) (lo := b) (hi := c) kl ⟨t.1, t.2.trans ⟨fun h => (i0 kl x).2.mp h.2, fun h => ⟨(i0 yR x).2.mpr ⟨Nat.le_trans jl h.1, Nat.le_trans h.2 hcd⟩, (i0 kl x).2.mpr h⟩⟩⟩ ((lC (i0 yR b).1 (i0 kl b).1).2.mpr ⟨(i0 yR b).2.mpr ⟨jl, ID⟩, (i0 kl b).2.mpr ⟨Nat.le_refl _, kl⟩⟩)
theorem iC {c : List Nat} (hp : c.Pairwise (· < ·)) (k j : Nat) : j < bQ c k ↔ j < c.length ∧ bX c j ≤ k :=
 jt c (hp.imp fun h => Nat.le_of_lt h) k j
theorem qG (l : List Nat) (k : Nat) : bQ l k + (l.filter fun x => decide (k < x)).length = l.length := by
 induction l with
 | nil => rfl
 | cons a l ih =>
  rw [cnt_cons]
  by_cases h : a ≤ k
  ·rw [decide_eq_true h, List.filter_cons_of_neg (by simpa using h), List.length_cons, Bool.toNat_true]; lia
  ·rw [decide_eq_false h, List.filter_cons_of_pos (by simpa using Nat.lt_of_not_le h), List.length_cons, List.length_cons, Bool.toNat_false]; lia
theorem qH {x y : Nat} (h : ∀ j, j < x ↔ j < y) : x = y := by
 rcases Nat.lt_trichotomy x y with h1 | h1 | h1
 ·exact absurd ((h x).mpr h1) (Nat.lt_irrefl _)
 ·exact h1
 ·exact absurd ((h y).mp h1) (Nat.lt_irrefl _)
theorem A6 (ds : List (List Nat)) (j k : Nat) : bQ (col ds j) k = (ds.filter fun d => decide (bX d j ≤ k)).length := by
 unfold bQ col
 rw [List.filter_map, List.length_map]
 rfl
theorem vc (ds : List (List Nat)) (j k : Nat) : ((ds.map fun d => bQ d k).filter fun x => decide (j < x)).length = (ds.filter fun d => decide (j < bQ d k)).length := by
 rw [List.filter_map, List.length_map]
 rfl
theorem places {ds : List (List Nat)} {e : Nat} (hn : 1 ≤ ds.length) (hp : ∀ d ∈ ds, d.Pairwise (· < ·)) (hl : ∀ d ∈ ds, d.length = e)
  (hlo : (cI ds e).Pairwise (· < ·)) (mV : (c9 ds e).Pairwise (· < ·)) (k : Nat) :
  bY (ds.map fun d => bQ d k) = bQ (cI ds e) k ∧ b7 (ds.map fun d => bQ d k) = bQ (c9 ds e) k := by
 have dg : (ds.map fun d => bQ d k).length = ds.length := List.length_map _
 have IE : ∀ j, j < e → (ds.filter fun d => decide (j < bQ d k)).length = bQ (col ds j) k := fun j hj => by
  rw [A6]
  congr 1
  apply List.filter_congr
  intro d hd
  rw [Bool.eq_iff_iff, decide_eq_true_iff, decide_eq_true_iff, iC (hp d hd), hl d hd]
  exact ⟨fun h => h.2, fun h => ⟨hj, h⟩⟩
 have uD : ∀ j, ¬ j < e → (ds.filter fun d => decide (j < bQ d k)).length = 0 := fun j hj => by
  rw [List.length_eq_zero_iff, List.filter_eq_nil_iff]
  intro d hd
  rw [decide_eq_true_iff, iC (hp d hd), hl d hd]
  exact fun h => hj h.1
 have dk : ∀ j, (col ds j).length = ds.length := fun j => by simp [col]
 constructor
 ·refine qH fun j => ?_
  have hf := qG (ds.map fun d => bQ d k) j
  rw [vc, dg] at hf
  rw [iC hlo, ← Nat.not_le, l8 (by lia) j, dg]
  rw [show (cI ds e).length = e by simp [cI]]
  by_cases hj : j < e
  ·rw [IE j hj] at hf
   have := nH (l := col ds j) (by rw [dk]; exact hn) k
   rw [dk] at this
   rw [show bX (cI ds e) j = b7 (col ds j) from iG _ hj, this]
   lia
  ·rw [uD j hj] at hf
   lia
 ·refine qH fun j => ?_
  have hf := qG (ds.map fun d => bQ d k) j
  rw [vc, dg] at hf
  rw [iC mV, ← Nat.not_le, nH (by lia) j, dg]
  rw [show (c9 ds e).length = e by simp [c9]]
  by_cases hj : j < e
  ·rw [IE j hj] at hf
   have := l8 (l := col ds j) (by rw [dk]; exact hn) k
   rw [dk] at this
   rw [show bX (c9 ds e) j = bY (col ds j) from iG _ hj, this]
   lia
  ·rw [uD j hj] at hf
   lia
noncomputable abbrev endsF (F : List Nat) : Nat := (fi F []).length
section
variable {F : List Nat} (hF : F ∈ kT)
include hF
theorem g7 : 1 ≤ endsF F ∧ endsF F ≤ 5 := DD F hF
theorem fP {c : List Nat} (h : c ∈ b0 F) : c.length = endsF F ∧ c.Pairwise (· < ·) ∧ ∀ x ∈ c, 1 ≤ x ∧ x ≤ 5 :=
 (uB _ (g7 hF).2).2 c (List.mem_filter.mp h).1
theorem f9 {f g : Nat → Nat} (hf : (List.range (endsF F)).map f ∈ b0 F) (hg : (List.range (endsF F)).map g ∈ b0 F) :
  (List.range (endsF F)).map (fun j => min (f j) (g j)) ∈ b0 F ∧ (List.range (endsF F)).map (fun j => max (f j) (g j)) ∈ b0 F := by
 have h := Gs F hF _ hf _ hg
 rw [qE, qE] at h
 exact h
theorem gb {a : List Nat} (h : a ∈ b0 F) : (List.range (endsF F)).map (bX a) ∈ b0 F := by
 rw [← sI (fP hF h).1]; exact h
theorem wM {ds : List (List Nat)} (h1 : 1 ≤ ds.length) (h4 : ds.length ≤ 4) (hd : ∀ d ∈ ds, d ∈ b0 F) : cI ds (endsF F) ∈ b0 F ∧ c9 ds (endsF F) ∈ b0 F := by
 match ds, h1, h4, hd with
 | [a], _, _, hd =>
  have ha := gb hF (hd a (by simp))
  unfold cI c9 col
  simp only [List.map_cons, List.map_nil, (Ey _).1, (Ey _).2]
  exact ⟨ha, ha⟩
 | [a, b], _, _, hd =>
  have ha := gb hF (hd a (by simp))
  have hb := gb hF (hd b (by simp))
  unfold cI c9 col
  simp only [List.map_cons, List.map_nil, (Ez _ _).1, (Ez _ _).2]
  exact f9 hF ha hb
 | [a, b, c], _, _, hd =>
  have ha := gb hF (hd a (by simp))
  have hb := gb hF (hd b (by simp))
  have hc := gb hF (hd c (by simp))
  unfold cI c9 col
  simp only [List.map_cons, List.map_nil, (EA _ _ _).1, (EA _ _ _).2]
  have h := f9 hF ha hb
  have h2 := (f9 hF h.1 (f9 hF h.2 hc).1).2
  exact ⟨h2, h2⟩
 | [a, b, c, d], _, _, hd =>
  have ha := gb hF (hd a (by simp))
  have hb := gb hF (hd b (by simp))
  have hc := gb hF (hd c (by simp))
  have Lr := gb hF (hd d (by simp))
  unfold cI c9 col
  simp only [List.map_cons, List.map_nil, (EC _ _ _ _).1, (EC _ _ _ _).2]
  have h := f9 hF ha hb
  have k := f9 hF hc Lr
  have u := f9 hF h.1 k.1
  have v := f9 hF h.2 k.2
  exact ⟨(f9 hF u.2 v.1).1, (f9 hF u.2 v.1).2⟩
end
theorem sum_add (f g : Nat → Nat) (l : List Nat) : (l.map fun j => f j + g j).sum = (l.map f).sum + (l.map g).sum := by
 induction l with
 | nil => rfl
 | cons x l ih => simp only [List.map_cons, List.sum_cons]; lia
theorem wN (l : List Nat) : (l.map fun _ => 0).sum = 0 := by
 induction l with
 | nil => rfl
 | cons x l ih => simp only [List.map_cons, List.sum_cons]; lia
theorem GY {d c : List Nat} {e : Nat} (h1 : d.length = e) (h2 : c.length = e) : dL d c = ((List.range e).map fun j => (bX d j - bX c j) + (bX c j - bX d j)).sum := by
 unfold dL
 conv => lhs; rw [sI h1, sI h2]
 rw [qE (fun x y => (x - y) + (y - x))]
theorem vd {ds : List (List Nat)} {c : List Nat} {e : Nat} (hd : ∀ d ∈ ds, d.length = e) (hc : c.length = e) :
  (ds.map fun d => dL d c).sum = ((List.range e).map fun j => gS (col ds j) (bX c j)).sum := by
 induction ds with
 | nil => exact (wN _).symm
 | cons d ds ih =>
  rw [List.map_cons, List.sum_cons, ih fun x hx => hd x (by simp [hx]), GY (hd d (by simp)) hc, ← sum_add]
  rfl
theorem oJ {f g : Nat → Nat} : ∀ (l : List Nat), (∀ j ∈ l, f j ≤ g j) → (l.map f).sum ≤ (l.map g).sum ∧ ((l.map g).sum = (l.map f).sum ↔ ∀ j ∈ l, g j = f j)
 | [], _ => by simp
 | x :: l, h => by
  obtain ⟨h1, h2⟩ := oJ l fun j hj => h j (by simp [hj])
  have hx := h x (by simp)
  simp only [List.map_cons, List.sum_cons]
  refine ⟨by lia, ?_⟩
  rw [List.forall_mem_cons, ← h2]
  lia
theorem wO {ds : List (List Nat)} {e : Nat} (h1 : 1 ≤ ds.length) (h4 : ds.length ≤ 4) (hd : ∀ d ∈ ds, d.length = e) {c : List Nat} (hc : c.length = e) :
  (ds.map fun d => dL d (cI ds e)).sum ≤ (ds.map fun d => dL d c).sum ∧
  ((ds.map fun d => dL d c).sum = (ds.map fun d => dL d (cI ds e)).sum ↔ eW (cI ds e) (c9 ds e) c e = []) := by
 have dk : ∀ j, (col ds j).length = ds.length := fun j => by simp [col]
 have hg := fun j x => GX (col ds j) (by rw [dk]; exact h1) (by rw [dk]; exact h4) x
 rw [vd hd hc, vd hd (show (cI ds e).length = e by simp [cI])]
 have hlo : ((List.range e).map fun j => gS (col ds j) (bX (cI ds e) j)) = (List.range e).map fun j => gS (col ds j) (b7 (col ds j)) := by
  apply List.map_congr_left
  intro j hj
  rw [show bX (cI ds e) j = b7 (col ds j) from iG _ (List.mem_range.mp hj)]
 rw [hlo]
 obtain ⟨a1, a2⟩ := oJ (f := fun j => gS (col ds j) (b7 (col ds j))) (g := fun j => gS (col ds j) (bX c j)) (List.range e) fun j _ => (hg j _).1
 refine ⟨a1, a2.trans ?_⟩
 unfold eW
 rw [List.filter_eq_nil_iff]
 refine forall_congr' fun j => forall_congr' fun hj => ?_
 have lI := List.mem_range.mp hj
 rw [(hg j _).2]
 unfold qA
 rw [show bX (cI ds e) j = b7 (col ds j) from iG _ lI, show bX (c9 ds e) j = bY (col ds j) from iG _ lI]
 simp
theorem ve {l : List Nat} {m : Nat} (h : ∀ x ∈ l, m ≤ x) (hm : m ∈ l) : cQ l = m := by
 have key : ∀ (l : List Nat) (x : Nat), (∀ y ∈ l, m ≤ y) → m ≤ x → (m = x ∨ m ∈ l) → nG x l = m := by
  intro l
  induction l with
  | nil => intro x _ _ h3; exact (h3.resolve_right (by simp)).symm
  | cons y l ih =>
   intro x h1 h2 h3
   show nG (min x y) l = m
   have hy := h1 y (by simp)
   refine ih _ (fun z hz => h1 z (by simp [hz])) (by lia) ?_
   rcases h3 with h3 | h3
   ·left; lia
   ·rcases List.mem_cons.mp h3 with h3 | h3
    ·left; lia
    ·exact .inr h3
 cases l with
 | nil => cases hm
 | cons x l => exact key l x (fun y hy => h y (by simp [hy])) (h x (by simp)) (List.mem_cons.mp hm)
set_option smartUnfolding false
theorem GZ (p : Lq) (h5 : p.ab.length ≤ 10) (et : p.lows.length ≤ 5) (Ls : p.highs.length ≤ 5)
 (oG : ∀ u ∈ p.ab, u.c.length = p.lows.length) (Lu : ∀ u ∈ p.ab, u.c.length = p.highs.length)
 (Lw : p.lows.map (·.1) ∈ nums p.ab) (Lx : p.highs.map (·.1) ∈ nums p.ab)
 (H : bH w b 28 (bN p.S) .base (b6 p.S 19) (p.F w [] ae ae ae ae ae ae []) (p.ab.map Ct.K)) :
  bH w b 28 (bN p.S) .base (b6 p.S 18) (p.G w [] ae ae ae ae ae ae [(p.aD, aa (refs p.drawn) p.eD), (p.aM, aa (cc p.bp) p.eM), (p.aL, aa (ag p.lows) p.eL), (p.aH, aa (ag p.highs) p.eH)]) (p.bp.map Pr.K ++ p.ab.map Ct.K) := by
 (refine zF ?_; intro zd zc hsz a)
 have ED : ∀ x ∈ p.ab.map Ct.K, x ∈ p.bp.map Pr.K ++ p.ab.map Ct.K := fun x hx => List.mem_append_right _ hx
 have ry : ((p.ab.map Ct.K).map (·.1)).Nodup := by
  have := zc.ro.nd
  rw [List.map_append, List.nodup_append] at this
  exact this.2.1
 exists zg, 8, 285051
 exists zH, 7, 311212, [25], Ek p.aL (ag p.lows) p.eL (by simp [ag]; exact aO), y1, n1, t1
 (refine zG (Ta := []) 8 287551 [22, 27] [] (p.ab.map Ct.K) (Iw p.aF y1 p.ab h5 p.lows et oG p.ef Lw) ED ry fun _ n2 t2 => ?_; intro ou)
 exists zH, 7, 311212, [26], Ek p.aH (ag p.highs) p.eH (by simp [ag]; exact aO), y3, n3, t3
 (refine zG (Ta := []) 1 0 [22, 28] [] (p.ab.map Ct.K) (Iw p.aF y3 p.ab h5 p.highs Ls Lu p.ef Lx) ED ry @fun _ n4 t4 G4 a4 _ _ => ?_; intro ou)
 exact kD zc.post zc.ro a4 zc.hL 100 (rg 0 24 ++ [25, 26]) [24] (rg 2 22 ++ [26, 24, 25]) (Sy := []) (Dr := [(p.aM, aa (cc p.bp) p.eM)]) (T1 := p.ab.map Ct.K) H (by kernel_rfl) (by kernel_rfl) (by decide) (List.sublist_append_right _ _) (by kernel_rfl)
set_option smartUnfolding true
theorem A7 (v : Int) (k : Nat) (hk : k < 6) : c7 (l3 v k) := by
 have hl : (l3 v k).length = 1 + (v % ((6 : Nat) : Int)).toNat := by
  show (List.replicate (1 + (v % ((6 : Nat) : Int)).toNat) (97 + k)).toArray.size = _
  simp
 have h1 := Int.emod_nonneg v (b := ((6 : Nat) : Int)) (by decide)
 have h2 := Int.emod_lt_of_pos v (b := ((6 : Nat) : Int)) (by decide)
 refine ⟨by rw [hl]; lia, by rw [hl]; lia, fun c hc => ?_⟩
 have qC : c ∈ List.replicate (1 + (v % ((6 : Nat) : Int)).toNat) (97 + k) := hc
 rw [(List.mem_replicate.mp qC).2]
 have : ∀ k < 6, Unicode.isSpace (97 + k) = false := by decide +kernel
 exact this k hk
theorem vf (vs : List Int) : ∀ (m k : Nat), k + m ≤ 6 → (∀ x ∈ kM vs m k, c7 x) ∧ (kM vs m k).length = m
 | 0, k, _ => ⟨fun x h => (nomatch h), rfl⟩
 | m + 1, k, h => by
  obtain ⟨h1, h2⟩ := vf vs m (k + 1) (by exact gm)
  refine ⟨fun x hx => ?_, by show (kM vs m (k + 1)).length + 1 = _; rw [h2]⟩
  rcases List.mem_cons.mp hx with rfl | hx
  ·exact A7 _ k (by exact Bf)
  ·exact h1 x hx
theorem Ha (t : Int) : yB t + 7 ≤ oF t ∧ oF t ≤ 11 := by
 have h0 := Int.emod_nonneg (t + (1 : Nat)) (b := ((5 : Nat) : Int)) (by decide)
 have h1 := Int.emod_lt_of_pos (t + (1 : Nat)) (b := ((5 : Nat) : Int)) (by decide)
 unfold yB oF
 have hm : ((t + (1 : Nat)) % ((5 : Nat) : Int)).toNat ≤ 4 := by lia
 generalize ((t + (1 : Nat)) % ((5 : Nat) : Int)).toNat = m at hm
 generalize (t / ((5 : Nat) : Int) + ((1 : Nat) : Int)) = z
 have h2 := Int.emod_nonneg z (b := ((1 + m : Nat) : Int)) (by lia)
 have h3 := Int.emod_lt_of_pos z (b := ((1 + m : Nat) : Int)) (by lia)
 lia
theorem wQ {l : List Ct} {i : Nat} {p : Ct} (h : l[i]? = some p) : (nums l)[i]? = some p.n := by
 show (l.map Ct.n)[i]? = _
 rw [List.getElem?_map, h]; rfl
theorem Hb (p : Ct) : p.n.length = p.c.length := by unfold Ct.n; simp
theorem rM (l : List Ct) (j : Nat) : jz l j = col (nums l) j := by
 unfold jz gO col nums
 rw [List.map_map, List.map_map]
 apply List.map_congr_left
 intro p _
 show ((p.c[j]?).getD (0, 0)).1 = (p.c.map (·.1)).getD j 0
 rw [List.getD_eq_getElem?_getD, List.getElem?_map]
 cases p.c[j]? <;> rfl
theorem nK (l : List Ct) : ∀ (m j : Nat), (oC l m j).map (·.1) = (List.range' j m).map (fun i => b7 (col (nums l) i)) ∧ (oC l m j).map (·.2) = (List.range' j m).map (fun i => bY (col (nums l) i))
 | 0, j => ⟨rfl, rfl⟩
 | m + 1, j => by
  obtain ⟨h1, h2⟩ := nK l m (j + 1)
  rw [List.range'_succ]
  constructor
  ·show b7 (jz l j) :: (oC l m (j + 1)).map (·.1) = b7 (col (nums l) j) :: _
   rw [h1, rM]
  ·show bY (jz l j) :: (oC l m (j + 1)).map (·.2) = bY (col (nums l) j) :: _
   rw [h2, rM]
theorem A8 {bp : List Pr} {l : List Ct} {e : Nat} (h : bp.map Pr.v = oC l e 0) : (jn bp).map (·.1) = cI (nums l) e ∧ (jo bp).map (·.1) = c9 (nums l) e := by
 obtain ⟨h1, h2⟩ := nK l e 0
 rw [← h, List.map_map, ← List.range_eq_range'] at h1 h2
 constructor
 ·rw [show cI (nums l) e = _ from h1.symm]; unfold jn; rw [List.map_map]; rfl
 ·rw [show c9 (nums l) e = _ from h2.symm]; unfold jo; rw [List.map_map]; rfl
theorem lJ (ab : List Ct) (sv : List Nat) (l : Nat) (g : Ct → Bool) (h : ∀ i p, ab[i]? = some p → (bX sv i = l ↔ g p = true)) :
  ∀ j ≤ ab.length, fz ab sv l j = (ab.take j).filter g
 | 0, _ => rfl
 | j + 1, hj => by
  have ih := lJ ab sv l g h j (by lia)
  have hp : ab[j]? = some (ab[j]'(by exact Bf)) := List.getElem?_eq_getElem (by exact Bf)
  have hg := h j _ hp
  rw [List.take_add_one, hp, List.filter_append, ← ih]
  by_cases hs : bX sv j = l
  ·rw [uU hs hp, Option.toList_some, List.filter_cons_of_pos (hg.mp hs)]; rfl
  ·rw [uV hs, Option.toList_some, List.filter_cons_of_neg (fun h => hs (hg.mpr h))]; simp
section
variable {F : List Nat} (hF : F ∈ kT) {ab drawn : List Ct} (hn : nums ab = b0 F) (dY : ∀ p ∈ drawn, p ∈ ab) (eC : 1 ≤ drawn.length) (gP : drawn.length ≤ 4)
include hF hn
theorem i3 {p : Ct} (h : p ∈ ab) : p.n ∈ b0 F := hn ▸ List.mem_map_of_mem h
theorem nM {p : Ct} (h : p ∈ ab) : p.c.length = endsF F := by rw [← Hb]; exact (fP hF (i3 hF hn h)).1
theorem EE {p : Ct} (h : p ∈ ab) : l4 p := by
 have hk := fP hF (i3 hF hn h)
 have he := g7 hF
 have hl := nM hF hn h
 refine ⟨by lia, by lia, fun q hq => ?_⟩
 have := (hk.2.2 q.1 (List.mem_map_of_mem (f := (·.1)) hq)).2
 exact aO
theorem kY : 1 ≤ ab.length ∧ ab.length ≤ 10 := by
 have h1 : ab.length = (b0 F).length := by rw [← hn]; simp
 have h2 := uA F hF
 have h3 : (b0 F).length ≤ (lvl (endsF F)).length := List.length_filter_le _ _
 have h4 := (kQ _ (g7 hF).2).2.1
 constructor
 ·rw [h1]
  cases e : b0 F with
  | nil => rw [e] at h2; cases h2
  | cons a l => simp
 ·lia
include dY
theorem ju : ∀ d ∈ nums drawn, d ∈ b0 F := fun d hd => by
 obtain ⟨p, hp, rfl⟩ := List.mem_map.mp hd
 exact i3 hF hn (dY p hp)
theorem Hc : mY ((nums ab).map bz) (dB (endsF F)) (drawn.map fun q => bz q.n) := by
 have he := g7 hF
 have hl := kY hF hn
 have wR : ∀ c ∈ (nums ab).map bz, ∃ d ∈ b0 F, c = bz d := fun c hc => by
  rw [hn] at hc
  obtain ⟨d, hd, rfl⟩ := List.mem_map.mp hc
  exact ⟨d, hd, rfl⟩
 have EF := fun d (hd : d ∈ b0 F) => Gu (endsF F) he.2 d (List.mem_filter.mp hd).1
 refine ⟨by simpa using hl.1, by simpa using hl.2, by rw [mW]; lia, fun c hc q hq => ?_, fun c hc => ?_, fun c hc => ?_, fun c hc q hq => ?_⟩
 ·obtain ⟨d, hd, rfl⟩ := wR c hc
  obtain ⟨h1, h2⟩ := (EF d hd).2 q hq
  exact ⟨((bz d : Int) + q).toNat, by lia, by lia⟩
 ·obtain ⟨d, hd, rfl⟩ := wR c hc
  exact (EF d hd).1
 ·obtain ⟨p, hp, rfl⟩ := List.mem_map.mp hc
  exact List.mem_map.mpr ⟨p.n, List.mem_map_of_mem (dY p hp), rfl⟩
 ·obtain ⟨p, hp, rfl⟩ := List.mem_map.mp hc
  obtain ⟨d, hd, rfl⟩ := wR q hq
  have h := (DE F hF p.n (i3 hF hn (dY p hp)) d hd).1
  unfold oH
  rw [hn, List.length_map]
  exact h
include eC gP
theorem nO : cI (nums drawn) (endsF F) ∈ nums ab ∧ c9 (nums drawn) (endsF F) ∈ nums ab := by
 rw [hn]
 exact wM hF (by simpa using eC) (by simpa using gP) (ju hF hn dY)
theorem vg (k : Nat) : bY (drawn.map fun q => bQ q.n k) = bQ (cI (nums drawn) (endsF F)) k ∧ b7 (drawn.map fun q => bQ q.n k) = bQ (c9 (nums drawn) (endsF F)) k := by
 have hm := nO hF hn dY eC gP
 rw [hn] at hm
 have h := places (ds := nums drawn) (e := endsF F) (by simpa using eC) (fun d hd => (fP hF (ju hF hn dY d hd)).2.1) (fun d hd => (fP hF (ju hF hn dY d hd)).1)
  (fP hF hm.1).2.1 (fP hF hm.2).2.1 k
 rw [show (nums drawn).map (fun d => bQ d k) = drawn.map fun q => bQ q.n k by unfold nums; rw [List.map_map]; rfl] at h
 exact h
theorem A9 {fl : List (List Nat)} (eU : fl = drawn.map fun q => mX ((nums ab).map bz) (dB (endsF F)) (bz q.n)) :
  fz ab (fE fl ab.length) (cQ (fE fl ab.length)) ab.length = gk ab (cI (nums drawn) (endsF F)) (c9 (nums drawn) (endsF F)) (endsF F) := by
 have qp : ∀ i p, ab[i]? = some p → j6 fl i = ((nums drawn).map fun d => dL d p.n).sum := fun i p hp => by
  have dn := List.mem_of_getElem? hp
  have IF : ((nums ab).map bz)[i]? = some (bz p.n) := by rw [List.getElem?_map, wQ hp]; rfl
  have yi : ∀ q ∈ drawn, lk (oH ((nums ab).map bz) (dB (endsF F)) (bz q.n)) (bz p.n) = dL q.n p.n := fun q hq => by
   have h := (DE F hF q.n (i3 hF hn (dY q hq)) p.n (i3 hF hn dn)).2
   unfold oH
   rw [hn, List.length_map]
   exact h
  rw [eU]
  generalize (nums ab).map bz = codes at IF yi
  show ((drawn.map fun q => mX codes (dB (endsF F)) (bz q.n)).map fun f => bX f i).sum = ((drawn.map Ct.n).map fun d => dL d p.n).sum
  rw [List.map_map, List.map_map]
  congr 1
  apply List.map_congr_left
  intro q hq
  show (codes.map fun c => lk (oH codes (dB (endsF F)) (bz q.n)) c).getD i 0 = dL q.n p.n
  rw [List.getD_eq_getElem?_getD, List.getElem?_map, IF]
  exact yi q hq
 have Ly : ∀ i p, ab[i]? = some p → bX (fE fl ab.length) i = ((nums drawn).map fun d => dL d p.n).sum := fun i p hp => by
  have hi : i < ab.length := (List.getElem?_eq_some_iff.mp hp).1
  rw [← qp i p hp]
  exact iG _ hi
 have IG := fun p (hp : p ∈ ab) => wO (ds := nums drawn) (e := endsF F) (by simpa using eC) (by simpa using gP) (fun d hd => (fP hF (ju hF hn dY d hd)).1) (fP hF (i3 hF hn hp)).1
 have hm := nO hF hn dY eC gP
 have EG : cQ (fE fl ab.length) = ((nums drawn).map fun d => dL d (cI (nums drawn) (endsF F))).sum := by
  refine ve (fun x hx => ?_) ?_
  ·obtain ⟨i, hi, rfl⟩ := List.mem_map.mp hx
   have II := List.mem_range.mp hi
   have hp : ab[i]? = some (ab[i]'II) := List.getElem?_eq_getElem II
   rw [qp i _ hp]
   exact (IG _ (List.mem_of_getElem? hp)).1
  ·obtain ⟨p, hp, e⟩ := List.mem_map.mp hm.1
   obtain ⟨i, hi, uj⟩ := List.mem_iff_getElem.mp hp
   have tE : ab[i]? = some p := by rw [List.getElem?_eq_getElem hi, uj]
   refine List.mem_map.mpr ⟨i, List.mem_range.mpr hi, ?_⟩
   rw [qp i p tE, e]
 rw [lJ ab _ _ (fun p => decide (eW (cI (nums drawn) (endsF F)) (c9 (nums drawn) (endsF F)) p.n (endsF F) = [])) (fun i p hp => by
  rw [Ly i p hp, EG, decide_eq_true_iff]
  exact (IG p (List.mem_of_getElem? hp)).2) ab.length (Nat.le_refl _), List.take_length]
 rfl
end
set_option smartUnfolding false
theorem JW (aX : Addr) (xs : List (Int × Tok)) (hx : xs.length ≤ 63) (e : Nat) (q0 q1 : Obj) (bK : bg q0) (bR : bo q1)
  (H : ∀ (S aC : Addr) (k0 : Tok) (ep ec : Nat), bH w b 28 (bN S) .base (b6 S 1)
   ([(140, q0), (147, q1), (aX, aa (aQ xs) e), (S, cK [fe w "script" k0 (.ref aX)] ep)] ++ cls S (ai (.ref aC)) ae ae ae ae ae ae ae ae ae ae ae ae ae ae ++ [(aC, aa ((aQ xs).take 60) ec)]) []) :
  af w b 28 (.call (.ref 250) ⟨[.ref aX], []⟩)
   [(140, q0), (147, q1), (aX, aa (aQ xs) e)] []
   (X := KS) (g6 [(140, q0), (147, q1), (aX, aa (aQ xs) e)]) (fun y => oz) id (fun y => []) := by
 exists zA, 23, 637551, zd, zc, a
 (refine zP 12 650510251 (bB cU 250 zc.S [(Str.ofString "least", (zc.S + 15)), (Str.ofString "sums", (zc.S + 14)), (Str.ofString "fars", (zc.S + 13)), (Str.ofString "steps", (zc.S + 12)), (Str.ofString "codes", (zc.S + 11)), (Str.ofString "highs", (zc.S + 10)), (Str.ofString "lows", (zc.S + 9)), (Str.ofString "drawn", (zc.S + 8)), (Str.ofString "folds", (zc.S + 7)), (Str.ofString "ends", (zc.S + 6)), (Str.ofString "head", (zc.S + 5)), (Str.ofString "width", (zc.S + 4)), (Str.ofString "words", (zc.S + 3)), (Str.ofString "k", (zc.S + 2)), (Str.ofString "cells", (zc.S + 1))]) ?_; intro ou)
 exists zH, 6, 306, [2, 19], C7 aX (zc.S + 16) (aQ xs) e 60 (zc.s.toks + 1) (by simp [aQ]; exact aO), y1, n1, t1, G1, a1, _, _
 refine e9 zc.post zc.ro a1 zc.hL 1 [true, true, true, true, true, true, true, true, true, true, true, true, true, true, true, true, false, true] (H zc.S y1.1 (zc.s.toks + 0) 1 y1.2) (by kernel_rfl) (by kernel_rfl) (by kernel_rfl)
theorem JX (S aX aC : Addr) (sX : Obj) (cs : List (Int × Tok)) (dI : cs.length ≤ 60) (ec : Nat) (k0 : Tok) (ep : Nat) (q0 q1 : Obj)
  (H : ∀ (k1 tt : Tok) (jL : Nat), bH w b 28 (bN S) .base (b6 S 2)
   ([(140, q0), (147, q1), (aX, sX), (S, cK [fe w "script" k0 (.ref aX), fe w "total" k1 (.int (cs.map (·.1)).sum tt)] jL)] ++ cls S (ai (.ref aC)) ae ae ae ae ae ae ae ae ae ae ae ae ae ae ++ [(aC, aa (aQ cs) ec)]) []) :
  bH w b 28 (bN S) .base (b6 S 1)
   ([(140, q0), (147, q1), (aX, sX), (S, cK [fe w "script" k0 (.ref aX)] ep)] ++ cls S (ai (.ref aC)) ae ae ae ae ae ae ae ae ae ae ae ae ae ae ++ [(aC, aa (aQ cs) ec)]) [] := by
 exists zE, 8, 265051, zd, zc, hsz, a
 exists zH, 8, 255, [19], C6 aC cs ec, y1, n1, t1, G1, a1, _, _
 refine e9 zc.post zc.ro a1 zc.hL 18 [] (H (t1 + 0) y1 (ep + 1)) (by kernel_rfl) (by kernel_rfl) (by kernel_rfl)
theorem JY (S aX aC : Addr) (sX : Obj) (cs : List (Int × Tok)) (dI : cs.length ≤ 60) (ec : Nat) (fl : List DictEntry) (ep : Nat) (q0 q1 : Obj)
  (H : ∀ (aW : Addr) (ws : List (Str × Tok)) (ew : Nat), ws.map (·.1) = kM (cv cs) 6 0 → bH w b 28 (bN S) .base (b6 S 3)
   ([(140, q0), (147, q1), (aX, sX), (S, cK fl ep)] ++ cls S (ai (.ref aC)) ae (ai (.ref aW)) ae ae ae ae ae ae ae ae ae ae ae ae ++ [(aC, aa (aQ cs) ec), (aW, aa (aE ws) ew)]) []) :
  bH w b 28 (bN S) .base (b6 S 2)
   ([(140, q0), (147, q1), (aX, sX), (S, cK fl ep)] ++ cls S (ai (.ref aC)) ae ae ae ae ae ae ae ae ae ae ae ae ae ae ++ [(aC, aa (aQ cs) ec)]) [] := by
 exists zE, 7, 5051, zd, zc, hsz, a
 refine zK [] (fH 6 (zc.s.toks + 0)) @fun y1 n1 t1 _ _ _ _ => ?_
 exists yg, 6, 6122
 exists zH, 4, 123, [20], fI y1.1 6 (by decide) y1.2.1 (zc.s.toks + 0) y1.2.2, y2, n2, t2
 have hw := fun b => (AB (w := w) (b := b) y2 (n2 + 1) S (S + 1) (n2 + 0) 0 6 [] _ (C8 y2 (n2 + 1) S (S + 1) (n2 + 0) aC cs (by exact aO) ec (kM (cv cs) 6 0) 6 0 rfl (ay [] 0) (.inl ⟨rfl, rfl⟩) [] rfl (by decide) 0)).imp'
  (Y := List (Str × Tok) × Nat × Obj × Tok × Value × Nat) (P' := fun y => y.1.map (·.1) = kM (cv cs) 6 0) (dJ := fun _ => .ok .next)
  (dK := fun y => [(y2, y.2.2.1), (n2 + 1, ay [av (au w "k") "k" y.2.2.2.1 y.2.2.2.2.1] y.2.2.2.2.2), (n2 + 0, aa (aE y.1) y.2.1), (S + 1, ai (.ref aC)), (aC, aa (aQ cs) ec)]) (dO := fun _ => [])
  (fun x hx => by
    obtain ⟨h1, h2⟩ := hx
    rcases h2 with ⟨h, _⟩ | ⟨tk, v, ep, h⟩
    ·cases h
    ·exact ⟨(x.1, x.2.1, x.2.2.2, tk, v, ep), h1, rfl, by rw [h], rfl⟩)
 exists zH, 10, 51063775, [21, 23, 22, 4, 19], hw _, y3, n3, t3, G3, a3, ej, _
 refine e9 zc.post zc.ro a3 zc.hL 18 [false, false, true] (H (n2 + 0) y3.1 y3.2.1 ej) (by kernel_rfl) (by kernel_rfl) (by kernel_rfl)
theorem JZ (S aX aC aW : Addr) (sX sC : Obj) (ba : Int) (tt k0 k1 : Tok) (ep : Nat) (q0 q1 : Obj) (bK : bg q0) (bR : bo q1)
  (ws : List (Str × Tok)) (cZ : ∀ q ∈ ws, c7 q.1) (h6 : ws.length = 6) (ew hd wd : Nat) (th tw : Tok) (iv : hd + 7 ≤ wd) (hh : hd ≤ 100)
  (H : ∀ (q0 q1 : Obj) (k2 tf tn : Tok) (ep : Nat), bg q0 → bo q1 → bH w b 28 (bN S) .base (b6 S 7)
   ([(140, q0), (147, q1), (aX, sX), (S, cK [fe w "script" k0 (.ref aX), fe w "total" k1 (.int ba tt), fe w "front" k2 (.str (gc wd hd [] (ws.map (·.1))) tf)] ep)] ++ cls S (ai (.ref aC)) ae (ai (.ref aW)) (ai (.int wd tw)) (ai (.int hd th)) (ai (.int (nD (gc wd hd [] (ws.map (·.1)))) tn)) ae ae ae ae ae ae ae ae ae ++ [(aC, sC), (aW, aa (aE ws) ew)]) []) :
  bH w b 28 (bN S) .base (b6 S 5)
   ([(140, q0), (147, q1), (aX, sX), (S, cK [fe w "script" k0 (.ref aX), fe w "total" k1 (.int ba tt)] ep)] ++ cls S (ai (.ref aC)) ae (ai (.ref aW)) (ai (.int wd tw)) (ai (.int hd th)) ae ae ae ae ae ae ae ae ae ae ++ [(aC, sC), (aW, aa (aE ws) ew)]) [] := by
 exists zE, 14, 632400401, zd, zc, hsz, a
 refine zJ (Ta := [(aW, aa (aE ws) ew), (zc.S + 0, aj (ag []))]) [0, 1] [20, 21] [] (written aW (zc.S + 0) hd wd th tw ws cZ h6 ew [] (by decide) (by decide) iv hh q0 q1 bK bR) (fun _ h => nomatch h) List.nodup_nil @fun y1 n1 t1 G1 a1 b4 _ => ?_
 obtain ⟨tf, p0, p1⟩ := y1
 dsimp only at b4
 exists zg, 16, 262755
 exists zH, 6, 561, [], wb (gc wd hd [] (ws.map (·.1))) tf (t1 + 1), y2, n2, t2, G2, a2, _, _
 refine e9 zc.post zc.ro a2 zc.hL 19 [] (H p0 p1 (t1 + 0) tf y2 (ep + 1) b4.1 b4.2) (by kernel_rfl) (by kernel_rfl) (by kernel_rfl)
set_option smartUnfolding true
theorem J0 (S aX aC aW aU aF aD : Addr) (q0 q1 sX sC sU : Obj) (bK : bg q0) (bR : bo q1) (k0 k1 k2 k3 k4 k5 k6 k7 tt tf : Tok) (ba : Int) (front : Str) (v4 v5 v6 v7 : Value) (ep wd hd : Nat) (tw th tn : Tok) (ws : List (Str × Tok)) (ew : Nat)
  {F : List Nat} (hF : F ∈ kT) (ab : List Ct) (hn : nums ab = b0 F) (ef : Nat) (drawn : List Ct) (dY : ∀ p ∈ drawn, p ∈ ab) (eC : 1 ≤ drawn.length) (gP : drawn.length ≤ 4) (eD : Nat) :
  bH w b 28 (bN S) .base (b6 S 13) (iY w S aX aC aW aU aF q0 q1 sX sC sU k0 k1 k2 k3 k4 k5 k6 k7 tt tf ba front v4 v5 v6 v7 [] ep wd hd (endsF F) tw th tn ws ew ab ef ae (ai (.ref aD)) ae ae ae ae ae ae ae [(aD, aa (refs drawn) eD)]) (ab.map Ct.K) := by
 have he := g7 hF
 have eU := kY hF hn
 have hlen : ∀ p ∈ drawn, p.c.length = endsF F := fun p hp => nM hF hn (dY p hp)
 have IJ := nO hF hn dY eC gP
 have hcd : ∀ q ∈ ab, l4 q := fun q hq => EE hF hn hq
 refine GD S aX aC aW aU aF aD q0 q1 sX sC sU k0 k1 k2 k3 k4 k5 k6 k7 tt tf ba front v4 v5 v6 v7 ep wd hd (endsF F) he.2 tw th tn ws ew ab ef drawn eC gP dY hlen eD fun aM eM ep k8 bp EH => ?_
 have dg : bp.length = endsF F := by
  have := congrArg List.length EH
  rw [List.length_map] at this
  rw [this]
  have h := congrArg List.length (nK drawn (endsF F) 0).1
  simpa using h
 obtain ⟨hlo, mV⟩ := A8 EH
 have gu : (jn bp).length = endsF F := by unfold jn; rw [List.length_map]; exact dg
 have lH : (jo bp).length = endsF F := by unfold jo; rw [List.length_map]; exact dg
 refine GF S aX aC aW aU aF aD aM q0 q1 sX sC sU k0 k1 k2 k3 k4 k5 k6 k7 k8 tt tf ba front v4 v5 v6 v7 ep wd hd (endsF F) tw th tn ws ew ab ef drawn eD eM bp eC ?_
 refine GG S aX aC aW aU aF aD aM q0 q1 sX sC sU k0 k1 k2 k3 k4 k5 k6 k7 k8 tt tf ba front v4 v5 v6 v7 ep wd hd (endsF F) tw th tn ws ew ab ef drawn eD eM bp (by lia) (by lia) fun aL eL aH eH => ?_
 refine GH S aX aC aW aU aF aD aM aL aH q0 q1 sX sC sU k0 k1 k2 k3 k4 k5 k6 k7 k8 tt tf ba front v4 v5 v6 v7 ep wd hd (endsF F) tw th tn ws ew ab ef drawn eD eM bp eL eH (jn bp) (jo bp) (by lia) (by lia) (by lia) ?_
 generalize hP : (⟨S, aX, aC, aW, aU, aF, aD, aM, aL, aH, q0, q1, sX, sC, sU, k0, k1, k2, k3, k4, k5, k6, k7, k8, tt, tf, tw, th, tn, ba, front, v4, v5, v6, v7, ep, wd, hd, endsF F, ew, ef, eD, eM, eL, eH, ws, ab, drawn, bp, jn bp, jo bp⟩ : Lq) = p
 have e1 : p.ab = ab := by rw [← hP]
 have e2 : p.drawn = drawn := by rw [← hP]
 have e3 : p.lows = jn bp := by rw [← hP]
 have e4 : p.highs = jo bp := by rw [← hP]
 have e5 : p.ends = endsF F := by rw [← hP]
 have e6 : p.q0 = q0 := by rw [← hP]
 have e7 : p.q1 = q1 := by rw [← hP]
 have main : bH w b 28 (bN p.S) .base (b6 p.S 18) (p.G w [] ae ae ae ae ae ae [(p.aD, aa (refs p.drawn) p.eD), (p.aM, aa (cc p.bp) p.eM), (p.aL, aa (ag p.lows) p.eL), (p.aH, aa (ag p.highs) p.eH)]) (p.bp.map Pr.K ++ p.ab.map Ct.K) := by
  clear hP
  rw [← e3] at hlo gu
  rw [← e4] at mV lH
  rw [← e5] at gu lH he
  have gT := fun q (hq : q ∈ ab) => nM hF hn hq
  subst e1 e2 e6 e7
  refine GZ p eU.2 (by lia) (by lia) (fun u hu => by rw [gT u hu]; lia) (fun u hu => by rw [gT u hu]; lia) (by rw [hlo]; exact IJ.1) (by rw [mV]; exact IJ.2) ?_
  refine GI p eU.1 eU.2 hcd fun aK eK cs dI => ?_
  refine GJ p he.1 he.2 aK eK cs fun aS eS zs qx => ?_
  rw [e5] at qx
  have J1 : mY (cs.map (·.1)) (zs.map (·.1)) (p.drawn.map fun q => bz q.n) := by
   rw [dI, qx]; exact Hc hF hn dY
  refine GK p eC (by exact aO) dY (fun q hq => hcd q (dY q hq)) aK eK cs aS eS zs J1 fun aR eR fl sL => ?_
  rw [dI, qx] at sL
  have LO : fl.length = p.drawn.length := by
   have := congrArg List.length sL
   simpa using this
  have J2 : ∀ q ∈ fl, q.c.length = p.ab.length := fun q hq => by
   have : q.n ∈ fl.map Fl.n := List.mem_map_of_mem hq
   rw [sL] at this
   obtain ⟨d, _, hd⟩ := List.mem_map.mp this
   have h := congrArg List.length hd
   unfold mX Fl.n at h
   simpa using h.symm
  refine GL p eU.1 eU.2 aK eK cs aS eS zs aR eR fl (by lia) (by exact lD) J2 fun aY eY ss IK => ?_
  have J3 : ss.length = p.ab.length := by
   have := congrArg List.length IK
   simpa [fE] using this
  refine GN p aK eK cs aS eS zs aR eR fl aY eY ss (by lia) fun tl => ?_
  refine GO p eU.1 eU.2 aK eK cs aS eS zs aR eR fl aY eY ss tl J3 fun aB eB k9 ep => ?_
  refine GQ p he.1 he.2 eU.1 eU.2 (fun q hq => by rw [gT q hq]; lia) gu lH aK eK cs aS eS zs aR eR fl aY eY ss tl aB eB k9 _ ep ?_ ?_
  ·rw [IK, hlo, mV, e5]
   exact A9 hF hn dY eC gP sL
  refine GW p bK bR eC gP dY (fun q hq => by rw [hlen q hq]; lia) (by lia) (by lia) (by lia) (by lia) aK eK cs aS eS zs aR eR fl aY eY ss tl aB eB k9 _ ep (fun k _ => ?_)
  rw [hlo, mV]
  exact vg hF hn dY eC gP k
 rw [← hP] at main
 exact main
theorem eF {w : World} {b : Bool} {A : Around} {R : Result → Shared → Prop} {s : Shared} {K0 T : KS} {n t : Nat} {G : List GenState} {o : Ou} {X : Type} {P : X → Prop} {rf : X → Result} {Kf Nf : X → KS} (post : cC w s R K0 T P rf Kf Nf) (ro : Ro w s K0 T) (a : At s n t G) (j : Nat) (mask : List Bool) (fx : Ou → X) (hx : P (fx o))
  (h : i7 o j mask = ⟨some (rf (fx o), []), E2 o, Kf (fx o), Nf (fx o)⟩) (hp : (Kf (fx o)).map (·.1) = K0.map (·.1)) (hs : News s.heap.objs.size (Nf (fx o))) : Mn (az w b A R s K0 n t G) o := eZ post ro a j mask (fx o) hx h hp hs
theorem L8 {β : Type} {N : β} {C : Env → List Env → β → β} {q : Env → Bool} {xs es : List Env} (h : xs = es) : @List.rec Env (fun _ => β) N C (List.dropWhile q xs) = @List.rec Env (fun _ => β) N C (List.dropWhile q es) := by rw [h]
theorem nP {β : Type} {N : β} {C : Env → List Env → β → β} {q : Env → Bool} {xs es : List Env} {e : Env} (h : xs = e :: es) (hq : q e = false) : @List.rec Env (fun _ => β) N C (List.dropWhile q xs) = @List.rec Env (fun _ => β) N C (e :: es) := by rw [h, List.dropWhile_cons_of_neg (by rw [hq]; decide)]
theorem nQ (n : Addr) : (some n != some n) = false := by simp
noncomputable abbrev bD : Str := Str.ofString "no median for empty data"
noncomputable abbrev l9 (a2 : Addr) (tb : Value) : Obj := ⟨.ref 192, none, .fields ⟨[.ref a2, tb, .none, .none, .bool false, .none]⟩, ⟨[]⟩⟩
set_option smartUnfolding false
theorem wU (t : Tok) :
  af w b 6 (.call (.ref 192) ⟨[.str bD t], []⟩) [] []
   (X := Addr × Addr) (fun _ => True) (fun y => .ok (.ret (.ref y.1))) (fun _ => []) (fun y => [(y.1, l9 y.2 .none), (y.2, aj [.str bD t])]) := by
 exists zA, 18, 1557019292091836734693877551, zd, zc, a0
 refine sQ fun p below l => ?_
 exists zg, 32, 182462225536576874402593068399234693877551
 exact zM 0 [false, true, true] (fun _ => (zc.S + 1, zc.S + 2)) (hs := (ar (Nat.le_add_right _ _) (ar (Nat.le_add_right _ _) ak)))
theorem nR (a : Addr) (e : Nat) :
  af w b 10 (.call (.builtin "sorted") ⟨[.ref a], []⟩) [(a, aa [] e)] []
   (X := Addr × Nat) (fun _ => True) (fun y => .ok (.ret (.ref y.1))) (fun _ => [(a, aa [] e)]) (fun y => [(y.1, aa [] y.2)]) := by
 exists zA, 5, 252551, zd, zc, a0
 exists dT, pN rfl
 exists zg, 24, 311403858418367229704081632652
 exact zM 1 [false, true] (fun o => (zc.S + 1, o.ep 2)) (hs := (ar (Nat.le_add_right _ _) ak))
noncomputable abbrev dx (l : List DictEntry) (ep : Nat) (sl : Array (Option Value)) : Obj := ⟨tC, none, .dict ⟨l⟩ ep, sl⟩
noncomputable abbrev Lz (nx fr f3 : Value) (v1 v2 v3 v4 v5 v6 : Value) : Obj := ⟨.type "traceback", none, .fields ⟨[nx, fr, .none, f3, .none, v1, v2, v3, v4, v5, v6]⟩, ⟨[]⟩⟩
structure EX where
 a : Addr
 a2 : Addr
 tb : Addr
 fr : Value
 v1 : Value
 v2 : Value
 v3 : Value
 v4 : Value
 v5 : Value
 v6 : Value
 t : Tok
 s1 : Array (Option Value)
 b1 : Value
 s2 : Array (Option Value)
 b2 : Value
noncomputable def eh (o : Obj) (i : Nat) : Value := match o.data with
 | .fields xs => xs[i]?.getD .none
 | _ => .none
noncomputable def EI (o : Obj) : Value := (o.slots.getD 3 none).getD .none
noncomputable abbrev EX.N (y : EX) : KS := [(y.a, l9 y.a2 (.ref y.tb)), (y.a2, aj [.str bD y.t]), (y.tb, Lz .none y.fr .none y.v1 y.v2 y.v3 y.v4 y.v5 y.v6)]
theorem LA {w : World} {b : Bool} (a S L1 : Addr) (e : Nat) (l1 lS : List DictEntry) (e1 eS : Nat) (L c : Addr) (ec : Nat) (tk tn tq : Tok) :
  iM [cS dR 233 L1 [], dm S] w b 14 (bB fM 202 L []) .base (pD (jQ pe 2 2) (cS fM 202 L [])) [(a, aa [] e), (L1, cK l1 e1), (S, cK lS eS), (L, cK [av (au w "data") "data" tk (.ref c), av (au w "n") "n" tn (.int 0 tq)] 2), (c, aa [] ec)] []
   (X := EX × Obj × Obj) (fun y => y.1.s1.getD 3 none = some y.1.b1 ∧ y.1.s2.getD 3 none = some y.1.b2) (fun y => .error (.ref y.1.a)) (fun y => [(a, aa [] e), (L1, dx l1 e1 y.1.s1), (S, dx lS eS y.1.s2), (L, y.2.1), (c, y.2.2)]) (fun y => y.1.N) := by
 refine iM.eN ?_
 intro d gd u R s K0 A hL ro post a0
 (refine gB 6 5 ?_; intro ou)
 exists zg, 1, 2
 refine d0 [] ((bu (0 : Nat) (0 : Nat) tq (s.toks + 0)).ck rfl) fun _ n3 t3 => ?_
 exists zg, 8, 252551
 refine d0 [] (wU (t3 + 0)) @fun y4 n4 t4 G4 a4 _ dH => ?_
 exists zg, 12, 5578482127857
 refine sQ fun p below l => ?_
 exists ao, (ah (ah (ah (ah (ah (nP (e := cS fM 202 L []) (es := [cS dR 233 L1 [], dm S]) (l.envs (by kernel_rfl)) (nQ L)))))))
 exists zg, 6, 25382755
 refine sQ fun p below l => ?_
 exists zg, 2, 4
 refine sQ fun p below l => ?_
 exists zg, 7, 57392857
 exact eF post ro a4 5 [true, true, true] (fun o => (⟨y4.1, y4.2, n4 + 0, eh (o.ob 7) 1, eh (o.ob 7) 5, eh (o.ob 7) 6, eh (o.ob 7) 7, eh (o.ob 7) 8, eh (o.ob 7) 9, eh (o.ob 7) 10, t3 + 0, (o.ob 1).slots, EI (o.ob 1), (o.ob 2).slots, EI (o.ob 2)⟩, o.ob 3, o.ob 4)) ⟨by kernel_rfl, by kernel_rfl⟩ (by kernel_rfl) (by kernel_rfl) (by
  have h1 := dH (y4.1, l9 y4.2 .none) (by simp)
  have h2 := dH (y4.2, aj [.str bD (t3 + 0)]) (by simp)
  exact ar h1 (ar h2 (ar (Nat.le_trans a4.n (Nat.le_add_right _ _)) ak)))
theorem wV {w : World} {b : Bool} (a S L1 : Addr) (e : Nat) (l1 lS : List DictEntry) (e1 eS : Nat) :
  dh [cS dR 233 L1 [], dm S] w b 14 (.call (.ref 202) ⟨[.ref a], []⟩) [(a, aa [] e), (L1, cK l1 e1), (S, cK lS eS)] []
   (X := EX) (fun y => y.s1.getD 3 none = some y.b1 ∧ y.s2.getD 3 none = some y.b2) (fun y => .error (.ref y.a)) (fun y => [(a, aa [] e), (L1, dx l1 e1 y.s1), (S, dx lS eS y.s2)]) EX.N := by
 refine dh.eN ?_
 intro d gd u R s K0 A hL ro post a0
 exists zg, 8, 637551
 refine dN (bB fM 202 s.heap.objs.size []) ?_
 exists zg, 10, 13127551
 refine d0 [0] (nR a e) fun y1 n1 t1 => ?_
 exists zg, 16, 656377755
 refine d0 [4] (kG y1.1 [] y1.2 (by simp)) @fun y2 n2 t2 G2 a2 _ _ => ?_
 exists zg, 8, 255
 exact lO (S1 := []) (S2 := []) (Dr := []) post ro a2 ⟨rfl, hL⟩ 100 [0, 1, 2, 3, 4] [] [] (LA a S L1 e l1 lS e1 eS (s.heap.objs.size + 0) y1.1 y1.2 (s.toks + 0) (t2 + 0) y2) (by kernel_rfl) (List.Sublist.refl _) fun x1 h1 _ hN => ⟨x1.1, h1, rfl, rfl, Of.sub (.cons₂ _ (.cons₂ _ (.cons₂ _ (.cons _ (.cons _ (.refl _)))))), hN⟩
theorem LB {w : World} {b : Bool} (a S L1 : Addr) (e : Nat) (l1 lS : List DictEntry) (e1 eS : Nat) (sS : Array (Option Value)) (bS : Value) (hS : sS.getD 3 none = some bS) (L c : Addr) (ec : Nat) (tk tn tq : Tok) :
  iM [cS dR 233 L1 [], dm S] w b 14 (bB fM 202 L []) .base (pD (jQ pe 2 2) (cS fM 202 L [])) [(a, aa [] e), (L1, cK l1 e1), (S, dx lS eS sS), (L, cK [av (au w "data") "data" tk (.ref c), av (au w "n") "n" tn (.int 0 tq)] 2), (c, aa [] ec)] []
   (X := EX × Obj × Obj) (fun y => y.1.s1.getD 3 none = some y.1.b1 ∧ y.1.s2.getD 3 none = some y.1.b2) (fun y => .error (.ref y.1.a)) (fun y => [(a, aa [] e), (L1, dx l1 e1 y.1.s1), (S, dx lS eS y.1.s2), (L, y.2.1), (c, y.2.2)]) (fun y => y.1.N) := by
 refine iM.eN ?_
 intro d gd u R s K0 A hL ro post a0
 (refine gB 6 5 ?_; intro ou)
 exists zg, 1, 2
 refine d0 [] ((bu (0 : Nat) (0 : Nat) tq (s.toks + 0)).ck rfl) fun _ n3 t3 => ?_
 exists zg, 8, 252551
 refine d0 [] (wU (t3 + 0)) @fun y4 n4 t4 G4 a4 _ dH => ?_
 exists zg, 12, 5578482127857
 refine sQ fun p below l => ?_
 exists ao, (ah (ah (ah (ah (ah (nP (e := cS fM 202 L []) (es := [cS dR 233 L1 [], dm S]) (l.envs (by kernel_rfl)) (nQ L)))))))
 exists zg, 5, 25382755
 exists dT, (ah (ah (ah (ah (ah (ah (tN (c := (sS.getD 3 none).isSome) (by rw [hS]; rfl) (by kernel_rfl))))))))
 exists zg, 1, 0
 refine sQ fun p below l => ?_
 exists zg, 7, 57392857
 exact eF post ro a4 5 [true, true, true] (fun o => (⟨y4.1, y4.2, n4 + 0, eh (o.ob 7) 1, eh (o.ob 7) 5, eh (o.ob 7) 6, eh (o.ob 7) 7, eh (o.ob 7) 8, eh (o.ob 7) 9, eh (o.ob 7) 10, t3 + 0, (o.ob 1).slots, EI (o.ob 1), sS, bS⟩, o.ob 3, o.ob 4)) ⟨by kernel_rfl, hS⟩ (by kernel_rfl) (by kernel_rfl) (by
  have h1 := dH (y4.1, l9 y4.2 .none) (by simp)
  have h2 := dH (y4.2, aj [.str bD (t3 + 0)]) (by simp)
  exact ar h1 (ar h2 (ar (Nat.le_trans a4.n (Nat.le_add_right _ _)) ak)))
theorem wW {w : World} {b : Bool} (a S L1 : Addr) (e : Nat) (l1 lS : List DictEntry) (e1 eS : Nat) (sS : Array (Option Value)) (bS : Value) (hS : sS.getD 3 none = some bS) :
  dh [cS dR 233 L1 [], dm S] w b 14 (.call (.ref 202) ⟨[.ref a], []⟩) [(a, aa [] e), (L1, cK l1 e1), (S, dx lS eS sS)] []
   (X := EX) (fun y => y.s1.getD 3 none = some y.b1 ∧ y.s2.getD 3 none = some y.b2) (fun y => .error (.ref y.a)) (fun y => [(a, aa [] e), (L1, dx l1 e1 y.s1), (S, dx lS eS y.s2)]) EX.N := by
 refine dh.eN ?_
 intro d gd u R s K0 A hL ro post a0
 exists zg, 8, 637551
 refine dN (bB fM 202 s.heap.objs.size []) ?_
 exists zg, 10, 13127551
 refine d0 [0] (nR a e) fun y1 n1 t1 => ?_
 exists zg, 16, 656377755
 refine d0 [4] (kG y1.1 [] y1.2 (by simp)) @fun y2 n2 t2 G2 a2 _ _ => ?_
 exists zg, 8, 255
 exact lO (S1 := []) (S2 := []) (Dr := []) post ro a2 ⟨rfl, hL⟩ 100 [0, 1, 2, 3, 4] [] [] (LB a S L1 e l1 lS e1 eS sS bS hS (s.heap.objs.size + 0) y1.1 y1.2 (s.toks + 0) (t2 + 0) y2) (by kernel_rfl) (List.Sublist.refl _) fun x1 h1 _ hN => ⟨x1.1, h1, rfl, rfl, Of.sub (.cons₂ _ (.cons₂ _ (.cons₂ _ (.cons _ (.cons _ (.refl _)))))), hN⟩
theorem LC {w : World} {b : Bool} (a S L1 : Addr) (e : Nat) (l1 lS : List DictEntry) (e1 eS : Nat) (s1 sS : Array (Option Value)) (b1 bS : Value) (h1 : s1.getD 3 none = some b1) (hS : sS.getD 3 none = some bS) (L c : Addr) (ec : Nat) (tk tn tq : Tok) :
  iM [cS dR 233 L1 [], dm S] w b 14 (bB iz 209 L []) .base (pD (jQ s6 2 2) (cS iz 209 L [])) [(a, aa [] e), (L1, dx l1 e1 s1), (S, dx lS eS sS), (L, cK [av (au w "data") "data" tk (.ref c), av (au w "n") "n" tn (.int 0 tq)] 2), (c, aa [] ec)] []
   (X := EX × Obj × Obj) (fun y => y.1.s1.getD 3 none = some y.1.b1 ∧ y.1.s2.getD 3 none = some y.1.b2) (fun y => .error (.ref y.1.a)) (fun y => [(a, aa [] e), (L1, dx l1 e1 y.1.s1), (S, dx lS eS y.1.s2), (L, y.2.1), (c, y.2.2)]) (fun y => y.1.N) := by
 refine iM.eN ?_
 intro d gd u R s K0 A hL ro post a0
 (refine gB 6 5 ?_; intro ou)
 exists zg, 1, 2
 refine d0 [] ((bu (0 : Nat) (0 : Nat) tq (s.toks + 0)).ck rfl) fun _ n3 t3 => ?_
 exists zg, 8, 252551
 refine d0 [] (wU (t3 + 0)) @fun y4 n4 t4 G4 a4 _ dH => ?_
 exists zg, 12, 5578482127857
 refine sQ fun p below l => ?_
 exists ao, (ah (ah (ah (ah (ah (nP (e := cS iz 209 L []) (es := [cS dR 233 L1 [], dm S]) (l.envs (by kernel_rfl)) (nQ L)))))))
 exists zg, 3, 7755
 exists dT, (ah (ah (ah (ah (ah (ah (tN (c := (s1.getD 3 none).isSome) (by rw [h1]; rfl) (by kernel_rfl))))))))
 exists zg, 1, 0
 refine sQ fun p below l => ?_
 exists zg, 7, 57392857
 exact eF post ro a4 5 [true, true, true] (fun o => (⟨y4.1, y4.2, n4 + 0, eh (o.ob 7) 1, eh (o.ob 7) 5, eh (o.ob 7) 6, eh (o.ob 7) 7, eh (o.ob 7) 8, eh (o.ob 7) 9, eh (o.ob 7) 10, t3 + 0, s1, b1, sS, bS⟩, o.ob 3, o.ob 4)) ⟨h1, hS⟩ (by kernel_rfl) (by kernel_rfl) (by
  have h1 := dH (y4.1, l9 y4.2 .none) (by simp)
  have h2 := dH (y4.2, aj [.str bD (t3 + 0)]) (by simp)
  exact ar h1 (ar h2 (ar (Nat.le_trans a4.n (Nat.le_add_right _ _)) ak)))
theorem wX {w : World} {b : Bool} (a S L1 : Addr) (e : Nat) (l1 lS : List DictEntry) (e1 eS : Nat) (s1 sS : Array (Option Value)) (b1 bS : Value) (h1 : s1.getD 3 none = some b1) (hS : sS.getD 3 none = some bS) :
  dh [cS dR 233 L1 [], dm S] w b 14 (.call (.ref 209) ⟨[.ref a], []⟩) [(a, aa [] e), (L1, dx l1 e1 s1), (S, dx lS eS sS)] []
   (X := EX) (fun y => y.s1.getD 3 none = some y.b1 ∧ y.s2.getD 3 none = some y.b2) (fun y => .error (.ref y.a)) (fun y => [(a, aa [] e), (L1, dx l1 e1 y.s1), (S, dx lS eS y.s2)]) EX.N := by
 refine dh.eN ?_
 intro d gd u R s K0 A hL ro post a0
 exists zg, 8, 637551
 refine dN (bB iz 209 s.heap.objs.size []) ?_
 exists zg, 10, 13127551
 refine d0 [0] (nR a e) fun y1 n1 t1 => ?_
 exists zg, 16, 656377755
 refine d0 [4] (kG y1.1 [] y1.2 (by simp)) @fun y2 n2 t2 G2 a2 _ _ => ?_
 exists zg, 8, 255
 exact lO (S1 := []) (S2 := []) (Dr := []) post ro a2 ⟨rfl, hL⟩ 100 [0, 1, 2, 3, 4] [] [] (LC a S L1 e l1 lS e1 eS s1 sS b1 bS h1 hS (s.heap.objs.size + 0) y1.1 y1.2 (s.toks + 0) (t2 + 0) y2) (by kernel_rfl) (List.Sublist.refl _) fun x1 h1 _ hN => ⟨x1.1, h1, rfl, rfl, Of.sub (.cons₂ _ (.cons₂ _ (.cons₂ _ (.cons _ (.cons _ (.refl _)))))), hN⟩
theorem qI {w : World} {b : Bool} (x x2 : Addr) (tb : Value) (t : Tok) :
  pA w b 6 (.call (.type "str") ⟨[.ref x], []⟩) [(x, l9 x2 tb), (x2, aj [.str bD t])] []
   (X := Unit) (fun y => True) (fun y => .ok (.ret (.str bD t))) (fun y => [(x, l9 x2 tb), (x2, aj [.str bD t])]) (fun y => []) := by
 refine pA.eN ?_
 intro A R s K0 hL ro post a0
 exists zg, 4, 2551
 refine sQ fun p below l => ?_
 exists ao, ah (ah (bf (BQ l hL (by kernel_rfl))))
 exists zg, 17, 4986407047506377552
 exact dF post 2 [] (fun _ => ())
set_option smartUnfolding true
theorem yS {w : World} {b : Bool} {A : Around} {R : Result → Shared → Prop} {s : Shared} {K0 T : KS} {n t : Nat} {G : List GenState} {o : Ou} {X : Type} {P : X → Prop} {rf : X → Result} {Kf Nf : X → KS} {fr : List Env} {nL nA : Nat} {c : Code} {κ : Kn} {tr : Sem Fin} {K1 Sy T1 : KS} {X1 : Type} {P1 : X1 → Prop} {i8 : X1 → Result} {gn hW : X1 → KS}
  (post : cC w s R K0 T P rf Kf Nf) (ro : Ro w s K0 T) (a : At s n t G) (hL : Lv nA A) (p j : Nat) (mask : List Bool) (cP : A.frames = some fr) (bq : iM fr w b nL c κ tr K1 T1 P1 i8 gn hW)
  (h : pC o p (xU j mask) [] [] = ⟨some (c, κ, tr), E2 o, [], some K1, some [], some [], Sy, true⟩) (hj : (bk j K1).map (·.1) = K0.map (·.1)) (qU : T1.Sublist (Sy ++ T)) (hn : Nat.ble nL nA = true)
  (hX : ∀ x1, P1 x1 → (gn x1).map (·.1) = K1.map (·.1) ∧ hW x1 = [] ∧ ∃ x, P x ∧ rf x = i8 x1 ∧ (Kf x).map (·.1) = K0.map (·.1) ∧ (∀ p ∈ Kf x, p ∈ gn x1) ∧ (∀ p ∈ Nf x, p ∈ gn x1 ∧ p.1 ∉ K0.map (·.1) ∧ s.heap.objs.size ≤ p.1) ∧ ((Nf x).map (·.1)).Nodup) : Mn (az w b A R s K0 n t G) o :=
 lO (S1 := []) (S2 := Sy) (Dr := []) post ro a ⟨cP, hL.less (Nat.le_of_ble_eq_true hn)⟩ p _ [] [] bq h qU fun x1 h1 h2 _ => by
  obtain ⟨_, _, x, px, er, hx, ek, hn, nd⟩ := hX x1 h1
  refine ⟨x, px, er, hx, ⟨fun q hq => ml (ml ((List.mem_append.mp hq).elim (ek q) fun z => (hn q z).1)), fun LD => ?_⟩, fun q hq => (hn q hq).2.2⟩
  have n1 := (eX.mp (eX.mp LD).1).1
  rw [h2] at n1
  have k0 : (K0.map (·.1)).Nodup := hj ▸ ((ko j K1).map _).nodup n1
  exact eX.mpr ⟨hx ▸ k0, nd, fun p hp q hq e => (hn q hq).2.1 (e ▸ hx ▸ List.mem_map_of_mem hp)⟩
set_option smartUnfolding false
noncomputable abbrev Hd (L : Addr) : Env := cS dR 233 L []
structure LF where
 s : Array (Option Value)
 b : Value
 l : List DictEntry
 ep : Nat
 s1 : Array (Option Value)
 t2 : Tok
 e2 : Nat
theorem yT {w : World} {b : Bool} (a S L1 aT : Addr) (e : Nat) (lS : List DictEntry) (eS : Nat) (sS : Array (Option Value)) (bS : Value) (hS : sS.getD 3 none = some bS) (tn tt : Tok) (e1 : Nat) (s1 : Array (Option Value)) (b1 : Value) (h1 : s1.getD 3 none = some b1) (tm : Tok) (eT : Nat) :
  iM [dm S] w b 24 (bB dR 233 L1 []) .base (pD (jQ s9 2 2) (Hd L1)) [(a, aa [] e), (S, dx lS eS sS), (L1, dx [av (au w "numbers") "numbers" tn (.ref a), av (au w "told") "told" tt (.ref aT)] e1 s1), (aT, aa [.str bD tm] eT)] []
   (X := LF) (fun y => y.s.getD 3 none = some y.b) (fun y => .ok (.ret (.ref aT))) (fun y => [(a, aa [] e), (S, dx lS eS y.s), (L1, dx y.l y.ep y.s1), (aT, aa [.str bD tm, .str bD y.t2] y.e2)]) (fun y => []) := by
 refine iM.eN ?_
 intro d gd u R s K0 A hL ro post a0
 exists zg, 17, 78969094387754
 refine cF [0, 2, 1] _ (wX a S L1 e [av (au w "numbers") "numbers" tn (.ref a), av (au w "told") "told" tt (.ref aT)] lS e1 eS s1 sS b1 bS h1 hS) (fun _ h => h) ro.nd (by kernel_rfl) @fun y3 n3 t3 G3 a3 ej kf => ?_
 exists zg, 5, 1020406
 refine sQ fun p below l => ?_
 exists ao, (ah (dG (ah (ah (ah (ah (nP (e := cS dR 233 L1 []) (es := [dm S]) (l.envs (by kernel_rfl)) (nQ L1))))))))
 exists zg, 1, 4
 exists dT, (ah (dG (ah (ah (ah (ah (ah (tN (c := (y3.s1.getD 3 none).isSome) (by rw [ej.1]; rfl) (by kernel_rfl)))))))))
 exists zg, 1, 0
 refine sQ fun p below l => ?_
 exists zg, 44, 310005071211830450719677983986367984744890306
 refine cH [4, 5] (qI y3.a y3.a2 (.ref (n3 + 0)) y3.t) hL.h @fun y2 n2 t2 G2 a2 _ _ => ?_
 exists zg, 25, 398596939094377751
 exact dF post 4 [] (fun o => ⟨y3.s2, y3.b2, [av (au w "numbers") "numbers" tn (.ref a), av (au w "told") "told" tt (.ref aT)], e1 + 1 + 1, y3.s1, y3.t, o.ep 3⟩) (hx := ej.2)
structure IL where
 a : Addr
 s : Array (Option Value)
 b : Value
 t1 : Tok
 t2 : Tok
 e : Nat
theorem EJ {w : World} {b : Bool} (a S : Addr) (e : Nat) (lS : List DictEntry) (eS : Nat) :
  dh [dm S] w b 24 (.call (.ref 233) ⟨[.ref a], []⟩) [(a, aa [] e), (S, cK lS eS)] []
   (X := IL) (fun y => y.s.getD 3 none = some y.b) (fun y => .ok (.ret (.ref y.a))) (fun y => [(a, aa [] e), (S, dx lS eS y.s)]) (fun y => [(y.a, aa [.str bD y.t1, .str bD y.t2] y.e)]) := by
 refine dh.qV ?_
 intro d gd u R s K0 A et hL ro post a0
 exists zg, 8, 510051
 refine dN (bB dR 233 s.heap.objs.size []) ?_
 exists zg, 29, 9871136798469260201
 refine cF [0, 2, 1] _ (wV a S (s.heap.objs.size + 0) e [av (au w "numbers") "numbers" (s.toks + 0) (.ref a), av (au w "told") "told" (s.toks + 1) (.ref (s.heap.objs.size + 1))] lS 2 eS) (fun _ h => h) ro.nd (by kernel_rfl) @fun y1 n1 t1 G1 a1 b4 Ec => ?_
 exists zg, 5, 1020406
 refine sQ fun p below l => ?_
 exists ao, (ah (dG (ah (ah (ah (ah (nP (e := cS dR 233 s.heap.objs.size []) (es := [dm S]) (l.envs (by kernel_rfl)) (nQ s.heap.objs.size))))))))
 exists zg, 1, 4
 exists dT, (ah (dG (ah (ah (ah (ah (ah (tN (c := (y1.s1.getD 3 none).isSome) (by rw [b4.1]; rfl) (by kernel_rfl)))))))))
 exists zg, 1, 0
 refine sQ fun p below l => ?_
 exists zg, 44, 310005071211830450719677983986367984744890306
 refine cH [4, 5] (qI y1.a y1.a2 (.ref (n1 + 0)) y1.t) hL.h @fun y2 n2 t2 G2 a2 _ _ => ?_
 exists zg, 21, 7971939094377751
 exact yS (Sy := []) post ro a2 hL 100 2 [true, true] rfl (yT a S (s.heap.objs.size + 0) (s.heap.objs.size + 1) e lS eS y1.s2 y1.b2 b4.2 (s.toks + 0) (s.toks + 1) 4 y1.s1 y1.b1 b4.1 y1.t (ou.ep 3)) (by kernel_rfl) (by kernel_rfl) (List.Sublist.refl _) (by decide)
  (fun x hx => ⟨rfl, rfl, ⟨s.heap.objs.size + 1, x.s, x.b, y1.t, x.t2, x.e2⟩, hx, rfl, rfl, fun p hp => List.mem_of_mem_take (i := 2) hp, fun p hp => by
   rw [List.mem_singleton.mp hp]
   have h1 := et (a, aa [] e) (by simp)
   have h2 := et (S, cK lS eS) (by simp)
   dsimp only at h1 h2
   refine ⟨by simp, ?_, Nat.le_add_right _ _⟩
   show s.heap.objs.size + 1 ∉ [a, S]
   intro h
   rcases List.mem_cons.mp h with h | h
   ·exact absurd h1 (by rw [← h]; exact Nat.not_lt.mpr (Nat.le_add_right _ _))
   ·exact absurd h2 (by rw [← List.mem_singleton.mp h]; exact Nat.not_lt.mpr (Nat.le_add_right _ _)), by simp⟩)
theorem EK {w : World} {b : Bool} (a S : Addr) (e : Nat) (lS : List DictEntry) (eS : Nat) (sS : Array (Option Value)) (bS : Value) (hS : sS.getD 3 none = some bS) :
  dh [dm S] w b 24 (.call (.ref 233) ⟨[.ref a], []⟩) [(a, aa [] e), (S, dx lS eS sS)] []
   (X := IL) (fun y => y.s.getD 3 none = some y.b) (fun y => .ok (.ret (.ref y.a))) (fun y => [(a, aa [] e), (S, dx lS eS y.s)]) (fun y => [(y.a, aa [.str bD y.t1, .str bD y.t2] y.e)]) := by
 refine dh.qV ?_
 intro d gd u R s K0 A et hL ro post a0
 exists zg, 8, 510051
 refine dN (bB dR 233 s.heap.objs.size []) ?_
 exists zg, 29, 9871136798469260201
 refine cF [0, 2, 1] _ (wW a S (s.heap.objs.size + 0) e [av (au w "numbers") "numbers" (s.toks + 0) (.ref a), av (au w "told") "told" (s.toks + 1) (.ref (s.heap.objs.size + 1))] lS 2 eS sS bS hS) (fun _ h => h) ro.nd (by kernel_rfl) @fun y1 n1 t1 G1 a1 b4 Ec => ?_
 exists zg, 5, 1020406
 refine sQ fun p below l => ?_
 exists ao, (ah (dG (ah (ah (ah (ah (nP (e := cS dR 233 s.heap.objs.size []) (es := [dm S]) (l.envs (by kernel_rfl)) (nQ s.heap.objs.size))))))))
 exists zg, 1, 4
 exists dT, (ah (dG (ah (ah (ah (ah (ah (tN (c := (y1.s1.getD 3 none).isSome) (by rw [b4.1]; rfl) (by kernel_rfl)))))))))
 exists zg, 1, 0
 refine sQ fun p below l => ?_
 exists zg, 44, 310005071211830450719677983986367984744890306
 refine cH [4, 5] (qI y1.a y1.a2 (.ref (n1 + 0)) y1.t) hL.h @fun y2 n2 t2 G2 a2 _ _ => ?_
 exists zg, 21, 7971939094377751
 exact yS (Sy := []) post ro a2 hL 100 2 [true, true] rfl (yT a S (s.heap.objs.size + 0) (s.heap.objs.size + 1) e lS eS y1.s2 y1.b2 b4.2 (s.toks + 0) (s.toks + 1) 4 y1.s1 y1.b1 b4.1 y1.t (ou.ep 3)) (by kernel_rfl) (by kernel_rfl) (List.Sublist.refl _) (by decide)
  (fun x hx => ⟨rfl, rfl, ⟨s.heap.objs.size + 1, x.s, x.b, y1.t, x.t2, x.e2⟩, hx, rfl, rfl, fun p hp => List.mem_of_mem_take (i := 2) hp, fun p hp => by
   rw [List.mem_singleton.mp hp]
   have h1 := et (a, aa [] e) (by simp)
   have h2 := et (S, dx lS eS sS) (by simp)
   dsimp only at h1 h2
   refine ⟨by simp, ?_, Nat.le_add_right _ _⟩
   show s.heap.objs.size + 1 ∉ [a, S]
   intro h
   rcases List.mem_cons.mp h with h | h
   ·exact absurd h1 (by rw [← h]; exact Nat.not_lt.mpr (Nat.le_add_right _ _))
   ·exact absurd h2 (by rw [← List.mem_singleton.mp h]; exact Nat.not_lt.mpr (Nat.le_add_right _ _)), by simp⟩)
structure Tl where
 a : Addr
 t1 : Tok
 t2 : Tok
 e : Nat
noncomputable def Tl.K (p : Tl) : Addr × Obj := (p.a, aa [.str bD p.t1, .str bD p.t2] p.e)
noncomputable abbrev cR (l : List Tl) : List Value := l.map fun p => .ref p.a
structure EN where
 l : List Tl
 ed : Nat
 it : Obj
 c : Option Value
 s : Array (Option Value)
 b : Value
noncomputable def LG (z : Bool) (lS : List DictEntry) (eS : Nat) (o : Obj) : Prop := (z = true ∧ o = cK lS eS) ∨ ∃ sS bS, sS.getD 3 none = some bS ∧ o = dx lS eS sS
theorem EL {w : World} {b : Bool} (it D L J aD acc : Addr) (eD n : Nat) (La : n ≤ 5) (lS : List DictEntry) (eS : Nat) :
 ∀ (m j : Nat) (hm : j + m = n) (c : Option Value) (xs : List Value) (hx : xs.length + m ≤ 100) (ed : Nat) (o : Obj) (ho : LG (decide (j = 0)) lS eS o),
  dh [dm L] w b 26 (bF qt it acc (lA D L J)) [(it, cj j m), (D, ay [] 0), (acc, aa xs ed), (J, cY c), (L + 8, ai (.ref aD)), (aD, aa (refs []) eD), (L, o)] []
   (X := EN) (fun y => y.l.length = m ∧ ((n = 0 ∧ y.s = #[]) ∨ y.s.getD 3 none = some y.b)) (fun _ => .ok .next)
   (fun y => [(it, y.it), (D, ay [] 0), (acc, aa (xs ++ cR y.l) y.ed), (J, cY y.c), (L + 8, ai (.ref aD)), (aD, aa (refs []) eD), (L, (dx lS eS y.s))]) (fun y => y.l.map Tl.K) := by
 intro m
 induction m with
 | zero =>
  intro j hm c xs hx ed o ho
  obtain ⟨sS, bS, hs, rfl⟩ : ∃ sS bS, ((n = 0 ∧ sS = #[]) ∨ sS.getD 3 none = some bS) ∧ o = dx lS eS sS := by
   rcases ho with ⟨h, rfl⟩ | ⟨sS, bS, h, rfl⟩
   ·exact ⟨#[], .none, .inl ⟨by have := of_decide_eq_true h; lia, rfl⟩, rfl⟩
   ·exact ⟨sS, bS, .inr h, rfl⟩
  refine dh.eN ?_
  intro d gd u Rr s K0 A hL ro post a0
  exists zg, 3, 102
  refine d0 [0] (g9 it j) @fun y n1 t1 G1 a1 _ _ => ?_
  exists zg, 2, 10
  exact od post ro a1 7 [] (fun _ => ⟨[], ed, y.2.2, c, sS, bS⟩) ⟨rfl, hs⟩ (fun _ => [(it, y.2.2), (D, ay [] 0), (acc, aa xs ed), (J, cY c), (L + 8, ai (.ref aD)), (aD, aa (refs []) eD), (L, (dx lS eS sS))]) (by kernel_rfl) (by simp) (by kernel_rfl) ak
 | succ m ih =>
  intro j hm c xs hx ed o ho
  have EO := fun (D2 EP wY : Addr) (y1 : Tok) b => (rD (w := w) (b := b) EP aD D2 L J wY (jj := 0) (mm := 0) [] _ (uS EP aD D2 L J wY [] (by simp) eD j y1 (by exact o4) (fun p hp => nomatch hp) [] (fun p hp => nomatch hp) (gO [] j) 0 0 rfl (ay [] 0) (.inl ⟨rfl, rfl⟩) [] rfl (by simp) 0)).imp'
   (Y := Nat × Obj) (P' := fun _ => True) (dJ := fun _ => .ok .next)
   (dK := fun y => [(EP, y.2), (D2, ay [] 0), (wY, aa [] y.1), (aD, aa (refs []) eD), (J, ai (.int j y1))]) (dO := fun _ => [])
   (fun x hx => ⟨(x.1, x.2.2), trivial, rfl, by rw [Dq.zero hx]; rfl, rfl⟩)
  have ax := fun (c' : Option Value) (v : Value) b8 sS bS (hs : sS.getD 3 none = some bS) => ih (j + 1) (by exact cJ) c' (xs ++ [v]) (by simp; exact gm) b8 (dx lS eS sS) (.inr ⟨sS, bS, hs, rfl⟩)
  have lE : xs.length ≤ 1000 := by exact gA
  clear ih
  rcases ho with ⟨_, rfl⟩ | ⟨sS, bS, hS, rfl⟩
  ·refine dh.eN ?_
   intro d gd u Rr s K0 A hL ro post a0
   exists zg, 3, 102
   refine d0 [0] (du it j m) @fun y1 n1 t1 _ _ _ _ => ?_
   (refine gB 13 2232002755 ?_; intro ou)
   exists zg, 9, 13627851
   refine d0 [7, 9, 8, 5, 3] (EO (n1 + 2) (n1 + 0) (n1 + 1) y1 _) @fun y2 n2 t2 G2 a2 _ _ => ?_
   exists zg, 4, 5061
   refine cF [8, 6] _ (EJ (n1 + 1) L y2.1 lS eS) (fun _ h => h) ro.nd (by kernel_rfl) @fun y3 n3 t3 G3 a3 ej kf => ?_
   exists zg, 2, 2
   refine d0 [2] (bT acc xs ed (.ref y3.a) lE) @fun y4 n4 t4 G4 a4 _ _ => ?_
   exists zg, 1, 2
   refine aF ro a4 hL rfl [0, 1, 2, 3, 4, 5, 6] (ax (some (.int j y1)) (.ref y3.a) y4 y3.s y3.b ej) (by kernel_rfl) (by kernel_rfl) fun y n5 t5 G5 a5 hy hN => ?_
   exact te post ro a5 7 4 [false, false, false, true] ⟨⟨y3.a, y3.t1, y3.t2, y3.e⟩ :: y.l, y.ed, y.it, y.c, y.s, y.b⟩ ⟨congrArg (· + 1) hy.1, hy.2⟩ rfl ((by kernel_rfl : bk 7 _ = [(it, y.it), (D, ay [] 0), (acc, aa (xs ++ [.ref y3.a] ++ cR y.l) y.ed), (J, cY y.c), (L + 8, ai (.ref aD)), (aD, aa (refs []) eD), (L, (dx lS eS y.s))]).trans (by simp)) (by kernel_rfl) (by kernel_rfl) (ar (kf (y3.a, aa [.str bD y3.t1, .str bD y3.t2] y3.e) (by simp)) hN)
  ·refine dh.eN ?_
   intro d gd u Rr s K0 A hL ro post a0
   exists zg, 3, 102
   refine d0 [0] (du it j m) @fun y1 n1 t1 _ _ _ _ => ?_
   (refine gB 13 2232002755 ?_; intro ou)
   exists zg, 9, 13627851
   refine d0 [7, 9, 8, 5, 3] (EO (n1 + 2) (n1 + 0) (n1 + 1) y1 _) @fun y2 n2 t2 G2 a2 _ _ => ?_
   exists zg, 4, 5061
   refine cF [8, 6] _ (EK (n1 + 1) L y2.1 lS eS sS bS hS) (fun _ h => h) ro.nd (by kernel_rfl) @fun y3 n3 t3 G3 a3 ej kf => ?_
   exists zg, 2, 2
   refine d0 [2] (bT acc xs ed (.ref y3.a) lE) @fun y4 n4 t4 G4 a4 _ _ => ?_
   exists zg, 1, 2
   refine aF ro a4 hL rfl [0, 1, 2, 3, 4, 5, 6] (ax (some (.int j y1)) (.ref y3.a) y4 y3.s y3.b ej) (by kernel_rfl) (by kernel_rfl) fun y n5 t5 G5 a5 hy hN => ?_
   exact te post ro a5 7 4 [false, false, false, true] ⟨⟨y3.a, y3.t1, y3.t2, y3.e⟩ :: y.l, y.ed, y.it, y.c, y.s, y.b⟩ ⟨congrArg (· + 1) hy.1, hy.2⟩ rfl ((by kernel_rfl : bk 7 _ = [(it, y.it), (D, ay [] 0), (acc, aa (xs ++ [.ref y3.a] ++ cR y.l) y.ed), (J, cY y.c), (L + 8, ai (.ref aD)), (aD, aa (refs []) eD), (L, (dx lS eS y.s))]).trans (by simp)) (by kernel_rfl) (by kernel_rfl) (ar (kf (y3.a, aa [.str bD y3.t1, .str bD y3.t2] y3.e) (by simp)) hN)
theorem ER (a x : Addr) (e : Nat) (tn : Tok) :
  af w b 4 (.call (.builtin "list.__mul__") ⟨[.ref a, .int (1 : Nat) tn], []⟩) [(a, aa [.ref x] e)] []
   (X := Addr × Nat) (fun _ => True) (fun y => .ok (.ret (.ref y.1))) (fun _ => [(a, aa [.ref x] e)]) (fun y => [(y.1, aa (List.replicate 1 (.ref x)) y.2)]) := by
 exists zA, 5, 5052, zd, zc, a0
 exact zM 1 [true] (fun o => (zc.S, o.ep 1)) (hs := (ar (Nat.le_refl _) ak))
theorem ES (a x : Addr) (e : Nat) (tn : Tok) :
  af w b 4 (.call (.builtin "list.__mul__") ⟨[.ref a, .int (2 : Nat) tn], []⟩) [(a, aa [.ref x] e)] []
   (X := Addr × Nat) (fun _ => True) (fun y => .ok (.ret (.ref y.1))) (fun _ => [(a, aa [.ref x] e)]) (fun y => [(y.1, aa (List.replicate 2 (.ref x)) y.2)]) := by
 exists zA, 5, 5052, zd, zc, a0
 exact zM 1 [true] (fun o => (zc.S, o.ep 1)) (hs := (ar (Nat.le_refl _) ak))
theorem ET (a x : Addr) (e : Nat) (tn : Tok) :
  af w b 4 (.call (.builtin "list.__mul__") ⟨[.ref a, .int (3 : Nat) tn], []⟩) [(a, aa [.ref x] e)] []
   (X := Addr × Nat) (fun _ => True) (fun y => .ok (.ret (.ref y.1))) (fun _ => [(a, aa [.ref x] e)]) (fun y => [(y.1, aa (List.replicate 3 (.ref x)) y.2)]) := by
 exists zA, 5, 5052, zd, zc, a0
 exact zM 1 [true] (fun o => (zc.S, o.ep 1)) (hs := (ar (Nat.le_refl _) ak))
theorem EU (a x : Addr) (e : Nat) (tn : Tok) :
  af w b 4 (.call (.builtin "list.__mul__") ⟨[.ref a, .int (4 : Nat) tn], []⟩) [(a, aa [.ref x] e)] []
   (X := Addr × Nat) (fun _ => True) (fun y => .ok (.ret (.ref y.1))) (fun _ => [(a, aa [.ref x] e)]) (fun y => [(y.1, aa (List.replicate 4 (.ref x)) y.2)]) := by
 exists zA, 5, 5052, zd, zc, a0
 exact zM 1 [true] (fun o => (zc.S, o.ep 1)) (hs := (ar (Nat.le_refl _) ak))
theorem EV (a x : Addr) (e : Nat) (tn : Tok) :
  af w b 4 (.call (.builtin "list.__mul__") ⟨[.ref a, .int (5 : Nat) tn], []⟩) [(a, aa [.ref x] e)] []
   (X := Addr × Nat) (fun _ => True) (fun y => .ok (.ret (.ref y.1))) (fun _ => [(a, aa [.ref x] e)]) (fun y => [(y.1, aa (List.replicate 5 (.ref x)) y.2)]) := by
 exists zA, 5, 5052, zd, zc, a0
 exact zM 1 [true] (fun o => (zc.S, o.ep 1)) (hs := (ar (Nat.le_refl _) ak))
set_option smartUnfolding true
theorem J4 (a x : Addr) (e : Nat) (n : Nat) (h1 : 1 ≤ n) (h5 : n ≤ 5) (tn : Tok) :
  af w b 4 (.call (.builtin "list.__mul__") ⟨[.ref a, .int (n : Nat) tn], []⟩) [(a, aa [.ref x] e)] []
   (X := Addr × Nat) (fun _ => True) (fun y => .ok (.ret (.ref y.1))) (fun _ => [(a, aa [.ref x] e)]) (fun y => [(y.1, aa (List.replicate n (.ref x)) y.2)]) :=
 match n, h1, h5 with
 | 1, _, _ => ER a x e tn
 | 2, _, _ => ES a x e tn
 | 3, _, _ => ET a x e tn
 | 4, _, _ => EU a x e tn
 | 5, _, _ => EV a x e tn
set_option smartUnfolding false
theorem J5 (a1 a2 : Addr) (t1 t2 u1 u2 : Tok) (e1 e2 : Nat) :
  af w b 4 (.call (.builtin "list.__eq__") ⟨[.ref a1, .ref a2], []⟩) [(a1, aa [.str bD t1, .str bD t2] e1), (a2, aa [.str bD u1, .str bD u2] e2)] []
   (X := Unit) (fun _ => True) (fun y => .ok (.ret (.bool true))) (fun y => [(a1, aa [.str bD t1, .str bD t2] e1), (a2, aa [.str bD u1, .str bD u2] e2)]) (fun y => []) := by
 by_cases h1 : Value.str bD t1 = Value.str bD u1
 ·by_cases h2 : Value.str bD t2 = Value.str bD u2
  ·exists zA, 8, 2375331507552, zd, zc, a0
   exists dT, ah (bt (cy h1))
   exists zg, 4, 7601
   exists dT, ah (bt (cy h2))
   exists zg, 7, 19007601
   exact zM 2 [] (fun _ => ())
  ·exists zA, 8, 2375331507552, zd, zc, a0
   exists dT, ah (bt (cy h1))
   exists zg, 4, 7601
   exists dT, ah (bf (b5 h2))
   exists yg, 2, 2
   exists zH, 6, 19007601, [], (jX bD bD t2 u2).ck rfl, _, n1, k1
   exact zM 2 [] (fun _ => ())
 ·by_cases h2 : Value.str bD t2 = Value.str bD u2
  ·exists zA, 8, 2375331507552, zd, zc, a0
   exists dT, ah (bf (b5 h1))
   exists yg, 2, 2
   exists zH, 3, 7601, [], (jX bD bD t1 u1).ck rfl, _, n1, k1
   exists dT, ah (bt (cy h2))
   exists zg, 7, 19007601
   exact zM 2 [] (fun _ => ())
  ·exists zA, 8, 2375331507552, zd, zc, a0
   exists dT, ah (bf (b5 h1))
   exists yg, 2, 2
   exists zH, 3, 7601, [], (jX bD bD t1 u1).ck rfl, _, n1, k1
   exists dT, ah (bf (b5 h2))
   exists yg, 2, 2
   exists zH, 6, 19007601, [], (jX bD bD t2 u2).ck rfl, _, n2, k2
   exact zM 2 [] (fun _ => ())
set_option smartUnfolding true
theorem J6 (p : Tl) (a2 : Addr) (u1 u2 : Tok) (e2 : Nat) :
  af w b 4 (.call (.builtin "list.__eq__") ⟨[.ref p.a, .ref a2], []⟩) [] [(a2, aa [.str bD u1, .str bD u2] e2), p.K]
   (X := Unit) (fun _ => True) (fun y => .ok (.ret (.bool true))) (fun y => []) (fun y => []) :=
 (af.iL (K := []) (T1 := [p.K, (a2, aa [.str bD u1, .str bD u2] e2)]) (T := []) (Kf := fun (_ : Unit) => []) (J5 p.a a2 p.t1 p.t2 u1 u2 p.e e2)).perm (List.Perm.swap _ _ [])
theorem vh (l : List Tl) (j : Nat) : (cR l)[j]? = (l[j]?).map fun p => .ref p.a := by simp [cR]
set_option smartUnfolding false
theorem EY (aM aP aI : Addr) (tl : List Tl) (n : Nat) (hn : tl.length = n) (eM eP eI : Nat) (u1 u2 : Tok) :
 ∀ (m j : Nat) (hm : j + m = n),
  af w b 8 (.builtin "list.__eq__.loop" ⟨[.ref aM, .ref aP, .int j 0, .int (2 : Nat) 0], []⟩) [(aM, aa (cR tl) eM), (aP, aa (List.replicate n (.ref aI)) eP), (aI, aa [.str bD u1, .str bD u2] eI)] (tl.map Tl.K)
   (X := Bool) (fun y => y = true) (fun y => .ok (.ret (.bool y))) (fun y => [(aM, aa (cR tl) eM), (aP, aa (List.replicate n (.ref aI)) eP), (aI, aa [.str bD u1, .str bD u2] eI)]) (fun y => []) := by
 intro m
 induction m with
 | zero =>
  intro j hm
  have iU : (cR tl)[j]? = none := by simp [cR]; lia
  have hlen : ((⟨cR tl⟩ : Array Value).size == (⟨List.replicate n (.ref aI)⟩ : Array Value).size) = true := by simp [cR, hn]
  exists zA, 2, 152, zd, zc, a0
  refine dM ?_
  with_unfolding_all conv => (arg 5; whnf)
  generalize hg : @getElem? (Array Value) Nat Value (fun xs i => i < xs.size) _ (⟨cR tl⟩ : Array Value) _ = oe
  obtain rfl : oe = none := hg.symm.trans (Eq.trans (b := (⟨cR tl⟩ : Array Value)[j]?) (by kernel_rfl) (by simpa using iU))
  clear hg
  exists zg, 3, 152
  exact zN 3 [] ((⟨cR tl⟩ : Array Value).size == (⟨List.replicate n (.ref aI)⟩ : Array Value).size) (hx := hlen)
 | succ m ih =>
  intro j hm
  obtain ⟨tp, hp⟩ : ∃ q, tl[j]? = some q := ⟨tl[j]'(by lia), List.getElem?_eq_getElem (by lia)⟩
  have iU : (cR tl)[j]? = some (.ref tp.a) := by rw [vh, hp]; rfl
  have LH : (List.replicate n (Value.ref aI))[j]? = some (.ref aI) := by rw [List.getElem?_replicate, if_pos (by exact cf)]
  have bW : tp.K ∈ tl.map Tl.K := List.mem_map_of_mem (List.mem_of_getElem? hp)
  have ax := ih (j + 1) (by exact cJ)
  clear ih
  (refine zB ?_; intro zd zc a0)
  have cB : ¬ (Value.ref tp.a = .ref aI) := by
   intro h
   injection h with h
   exact zc.ro.off tp.K bW (by show tp.a ∈ [aM, aP, aI]; rw [h]; simp)
  exists zg, 2, 152
  refine dM ?_
  with_unfolding_all conv => (arg 5; whnf)
  generalize hg : @getElem? (Array Value) Nat Value (fun xs i => i < xs.size) _ (⟨cR tl⟩ : Array Value) _ = oe
  obtain rfl : oe = some (.ref tp.a) := hg.symm.trans (Eq.trans (b := (⟨cR tl⟩ : Array Value)[j]?) (by kernel_rfl) (by simpa using iU))
  clear hg
  with_unfolding_all conv => (arg 5; whnf)
  generalize hg : @getElem? (Array Value) Nat Value (fun xs i => i < xs.size) _ (⟨List.replicate n (Value.ref aI)⟩ : Array Value) _ = oe
  obtain rfl : oe = some (.ref aI) := hg.symm.trans (Eq.trans (b := (⟨List.replicate n (Value.ref aI)⟩ : Array Value)[j]?) (by kernel_rfl) (by rw [List.getElem?_toArray]; exact LH))
  clear hg
  exists ao, ah (fB (bf (b5 cB)))
  exists zg, 1, 0
  refine sQ fun p below l => ?_
  with_unfolding_all conv => (arg 5; whnf; arg @29; whnf; arg @29; whnf; arg @29; whnf; arg @29; whnf; arg @29; whnf)
  refine ao (rc (rc (rc (rc (rc (bf (d5 l zc.hL (by kernel_rfl)))))))) ?_
  exists zg, 0, 0
  (refine zQ 1 4 tp.K bW ?_; intro ou)
  refine zX tp.K bW ?_
  exists yg, 2, 2
  (refine zG (Ta := [(aI, aa [.str bD u1, .str bD u2] eI)]) 1 2 [] [2] [tp.K] (J6 tp aI u1 u2 eI) (fun x hx => by rw [List.mem_singleton.mp hx]; exact bW) (dQ _) fun _ n2 t2 => ?_; intro ou)
  exact zO [0, 1, 2] ax
theorem He (aM aP aI : Addr) (tl : List Tl) (n : Nat) (hn : tl.length = n) (eM eP eI : Nat) (u1 u2 : Tok) :
  af w b 9 (.call (.builtin "list.__eq__") ⟨[.ref aM, .ref aP], []⟩) [(aM, aa (cR tl) eM), (aP, aa (List.replicate n (.ref aI)) eP), (aI, aa [.str bD u1, .str bD u2] eI)] (tl.map Tl.K)
   (X := Bool) (fun y => y = true) (fun y => .ok (.ret (.bool y))) (fun y => [(aM, aa (cR tl) eM), (aP, aa (List.replicate n (.ref aI)) eP), (aI, aa [.str bD u1, .str bD u2] eI)]) (fun y => []) := by
 have h := EY (w := w) (b := b) aM aP aI tl n hn eM eP eI u1 u2 n 0 (by exact Nat.zero_add _)
 have hb : (!((⟨cR tl⟩ : Array Value).size == (⟨List.replicate n (.ref aI)⟩ : Array Value).size)) = false := by simp [cR, hn]
 exists zA, 5, 19007552, zd, zc, a0
 exists dT, Cd hb (by kernel_rfl)
 exists zg, 1, 2
 exact zO [0, 1, 2] h
set_option smartUnfolding true
theorem J7 (aM aP aI : Addr) (tl : List Tl) (n : Nat) (hn : tl.length = n) (eM eP eI : Nat) (u1 u2 : Tok) :
  af w b 9 (.call (.builtin "list.__eq__") ⟨[.ref aM, .ref aP], []⟩) [(aM, aa (cR tl) eM), (aP, aa (List.replicate n (.ref aI)) eP), (aI, aa [.str bD u1, .str bD u2] eI)] (tl.map Tl.K)
   (X := Unit) (fun y => True) (fun y => .ok (.ret (.bool true))) (fun y => [(aM, aa (cR tl) eM), (aP, aa (List.replicate n (.ref aI)) eP), (aI, aa [.str bD u1, .str bD u2] eI)]) (fun y => []) :=
 (He aM aP aI tl n hn eM eP eI u1 u2).imp' fun x hx => ⟨(), trivial, by rw [hx], rfl, rfl⟩
set_option smartUnfolding false
theorem EZ (S aX aC aW aU aF aD : Addr) (q0 q1 sX sC sU : Obj) (bK : bg q0) (bR : bo q1) (k0 k1 k2 k3 k4 k5 k6 k7 tt tf : Tok) (ba : Int) (front : Str) (v4 v5 v6 v7 : Value) (ep wd hd ends : Nat) (rJ : 1 ≤ ends) (ki : ends ≤ 5) (tw th tn : Tok) (ws : List (Str × Tok)) (ew : Nat) (ab : List Ct) (ef eD : Nat) (aM eM : Nat) (k8 : Tok) (sS : Array (Option Value)) (tl : List Tl) (hl : tl.length = ends) :
  bH w b 28 (bN S) .base (b6 S 14) (mR w S aX aC aW q0 q1 sX (dx [fe w "script" k0 (.ref aX), fe w "total" k1 (.int ba tt), fe w "front" k2 (.str front tf), fe w "cuts" k3 (.ref aU), fe w "turn" k4 v4, fe w "cut" k5 v5, fe w "rows" k6 v6, fe w "fits" k7 v7, fe w "middles" k8 (.ref aM)] ep sS) wd hd ends tw th tn sC ws ew (ai (.ref aF)) (ai (.ref aD)) ae ae ae ae ae ae ae ae [(aU, sU), (aF, aa (refs ab) ef), (aD, aa (refs []) eD), (aM, aa (cR tl) eM)]) (tl.map Tl.K ++ ab.map Ct.K) := by
 (refine zF ?_; intro zd zc hsz a)
 have ry : ((tl.map Tl.K).map (·.1)).Nodup := by
  have := zc.ro.nd
  rw [List.map_append, List.nodup_append] at this
  exact this.1
 exists zg, 7, 13
 refine sQ fun p below l => ?_
 with_unfolding_all conv => (arg 5; whnf; arg @29; whnf; arg @29; whnf; arg @29; whnf; arg @29; whnf; arg @29; whnf; arg @29; whnf; arg @29; whnf; arg @29; whnf; arg @29; whnf)
 refine ao (rc (rc (rc (rc (rc (rc (rc (rc (rc (bf (d5 l zc.hL (by kernel_rfl)))))))))))) ?_
 exists yg, 5, 313875
 exists zH, 22, 2024693948055, [23, 25], rq aD (zc.S + 0) eD 0, _, n1, t1
 exists zH, 2, 0, [27], J4 (n1 + 1) (n1 + 0) 0 ends rJ ki tn, y2, n2, t2
 refine sQ fun p below l => ?_
 with_unfolding_all conv => (arg 5; whnf; arg @29; whnf; arg @29; whnf; arg @29; whnf; arg @29; whnf; arg @29; whnf; arg @29; whnf; arg @29; whnf; arg @29; whnf; arg @29; whnf)
 refine ao (rc (rc (rc (rc (rc (rc (rc (rc (rc (bf (d5 l zc.hL (by kernel_rfl)))))))))))) ?_
 exists yg, 5, 316526
 (refine zG (Ta := []) 2 0 [24, 28, 26] [] (tl.map Tl.K) (J7 aM y2.1 (n1 + 0) tl ends hl eM y2.2 0 (t1 + 0) (t1 + 1)) (fun x hx => List.mem_append_left _ hx) ry fun _ n3 t3 => ?_; intro ou)
 exact zM 25 [] (fun o => (140, q0) :: (147, q1) :: cu 2 (bk 25 o.qs.K)) (hx := ⟨by kernel_rfl, ⟨q0, q1, _, rfl, bK, bR⟩, by kernel_rfl⟩)
theorem Ba {w : World} {b : Bool} (it D L J aD acc : Addr) (eD n : Nat) (lS : List DictEntry) (eS : Nat) {X : Type} {P : X → Prop} {rf : X → Result} {Kf Nf : X → KS}
  (H : dh [dm L] w b 26 (bF qt it acc (lA D L J)) [(it, cj 0 n), (D, ay [] 0), (acc, aa [] 0), (J, cY none), (L + 8, ai (.ref aD)), (aD, aa (refs []) eD), (L, cK lS eS)] [] P rf Kf Nf) :
  dh [dm L] w b 27 (cx qt it acc (lA D L J)) [(it, cj 0 n), (D, ay [] 0), (acc, aa [] 0), (J, cY none), (L + 8, ai (.ref aD)), (aD, aa (refs []) eD), (L, cK lS eS)] [] P rf Kf Nf := by
 obtain ⟨w, c, rfl⟩ := d6 w
 cases c
 ·refine dh.eN ?_
  intro d gd u Rr s K0 A hL ro post a0
  (refine gB 6 102 ?_; intro ou)
  exists zg, 6, 12752601
  exact tF [0, 1, 2, 3, 4, 5, 6] rfl H
 ·refine dh.eN ?_
  intro d gd u Rr s K0 A hL ro post a0
  exists zg, 2, 2
  exact tF [0, 1, 2, 3, 4, 5, 6] rfl H
theorem og.eN {n : Nat} {c : Code} {κ : Kn} {t : Sem Fin} {K T : KS} {X : Type} {P : X → Prop} {rf : X → Result} {Kf Nf : X → KS} (H : ∀ (d : Nat) (fr : List Env) (gd : Option (List Code)) (u : Nat) (R : Result → Shared → Prop) (s : Shared), let K0 := K; let A : Around := ⟨none, d, some fr, gd, u⟩; 250 < s.heap.objs.size → Lv n A → Ro w s K0 T → cC w s R K0 T P rf Kf Nf → At s s.heap.objs.size s.toks s.gens.toList → br (az w b A R s K0 s.heap.objs.size s.toks s.gens.toList) c none κ t K 0 0 [] []) : og w b n c κ t K T P rf Kf Nf := fun A R s hL I post => by
 obtain ⟨d, fr, gd, u, rfl⟩ := hL.A
 exact hV I fun ro => H d fr gd u R s I.sz hL ro post (At.start s)
theorem J8 (S aX aC aW aU aF aD : Addr) (q0 q1 sX sC sU : Obj) (bK : bg q0) (bR : bo q1) (k0 k1 k2 k3 k4 k5 k6 k7 tt tf : Tok) (ba : Int) (front : Str) (v4 v5 v6 v7 : Value) (ep wd hd ends : Nat) (rJ : 1 ≤ ends) (ki : ends ≤ 5) (tw th tn : Tok) (ws : List (Str × Tok)) (ew : Nat) (ab : List Ct) (ef eD : Nat) :
  bH w b 28 (bN S) .base (b6 S 13) (iY w S aX aC aW aU aF q0 q1 sX sC sU k0 k1 k2 k3 k4 k5 k6 k7 tt tf ba front v4 v5 v6 v7 [] ep wd hd ends tw th tn ws ew ab ef ae (ai (.ref aD)) ae ae ae ae ae ae ae [(aD, aa (refs []) eD)]) (ab.map Ct.K) := by
 refine og.eN ?_
 intro d fr gd uu Rr s K0 A hsz hL ro post a
 have cP : fr = [] := Option.some.inj (hL.tp.2 rfl)
 exists zg, 8, 277551
 refine d0 [] (fH ends tn) @fun y1 n1 t1 _ _ _ _ => ?_
 (refine gB 5 1326 ?_; intro ou)
 exists zg, 1, 2
 refine d0 [24] (fI y1.1 ends (by exact aO) y1.2.1 tn y1.2.2) @fun y2 n2 t2 G2 a2 _ _ => ?_
 exists zg, 6, 127
 have hm := fun b => Ba (w := w) (b := b) y2 (n2 + 1) S (n2 + 2) aD (n2 + 0) eD ends [fe w "script" k0 (.ref aX), fe w "total" k1 (.int ba tt), fe w "front" k2 (.str front tf), fe w "cuts" k3 (.ref aU), fe w "turn" k4 v4, fe w "cut" k5 v5, fe w "rows" k6 v6, fe w "fits" k7 v7] ep (EL y2 (n2 + 1) S (n2 + 2) aD (n2 + 0) eD ends ki [fe w "script" k0 (.ref aX), fe w "total" k1 (.int ba tt), fe w "front" k2 (.str front tf), fe w "cuts" k3 (.ref aU), fe w "turn" k4 v4, fe w "cut" k5 v5, fe w "rows" k6 v6, fe w "fits" k7 v7] ep ends 0 (by exact Nat.zero_add _) none [] (by simp; exact aO) 0 _ (.inl ⟨rfl, rfl⟩))
 refine cF [25, 27, 26, 28, 11, 23, 3] [] (hm _) (fun _ h => nomatch h) List.nodup_nil ((by kernel_rfl : _ = some (dm S :: fr)).trans (by rw [cP])) @fun y3 n3 t3 G3 a3 ej kf => ?_
 exists zg, 9, 255
 exact kL post ro a3 hL 29 22 [false, false, true, false, false] (EZ S aX aC aW aU aF aD q0 q1 sX sC sU bK bR k0 k1 k2 k3 k4 k5 k6 k7 tt tf ba front v4 v5 v6 v7 (ep + 1) wd hd ends rJ ki tw th tn ws ew ab ef eD (n2 + 0) y3.ed (t3 + 0) y3.s y3.l ej.1) (by kernel_rfl) (by kernel_rfl) (List.Sublist.refl _) (by decide)
set_option smartUnfolding true
theorem qJ {t : Nat} (h : t ≤ 5) {c : List Nat} (hc : c ∈ lvl t) : Up (0 :: c ++ [6]) ∧ 0 ∉ c := by
 have h2 := uz ((kQ t h).2.2 c hc)
 refine ⟨h2.2, fun h0 => ?_⟩
 have := (uB t h).2 c hc
 exact absurd (this.2.2 0 h0).1 (by decide)
theorem E0 (aX : Addr) (xs : List (Int × Tok)) (hx : xs.length ≤ 63) (e : Nat) (q0 q1 : Obj) (bK : bg q0) (bR : bo q1) :
  af w b 28 (.call (.ref 250) ⟨[.ref aX], []⟩)
   [(140, q0), (147, q1), (aX, aa (aQ xs) e)] []
   (X := KS) (g6 [(140, q0), (147, q1), (aX, aa (aQ xs) e)]) (fun y => oz) id (fun y => []) := by
 refine JW aX xs hx e q0 q1 bK bR fun S aC k0 ep ec => ?_
 rw [show (aQ xs).take 60 = aQ (xs.take 60) by simp [aQ, List.map_take]]
 have dI : (xs.take 60).length ≤ 60 := by simp; lia
 generalize xs.take 60 = cs at dI
 refine JX S aX aC _ cs dI ec k0 ep q0 q1 fun k1 tt ep => ?_
 generalize (cs.map (·.1)).sum = ba
 refine JY S aX aC _ cs dI ec _ ep q0 q1 fun aW ws ew cZ => ?_
 refine Jp S aX aC aW _ _ _ ba tt k0 k1 ep q0 q1 fun th tw => ?_
 have yU := vf (cv cs) 6 0 (by decide)
 rw [← cZ] at yU
 have h6 : ws.length = 6 := by simpa using yU.2
 have bU : ∀ q ∈ ws, c7 q.1 := fun q hq => yU.1 _ (List.mem_map_of_mem hq)
 obtain ⟨iv, CC⟩ := Ha ba
 generalize yB ba = hd at iv
 generalize oF ba = wd at iv CC
 have C : Cfg wd hd (ws.map (·.1)) := ⟨yU.1, by simpa using h6, iv, CC⟩
 have hF := C.mem
 have tX := fun cut h0 => C.text cut h0
 have yV := fun cut kH => C.fit (cut := cut) kH
 generalize FW wd hd (ws.map (·.1)) = F at hF tX yV
 have he := g7 hF
 refine JZ S aX aC aW _ _ ba tt k0 k1 ep q0 q1 bK bR ws bU h6 ew hd wd th tw iv (by lia) fun q0 q1 k2 tf tn ep bK bR => ?_
 rw [tX [] (by simp), C.count]
 refine Ji S aX aC aW _ _ q0 q1 ba tt k0 k1 k2 tf tn th tw _ hd wd (endsF F) he.1 he.2 ws bU h6 ew ep (fun t ht c hc => ?_) fun it aU aw eu ep k3 k4 v4 io nc hR => ?_
 ·rw [yV c (qJ (by lia) hc).1]
  exact Jh F hF t ht c hc
 have E3 : ∀ p ∈ aw, p.n ∈ lvl (endsF F) := fun p hp => nc ▸ List.mem_map_of_mem hp
 have dk : aw.length = (lvl (endsF F)).length := by rw [← nc]; simp
 have K4 := kQ _ he.2
 refine Jk S aX aC aW aU _ _ q0 q1 bK bR ba tt k0 k1 k2 k3 k4 tf tn th tw v4 _ hd wd (endsF F) eu iv (by lia) ws bU h6 ew ep aw (qk he.2 nc) (by lia) (by lia) (fun p hp => ?_) fun aF ab ef t1 t2 t3 v1 v2 v3 ep q0 q1 bK bR gT => ?_
 ·have hu := qJ he.2 (E3 p hp)
  have hr := Gr F hF p.n (E3 p hp)
  rw [tX p.n hu.2, yV p.n hu.1]
  constructor
  ·intro h
   have := congrArg nD h
   rw [C.count, C.count] at this
   exact hr.2 this
  ·intro h
   rw [hr.1 h]
 have hn : nums ab = b0 F := by
  rw [gT]
  unfold b0
  rw [← nc]
  show List.map Ct.n (List.filter _ aw) = List.filter _ (List.map Ct.n aw)
  rw [List.filter_map]
  congr 1
  apply List.filter_congr
  intro p hp
  exact yV p.n (qJ he.2 (E3 p hp)).1
 have LI : ∀ p ∈ ab, p ∈ aw := fun p hp => by rw [gT] at hp; exact (List.mem_filter.mp hp).1
 have eU := kY hF hn
 obtain ⟨pl, dg, LJ⟩ : ∃ pl, ab.getLast? = some pl ∧ pl.n = fi F [] := by
  have h1 := uA F hF
  rw [← hn] at h1
  have eO : (ab.map Ct.n).getLast? = _ := h1
  rw [List.getLast?_map] at eO
  cases h2 : ab.getLast? with
  | none => rw [h2] at eO; cases eO
  | some pl => rw [h2] at eO; exact ⟨pl, rfl, Option.some.inj eO⟩
 refine Gy S aX aC aW aU aF q0 q1 _ _ _ k0 k1 k2 k3 k4 t1 t2 t3 tt tf ba _ v4 v1 v2 v3 ep wd hd (endsF F) tw th tn ws bU h6 ew ab (fun p hp => qk he.2 nc p (LI p hp)) (gT ▸ hR.filter _) ef pl dg (by rw [LJ]) ?_
 refine GC S aX aC aW aU aF q0 q1 _ _ k0 k1 k2 k3 k4 t1 t2 t3 tt tf ba _ v4 v1 v2 v3 ep wd hd (endsF F) tw th tn ws ew ab (by lia) eU.2 ef cs dI ec fun aD eD drawn cW => ?_
 have yw := qu (cs.map (·.1)) ba
 have fD : drawn.length = iZ ba := by rw [cW, List.length_map]; exact yw.1
 by_cases h0 : drawn.length = 0
 ·have LK : drawn = [] := List.length_eq_zero_iff.mp h0
  subst LK
  exact J8 S aX aC aW aU aF aD q0 q1 _ _ _ bK bR k0 k1 k2 k3 k4 t1 t2 t3 tt tf ba _ v4 v1 v2 v3 ep wd hd (endsF F) he.1 he.2 tw th tn ws ew ab ef eD
 ·refine J0 S aX aC aW aU aF aD q0 q1 _ _ _ bK bR k0 k1 k2 k3 k4 t1 t2 t3 tt tf ba _ v4 v1 v2 v3 ep wd hd tw th tn ws ew hF ab hn ef drawn (fun p hp => ?_) (by lia) (by lia) eD
  rw [cW] at hp
  obtain ⟨x, _, rfl⟩ := List.mem_map.mp hp
  exact List.mem_of_getElem? (rA (by lia) x)
theorem Bb (P : Params) : KT.of ((kk P).drop 2) = gV P := by kernel_rfl
theorem E4 (P : Params) : kk P = (140, eJ []) :: (147, eJ []) :: (kk P).drop 2 := by kernel_rfl
noncomputable def E5 (o : Obj) : Array Value := match o.data with
 | .fields v => v
 | _ => #[]
theorem sO {h : Heap} {K : Frag} {t : KT} (A : AllIn h K) (e : KT.of K = t) : KT.Holds h 1 0 t := by
 subst e
 exact holds_of A
theorem E6 {vs : List Value} {ns : List Int} (h : IntsAre vs ns) : ∃ xs : List (Int × Tok), vs = aQ xs ∧ xs.length = ns.length := by
 induction h with
 | nil => exact ⟨[], rfl, rfl⟩
 | cons n t _ ih =>
  obtain ⟨xs, e1, e2⟩ := ih
  exact ⟨(n, t) :: xs, by rw [e1]; rfl, by simp [e2]⟩
theorem yX {h h' : Heap} {c b : Addr} {oc o : Obj} {vs : Array Value} (hc : h.get? c = some oc) (h1 : oc.cls = .type "code") (h2 : oc.data = .fields vs) (h3 : vs[11]? = some (.ref b)) (he : o = eJ [] ∨ ∃ l, o = eJ l) (hb : h'.get? b = some o) : asItWas h h' b (eJ []) := by
 obtain ⟨l, rfl⟩ : ∃ l, o = eJ l := by
  rcases he with h | h
  ·exact ⟨[], h⟩
  ·exact h
 exact .inr (.inl ⟨⟨c, oc, vs, hc, h1, h2, h3⟩, rfl, #[], ⟨l⟩, rfl, by rw [hb]; simp⟩)
theorem J9 {w : World} {s₁ : Shared} {c : ClaimW} {cl : Str → Option Addr} {E7 : ExcName → Option Value} {args : List WData} (A : AllIn s₁.heap (kk w.params)) (hg : s₁.gens = #[]) {bZ : List Value} {ns : List Int} (hI : IntsAre bZ ns)
  (E8 : s₁.heap.get? 251 = some (aa bZ 0)) (hlen : ns.length ≤ 63) (hr : ∀ cls, c.raises args cls = false) (hp : c.post args (.bool true) args = true) :
  wpAny (model prog w) callerA (PySem.call (.ref 250) [.ref 251]) (fun v s' => GoodWG c cl E7 args s₁ (.ok (.ret v)) s') (fun e s' => GoodWG c cl E7 args s₁ (.error e) s') s₁ := by
 obtain ⟨xs, rfl, lE⟩ := E6 hI
 rw [E4] at A
 have A0 : AllIn s₁.heap ((kk w.params).drop 2) := A.2.2
 have H : KT.Holds s₁.heap 1 0 (gV w.params) := sO A0 (Bb w.params)
 have E9 : s₁.heap.get? 140 = some (eJ []) := A.1
 have Fb : s₁.heap.get? 147 = some (eJ []) := A.2.1
 have I : In w s₁ ([(140, eJ []), (147, eJ []), (251, aa (aQ xs) 0)] ++ []) := by
  refine ⟨fun a o e => kt_at H e, fun p hp => ?_, (by decide : [140, 147, 251].Nodup), fun p hp => ?_⟩
  ·simp only [List.append_nil, List.mem_cons, List.not_mem_nil, or_false] at hp
   rcases hp with rfl | rfl | rfl
   ·exact E9
   ·exact Fb
   ·exact E8
  ·simp only [List.append_nil, List.mem_cons, List.not_mem_nil, or_false] at hp
   rcases hp with rfl | rfl | rfl
   ·kernel_rfl
   ·kernel_rfl
   ·kernel_rfl
 have LL : Lv 28 callerA := ⟨rfl, ⟨[], rfl⟩, by decide +kernel, by decide +kernel, by decide, fun _ => rfl⟩
 refine wpAny_call ?_
 have e := BH w
 rw [show model prog w = model prog (dE w (w.params.followText "special-get-raises")) from congrArg (model prog) e]
 refine E0 251 xs (by exact lD) 0 (eJ []) (eJ []) (.inl rfl) (.inl rfl) callerA _ s₁ LL trivial I fun y s' q O hG => ?_
 obtain ⟨h1, ⟨o0, o1, r', rfl, t0, t1⟩, h3⟩ := q
 have hm : ∀ p ∈ (140, o0) :: (147, o1) :: r', s'.heap.get? p.1 = some p.2 := fun p hp => O.fR.mem p (List.mem_append_left _ (List.mem_append_left _ hp))
 have ke : slot r' 0 = some (251, aa (aQ xs) 0) := h3
 have Fc : s'.heap.get? 251 = some (aa (aQ xs) 0) := by
  cases r' with
  | nil => cases ke
  | cons p l =>
   have := hm p (by simp)
   rw [show p = (251, aa (aQ xs) 0) from Option.some.inj ke] at this
   exact this
 have Fd := hm (140, o0) (by simp)
 have Ff := hm (147, o1) (by simp)
 have Ka : asItWas s₁.heap s'.heap 140 (eJ []) := yX (c := 144) (kt_at H (by kernel_rfl : (gV w.params).get 144 = some (mj w.params))) (by kernel_rfl) (by kernel_rfl : (mj w.params).data = .fields (E5 (mj w.params))) (by kernel_rfl) (t0.imp id fun ⟨cb, h⟩ => ⟨_, h⟩) Fd
 have Kb : asItWas s₁.heap s'.heap 147 (eJ []) := yX (c := 151) (kt_at H (by kernel_rfl : (gV w.params).get 151 = some (mn w.params))) (by kernel_rfl) (by kernel_rfl : (mn w.params).data = .fields (E5 (mn w.params))) (by kernel_rfl) (t1.imp id fun ⟨cb, h⟩ => ⟨_, h⟩) Ff
 have key : ∀ b o, s₁.heap.get? b = some o → asItWas s₁.heap s'.heap b o ∧ ∃ o', s'.heap.get? b = some o' := fun b o eb => by
  by_cases e1 : b = 140
  ·subst e1
   rw [E9] at eb
   cases eb
   exact ⟨Ka, _, Fd⟩
  by_cases e2 : b = 147
  ·subst e2
   rw [Fb] at eb
   cases eb
   exact ⟨Kb, _, Ff⟩
  by_cases e3 : b = 251
  ·subst e3
   rw [E8] at eb
   cases eb
   exact ⟨.inl Fc, _, Fc⟩
  have := O.keep b o eb (by
   show b ∉ [140, 147, 251]
   simp [e1, e2, e3])
  exact ⟨.inl this, _, this⟩
 refine ⟨.inl ⟨.bool true, .bool true, [], rfl, hr, ReadsW.bool true, hp, fun _ => ⟨List.nodup_nil, fun _ hm => (nomatch hm)⟩⟩, ⟨fun b o eb => (key b o eb).1, fun b o eb => (key b o eb).2⟩, O.os, ?_⟩
 obtain ⟨l, hl, hf⟩ := hG
 intro g IM
 rw [← Array.mem_toList_iff, hl, hg] at IM
 rw [hf g (by simpa using IM)]
 rfl
theorem lK {h h' : Heap} (k : ∀ b o, h.get? b = some o → h'.get? b = some o) : ∀ {K : Frag}, AllIn h K → AllIn h' K
  | [], _ => trivial
  | _ :: _, A => ⟨k _ _ A.1, lK k A.2⟩
theorem Hf : OpenLaw.wellSaid PySem.Challenge.rw_rs0147_01 = true := by kernel_rfl
theorem LP : PySem.Challenge.rw_rs0147_01.Holds := by
    w_on
    refine holds_law Hf fun said => ?_
    refine holds_openX (q := view) (loose := [Str.ofString "_Accumulator"]) (Xt := fun s => xlAt view [] s && recOk (RowW.records PySem.Challenge.rw_rs0147_01.row.toRowW) s) (XP := XL view []) (Yf := obsZ B1) (Ya := valZ kk 251 496) (N := 3160) hl (fun s e => xl_of s (Bool.and_eq_true_iff.mp e).1) XL.keeps (by rfl) (by rfl) (by rfl) (fun s e => recFacts_of (Bool.and_eq_true_iff.mp e).2) (by rfl) (by decide +kernel) (by decide +kernel) ⟨rfl, rfl, rfl, rfl, rfl, by decide +kernel⟩ ?hw ?hc
    (case hw => w_witness2)
    k_fill
    intro w s₀ s₁ mg mb G y fa o pm cd doc dV kV ho hd hcd hD hmg hg args vals as L hpre hlay hrd hwl hlo
    have Z := z_facts zu y
    refine Ground.open G ?_
    intro T B D TE TW
    wrow_args hpre hlay hrd hwl hlo
    obtain ⟨hat, hsz⟩ := script_at L
    have htk := script_toks L Z.2.2.2
    rw [Z.2.2.1] at hat hsz
    subst hat
    have KX : Frag.In (kk w.params) s₁.heap := InK.keeps w s₀.heap s₁.heap Z.2.1 (Laid.keeps L)
    have KA := lK (Laid.keeps L) Z.1
    x_fa T KX hmg
    have hI := ‹IntsAre _ _›
    have hl := ‹¬ _ < _›
    refine J9 KA hg hI (script_obj L (by assumption)) (by omega) (fun _ => rfl) ?_
    first | rfl | wrow_post
end Mine
theorem PySem.Challenge.cw_rs0147_01_holds : PySem.Challenge.rw_rs0147_01.Holds :=
 Mine.LP
