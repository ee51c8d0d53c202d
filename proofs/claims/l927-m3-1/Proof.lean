import JvmDerived
import JvmDerived.Pilot.@@N@@Statement
import JvmDerived.Pilot.@@N@@Code
set_option linter.unusedVariables false
set_option linter.unusedSimpArgs false
namespace Jvm.RoadKit
open Sem ClassFile Op Lib Jvm.Stand Jvm.Free Jvm.LawKit
section New
variable {p : Program} {l : Launch} {e : Env} {R : Room} {s : State} {m : MethodId} {args : Array Value} {below : List Frame} {meth : Method} {c : Code} {T : State} {locs : List Loc} {cells slots : Nat}
theorem retI (X : Stand p l e R s m args below meth c T locs cells slots) (hx : p.tables.exec = Jvm.exec) {pc : Nat} {Ls : Array Slot} {z : Int32} {rest : List Value} (hret : meth.sig.returnType = some .int) (hd : decode c.code pc = .ok (.ireturn, 1)) {fs : List Frame}
    (hl : ∀ (f : JFrame) (acts : List Action), f.method = m → f.locked = none → f.entered = [] → (doReturn e (T.setTop f) acts (some (.int z))).1 = T.setFrames fs) : Steps p.tables e below (T.setTop (mkF m pc Ls (.int z :: rest))) (T.setFrames fs) := by
  have hm' : T.vm.method? m = some meth := X.method'
  have hn : narrow .int (.int z) = .int z := rfl
  show Steps p.tables e below (T.setTop { method := m, pc := pc, locals := Ls, stack := _ :: rest, locked := none }) _
  jvm_step X.here [X.here.top, hx, hd, hm', hret, hn]
  first | (intro acts; rw [hl _ acts rfl rfl rfl]) | rw [hl _ _ rfl rfl rfl]
  exact Steps.refl _
end New
end Jvm.RoadKit
namespace Jvm.Pilot.@@N@@
open Jvm Jvm.ClassFile Sem Op Lib Jvm.Free Jvm.Stand Jvm.LawKit Jvm.RoadKit Bundle Jvm.Pilot.@@N@@.Jvm.D
theorem own_staK {Z : State} {h h' : Heap} {C n d : String} {v : Value} {ws : List Addr} (F : Sta Z h C n d v) (K : Keep h h' ws) (q : ∀ x ∈ ws, ∃ C', Exa Z h x C') : Sta Z h' C n d v := by
  obtain ⟨cf, i, k, f, st, cell, h1, h2, h3, h4, h5, h6, r⟩ := F
  refine ⟨cf, i, k, f, st, cell, h1, h2, h3, h4, K.2.1 _ _ h5 (fun hm => ?_), h6, r⟩
  obtain ⟨C', cell', k', e1, -, -, e4, -⟩ := q _ hm
  cases h5.symm.trans e1
  rw [h6] at e4; cases e4
theorem own_eqI {args : Array Value} {first s : State} {o : Option Outcome} {idx : List Nat} {a : Term} {n : Int32} (h : (Jvm.Cond.eq a (Term.int n)).value args first o s idx = some true) : a.eval args first o idx s = some (.int n) := by
  obtain ⟨x, y, h1, h2, -, -⟩ := cmp_v (Or.inl h)
  cases h2.symm.trans (Term.int_eval n)
  cases x <;> simp [Cond.value, h1, h2] at h
  rw [h1, h]
theorem own_eqR {args : Array Value} {first s : State} {o : Option Outcome} {idx : List Nat} {a b : Term} {x : Addr} (h : (Jvm.Cond.eq a b).value args first o s idx = some true) (hb : b.eval args first o idx s = some (.ref x)) : a.eval args first o idx s = some (.ref x) := by
  obtain ⟨u, y, h1, h2, -, -⟩ := cmp_v (Or.inl h)
  cases h2.symm.trans hb
  cases u <;> simp [Cond.value, h1, h2] at h
  rw [h1, h]
theorem own_eqL {args : Array Value} {first s : State} {o : Option Outcome} {idx : List Nat} {a : Term} {n : Int64} (h : (Jvm.Cond.eq a (Term.long n)).value args first o s idx = some true) : a.eval args first o idx s = some (.long n) := by
  obtain ⟨x, y, h1, h2, -, -⟩ := cmp_v (Or.inl h)
  cases h2.symm.trans (long_at n)
  cases x <;> simp [Cond.value, h1, h2] at h
  rw [h1, h]
theorem own_len {args : Array Value} {s : State} {t : Term} {a : Addr} {cl : Cell} {n : Int32} (ht : t.eval args s none [] s = some (.ref a)) (ha : s.arrayAt? a = some cl) (h : (Jvm.Cond.eq (Term.length t) (Term.int n)).value args s none s [] = some true) : cl.slots.size < 2 ^ 31 ∧ cl.slots.size.toInt32 = n := by
  have e := own_eqI h
  by_cases q : cl.slots.size < 2 ^ 31
  · rw [len_f ht ha q] at e
    exact ⟨q, Value.int.inj (Option.some.inj e)⟩
  · simp [Term.eval, ht, ha, q] at e
-- bits
abbrev own_B := BitVec 64
theorem own_ne0 {x : own_B} : x ≠ 0#64 ↔ ∃ i, x.getLsbD i = true := by
  constructor
  · intro h
    refine Classical.byContradiction fun q => h (BitVec.eq_of_getLsbD_eq fun i hi => ?_)
    have : ¬ x.getLsbD i = true := fun r => q ⟨i, r⟩
    simpa using this
  · rintro ⟨i, h⟩ rfl
    simp at h
def own_L (k : Nat) (m x : own_B) : own_B := (x <<< k) &&& m
def own_R (k : Nat) (m x : own_B) : own_B := (x >>> k) &&& m
theorem own_Lb {k : Nat} {m x : own_B} {i : Nat} : (own_L k m x).getLsbD i = true ↔ (i < 64 ∧ k ≤ i ∧ x.getLsbD (i - k) = true ∧ m.getLsbD i = true) := by
  simp only [own_L, BitVec.getLsbD_and, BitVec.getLsbD_shiftLeft, Bool.and_eq_true, decide_eq_true_eq, Bool.not_eq_true', decide_eq_false_iff_not, Nat.not_lt]
  constructor
  · rintro ⟨⟨⟨a, b⟩, c⟩, d⟩; exact ⟨a, b, c, d⟩
  · rintro ⟨a, b, c, d⟩; exact ⟨⟨⟨a, b⟩, c⟩, d⟩
theorem own_Rb {k : Nat} {m x : own_B} {i : Nat} : (own_R k m x).getLsbD i = true ↔ (x.getLsbD (k + i) = true ∧ m.getLsbD i = true) := by
  simp only [own_R, BitVec.getLsbD_and, BitVec.getLsbD_ushiftRight, Bool.and_eq_true]
/-- the two are adjoint -/
def own_adj (f g : own_B → own_B) : Prop := ∀ x y, (f x &&& y ≠ 0#64) ↔ (x &&& g y ≠ 0#64)
theorem own_adjLR {k : Nat} {m m' : own_B} (h : ∀ j, j < 64 → j + k < 64 → m.getLsbD (j + k) = m'.getLsbD j) : own_adj (own_L k m) (own_R k m') := by
  intro x y
  rw [own_ne0, own_ne0]
  constructor
  · rintro ⟨i, hi⟩
    rw [BitVec.getLsbD_and, Bool.and_eq_true, own_Lb] at hi
    obtain ⟨⟨a, b, c, d⟩, e⟩ := hi
    refine ⟨i - k, ?_⟩
    rw [BitVec.getLsbD_and, Bool.and_eq_true, own_Rb]
    refine ⟨c, ?_, ?_⟩
    · rw [show k + (i - k) = i by omega]; exact e
    · rw [← h (i - k) (by omega) (by omega), show i - k + k = i by omega]; exact d
  · rintro ⟨i, hi⟩
    rw [BitVec.getLsbD_and, Bool.and_eq_true, own_Rb] at hi
    obtain ⟨a, b, c⟩ := hi
    have hk : k + i < 64 := BitVec.lt_of_getLsbD b
    refine ⟨k + i, ?_⟩
    rw [BitVec.getLsbD_and, Bool.and_eq_true, own_Lb]
    refine ⟨⟨hk, by omega, ?_, ?_⟩, b⟩
    · rw [show k + i - k = i by omega]; exact a
    · rw [show k + i = i + k by omega, h i (by omega) (by omega)]; exact c
theorem own_adj_symm {f g : own_B → own_B} (h : own_adj f g) : own_adj g f := fun x y => by
  have := h y x
  rw [BitVec.and_comm (g x) y, BitVec.and_comm x (f y)]
  exact this.symm
def own_it (g : own_B → own_B) : Nat → own_B → own_B
  | 0, x => x
  | n + 1, x => own_it g n (g x)
theorem own_itR {k : Nat} {m : own_B} : ∀ (n : Nat) (x : own_B) (i : Nat), (own_it (own_R k m) n x).getLsbD i = true → x.getLsbD (i + n * k) = true ∧ ∀ j, j < n → m.getLsbD (i + j * k) = true
  | 0, x, i, h => ⟨by simpa [own_it] using h, fun j hj => absurd hj (Nat.not_lt_zero _)⟩
  | n + 1, x, i, h => by
    obtain ⟨h1, h2⟩ := own_itR n (own_R k m x) i h
    rw [own_Rb] at h1
    refine ⟨by rw [show i + (n + 1) * k = k + (i + n * k) by rw [Nat.add_mul]; omega]; exact h1.1, fun j hj => ?_⟩
    rcases Nat.lt_or_eq_of_le (Nat.lt_succ_iff.mp hj) with q | q
    · exact h2 j q
    · rw [q]; exact h1.2
theorem own_itL {k : Nat} {m : own_B} : ∀ (n : Nat) (x : own_B) (i : Nat), (own_it (own_L k m) n x).getLsbD i = true → n * k ≤ i ∧ ∀ j, j < n → m.getLsbD (i - j * k) = true
  | 0, x, i, h => ⟨by simp, fun j hj => absurd hj (Nat.not_lt_zero _)⟩
  | n + 1, x, i, h => by
    obtain ⟨h1, h2⟩ := own_itL n (own_L k m x) i h
    have h3 : ∀ (n : Nat) (y : own_B) (i : Nat), (own_it (own_L k m) n y).getLsbD i = true → n * k ≤ i → y.getLsbD (i - n * k) = true := by
      intro n
      induction n with
      | zero => intro y i h _; simpa [own_it] using h
      | succ n ih =>
        intro y i h q
        rw [Nat.add_mul] at q
        have := ih (own_L k m y) i h (by omega)
        rw [own_Lb] at this
        rw [show i - (n + 1) * k = i - n * k - k by rw [Nat.add_mul]; omega]
        exact this.2.2.1
    have h4 := h3 n (own_L k m x) i h h1
    rw [own_Lb] at h4
    refine ⟨by rw [Nat.add_mul]; omega, fun j hj => ?_⟩
    rcases Nat.lt_or_eq_of_le (Nat.lt_succ_iff.mp hj) with q | q
    · exact h2 j q
    · rw [q]; exact h4.2.2.2
theorem own_nilR {k : Nat} {m : own_B} (h : ∀ i, i < 64 → i + 8 * k < 64 → ∃ j, j < 8 ∧ m.getLsbD (i + j * k) = false) (x : own_B) : own_it (own_R k m) 8 x = 0#64 :=
  Classical.byContradiction fun q => by
    obtain ⟨i, hi⟩ := own_ne0.mp q
    obtain ⟨h1, h2⟩ := own_itR 8 x i hi
    have := BitVec.lt_of_getLsbD h1
    obtain ⟨j, j1, j2⟩ := h i (by omega) this
    rw [h2 j j1] at j2; cases j2
theorem own_nilL {k : Nat} {m : own_B} (h : ∀ i, i < 64 → 8 * k ≤ i → ∃ j, j < 8 ∧ m.getLsbD (i - j * k) = false) (x : own_B) : own_it (own_L k m) 8 x = 0#64 :=
  Classical.byContradiction fun q => by
    obtain ⟨i, hi⟩ := own_ne0.mp q
    obtain ⟨h1, h2⟩ := own_itL 8 x i hi
    obtain ⟨j, j1, j2⟩ := h i (BitVec.lt_of_getLsbD hi) h1
    rw [h2 j j1] at j2; cases j2
def own_Sg (y : own_B) : Prop := ∀ a b, y &&& a ≠ 0#64 → y &&& b ≠ 0#64 → y &&& (a &&& b) ≠ 0#64
def own_dis (f : own_B → own_B) : Prop := ∀ a b, f a &&& f b = f (a &&& b)
theorem own_Sg_g {f g : own_B → own_B} (h : own_adj f g) (d : own_dis f) {y : own_B} (s : own_Sg y) : own_Sg (g y) := fun a b ha hb => by
  rw [BitVec.and_comm] at ha hb ⊢
  rw [← h] at ha hb ⊢
  rw [BitVec.and_comm, ← d]
  rw [BitVec.and_comm] at ha hb
  exact s _ _ ha hb
theorem own_disL (k : Nat) (m : own_B) : own_dis (own_L k m) := fun a b => by
  apply BitVec.eq_of_getLsbD_eq; intro i hi
  simp only [own_L, BitVec.getLsbD_and, BitVec.getLsbD_shiftLeft]
  cases decide (i < 64) <;> cases decide (i < k) <;> cases a.getLsbD (i - k) <;> cases b.getLsbD (i - k) <;> cases m.getLsbD i <;> rfl
theorem own_disR (k : Nat) (m : own_B) : own_dis (own_R k m) := fun a b => by
  apply BitVec.eq_of_getLsbD_eq; intro i hi
  simp [own_R]
  cases m.getLsbD i <;> simp
theorem own_or0 {a b : own_B} : a ||| b ≠ 0#64 ↔ (a ≠ 0#64 ∨ b ≠ 0#64) := by
  simp only [own_ne0, BitVec.getLsbD_or, Bool.or_eq_true]
  constructor
  · rintro ⟨i, h | h⟩; exact Or.inl ⟨i, h⟩; exact Or.inr ⟨i, h⟩
  · rintro (⟨i, h⟩ | ⟨i, h⟩); exact ⟨i, Or.inl h⟩; exact ⟨i, Or.inr h⟩
theorem own_orand {a b c : own_B} : (a ||| b) &&& c ≠ 0#64 ↔ (a &&& c ≠ 0#64 ∨ b &&& c ≠ 0#64) := by
  rw [show (a ||| b) &&& c = (a &&& c) ||| (b &&& c) from by apply BitVec.eq_of_getLsbD_eq; intro i hi; simp; cases a.getLsbD i <;> cases b.getLsbD i <;> simp, own_or0]
theorem own_and_or (x : own_B) (y : own_B) (o : own_B) (s : own_Sg y) : ((x &&& o) &&& y ≠ 0#64) ↔ (y &&& o ≠ 0#64 ∧ x &&& y ≠ 0#64) := by
  constructor
  · intro h
    obtain ⟨i, hi⟩ := own_ne0.mp h
    simp only [BitVec.getLsbD_and, Bool.and_eq_true] at hi
    refine ⟨own_ne0.mpr ⟨i, by simp [hi.1.2, hi.2]⟩, own_ne0.mpr ⟨i, by simp [hi.1.1, hi.2]⟩⟩
  · rintro ⟨h1, h2⟩
    rw [BitVec.and_comm x y] at h2
    have := s _ _ h2 h1
    rwa [BitVec.and_comm] at this
-- a run of the opponent's discs, behind it an own one
def own_Bk (g : own_B → own_B) (own o : own_B) : Nat → own_B → Prop
  | 0, m => own &&& m ≠ 0#64
  | n + 1, m => own &&& m ≠ 0#64 ∨ (m &&& o ≠ 0#64 ∧ own_Bk g own o n (g m))
def own_rn (f : own_B → own_B) (own o : own_B) : Nat → own_B
  | 0 => f own &&& o
  | n + 1 => own_rn f own o n ||| (f (own_rn f own o n) &&& o)
theorem own_Bk_mono {g : own_B → own_B} {own o : own_B} : ∀ (n : Nat) (m : own_B), own_Bk g own o n m → own_Bk g own o (n + 1) m
  | 0, m, h => Or.inl h
  | n + 1, m, h => h.imp id fun q => ⟨q.1, own_Bk_mono n _ q.2⟩
theorem own_run {f g : own_B → own_B} (h : own_adj f g) (d : own_dis f) {own o : own_B} : ∀ (n : Nat) (y : own_B), own_Sg y → ((own_rn f own o n &&& y ≠ 0#64) ↔ (y &&& o ≠ 0#64 ∧ own_Bk g own o n (g y)))
  | 0, y, s => by
    show ((f own &&& o) &&& y ≠ 0#64) ↔ _
    rw [own_and_or _ _ _ s, h]; rfl
  | n + 1, y, s => by
    show ((own_rn f own o n ||| (f (own_rn f own o n) &&& o)) &&& y ≠ 0#64) ↔ _
    rw [own_orand, own_run h d n y s, own_and_or _ _ _ s, h, own_run h d n (g y) (own_Sg_g h d s)]
    constructor
    · rintro (⟨a, b⟩ | ⟨a, b, c⟩)
      · exact ⟨a, own_Bk_mono n _ b⟩
      · exact ⟨a, Or.inr ⟨b, c⟩⟩
    · rintro ⟨a, b | ⟨b, c⟩⟩
      · cases n with
        | zero => exact Or.inl ⟨a, b⟩
        | succ n => exact Or.inl ⟨a, Or.inl b⟩
      · exact Or.inr ⟨a, b, c⟩
theorem own_it_succ (g : own_B → own_B) : ∀ (n : Nat) (x : own_B), own_it g (n + 1) x = g (own_it g n x)
  | 0, x => rfl
  | n + 1, x => own_it_succ g n (g x)
theorem own_cut {g : own_B → own_B} {own o : own_B} : ∀ (n : Nat) (m : own_B), own_it g (n + 1) m = 0#64 → own_Bk g own o (n + 1) m → own_Bk g own o n m
  | 0, m, h, q => q.elim id fun r => by
    have e : g m = 0#64 := h
    have := r.2
    rw [show own_Bk g own o 0 (g m) = (own &&& g m ≠ 0#64) from rfl, e] at this
    exact absurd (by simp) this
  | n + 1, m, h, q => q.imp id fun r => ⟨r.1, own_cut n (g m) h r.2⟩
-- the walk along the line
def own_sc (g : own_B → own_B) (o : own_B) : Nat → own_B → own_B → own_B × own_B
  | 0, r, n => (r, n)
  | k + 1, r, n => if n &&& o = 0#64 then (r, n) else own_sc g o k (r ||| n) (g n)
theorem own_sc1 {g : own_B → own_B} {o : own_B} : ∀ (k : Nat) (r n : own_B), r ≠ 0#64 → (own_sc g o k r n).1 ≠ 0#64
  | 0, r, n, h => h
  | k + 1, r, n, h => by
    unfold own_sc
    split
    · exact h
    · exact own_sc1 k _ _ (own_or0.mpr (Or.inl h))
theorem own_sc2 {f g : own_B → own_B} (h : own_adj f g) (d : own_dis f) {own o : own_B} (hd : own &&& o = 0#64) : ∀ (k : Nat) (r n : own_B), own_Sg n → (((own_sc g o k r n).2 &&& own ≠ 0#64) ↔ own_Bk g own o k n)
  | 0, r, n, s => by show (n &&& own ≠ 0#64) ↔ (own &&& n ≠ 0#64); rw [BitVec.and_comm]
  | k + 1, r, n, s => by
    unfold own_sc
    split
    · rename_i q
      show (n &&& own ≠ 0#64) ↔ (own &&& n ≠ 0#64 ∨ (n &&& o ≠ 0#64 ∧ _))
      rw [BitVec.and_comm n own]
      exact ⟨Or.inl, fun z => z.elim id fun w => absurd q w.1⟩
    · rename_i q
      rw [own_sc2 h d hd k _ _ (own_Sg_g h d s)]
      show _ ↔ (own &&& n ≠ 0#64 ∨ (n &&& o ≠ 0#64 ∧ _))
      refine ⟨fun z => Or.inr ⟨q, z⟩, fun z => z.elim (fun w => ?_) fun w => w.2⟩
      rw [BitVec.and_comm] at w
      have := s _ _ w q
      rw [hd] at this
      exact absurd (by simp) this
/-- one direction: the disc at y may be set by the line on which the other way turns some -/
theorem own_line {f g : own_B → own_B} (h : own_adj f g) (d : own_dis f) (nil : ∀ x, own_it g 8 x = 0#64) {own o : own_B} (hd : own &&& o = 0#64) (y : own_B) (s : own_Sg y) :
    (f (own_rn f own o 5) &&& y ≠ 0#64) ↔ ((own_sc g o 8 0#64 (g y)).2 &&& own ≠ 0#64 ∧ (own_sc g o 8 0#64 (g y)).1 ≠ 0#64) := by
  rw [h, own_run h d 5 (g y) (own_Sg_g h d s)]
  have s2 := own_Sg_g h d s
  by_cases q : g y &&& o = 0#64
  · have e : own_sc g o 8 0#64 (g y) = (0#64, g y) := by unfold own_sc; rw [if_pos q]
    rw [e]
    exact ⟨fun z => absurd q z.1, fun z => absurd rfl z.2⟩
  · have e : own_sc g o 8 0#64 (g y) = own_sc g o 7 (0#64 ||| g y) (g (g y)) := by rw [own_sc, if_neg q]
    rw [e, own_sc2 h d hd 7 _ _ (own_Sg_g h d s2)]
    have n1 : g y ≠ 0#64 := fun z => q (by rw [z]; simp)
    have r1 := own_sc1 (g := g) (o := o) 7 (0#64 ||| g y) (g (g y)) (own_or0.mpr (Or.inr n1))
    have z6 : own_it g 6 (g (g y)) = 0#64 := nil y
    have z7 : own_it g 7 (g (g y)) = 0#64 := nil (g y)
    refine ⟨fun z => ⟨own_Bk_mono 6 _ (own_Bk_mono 5 _ z.2), r1⟩, fun z => ⟨q, own_cut 5 _ z6 (own_cut 6 _ z7 z.1)⟩⟩
-- the board
def own_st (d : Int32) (q : Int64) : Int64 :=
  if d = (0 : Int32) then ((q <<< ((1 : Int32) &&& 0x3f).toInt64) &&& (-72340172838076674 : Int64))
  else if d = (1 : Int32) then (((q.toUInt64 >>> ((1 : Int32) &&& 0x3f).toInt64.toUInt64).toInt64) &&& (9187201950435737471 : Int64))
  else if d = (2 : Int32) then ((q <<< ((8 : Int32) &&& 0x3f).toInt64) &&& (-1 : Int64))
  else if d = (3 : Int32) then (((q.toUInt64 >>> ((8 : Int32) &&& 0x3f).toInt64.toUInt64).toInt64) &&& (-1 : Int64))
  else if d = (4 : Int32) then ((q <<< ((9 : Int32) &&& 0x3f).toInt64) &&& (-72340172838076674 : Int64))
  else if d = (5 : Int32) then (((q.toUInt64 >>> ((9 : Int32) &&& 0x3f).toInt64.toUInt64).toInt64) &&& (9187201950435737471 : Int64))
  else if d = (6 : Int32) then ((q <<< ((7 : Int32) &&& 0x3f).toInt64) &&& (9187201950435737471 : Int64))
  else (((q.toUInt64 >>> ((7 : Int32) &&& 0x3f).toInt64.toUInt64).toInt64) &&& (-72340172838076674 : Int64))
def own_n1 : own_B := (-72340172838076674 : Int64).toBitVec
def own_n2 : own_B := (9187201950435737471 : Int64).toBitVec
def own_n3 : own_B := (-1 : Int64).toBitVec
theorem own_shl (q m : Int64) (k : Int32) (n : Nat) (h : ((k &&& 0x3f).toInt64.toBitVec.smod 64) = BitVec.ofNat 64 n) (hn : n < 64) : ((q <<< (k &&& 0x3f).toInt64) &&& m).toBitVec = own_L n m.toBitVec q.toBitVec := by
  rw [Int64.toBitVec_and, Int64.toBitVec_shiftLeft, h]
  show (q.toBitVec <<< (BitVec.ofNat 64 n)) &&& _ = _
  rw [BitVec.shiftLeft_eq', BitVec.toNat_ofNat, Nat.mod_eq_of_lt (by omega)]
  rfl
theorem own_shr (q m : Int64) (k : Int32) (n : Nat) (h : ((k &&& 0x3f).toInt64.toUInt64.toBitVec % 64) = BitVec.ofNat 64 n) (hn : n < 64) : (((q.toUInt64 >>> (k &&& 0x3f).toInt64.toUInt64).toInt64) &&& m).toBitVec = own_R n m.toBitVec q.toBitVec := by
  rw [Int64.toBitVec_and]
  show ((q.toUInt64 >>> (k &&& 0x3f).toInt64.toUInt64).toBitVec) &&& _ = _
  rw [UInt64.toBitVec_shiftRight, h]
  show (q.toBitVec >>> (BitVec.ofNat 64 n)) &&& _ = _
  rw [BitVec.ushiftRight_eq', BitVec.toNat_ofNat, Nat.mod_eq_of_lt (by omega)]
  rfl
def own_stB (d : Nat) : own_B → own_B :=
  match d with
  | 0 => own_L 1 own_n1
  | 1 => own_R 1 own_n2
  | 2 => own_L 8 own_n3
  | 3 => own_R 8 own_n3
  | 4 => own_L 9 own_n1
  | 5 => own_R 9 own_n2
  | 6 => own_L 7 own_n2
  | _ => own_R 7 own_n1
theorem own_st0 (q : Int64) : (own_st 0 q).toBitVec = own_stB 0 q.toBitVec := own_shl q _ 1 1 (by decide) (by decide)
theorem own_st1 (q : Int64) : (own_st 1 q).toBitVec = own_stB 1 q.toBitVec := own_shr q _ 1 1 (by decide) (by decide)
theorem own_st2 (q : Int64) : (own_st 2 q).toBitVec = own_stB 2 q.toBitVec := own_shl q _ 8 8 (by decide) (by decide)
theorem own_st3 (q : Int64) : (own_st 3 q).toBitVec = own_stB 3 q.toBitVec := own_shr q _ 8 8 (by decide) (by decide)
theorem own_st4 (q : Int64) : (own_st 4 q).toBitVec = own_stB 4 q.toBitVec := own_shl q _ 9 9 (by decide) (by decide)
theorem own_st5 (q : Int64) : (own_st 5 q).toBitVec = own_stB 5 q.toBitVec := own_shr q _ 9 9 (by decide) (by decide)
theorem own_st6 (q : Int64) : (own_st 6 q).toBitVec = own_stB 6 q.toBitVec := own_shl q _ 7 7 (by decide) (by decide)
theorem own_st7 (q : Int64) : (own_st 7 q).toBitVec = own_stB 7 q.toBitVec := own_shr q _ 7 7 (by decide) (by decide)
theorem own_ad1 : own_adj (own_L 1 own_n1) (own_R 1 own_n2) := own_adjLR (by decide)
theorem own_ad8 : own_adj (own_L 8 own_n3) (own_R 8 own_n3) := own_adjLR (by decide)
theorem own_ad9 : own_adj (own_L 9 own_n1) (own_R 9 own_n2) := own_adjLR (by decide)
theorem own_ad7 : own_adj (own_L 7 own_n2) (own_R 7 own_n1) := own_adjLR (by decide)
theorem own_z0 (x : own_B) : own_it (own_L 1 own_n1) 8 x = 0#64 := own_nilL (by decide) x
theorem own_z1 (x : own_B) : own_it (own_R 1 own_n2) 8 x = 0#64 := own_nilR (by decide) x
theorem own_z2 (x : own_B) : own_it (own_L 8 own_n3) 8 x = 0#64 := own_nilL (by decide) x
theorem own_z3 (x : own_B) : own_it (own_R 8 own_n3) 8 x = 0#64 := own_nilR (by decide) x
theorem own_z4 (x : own_B) : own_it (own_L 9 own_n1) 8 x = 0#64 := own_nilL (by decide) x
theorem own_z5 (x : own_B) : own_it (own_R 9 own_n2) 8 x = 0#64 := own_nilR (by decide) x
theorem own_z6 (x : own_B) : own_it (own_L 7 own_n2) 8 x = 0#64 := own_nilL (by decide) x
theorem own_z7 (x : own_B) : own_it (own_R 7 own_n1) 8 x = 0#64 := own_nilR (by decide) x
-- what the code computes
def own_gr (d : Int32) (o r : Int64) : Int64 := (r ||| ((own_st d r) &&& o))
def own_r0 (d : Int32) (own o : Int64) : Int64 := ((own_st d own) &&& o)
def own_r5 (d : Int32) (own o : Int64) : Int64 := own_gr d o (own_gr d o (own_gr d o (own_gr d o (own_gr d o (own_r0 d own o)))))
def own_mvd (d : Int32) (own o mv : Int64) : Int64 := (mv ||| ((own_st d (own_r5 d own o)) &&& ((own ||| o) ^^^ (-1 : Int64))))
def own_moves (own o : Int64) : Int64 := own_mvd 7 own o (own_mvd 6 own o (own_mvd 5 own o (own_mvd 4 own o (own_mvd 3 own o (own_mvd 2 own o (own_mvd 1 own o (own_mvd 0 own o (0 : Int64))))))))
def own_scan (d : Int32) (o : Int64) : Nat → Int64 → Int64 → Int64 × Int64
  | 0, r, n => (r, n)
  | k + 1, r, n => if (lcmpW (n &&& o) (0 : Int64)) = (0 : Int32) then (r, n) else own_scan d o k (r ||| n) (own_st d n)
def own_fl (own n r fl : Int64) : Int64 := if (lcmpW (n &&& own) (0 : Int64)) = (0 : Int32) then fl else (fl ||| r)
def own_fd (d : Int32) (own o y fl : Int64) : Int64 := own_fl own (own_scan d o 8 (0 : Int64) (own_st d y)).2 (own_scan d o 8 (0 : Int64) (own_st d y)).1 fl
def own_y (s : Int32) : Int64 := ((1 : Int64) <<< (s &&& 0x3f).toInt64)
def own_flips (s : Int32) (own o : Int64) : Int64 := own_fd 7 own o (own_y s) (own_fd 6 own o (own_y s) (own_fd 5 own o (own_y s) (own_fd 4 own o (own_y s) (own_fd 3 own o (own_y s) (own_fd 2 own o (own_y s) (own_fd 1 own o (own_y s) (own_fd 0 own o (own_y s) (0 : Int64))))))))
theorem own_l0 (x : Int64) : (lcmpW x (0 : Int64)) = (0 : Int32) ↔ x.toBitVec = 0#64 := by
  rw [lw_eq, ← Int64.toBitVec_inj]; rfl
/-- d is a direction, F it on bits -/
def own_dirB (d : Int32) (F : own_B → own_B) : Prop := ∀ q, (own_st d q).toBitVec = F q.toBitVec
theorem own_r5B {d : Int32} {F : own_B → own_B} (h : own_dirB d F) (own o : Int64) : (own_r5 d own o).toBitVec = own_rn F own.toBitVec o.toBitVec 5 := by
  simp only [own_r5, own_gr, own_r0, own_rn, Int64.toBitVec_or, Int64.toBitVec_and, h _]
theorem own_scB {d : Int32} {F : own_B → own_B} (h : own_dirB d F) (o : Int64) : ∀ (k : Nat) (r n : Int64), ((own_scan d o k r n).1.toBitVec, (own_scan d o k r n).2.toBitVec) = own_sc F o.toBitVec k r.toBitVec n.toBitVec
  | 0, r, n => rfl
  | k + 1, r, n => by
    unfold own_scan own_sc
    by_cases q : (lcmpW (n &&& o) (0 : Int64)) = (0 : Int32)
    · rw [if_pos q, if_pos (by rw [← Int64.toBitVec_and]; exact (own_l0 _).mp q)]
    · rw [if_neg q, if_neg (by rw [← Int64.toBitVec_and]; exact fun z => q ((own_l0 _).mpr z)), own_scB h o k (r ||| n) (own_st d n), Int64.toBitVec_or, h]
theorem own_mvdB {d : Int32} {F : own_B → own_B} (h : own_dirB d F) (own o mv : Int64) : (own_mvd d own o mv).toBitVec = mv.toBitVec ||| (F (own_rn F own.toBitVec o.toBitVec 5) &&& ((own.toBitVec ||| o.toBitVec) ^^^ (-1 : Int64).toBitVec)) := by
  simp only [own_mvd, Int64.toBitVec_or, Int64.toBitVec_and, Int64.toBitVec_xor, h _, own_r5B h]
theorem own_fdB {d : Int32} {G : own_B → own_B} (h : own_dirB d G) (own o y fl : Int64) : ((own_fd d own o y fl).toBitVec ≠ 0#64) ↔ (fl.toBitVec ≠ 0#64 ∨ ((own_sc G o.toBitVec 8 0#64 (G y.toBitVec)).2 &&& own.toBitVec ≠ 0#64 ∧ (own_sc G o.toBitVec 8 0#64 (G y.toBitVec)).1 ≠ 0#64)) := by
  have e := own_scB h o 8 (0 : Int64) (own_st d y)
  rw [h] at e
  have e1 : (own_scan d o 8 (0 : Int64) (own_st d y)).1.toBitVec = (own_sc G o.toBitVec 8 0#64 (G y.toBitVec)).1 := congrArg Prod.fst e
  have e2 : (own_scan d o 8 (0 : Int64) (own_st d y)).2.toBitVec = (own_sc G o.toBitVec 8 0#64 (G y.toBitVec)).2 := congrArg Prod.snd e
  rw [← e1, ← e2, ← Int64.toBitVec_and]
  unfold own_fd own_fl
  by_cases q : (lcmpW ((own_scan d o 8 (0 : Int64) (own_st d y)).2 &&& own) (0 : Int64)) = (0 : Int32)
  · rw [if_pos q]
    have := (own_l0 _).mp q
    exact ⟨Or.inl, fun z => z.elim id fun w => absurd this w.1⟩
  · rw [if_neg q, Int64.toBitVec_or, own_or0]
    have : ¬ _ := fun z => q ((own_l0 _).mpr z)
    exact ⟨fun z => z.imp id fun w => ⟨this, w⟩, fun z => z.imp id fun w => w.2⟩
theorem own_bit {s : Nat} (hs : s < 64) (x : own_B) : ((x >>> s) &&& 1#64 ≠ 0#64) ↔ (x &&& (1#64 <<< s) ≠ 0#64) := by
  rw [own_ne0, own_ne0]
  constructor
  · rintro ⟨i, hi⟩
    simp only [BitVec.getLsbD_and, BitVec.getLsbD_ushiftRight, Bool.and_eq_true, BitVec.getLsbD_one, decide_eq_true_eq] at hi
    obtain ⟨h1, h2⟩ := hi
    have h0 : i = 0 := by first | exact h2.2 | (simp at h2; omega)
    subst h0
    refine ⟨s, ?_⟩
    simp only [BitVec.getLsbD_and, BitVec.getLsbD_shiftLeft, Bool.and_eq_true, decide_eq_true_eq]
    exact ⟨by simpa using h1, by simp [hs]⟩
  · rintro ⟨i, hi⟩
    simp only [BitVec.getLsbD_and, BitVec.getLsbD_shiftLeft, Bool.and_eq_true, decide_eq_true_eq, Bool.not_eq_true', decide_eq_false_iff_not, Nat.not_lt, BitVec.getLsbD_one] at hi
    obtain ⟨h1, ⟨h2, h3⟩, h4⟩ := hi
    have h0 : i - s = 0 := by first | exact h4.2 | (simp at h4; omega)
    have e : i = s := by omega
    subst e
    exact ⟨0, by simpa using h1⟩
theorem own_Sg1 {s : Nat} : own_Sg (1#64 <<< s) := fun a b ha hb => by
  rw [own_ne0] at ha hb ⊢
  obtain ⟨i, hi⟩ := ha
  obtain ⟨j, hj⟩ := hb
  have key : ∀ (k : Nat) (c : own_B), ((1#64 <<< s) &&& c).getLsbD k = true → k = s ∧ k < 64 ∧ c.getLsbD k = true := fun k c h => by
    simp only [BitVec.getLsbD_and, BitVec.getLsbD_shiftLeft, Bool.and_eq_true, decide_eq_true_eq, Bool.not_eq_true', decide_eq_false_iff_not, Nat.not_lt, BitVec.getLsbD_one] at h
    obtain ⟨⟨⟨h2, h3⟩, h4⟩, h5⟩ := h
    have h0 : k - s = 0 := by first | exact h4.2 | (simp at h4; omega)
    exact ⟨by omega, h2, h5⟩
  obtain ⟨e1, l1, c1⟩ := key i a hi
  obtain ⟨e2, l2, c2⟩ := key j b hj
  subst e1
  subst e2
  refine ⟨j, ?_⟩
  simp [l1, c1, c2]
theorem own_dB0 : own_dirB 0 (own_L 1 own_n1) := own_st0
theorem own_dB1 : own_dirB 1 (own_R 1 own_n2) := own_st1
theorem own_dB2 : own_dirB 2 (own_L 8 own_n3) := own_st2
theorem own_dB3 : own_dirB 3 (own_R 8 own_n3) := own_st3
theorem own_dB4 : own_dirB 4 (own_L 9 own_n1) := own_st4
theorem own_dB5 : own_dirB 5 (own_R 9 own_n2) := own_st5
theorem own_dB6 : own_dirB 6 (own_L 7 own_n2) := own_st6
theorem own_dB7 : own_dirB 7 (own_R 7 own_n1) := own_st7
theorem own_mvB (own o : Int64) (y : own_B) (sy : own_Sg y) (hd : own.toBitVec &&& o.toBitVec = 0#64) (yI : Int64) (hy : yI.toBitVec = y) :
    ((own_moves own o).toBitVec &&& y ≠ 0#64) ↔ (y &&& ((own.toBitVec ||| o.toBitVec) ^^^ (-1 : Int64).toBitVec) ≠ 0#64 ∧ (own_fd 7 own o yI (own_fd 6 own o yI (own_fd 5 own o yI (own_fd 4 own o yI (own_fd 3 own o yI (own_fd 2 own o yI (own_fd 1 own o yI (own_fd 0 own o yI (0 : Int64))))))))).toBitVec ≠ 0#64) := by
  unfold own_moves
  rw [own_mvdB own_dB7, own_mvdB own_dB6, own_mvdB own_dB5, own_mvdB own_dB4, own_mvdB own_dB3, own_mvdB own_dB2, own_mvdB own_dB1, own_mvdB own_dB0]
  rw [own_fdB own_dB7, own_fdB own_dB6, own_fdB own_dB5, own_fdB own_dB4, own_fdB own_dB3, own_fdB own_dB2, own_fdB own_dB1, own_fdB own_dB0, hy]
  rw [own_orand, own_orand, own_orand, own_orand, own_orand, own_orand, own_orand, own_orand]
  have b0 := own_line own_ad1 (own_disL _ _) own_z1 hd y sy
  have b1 := own_line (own_adj_symm own_ad1) (own_disR _ _) own_z0 hd y sy
  have b2 := own_line own_ad8 (own_disL _ _) own_z3 hd y sy
  have b3 := own_line (own_adj_symm own_ad8) (own_disR _ _) own_z2 hd y sy
  have b4 := own_line own_ad9 (own_disL _ _) own_z5 hd y sy
  have b5 := own_line (own_adj_symm own_ad9) (own_disR _ _) own_z4 hd y sy
  have b6 := own_line own_ad7 (own_disL _ _) own_z7 hd y sy
  have b7 := own_line (own_adj_symm own_ad7) (own_disR _ _) own_z6 hd y sy
  have z0 : ¬ ((0 : Int64).toBitVec &&& y ≠ 0#64) := by
    have e : (0 : Int64).toBitVec = 0#64 := rfl
    rw [e]; simp
  have z1 : ¬ ((0 : Int64).toBitVec ≠ 0#64) := by
    have e : (0 : Int64).toBitVec = 0#64 := rfl
    rw [e]; simp
  constructor
  · rintro ((((((((h0 | m0) | m1) | m2) | m3) | m4) | m5) | m6) | m7)
    · exact absurd h0 z0
    · exact ⟨(own_and_or _ _ _ sy).mp m0 |>.1, Or.inl (Or.inl (Or.inl (Or.inl (Or.inl (Or.inl (Or.inr ((b0).mp ((own_and_or _ _ _ sy).mp m0).2)))))))⟩
    · exact ⟨(own_and_or _ _ _ sy).mp m1 |>.1, Or.inl (Or.inl (Or.inl (Or.inl (Or.inl (Or.inl (Or.inl (Or.inr ((b1).mp ((own_and_or _ _ _ sy).mp m1).2))))))))⟩
    · exact ⟨(own_and_or _ _ _ sy).mp m2 |>.1, Or.inl (Or.inl (Or.inl (Or.inl (Or.inr ((b2).mp ((own_and_or _ _ _ sy).mp m2).2)))))⟩
    · exact ⟨(own_and_or _ _ _ sy).mp m3 |>.1, Or.inl (Or.inl (Or.inl (Or.inl (Or.inl (Or.inr ((b3).mp ((own_and_or _ _ _ sy).mp m3).2))))))⟩
    · exact ⟨(own_and_or _ _ _ sy).mp m4 |>.1, Or.inl (Or.inl (Or.inr ((b4).mp ((own_and_or _ _ _ sy).mp m4).2)))⟩
    · exact ⟨(own_and_or _ _ _ sy).mp m5 |>.1, Or.inl (Or.inl (Or.inl (Or.inr ((b5).mp ((own_and_or _ _ _ sy).mp m5).2))))⟩
    · exact ⟨(own_and_or _ _ _ sy).mp m6 |>.1, Or.inr ((b6).mp ((own_and_or _ _ _ sy).mp m6).2)⟩
    · exact ⟨(own_and_or _ _ _ sy).mp m7 |>.1, Or.inl (Or.inr ((b7).mp ((own_and_or _ _ _ sy).mp m7).2))⟩
  · rintro ⟨hP, (((((((h0 | m0) | m1) | m2) | m3) | m4) | m5) | m6) | m7⟩
    · exact absurd h0 z1
    · exact Or.inl (Or.inl (Or.inl (Or.inl (Or.inl (Or.inl (Or.inr ((own_and_or _ _ _ sy).mpr ⟨hP, (b1).mpr m0⟩)))))))
    · exact Or.inl (Or.inl (Or.inl (Or.inl (Or.inl (Or.inl (Or.inl (Or.inr ((own_and_or _ _ _ sy).mpr ⟨hP, (b0).mpr m1⟩))))))))
    · exact Or.inl (Or.inl (Or.inl (Or.inl (Or.inr ((own_and_or _ _ _ sy).mpr ⟨hP, (b3).mpr m2⟩)))))
    · exact Or.inl (Or.inl (Or.inl (Or.inl (Or.inl (Or.inr ((own_and_or _ _ _ sy).mpr ⟨hP, (b2).mpr m3⟩))))))
    · exact Or.inl (Or.inl (Or.inr ((own_and_or _ _ _ sy).mpr ⟨hP, (b5).mpr m4⟩)))
    · exact Or.inl (Or.inl (Or.inl (Or.inr ((own_and_or _ _ _ sy).mpr ⟨hP, (b4).mpr m5⟩))))
    · exact Or.inr ((own_and_or _ _ _ sy).mpr ⟨hP, (b7).mpr m6⟩)
    · exact Or.inl (Or.inr ((own_and_or _ _ _ sy).mpr ⟨hP, (b6).mpr m7⟩))
theorem own_shn (s : Int32) : ∃ n : Nat, n < 64 ∧ (s &&& 0x3f).toInt64.toBitVec = BitVec.ofNat 64 n := by
  obtain ⟨h1, h2⟩ := sm64 s _ rfl
  exact ⟨_, h2, h1⟩
theorem own_yB (s : Int32) {n : Nat} (hn : n < 64) (h : (s &&& 0x3f).toInt64.toBitVec = BitVec.ofNat 64 n) : (own_y s).toBitVec = 1#64 <<< n := by
  unfold own_y
  rw [Int64.toBitVec_shiftLeft, h]
  show (1#64 <<< ((BitVec.ofNat 64 n).smod 64)) = _
  rw [BitVec.shiftLeft_eq', smod64 n hn]
theorem own_uB (x : Int64) (s : Int32) {n : Nat} (hn : n < 64) (h : (s &&& 0x3f).toInt64.toBitVec = BitVec.ofNat 64 n) : ((((x.toUInt64 >>> (s &&& 0x3f).toInt64.toUInt64).toInt64) &&& (1 : Int64))).toBitVec = (x.toBitVec >>> n) &&& 1#64 := by
  rw [Int64.toBitVec_and]
  show ((x.toUInt64 >>> (s &&& 0x3f).toInt64.toUInt64).toBitVec) &&& _ = _
  rw [UInt64.toBitVec_shiftRight]
  show (x.toBitVec >>> ((s &&& 0x3f).toInt64.toBitVec % 64)) &&& _ = _
  rw [h, BitVec.ushiftRight_eq']
  have e : ((BitVec.ofNat 64 n) % (64 : BitVec 64)).toNat = n := by
    rw [BitVec.toNat_umod, BitVec.toNat_ofNat]
    have : (64 : BitVec 64).toNat = 64 := by decide
    rw [this]; omega
  rw [e]
  rfl
theorem own_emp {n : Nat} (hn : n < 64) (A : own_B) : ((1#64 <<< n) &&& (A ^^^ (-1 : Int64).toBitVec) ≠ 0#64) ↔ (A &&& (1#64 <<< n) = 0#64) := by
  have hm : ∀ i, i < 64 → ((-1 : Int64).toBitVec).getLsbD i = true := by decide
  have key : ∀ (k : Nat) (c : own_B), ((1#64 <<< n) &&& c).getLsbD k = true → k = n ∧ c.getLsbD k = true := fun k c h => by
    simp only [BitVec.getLsbD_and, BitVec.getLsbD_shiftLeft, Bool.and_eq_true, decide_eq_true_eq, Bool.not_eq_true', decide_eq_false_iff_not, Nat.not_lt, BitVec.getLsbD_one] at h
    obtain ⟨⟨⟨h2, h3⟩, h4⟩, h5⟩ := h
    have h0 : k - n = 0 := by first | exact h4.2 | (simp at h4; omega)
    exact ⟨by omega, h5⟩
  have one : (1#64 <<< n).getLsbD n = true := by simp [hn]
  constructor
  · intro h
    obtain ⟨i, hi⟩ := own_ne0.mp h
    obtain ⟨rfl, h2⟩ := key i _ hi
    rw [BitVec.getLsbD_xor, hm i hn] at h2
    refine Classical.byContradiction fun q => ?_
    obtain ⟨j, hj⟩ := own_ne0.mp q
    rw [BitVec.and_comm] at hj
    obtain ⟨rfl, h3⟩ := key j _ hj
    rw [h3] at h2; cases h2
  · intro h
    refine own_ne0.mpr ⟨n, ?_⟩
    rw [BitVec.getLsbD_and, one, BitVec.getLsbD_xor, hm n hn]
    have : A.getLsbD n = false := by
      refine Classical.byContradiction fun q => ?_
      have q' : A.getLsbD n = true := by simpa using q
      exact own_ne0.mpr ⟨n, by rw [BitVec.getLsbD_and, q', one]; rfl⟩ h
    rw [this]; rfl
/-- THE PLAIN LAW -/
theorem own_board (own opp : Int64) (s : Int32) :
    (¬ ((lcmpW ((((own_moves own (opp &&& (own ^^^ (-1 : Int64)))).toUInt64 >>> (s &&& 0x3f).toInt64.toUInt64).toInt64) &&& (1 : Int64)) (0 : Int64)) = (0 : Int32))) ↔
      (((lcmpW ((((own ||| (opp &&& (own ^^^ (-1 : Int64)))).toUInt64 >>> (s &&& 0x3f).toInt64.toUInt64).toInt64) &&& (1 : Int64)) (0 : Int64)) = (0 : Int32)) ∧ ¬ ((lcmpW (own_flips s own (opp &&& (own ^^^ (-1 : Int64)))) (0 : Int64)) = (0 : Int32))) := by
  obtain ⟨n, hn, h⟩ := own_shn s
  generalize ho : opp &&& (own ^^^ (-1 : Int64)) = o
  have hd : own.toBitVec &&& o.toBitVec = 0#64 := by
    rw [← ho, Int64.toBitVec_and, Int64.toBitVec_xor]
    apply BitVec.eq_of_getLsbD_eq
    intro i hi
    have hm : ((-1 : Int64).toBitVec).getLsbD i = true := (by decide : ∀ i, i < 64 → ((-1 : Int64).toBitVec).getLsbD i = true) i hi
    rw [BitVec.getLsbD_and, BitVec.getLsbD_and, BitVec.getLsbD_xor, hm]
    cases own.toBitVec.getLsbD i <;> cases opp.toBitVec.getLsbD i <;> simp
  rw [own_l0, own_l0, own_l0, own_uB _ s hn h, own_uB _ s hn h, Int64.toBitVec_or]
  have hy := own_yB s hn h
  have k1 := own_bit hn (own_moves own o).toBitVec
  have k2 := own_bit hn (own.toBitVec ||| o.toBitVec)
  have k3 := own_mvB own o (1#64 <<< n) own_Sg1 hd (own_y s) hy
  rw [own_emp hn] at k3
  unfold own_flips
  constructor
  · intro q
    obtain ⟨a, b⟩ := k3.mp (k1.mp q)
    exact ⟨Classical.byContradiction fun z => (k2.mp z) a, b⟩
  · rintro ⟨a, b⟩
    exact k1.mpr (k3.mpr ⟨Classical.byContradiction fun z => (k2.mpr z) a, b⟩)
abbrev own_dirs (d : Int32) : Prop := d = (0 : Int32) ∨ d = (1 : Int32) ∨ d = (2 : Int32) ∨ d = (3 : Int32) ∨ d = (4 : Int32) ∨ d = (5 : Int32) ∨ d = (6 : Int32) ∨ d = (7 : Int32)
def own_itS (d : Int32) : Nat → Int64 → Int64
  | 0, n => n
  | k + 1, n => own_itS d k (own_st d n)
theorem own_itSB {d : Int32} {F : own_B → own_B} (h : own_dirB d F) : ∀ (k : Nat) (n : Int64), (own_itS d k n).toBitVec = own_it F k n.toBitVec
  | 0, n => rfl
  | k + 1, n => by show (own_itS d k (own_st d n)).toBitVec = _; rw [own_itSB h k, h]; rfl
theorem own_itS0 {d : Int32} (hD : own_dirs d) (n : Int64) : own_itS d 8 n = (0 : Int64) := by
  apply Int64.toBitVec_inj.mp
  rcases hD with rfl | rfl | rfl | rfl | rfl | rfl | rfl | rfl
  · rw [own_itSB own_dB0, own_z0]; rfl
  · rw [own_itSB own_dB1, own_z1]; rfl
  · rw [own_itSB own_dB2, own_z2]; rfl
  · rw [own_itSB own_dB3, own_z3]; rfl
  · rw [own_itSB own_dB4, own_z4]; rfl
  · rw [own_itSB own_dB5, own_z5]; rfl
  · rw [own_itSB own_dB6, own_z6]; rfl
  · rw [own_itSB own_dB7, own_z7]; rfl
theorem d1_0 : decode prog_43_method_2_code 0 = .ok (.lload_n 0, 1) := by decide +kernel
theorem d1_1 : decode prog_43_method_2_code 1 = .ok (.lload_n 2, 1) := by decide +kernel
theorem d1_2 : decode prog_43_method_2_code 2 = .ok (.lor, 1) := by decide +kernel
theorem d1_3 : decode prog_43_method_2_code 3 = .ok (.ldc2_w 9, 3) := by decide +kernel
theorem d1_6 : decode prog_43_method_2_code 6 = .ok (.lxor, 1) := by decide +kernel
theorem d1_7 : decode prog_43_method_2_code 7 = .ok (.lstore 4, 2) := by decide +kernel
theorem d1_9 : decode prog_43_method_2_code 9 = .ok (.lconst 0, 1) := by decide +kernel
theorem d1_10 : decode prog_43_method_2_code 10 = .ok (.lstore 6, 2) := by decide +kernel
theorem d1_12 : decode prog_43_method_2_code 12 = .ok (.iconst 0, 1) := by decide +kernel
theorem d1_13 : decode prog_43_method_2_code 13 = .ok (.istore 8, 2) := by decide +kernel
theorem d1_15 : decode prog_43_method_2_code 15 = .ok (.iload 8, 2) := by decide +kernel
theorem d1_17 : decode prog_43_method_2_code 17 = .ok (.getstatic 11, 3) := by decide +kernel
theorem d1_20 : decode prog_43_method_2_code 20 = .ok (.arraylength, 1) := by decide +kernel
theorem d1_21 : decode prog_43_method_2_code 21 = .ok (.if_icmp .ge 63, 3) := by decide +kernel
theorem d1_24 : decode prog_43_method_2_code 24 = .ok (.lload_n 0, 1) := by decide +kernel
theorem d1_25 : decode prog_43_method_2_code 25 = .ok (.iload 8, 2) := by decide +kernel
theorem d1_27 : decode prog_43_method_2_code 27 = .ok (.invokestatic 15, 3) := by decide +kernel
theorem d2_0 : decode prog_43_method_6_code 0 = .ok (.getstatic 11, 3) := by decide +kernel
theorem d2_3 : decode prog_43_method_6_code 3 = .ok (.iload_n 2, 1) := by decide +kernel
theorem d2_4 : decode prog_43_method_6_code 4 = .ok (.iaload, 1) := by decide +kernel
theorem d2_5 : decode prog_43_method_6_code 5 = .ok (.istore_n 3, 1) := by decide +kernel
theorem d2_6 : decode prog_43_method_6_code 6 = .ok (.iload_n 3, 1) := by decide +kernel
theorem d2_7 : decode prog_43_method_6_code 7 = .ok (.ifCond .le 9, 3) := by decide +kernel
theorem d2_10 : decode prog_43_method_6_code 10 = .ok (.lload_n 0, 1) := by decide +kernel
theorem d2_11 : decode prog_43_method_6_code 11 = .ok (.iload_n 3, 1) := by decide +kernel
theorem d2_12 : decode prog_43_method_6_code 12 = .ok (.lshl, 1) := by decide +kernel
theorem d2_13 : decode prog_43_method_6_code 13 = .ok (.goto 7, 3) := by decide +kernel
theorem d2_20 : decode prog_43_method_6_code 20 = .ok (.lstore 4, 2) := by decide +kernel
theorem d2_22 : decode prog_43_method_6_code 22 = .ok (.lload 4, 2) := by decide +kernel
theorem d2_24 : decode prog_43_method_6_code 24 = .ok (.getstatic 37, 3) := by decide +kernel
theorem d2_27 : decode prog_43_method_6_code 27 = .ok (.iload_n 2, 1) := by decide +kernel
theorem d2_28 : decode prog_43_method_6_code 28 = .ok (.laload, 1) := by decide +kernel
theorem d2_29 : decode prog_43_method_6_code 29 = .ok (.land, 1) := by decide +kernel
theorem d2_30 : decode prog_43_method_6_code 30 = .ok (.lreturn, 1) := by decide +kernel
theorem d2_16 : decode prog_43_method_6_code 16 = .ok (.lload_n 0, 1) := by decide +kernel
theorem d2_17 : decode prog_43_method_6_code 17 = .ok (.iload_n 3, 1) := by decide +kernel
theorem d2_18 : decode prog_43_method_6_code 18 = .ok (.ineg, 1) := by decide +kernel
theorem d2_19 : decode prog_43_method_6_code 19 = .ok (.lushr, 1) := by decide +kernel
theorem pn_0 : plainName "com/example/counterply/counterply/othello/Board" = true := by first | (simp [plainName, overriddenIn]; done) | decide +kernel
theorem ef_rm2_0 (m : MethodId) (x0 : Int64) (x1 : Int32) : entryFrame m #[(.long x0), (.int x1)] 6 = mkF m 0 #[.val (.long x0), .second, .val (.int x1), .unset, .unset, .unset] [] := by first | (simp [entryFrame, mkF, argsToLocals, Value.category]; done) | rfl
def Q2_0 (Z : State) (q1 : Int64) (p2 : Int32) (w_STEPS : Addr) (kv_STEPS : ClassId) (w_LANDINGS : Addr) (kv_LANDINGS : ClassId) (h0 : Heap) (n0 : Nat) (v : Option Value) (h : Heap) (L : List Loc) : Prop := v = some (.long (own_st p2 q1)) ∧ Fr n0 L ∧ h = h0
set_option maxRecDepth 65536 in
set_option maxHeartbeats 40000000 in
theorem rm2_0 (l : Launch) (Z : State) (a0 : Array Value) (hw : ∀ d ∈ tables_1, d.before a0 Z = true) (ws : List Jvm.Cond) (q1 : Int64) (p2 : Int32) (w_STEPS : Addr) (kv_STEPS : ClassId) (w_LANDINGS : Addr) (kv_LANDINGS : ClassId) (h0 : Heap) (n0 : Nat) (Z0 : n0 ≤ h0.size) (hq1 : own_dirs p2) (S_STEPS : Sta Z h0 "com/example/counterply/counterply/othello/Board" "STEPS" "[I" (.ref w_STEPS)) (V_STEPS : Arv Z h0 w_STEPS kv_STEPS .int (8 : Int32) [(.int (1 : Int32)), (.int (-1 : Int32)), (.int (8 : Int32)), (.int (-8 : Int32)), (.int (9 : Int32)), (.int (-9 : Int32)), (.int (7 : Int32)), (.int (-7 : Int32))] (.int (0 : Int32))) (S_LANDINGS : Sta Z h0 "com/example/counterply/counterply/othello/Board" "LANDINGS" "[J" (.ref w_LANDINGS)) (V_LANDINGS : Arv Z h0 w_LANDINGS kv_LANDINGS .long (8 : Int32) [(.long (-72340172838076674 : Int64)), (.long (9187201950435737471 : Int64)), (.long (-1 : Int64)), (.long (-1 : Int64)), (.long (-72340172838076674 : Int64)), (.long (9187201950435737471 : Int64)), (.long (9187201950435737471 : Int64)), (.long (-72340172838076674 : Int64))] (.long (0 : Int64))) :
    MetFree l (⟨"com/example/counterply/counterply/othello/Board", "step", "(JI)J"⟩ : MethodName) (head1 (Jvm.Cond.code (⟨"com/example/counterply/counterply/othello/Board", "step", "(JI)J"⟩ : MethodName) prog_43_method_6_code 6 (some .long) :: ws) ({ frames := 0, cells := 0, slots := 0, locals := 0 } : Room)) (fun a U => a = #[(.long q1), (.int p2)] ∧ Z.Warmed39 U.vm ∧ U.heap = h0) (fun _ _ _ _ _ => True) (fun _ U o U' => ∃ v L, o = .returned v ∧ Q2_0 Z q1 p2 w_STEPS kv_STEPS w_LANDINGS kv_LANDINGS h0 n0 v U'.heap L ∧ FrameEnd U o U' L ({ frames := 0, cells := 0, slots := 0, locals := 0 } : Room).cells ({ frames := 0, cells := 0, slots := 0, locals := 0 } : Room).slots) := by
  refine MetFree.of_bodySF (plainFor_of_name pn_0) hisR ?_
  intro p e s m args below meth c s₁ Bd hml0 hP hK
  obtain ⟨rfl, hZ, hh⟩ := hP
  have hx := Bd.exec
  have hby := Bd.bytes
  have hml : c.maxLocals = 6 := hml0
  have hown : s.vm.findClass "com/example/counterply/counterply/othello/Board" = some m.cls := findClass_of_methodNamed Bd.named
  have hnm := (name_of_methodNamed Bd.named Bd.method).1
  have X0 : Stand p l e ({ frames := 0, cells := 0, slots := 0, locals := 0 } : Room) s m #[(.long q1), (.int p2)] below meth c s₁ [] 0 0 := Stand.of_body Bd
  have e0 : s₁.heap = h0 := by rw [← hh, Bd.state]; rfl
  have N0 := Fr.nil n0
  have pre0 : ∀ t, Steps p.tables e below (s₁.setTop (mkF m 0 #[.val (.long q1), .second, .val (.int p2), .unset, .unset, .unset] [])) t → Steps p.tables e below (s₁.setTop (entryFrame m #[(.long q1), (.int p2)] 6)) t := fun t k => castTop (ef_rm2_0 m q1 p2) k
  rcases hq1 with hd_0 | hd_1 | hd_2 | hd_3 | hd_4 | hd_5 | hd_6 | hd_7
  ·
    obtain ⟨T1, X1, e1, st1⟩ := getS2 X0 hx hZ hown (host := "") (Or.inl (hw _ (List.mem_of_getElem? (i := 6) rfl))) Via.refl e0 S_STEPS (g := (mkF m 0 #[.val (.long q1), .second, .val (.int (0 : Int32)), .unset, .unset, .unset] [])) rfl (hb hby d2_0)
    obtain ⟨cl2, Ar2, qq2, Sz2, Nn2, Hs2, Gs2⟩ := id V_STEPS
    have hin2 : ¬ ((0 : Int32) < 0 ∨ cl2.slots.size ≤ ((0 : Int32)).toNatClampNeg) := inb_of Sz2 ⟨by decide, by decide⟩
    have hat2 : cl2.slots[((0 : Int32)).toNatClampNeg]? = some (.int (1 : Int32)) := Has.at Hs2 hin2 rfl
    obtain ⟨T3, X3, e3, st3⟩ := getS2 X1 hx hZ hown (host := "") (Or.inl (hw _ (List.mem_of_getElem? (i := 11) rfl))) Via.refl e1 S_LANDINGS (g := (mkF m 24 #[.val (.long q1), .second, .val (.int (0 : Int32)), .val (.int (1 : Int32)), .val (.long (q1 <<< ((1 : Int32) &&& 0x3f).toInt64)), .second] [(.long (q1 <<< ((1 : Int32) &&& 0x3f).toInt64))])) rfl (hb hby d2_24)
    obtain ⟨cl4, Ar4, qq4, Sz4, Nn4, Hs4, Gs4⟩ := id V_LANDINGS
    have hin4 : ¬ ((0 : Int32) < 0 ∨ cl4.slots.size ≤ ((0 : Int32)).toNatClampNeg) := inb_of Sz4 ⟨by decide, by decide⟩
    have hat4 : cl4.slots[((0 : Int32)).toNatClampNeg]? = some (.long (-72340172838076674 : Int64)) := Has.at Hs4 hin4 rfl
    obtain ⟨fs, hr, hrun, hended, hW, hsame⟩ := X3.leave (v := some (.long ((q1 <<< ((1 : Int32) &&& 0x3f).toInt64) &&& (-72340172838076674 : Int64)))) (fun h => by rw [Bd.returns] at h; cases h)
    refine ⟨_, _, pre0 _ ?_, hrun, hended, _, _, rfl, ?_, ⟨_, rfl⟩, hW, hsame.mono (by decide) (by decide)⟩
    ·
      show Steps p.tables e below (s₁.setTop (mkF m 0 #[.val (.long q1), .second, .val (.int p2), .unset, .unset, .unset] [])) _
      rewrite [hd_0]
      show Steps p.tables e below (s₁.setTop (mkF m 0 #[.val (.long q1), .second, .val (.int (0 : Int32)), .unset, .unset, .unset] [])) _
      refine st1 _ ?_
      show Steps p.tables e below (T1.setTop (mkF m 3 #[.val (.long q1), .second, .val (.int (0 : Int32)), .unset, .unset, .unset] [(.ref w_STEPS)])) _
      refine XS.iloadN X1.here hx rfl (hb hby d2_3) rfl ?_
      show Steps p.tables e below (T1.setTop (mkF m 4 #[.val (.long q1), .second, .val (.int (0 : Int32)), .unset, .unset, .unset] [(.int (0 : Int32)), (.ref w_STEPS)])) _
      refine X1.iaload hx (j := (0 : Int32)) (v := (.int (1 : Int32))) (by rw [e1]; exact Ar2.1) (State.isArrayOf_alike hZ.alike Ar2.2.1) Ar2.2.2 hin2 hat2 (g := (mkF m 4 #[.val (.long q1), .second, .val (.int (0 : Int32)), .unset, .unset, .unset] [(.int (0 : Int32)), (.ref w_STEPS)])) rfl rfl (hb hby d2_4) _ ?_
      show Steps p.tables e below (T1.setTop (mkF m 5 #[.val (.long q1), .second, .val (.int (0 : Int32)), .unset, .unset, .unset] [(.int (1 : Int32))])) _
      refine XS.istoreN X1.here hx rfl (hb hby d2_5) rfl (l' := #[.val (.long q1), .second, .val (.int (0 : Int32)), .val (.int (1 : Int32)), .unset, .unset]) rfl ?_
      show Steps p.tables e below (T1.setTop (mkF m 6 #[.val (.long q1), .second, .val (.int (0 : Int32)), .val (.int (1 : Int32)), .unset, .unset] [])) _
      refine XS.iloadN X1.here hx rfl (hb hby d2_6) rfl ?_
      show Steps p.tables e below (T1.setTop (mkF m 7 #[.val (.long q1), .second, .val (.int (0 : Int32)), .val (.int (1 : Int32)), .unset, .unset] [(.int (1 : Int32))])) _
      refine XS.ifNo X1.here hx rfl (hb hby d2_7) rfl ((if0 _ _).trans (tlt (by decide : (0 : Int32) < (1 : Int32))).2.2.2) ?_
      show Steps p.tables e below (T1.setTop (mkF m 10 #[.val (.long q1), .second, .val (.int (0 : Int32)), .val (.int (1 : Int32)), .unset, .unset] [])) _
      refine XS.lloadN X1.here hx rfl (hb hby d2_10) rfl ?_
      show Steps p.tables e below (T1.setTop (mkF m 11 #[.val (.long q1), .second, .val (.int (0 : Int32)), .val (.int (1 : Int32)), .unset, .unset] [(.long q1)])) _
      refine XS.iloadN X1.here hx rfl (hb hby d2_11) rfl ?_
      show Steps p.tables e below (T1.setTop (mkF m 12 #[.val (.long q1), .second, .val (.int (0 : Int32)), .val (.int (1 : Int32)), .unset, .unset] [(.int (1 : Int32)), (.long q1)])) _
      refine XS.lshl X1.here hx rfl (hb hby d2_12) rfl ?_
      show Steps p.tables e below (T1.setTop (mkF m 13 #[.val (.long q1), .second, .val (.int (0 : Int32)), .val (.int (1 : Int32)), .unset, .unset] [(.long (q1 <<< ((1 : Int32) &&& 0x3f).toInt64))])) _
      refine XS.goto X1.here hx rfl (pc0 := 13) (pc' := 20) rfl (hb hby d2_13) (by decide) (by decide) ?_
      show Steps p.tables e below (T1.setTop (mkF m 20 #[.val (.long q1), .second, .val (.int (0 : Int32)), .val (.int (1 : Int32)), .unset, .unset] [(.long (q1 <<< ((1 : Int32) &&& 0x3f).toInt64))])) _
      refine XS.lstore X1.here hx rfl (hb hby d2_20) rfl (l' := #[.val (.long q1), .second, .val (.int (0 : Int32)), .val (.int (1 : Int32)), .val (.long (q1 <<< ((1 : Int32) &&& 0x3f).toInt64)), .second]) rfl ?_
      show Steps p.tables e below (T1.setTop (mkF m 22 #[.val (.long q1), .second, .val (.int (0 : Int32)), .val (.int (1 : Int32)), .val (.long (q1 <<< ((1 : Int32) &&& 0x3f).toInt64)), .second] [])) _
      refine XS.lload X1.here hx rfl (hb hby d2_22) rfl ?_
      show Steps p.tables e below (T1.setTop (mkF m 24 #[.val (.long q1), .second, .val (.int (0 : Int32)), .val (.int (1 : Int32)), .val (.long (q1 <<< ((1 : Int32) &&& 0x3f).toInt64)), .second] [(.long (q1 <<< ((1 : Int32) &&& 0x3f).toInt64))])) _
      refine st3 _ ?_
      show Steps p.tables e below (T3.setTop (mkF m 27 #[.val (.long q1), .second, .val (.int (0 : Int32)), .val (.int (1 : Int32)), .val (.long (q1 <<< ((1 : Int32) &&& 0x3f).toInt64)), .second] [(.ref w_LANDINGS), (.long (q1 <<< ((1 : Int32) &&& 0x3f).toInt64))])) _
      refine XS.iloadN X3.here hx rfl (hb hby d2_27) rfl ?_
      show Steps p.tables e below (T3.setTop (mkF m 28 #[.val (.long q1), .second, .val (.int (0 : Int32)), .val (.int (1 : Int32)), .val (.long (q1 <<< ((1 : Int32) &&& 0x3f).toInt64)), .second] [(.int (0 : Int32)), (.ref w_LANDINGS), (.long (q1 <<< ((1 : Int32) &&& 0x3f).toInt64))])) _
      refine X3.laload hx (j := (0 : Int32)) (v := (.long (-72340172838076674 : Int64))) (by rw [e3]; exact Ar4.1) (State.isArrayOf_alike hZ.alike Ar4.2.1) Ar4.2.2 hin4 hat4 (g := (mkF m 28 #[.val (.long q1), .second, .val (.int (0 : Int32)), .val (.int (1 : Int32)), .val (.long (q1 <<< ((1 : Int32) &&& 0x3f).toInt64)), .second] [(.int (0 : Int32)), (.ref w_LANDINGS), (.long (q1 <<< ((1 : Int32) &&& 0x3f).toInt64))])) rfl rfl (hb hby d2_28) _ ?_
      show Steps p.tables e below (T3.setTop (mkF m 29 #[.val (.long q1), .second, .val (.int (0 : Int32)), .val (.int (1 : Int32)), .val (.long (q1 <<< ((1 : Int32) &&& 0x3f).toInt64)), .second] [(.long (-72340172838076674 : Int64)), (.long (q1 <<< ((1 : Int32) &&& 0x3f).toInt64))])) _
      refine XS.land X3.here hx rfl (hb hby d2_29) rfl ?_
      show Steps p.tables e below (T3.setTop (mkF m 30 #[.val (.long q1), .second, .val (.int (0 : Int32)), .val (.int (1 : Int32)), .val (.long (q1 <<< ((1 : Int32) &&& 0x3f).toInt64)), .second] [(.long ((q1 <<< ((1 : Int32) &&& 0x3f).toInt64) &&& (-72340172838076674 : Int64)))])) _
      exact X3.lreturnOut hx Bd.returns (hb hby d2_30) hr
    · show Q2_0 Z q1 p2 w_STEPS kv_STEPS w_LANDINGS kv_LANDINGS h0 n0 _ T3.heap _
      rw [e3]
      exact ⟨(by rw [hd_0]; rfl), N0, rfl⟩
  ·
    obtain ⟨T5, X5, e5, st5⟩ := getS2 X0 hx hZ hown (host := "") (Or.inl (hw _ (List.mem_of_getElem? (i := 6) rfl))) Via.refl e0 S_STEPS (g := (mkF m 0 #[.val (.long q1), .second, .val (.int (1 : Int32)), .unset, .unset, .unset] [])) rfl (hb hby d2_0)
    obtain ⟨cl6, Ar6, qq6, Sz6, Nn6, Hs6, Gs6⟩ := id V_STEPS
    have hin6 : ¬ ((1 : Int32) < 0 ∨ cl6.slots.size ≤ ((1 : Int32)).toNatClampNeg) := inb_of Sz6 ⟨by decide, by decide⟩
    have hat6 : cl6.slots[((1 : Int32)).toNatClampNeg]? = some (.int (-1 : Int32)) := Has.at Hs6 hin6 rfl
    obtain ⟨T7, X7, e7, st7⟩ := getS2 X5 hx hZ hown (host := "") (Or.inl (hw _ (List.mem_of_getElem? (i := 11) rfl))) Via.refl e5 S_LANDINGS (g := (mkF m 24 #[.val (.long q1), .second, .val (.int (1 : Int32)), .val (.int (-1 : Int32)), .val (.long ((q1.toUInt64 >>> ((1 : Int32) &&& 0x3f).toInt64.toUInt64).toInt64)), .second] [(.long ((q1.toUInt64 >>> ((1 : Int32) &&& 0x3f).toInt64.toUInt64).toInt64))])) rfl (hb hby d2_24)
    obtain ⟨cl8, Ar8, qq8, Sz8, Nn8, Hs8, Gs8⟩ := id V_LANDINGS
    have hin8 : ¬ ((1 : Int32) < 0 ∨ cl8.slots.size ≤ ((1 : Int32)).toNatClampNeg) := inb_of Sz8 ⟨by decide, by decide⟩
    have hat8 : cl8.slots[((1 : Int32)).toNatClampNeg]? = some (.long (9187201950435737471 : Int64)) := Has.at Hs8 hin8 rfl
    obtain ⟨fs, hr, hrun, hended, hW, hsame⟩ := X7.leave (v := some (.long (((q1.toUInt64 >>> ((1 : Int32) &&& 0x3f).toInt64.toUInt64).toInt64) &&& (9187201950435737471 : Int64)))) (fun h => by rw [Bd.returns] at h; cases h)
    refine ⟨_, _, pre0 _ ?_, hrun, hended, _, _, rfl, ?_, ⟨_, rfl⟩, hW, hsame.mono (by decide) (by decide)⟩
    ·
      show Steps p.tables e below (s₁.setTop (mkF m 0 #[.val (.long q1), .second, .val (.int p2), .unset, .unset, .unset] [])) _
      rewrite [hd_1]
      show Steps p.tables e below (s₁.setTop (mkF m 0 #[.val (.long q1), .second, .val (.int (1 : Int32)), .unset, .unset, .unset] [])) _
      refine st5 _ ?_
      show Steps p.tables e below (T5.setTop (mkF m 3 #[.val (.long q1), .second, .val (.int (1 : Int32)), .unset, .unset, .unset] [(.ref w_STEPS)])) _
      refine XS.iloadN X5.here hx rfl (hb hby d2_3) rfl ?_
      show Steps p.tables e below (T5.setTop (mkF m 4 #[.val (.long q1), .second, .val (.int (1 : Int32)), .unset, .unset, .unset] [(.int (1 : Int32)), (.ref w_STEPS)])) _
      refine X5.iaload hx (j := (1 : Int32)) (v := (.int (-1 : Int32))) (by rw [e5]; exact Ar6.1) (State.isArrayOf_alike hZ.alike Ar6.2.1) Ar6.2.2 hin6 hat6 (g := (mkF m 4 #[.val (.long q1), .second, .val (.int (1 : Int32)), .unset, .unset, .unset] [(.int (1 : Int32)), (.ref w_STEPS)])) rfl rfl (hb hby d2_4) _ ?_
      show Steps p.tables e below (T5.setTop (mkF m 5 #[.val (.long q1), .second, .val (.int (1 : Int32)), .unset, .unset, .unset] [(.int (-1 : Int32))])) _
      refine XS.istoreN X5.here hx rfl (hb hby d2_5) rfl (l' := #[.val (.long q1), .second, .val (.int (1 : Int32)), .val (.int (-1 : Int32)), .unset, .unset]) rfl ?_
      show Steps p.tables e below (T5.setTop (mkF m 6 #[.val (.long q1), .second, .val (.int (1 : Int32)), .val (.int (-1 : Int32)), .unset, .unset] [])) _
      refine XS.iloadN X5.here hx rfl (hb hby d2_6) rfl ?_
      show Steps p.tables e below (T5.setTop (mkF m 7 #[.val (.long q1), .second, .val (.int (1 : Int32)), .val (.int (-1 : Int32)), .unset, .unset] [(.int (-1 : Int32))])) _
      refine XS.ifYes X5.here hx rfl (pc0 := 7) (pc' := 16) rfl (hb hby d2_7) rfl ((if0 _ _).trans (flt (by decide : ¬ ((0 : Int32) < (-1 : Int32)))).2.2.2) (by decide) (by decide) ?_
      show Steps p.tables e below (T5.setTop (mkF m 16 #[.val (.long q1), .second, .val (.int (1 : Int32)), .val (.int (-1 : Int32)), .unset, .unset] [])) _
      refine XS.lloadN X5.here hx rfl (hb hby d2_16) rfl ?_
      show Steps p.tables e below (T5.setTop (mkF m 17 #[.val (.long q1), .second, .val (.int (1 : Int32)), .val (.int (-1 : Int32)), .unset, .unset] [(.long q1)])) _
      refine XS.iloadN X5.here hx rfl (hb hby d2_17) rfl ?_
      show Steps p.tables e below (T5.setTop (mkF m 18 #[.val (.long q1), .second, .val (.int (1 : Int32)), .val (.int (-1 : Int32)), .unset, .unset] [(.int (-1 : Int32)), (.long q1)])) _
      refine XS.ineg X5.here hx rfl (hb hby d2_18) rfl ?_
      show Steps p.tables e below (T5.setTop (mkF m 19 #[.val (.long q1), .second, .val (.int (1 : Int32)), .val (.int (-1 : Int32)), .unset, .unset] [(.int (-(-1 : Int32))), (.long q1)])) _
      rewrite [show (-(-1 : Int32)) = (1 : Int32) from by decide]
      show Steps p.tables e below (T5.setTop (mkF m 19 #[.val (.long q1), .second, .val (.int (1 : Int32)), .val (.int (-1 : Int32)), .unset, .unset] [(.int (1 : Int32)), (.long q1)])) _
      refine XS.lushr X5.here hx rfl (hb hby d2_19) rfl ?_
      show Steps p.tables e below (T5.setTop (mkF m 20 #[.val (.long q1), .second, .val (.int (1 : Int32)), .val (.int (-1 : Int32)), .unset, .unset] [(.long ((q1.toUInt64 >>> ((1 : Int32) &&& 0x3f).toInt64.toUInt64).toInt64))])) _
      refine XS.lstore X5.here hx rfl (hb hby d2_20) rfl (l' := #[.val (.long q1), .second, .val (.int (1 : Int32)), .val (.int (-1 : Int32)), .val (.long ((q1.toUInt64 >>> ((1 : Int32) &&& 0x3f).toInt64.toUInt64).toInt64)), .second]) rfl ?_
      show Steps p.tables e below (T5.setTop (mkF m 22 #[.val (.long q1), .second, .val (.int (1 : Int32)), .val (.int (-1 : Int32)), .val (.long ((q1.toUInt64 >>> ((1 : Int32) &&& 0x3f).toInt64.toUInt64).toInt64)), .second] [])) _
      refine XS.lload X5.here hx rfl (hb hby d2_22) rfl ?_
      show Steps p.tables e below (T5.setTop (mkF m 24 #[.val (.long q1), .second, .val (.int (1 : Int32)), .val (.int (-1 : Int32)), .val (.long ((q1.toUInt64 >>> ((1 : Int32) &&& 0x3f).toInt64.toUInt64).toInt64)), .second] [(.long ((q1.toUInt64 >>> ((1 : Int32) &&& 0x3f).toInt64.toUInt64).toInt64))])) _
      refine st7 _ ?_
      show Steps p.tables e below (T7.setTop (mkF m 27 #[.val (.long q1), .second, .val (.int (1 : Int32)), .val (.int (-1 : Int32)), .val (.long ((q1.toUInt64 >>> ((1 : Int32) &&& 0x3f).toInt64.toUInt64).toInt64)), .second] [(.ref w_LANDINGS), (.long ((q1.toUInt64 >>> ((1 : Int32) &&& 0x3f).toInt64.toUInt64).toInt64))])) _
      refine XS.iloadN X7.here hx rfl (hb hby d2_27) rfl ?_
      show Steps p.tables e below (T7.setTop (mkF m 28 #[.val (.long q1), .second, .val (.int (1 : Int32)), .val (.int (-1 : Int32)), .val (.long ((q1.toUInt64 >>> ((1 : Int32) &&& 0x3f).toInt64.toUInt64).toInt64)), .second] [(.int (1 : Int32)), (.ref w_LANDINGS), (.long ((q1.toUInt64 >>> ((1 : Int32) &&& 0x3f).toInt64.toUInt64).toInt64))])) _
      refine X7.laload hx (j := (1 : Int32)) (v := (.long (9187201950435737471 : Int64))) (by rw [e7]; exact Ar8.1) (State.isArrayOf_alike hZ.alike Ar8.2.1) Ar8.2.2 hin8 hat8 (g := (mkF m 28 #[.val (.long q1), .second, .val (.int (1 : Int32)), .val (.int (-1 : Int32)), .val (.long ((q1.toUInt64 >>> ((1 : Int32) &&& 0x3f).toInt64.toUInt64).toInt64)), .second] [(.int (1 : Int32)), (.ref w_LANDINGS), (.long ((q1.toUInt64 >>> ((1 : Int32) &&& 0x3f).toInt64.toUInt64).toInt64))])) rfl rfl (hb hby d2_28) _ ?_
      show Steps p.tables e below (T7.setTop (mkF m 29 #[.val (.long q1), .second, .val (.int (1 : Int32)), .val (.int (-1 : Int32)), .val (.long ((q1.toUInt64 >>> ((1 : Int32) &&& 0x3f).toInt64.toUInt64).toInt64)), .second] [(.long (9187201950435737471 : Int64)), (.long ((q1.toUInt64 >>> ((1 : Int32) &&& 0x3f).toInt64.toUInt64).toInt64))])) _
      refine XS.land X7.here hx rfl (hb hby d2_29) rfl ?_
      show Steps p.tables e below (T7.setTop (mkF m 30 #[.val (.long q1), .second, .val (.int (1 : Int32)), .val (.int (-1 : Int32)), .val (.long ((q1.toUInt64 >>> ((1 : Int32) &&& 0x3f).toInt64.toUInt64).toInt64)), .second] [(.long (((q1.toUInt64 >>> ((1 : Int32) &&& 0x3f).toInt64.toUInt64).toInt64) &&& (9187201950435737471 : Int64)))])) _
      exact X7.lreturnOut hx Bd.returns (hb hby d2_30) hr
    · show Q2_0 Z q1 p2 w_STEPS kv_STEPS w_LANDINGS kv_LANDINGS h0 n0 _ T7.heap _
      rw [e7]
      exact ⟨(by rw [hd_1]; rfl), N0, rfl⟩
  ·
    obtain ⟨T9, X9, e9, st9⟩ := getS2 X0 hx hZ hown (host := "") (Or.inl (hw _ (List.mem_of_getElem? (i := 6) rfl))) Via.refl e0 S_STEPS (g := (mkF m 0 #[.val (.long q1), .second, .val (.int (2 : Int32)), .unset, .unset, .unset] [])) rfl (hb hby d2_0)
    obtain ⟨cl10, Ar10, qq10, Sz10, Nn10, Hs10, Gs10⟩ := id V_STEPS
    have hin10 : ¬ ((2 : Int32) < 0 ∨ cl10.slots.size ≤ ((2 : Int32)).toNatClampNeg) := inb_of Sz10 ⟨by decide, by decide⟩
    have hat10 : cl10.slots[((2 : Int32)).toNatClampNeg]? = some (.int (8 : Int32)) := Has.at Hs10 hin10 rfl
    obtain ⟨T11, X11, e11, st11⟩ := getS2 X9 hx hZ hown (host := "") (Or.inl (hw _ (List.mem_of_getElem? (i := 11) rfl))) Via.refl e9 S_LANDINGS (g := (mkF m 24 #[.val (.long q1), .second, .val (.int (2 : Int32)), .val (.int (8 : Int32)), .val (.long (q1 <<< ((8 : Int32) &&& 0x3f).toInt64)), .second] [(.long (q1 <<< ((8 : Int32) &&& 0x3f).toInt64))])) rfl (hb hby d2_24)
    obtain ⟨cl12, Ar12, qq12, Sz12, Nn12, Hs12, Gs12⟩ := id V_LANDINGS
    have hin12 : ¬ ((2 : Int32) < 0 ∨ cl12.slots.size ≤ ((2 : Int32)).toNatClampNeg) := inb_of Sz12 ⟨by decide, by decide⟩
    have hat12 : cl12.slots[((2 : Int32)).toNatClampNeg]? = some (.long (-1 : Int64)) := Has.at Hs12 hin12 rfl
    obtain ⟨fs, hr, hrun, hended, hW, hsame⟩ := X11.leave (v := some (.long ((q1 <<< ((8 : Int32) &&& 0x3f).toInt64) &&& (-1 : Int64)))) (fun h => by rw [Bd.returns] at h; cases h)
    refine ⟨_, _, pre0 _ ?_, hrun, hended, _, _, rfl, ?_, ⟨_, rfl⟩, hW, hsame.mono (by decide) (by decide)⟩
    ·
      show Steps p.tables e below (s₁.setTop (mkF m 0 #[.val (.long q1), .second, .val (.int p2), .unset, .unset, .unset] [])) _
      rewrite [hd_2]
      show Steps p.tables e below (s₁.setTop (mkF m 0 #[.val (.long q1), .second, .val (.int (2 : Int32)), .unset, .unset, .unset] [])) _
      refine st9 _ ?_
      show Steps p.tables e below (T9.setTop (mkF m 3 #[.val (.long q1), .second, .val (.int (2 : Int32)), .unset, .unset, .unset] [(.ref w_STEPS)])) _
      refine XS.iloadN X9.here hx rfl (hb hby d2_3) rfl ?_
      show Steps p.tables e below (T9.setTop (mkF m 4 #[.val (.long q1), .second, .val (.int (2 : Int32)), .unset, .unset, .unset] [(.int (2 : Int32)), (.ref w_STEPS)])) _
      refine X9.iaload hx (j := (2 : Int32)) (v := (.int (8 : Int32))) (by rw [e9]; exact Ar10.1) (State.isArrayOf_alike hZ.alike Ar10.2.1) Ar10.2.2 hin10 hat10 (g := (mkF m 4 #[.val (.long q1), .second, .val (.int (2 : Int32)), .unset, .unset, .unset] [(.int (2 : Int32)), (.ref w_STEPS)])) rfl rfl (hb hby d2_4) _ ?_
      show Steps p.tables e below (T9.setTop (mkF m 5 #[.val (.long q1), .second, .val (.int (2 : Int32)), .unset, .unset, .unset] [(.int (8 : Int32))])) _
      refine XS.istoreN X9.here hx rfl (hb hby d2_5) rfl (l' := #[.val (.long q1), .second, .val (.int (2 : Int32)), .val (.int (8 : Int32)), .unset, .unset]) rfl ?_
      show Steps p.tables e below (T9.setTop (mkF m 6 #[.val (.long q1), .second, .val (.int (2 : Int32)), .val (.int (8 : Int32)), .unset, .unset] [])) _
      refine XS.iloadN X9.here hx rfl (hb hby d2_6) rfl ?_
      show Steps p.tables e below (T9.setTop (mkF m 7 #[.val (.long q1), .second, .val (.int (2 : Int32)), .val (.int (8 : Int32)), .unset, .unset] [(.int (8 : Int32))])) _
      refine XS.ifNo X9.here hx rfl (hb hby d2_7) rfl ((if0 _ _).trans (tlt (by decide : (0 : Int32) < (8 : Int32))).2.2.2) ?_
      show Steps p.tables e below (T9.setTop (mkF m 10 #[.val (.long q1), .second, .val (.int (2 : Int32)), .val (.int (8 : Int32)), .unset, .unset] [])) _
      refine XS.lloadN X9.here hx rfl (hb hby d2_10) rfl ?_
      show Steps p.tables e below (T9.setTop (mkF m 11 #[.val (.long q1), .second, .val (.int (2 : Int32)), .val (.int (8 : Int32)), .unset, .unset] [(.long q1)])) _
      refine XS.iloadN X9.here hx rfl (hb hby d2_11) rfl ?_
      show Steps p.tables e below (T9.setTop (mkF m 12 #[.val (.long q1), .second, .val (.int (2 : Int32)), .val (.int (8 : Int32)), .unset, .unset] [(.int (8 : Int32)), (.long q1)])) _
      refine XS.lshl X9.here hx rfl (hb hby d2_12) rfl ?_
      show Steps p.tables e below (T9.setTop (mkF m 13 #[.val (.long q1), .second, .val (.int (2 : Int32)), .val (.int (8 : Int32)), .unset, .unset] [(.long (q1 <<< ((8 : Int32) &&& 0x3f).toInt64))])) _
      refine XS.goto X9.here hx rfl (pc0 := 13) (pc' := 20) rfl (hb hby d2_13) (by decide) (by decide) ?_
      show Steps p.tables e below (T9.setTop (mkF m 20 #[.val (.long q1), .second, .val (.int (2 : Int32)), .val (.int (8 : Int32)), .unset, .unset] [(.long (q1 <<< ((8 : Int32) &&& 0x3f).toInt64))])) _
      refine XS.lstore X9.here hx rfl (hb hby d2_20) rfl (l' := #[.val (.long q1), .second, .val (.int (2 : Int32)), .val (.int (8 : Int32)), .val (.long (q1 <<< ((8 : Int32) &&& 0x3f).toInt64)), .second]) rfl ?_
      show Steps p.tables e below (T9.setTop (mkF m 22 #[.val (.long q1), .second, .val (.int (2 : Int32)), .val (.int (8 : Int32)), .val (.long (q1 <<< ((8 : Int32) &&& 0x3f).toInt64)), .second] [])) _
      refine XS.lload X9.here hx rfl (hb hby d2_22) rfl ?_
      show Steps p.tables e below (T9.setTop (mkF m 24 #[.val (.long q1), .second, .val (.int (2 : Int32)), .val (.int (8 : Int32)), .val (.long (q1 <<< ((8 : Int32) &&& 0x3f).toInt64)), .second] [(.long (q1 <<< ((8 : Int32) &&& 0x3f).toInt64))])) _
      refine st11 _ ?_
      show Steps p.tables e below (T11.setTop (mkF m 27 #[.val (.long q1), .second, .val (.int (2 : Int32)), .val (.int (8 : Int32)), .val (.long (q1 <<< ((8 : Int32) &&& 0x3f).toInt64)), .second] [(.ref w_LANDINGS), (.long (q1 <<< ((8 : Int32) &&& 0x3f).toInt64))])) _
      refine XS.iloadN X11.here hx rfl (hb hby d2_27) rfl ?_
      show Steps p.tables e below (T11.setTop (mkF m 28 #[.val (.long q1), .second, .val (.int (2 : Int32)), .val (.int (8 : Int32)), .val (.long (q1 <<< ((8 : Int32) &&& 0x3f).toInt64)), .second] [(.int (2 : Int32)), (.ref w_LANDINGS), (.long (q1 <<< ((8 : Int32) &&& 0x3f).toInt64))])) _
      refine X11.laload hx (j := (2 : Int32)) (v := (.long (-1 : Int64))) (by rw [e11]; exact Ar12.1) (State.isArrayOf_alike hZ.alike Ar12.2.1) Ar12.2.2 hin12 hat12 (g := (mkF m 28 #[.val (.long q1), .second, .val (.int (2 : Int32)), .val (.int (8 : Int32)), .val (.long (q1 <<< ((8 : Int32) &&& 0x3f).toInt64)), .second] [(.int (2 : Int32)), (.ref w_LANDINGS), (.long (q1 <<< ((8 : Int32) &&& 0x3f).toInt64))])) rfl rfl (hb hby d2_28) _ ?_
      show Steps p.tables e below (T11.setTop (mkF m 29 #[.val (.long q1), .second, .val (.int (2 : Int32)), .val (.int (8 : Int32)), .val (.long (q1 <<< ((8 : Int32) &&& 0x3f).toInt64)), .second] [(.long (-1 : Int64)), (.long (q1 <<< ((8 : Int32) &&& 0x3f).toInt64))])) _
      refine XS.land X11.here hx rfl (hb hby d2_29) rfl ?_
      show Steps p.tables e below (T11.setTop (mkF m 30 #[.val (.long q1), .second, .val (.int (2 : Int32)), .val (.int (8 : Int32)), .val (.long (q1 <<< ((8 : Int32) &&& 0x3f).toInt64)), .second] [(.long ((q1 <<< ((8 : Int32) &&& 0x3f).toInt64) &&& (-1 : Int64)))])) _
      exact X11.lreturnOut hx Bd.returns (hb hby d2_30) hr
    · show Q2_0 Z q1 p2 w_STEPS kv_STEPS w_LANDINGS kv_LANDINGS h0 n0 _ T11.heap _
      rw [e11]
      exact ⟨(by rw [hd_2]; rfl), N0, rfl⟩
  ·
    obtain ⟨T13, X13, e13, st13⟩ := getS2 X0 hx hZ hown (host := "") (Or.inl (hw _ (List.mem_of_getElem? (i := 6) rfl))) Via.refl e0 S_STEPS (g := (mkF m 0 #[.val (.long q1), .second, .val (.int (3 : Int32)), .unset, .unset, .unset] [])) rfl (hb hby d2_0)
    obtain ⟨cl14, Ar14, qq14, Sz14, Nn14, Hs14, Gs14⟩ := id V_STEPS
    have hin14 : ¬ ((3 : Int32) < 0 ∨ cl14.slots.size ≤ ((3 : Int32)).toNatClampNeg) := inb_of Sz14 ⟨by decide, by decide⟩
    have hat14 : cl14.slots[((3 : Int32)).toNatClampNeg]? = some (.int (-8 : Int32)) := Has.at Hs14 hin14 rfl
    obtain ⟨T15, X15, e15, st15⟩ := getS2 X13 hx hZ hown (host := "") (Or.inl (hw _ (List.mem_of_getElem? (i := 11) rfl))) Via.refl e13 S_LANDINGS (g := (mkF m 24 #[.val (.long q1), .second, .val (.int (3 : Int32)), .val (.int (-8 : Int32)), .val (.long ((q1.toUInt64 >>> ((8 : Int32) &&& 0x3f).toInt64.toUInt64).toInt64)), .second] [(.long ((q1.toUInt64 >>> ((8 : Int32) &&& 0x3f).toInt64.toUInt64).toInt64))])) rfl (hb hby d2_24)
    obtain ⟨cl16, Ar16, qq16, Sz16, Nn16, Hs16, Gs16⟩ := id V_LANDINGS
    have hin16 : ¬ ((3 : Int32) < 0 ∨ cl16.slots.size ≤ ((3 : Int32)).toNatClampNeg) := inb_of Sz16 ⟨by decide, by decide⟩
    have hat16 : cl16.slots[((3 : Int32)).toNatClampNeg]? = some (.long (-1 : Int64)) := Has.at Hs16 hin16 rfl
    obtain ⟨fs, hr, hrun, hended, hW, hsame⟩ := X15.leave (v := some (.long (((q1.toUInt64 >>> ((8 : Int32) &&& 0x3f).toInt64.toUInt64).toInt64) &&& (-1 : Int64)))) (fun h => by rw [Bd.returns] at h; cases h)
    refine ⟨_, _, pre0 _ ?_, hrun, hended, _, _, rfl, ?_, ⟨_, rfl⟩, hW, hsame.mono (by decide) (by decide)⟩
    ·
      show Steps p.tables e below (s₁.setTop (mkF m 0 #[.val (.long q1), .second, .val (.int p2), .unset, .unset, .unset] [])) _
      rewrite [hd_3]
      show Steps p.tables e below (s₁.setTop (mkF m 0 #[.val (.long q1), .second, .val (.int (3 : Int32)), .unset, .unset, .unset] [])) _
      refine st13 _ ?_
      show Steps p.tables e below (T13.setTop (mkF m 3 #[.val (.long q1), .second, .val (.int (3 : Int32)), .unset, .unset, .unset] [(.ref w_STEPS)])) _
      refine XS.iloadN X13.here hx rfl (hb hby d2_3) rfl ?_
      show Steps p.tables e below (T13.setTop (mkF m 4 #[.val (.long q1), .second, .val (.int (3 : Int32)), .unset, .unset, .unset] [(.int (3 : Int32)), (.ref w_STEPS)])) _
      refine X13.iaload hx (j := (3 : Int32)) (v := (.int (-8 : Int32))) (by rw [e13]; exact Ar14.1) (State.isArrayOf_alike hZ.alike Ar14.2.1) Ar14.2.2 hin14 hat14 (g := (mkF m 4 #[.val (.long q1), .second, .val (.int (3 : Int32)), .unset, .unset, .unset] [(.int (3 : Int32)), (.ref w_STEPS)])) rfl rfl (hb hby d2_4) _ ?_
      show Steps p.tables e below (T13.setTop (mkF m 5 #[.val (.long q1), .second, .val (.int (3 : Int32)), .unset, .unset, .unset] [(.int (-8 : Int32))])) _
      refine XS.istoreN X13.here hx rfl (hb hby d2_5) rfl (l' := #[.val (.long q1), .second, .val (.int (3 : Int32)), .val (.int (-8 : Int32)), .unset, .unset]) rfl ?_
      show Steps p.tables e below (T13.setTop (mkF m 6 #[.val (.long q1), .second, .val (.int (3 : Int32)), .val (.int (-8 : Int32)), .unset, .unset] [])) _
      refine XS.iloadN X13.here hx rfl (hb hby d2_6) rfl ?_
      show Steps p.tables e below (T13.setTop (mkF m 7 #[.val (.long q1), .second, .val (.int (3 : Int32)), .val (.int (-8 : Int32)), .unset, .unset] [(.int (-8 : Int32))])) _
      refine XS.ifYes X13.here hx rfl (pc0 := 7) (pc' := 16) rfl (hb hby d2_7) rfl ((if0 _ _).trans (flt (by decide : ¬ ((0 : Int32) < (-8 : Int32)))).2.2.2) (by decide) (by decide) ?_
      show Steps p.tables e below (T13.setTop (mkF m 16 #[.val (.long q1), .second, .val (.int (3 : Int32)), .val (.int (-8 : Int32)), .unset, .unset] [])) _
      refine XS.lloadN X13.here hx rfl (hb hby d2_16) rfl ?_
      show Steps p.tables e below (T13.setTop (mkF m 17 #[.val (.long q1), .second, .val (.int (3 : Int32)), .val (.int (-8 : Int32)), .unset, .unset] [(.long q1)])) _
      refine XS.iloadN X13.here hx rfl (hb hby d2_17) rfl ?_
      show Steps p.tables e below (T13.setTop (mkF m 18 #[.val (.long q1), .second, .val (.int (3 : Int32)), .val (.int (-8 : Int32)), .unset, .unset] [(.int (-8 : Int32)), (.long q1)])) _
      refine XS.ineg X13.here hx rfl (hb hby d2_18) rfl ?_
      show Steps p.tables e below (T13.setTop (mkF m 19 #[.val (.long q1), .second, .val (.int (3 : Int32)), .val (.int (-8 : Int32)), .unset, .unset] [(.int (-(-8 : Int32))), (.long q1)])) _
      rewrite [show (-(-8 : Int32)) = (8 : Int32) from by decide]
      show Steps p.tables e below (T13.setTop (mkF m 19 #[.val (.long q1), .second, .val (.int (3 : Int32)), .val (.int (-8 : Int32)), .unset, .unset] [(.int (8 : Int32)), (.long q1)])) _
      refine XS.lushr X13.here hx rfl (hb hby d2_19) rfl ?_
      show Steps p.tables e below (T13.setTop (mkF m 20 #[.val (.long q1), .second, .val (.int (3 : Int32)), .val (.int (-8 : Int32)), .unset, .unset] [(.long ((q1.toUInt64 >>> ((8 : Int32) &&& 0x3f).toInt64.toUInt64).toInt64))])) _
      refine XS.lstore X13.here hx rfl (hb hby d2_20) rfl (l' := #[.val (.long q1), .second, .val (.int (3 : Int32)), .val (.int (-8 : Int32)), .val (.long ((q1.toUInt64 >>> ((8 : Int32) &&& 0x3f).toInt64.toUInt64).toInt64)), .second]) rfl ?_
      show Steps p.tables e below (T13.setTop (mkF m 22 #[.val (.long q1), .second, .val (.int (3 : Int32)), .val (.int (-8 : Int32)), .val (.long ((q1.toUInt64 >>> ((8 : Int32) &&& 0x3f).toInt64.toUInt64).toInt64)), .second] [])) _
      refine XS.lload X13.here hx rfl (hb hby d2_22) rfl ?_
      show Steps p.tables e below (T13.setTop (mkF m 24 #[.val (.long q1), .second, .val (.int (3 : Int32)), .val (.int (-8 : Int32)), .val (.long ((q1.toUInt64 >>> ((8 : Int32) &&& 0x3f).toInt64.toUInt64).toInt64)), .second] [(.long ((q1.toUInt64 >>> ((8 : Int32) &&& 0x3f).toInt64.toUInt64).toInt64))])) _
      refine st15 _ ?_
      show Steps p.tables e below (T15.setTop (mkF m 27 #[.val (.long q1), .second, .val (.int (3 : Int32)), .val (.int (-8 : Int32)), .val (.long ((q1.toUInt64 >>> ((8 : Int32) &&& 0x3f).toInt64.toUInt64).toInt64)), .second] [(.ref w_LANDINGS), (.long ((q1.toUInt64 >>> ((8 : Int32) &&& 0x3f).toInt64.toUInt64).toInt64))])) _
      refine XS.iloadN X15.here hx rfl (hb hby d2_27) rfl ?_
      show Steps p.tables e below (T15.setTop (mkF m 28 #[.val (.long q1), .second, .val (.int (3 : Int32)), .val (.int (-8 : Int32)), .val (.long ((q1.toUInt64 >>> ((8 : Int32) &&& 0x3f).toInt64.toUInt64).toInt64)), .second] [(.int (3 : Int32)), (.ref w_LANDINGS), (.long ((q1.toUInt64 >>> ((8 : Int32) &&& 0x3f).toInt64.toUInt64).toInt64))])) _
      refine X15.laload hx (j := (3 : Int32)) (v := (.long (-1 : Int64))) (by rw [e15]; exact Ar16.1) (State.isArrayOf_alike hZ.alike Ar16.2.1) Ar16.2.2 hin16 hat16 (g := (mkF m 28 #[.val (.long q1), .second, .val (.int (3 : Int32)), .val (.int (-8 : Int32)), .val (.long ((q1.toUInt64 >>> ((8 : Int32) &&& 0x3f).toInt64.toUInt64).toInt64)), .second] [(.int (3 : Int32)), (.ref w_LANDINGS), (.long ((q1.toUInt64 >>> ((8 : Int32) &&& 0x3f).toInt64.toUInt64).toInt64))])) rfl rfl (hb hby d2_28) _ ?_
      show Steps p.tables e below (T15.setTop (mkF m 29 #[.val (.long q1), .second, .val (.int (3 : Int32)), .val (.int (-8 : Int32)), .val (.long ((q1.toUInt64 >>> ((8 : Int32) &&& 0x3f).toInt64.toUInt64).toInt64)), .second] [(.long (-1 : Int64)), (.long ((q1.toUInt64 >>> ((8 : Int32) &&& 0x3f).toInt64.toUInt64).toInt64))])) _
      refine XS.land X15.here hx rfl (hb hby d2_29) rfl ?_
      show Steps p.tables e below (T15.setTop (mkF m 30 #[.val (.long q1), .second, .val (.int (3 : Int32)), .val (.int (-8 : Int32)), .val (.long ((q1.toUInt64 >>> ((8 : Int32) &&& 0x3f).toInt64.toUInt64).toInt64)), .second] [(.long (((q1.toUInt64 >>> ((8 : Int32) &&& 0x3f).toInt64.toUInt64).toInt64) &&& (-1 : Int64)))])) _
      exact X15.lreturnOut hx Bd.returns (hb hby d2_30) hr
    · show Q2_0 Z q1 p2 w_STEPS kv_STEPS w_LANDINGS kv_LANDINGS h0 n0 _ T15.heap _
      rw [e15]
      exact ⟨(by rw [hd_3]; rfl), N0, rfl⟩
  ·
    obtain ⟨T17, X17, e17, st17⟩ := getS2 X0 hx hZ hown (host := "") (Or.inl (hw _ (List.mem_of_getElem? (i := 6) rfl))) Via.refl e0 S_STEPS (g := (mkF m 0 #[.val (.long q1), .second, .val (.int (4 : Int32)), .unset, .unset, .unset] [])) rfl (hb hby d2_0)
    obtain ⟨cl18, Ar18, qq18, Sz18, Nn18, Hs18, Gs18⟩ := id V_STEPS
    have hin18 : ¬ ((4 : Int32) < 0 ∨ cl18.slots.size ≤ ((4 : Int32)).toNatClampNeg) := inb_of Sz18 ⟨by decide, by decide⟩
    have hat18 : cl18.slots[((4 : Int32)).toNatClampNeg]? = some (.int (9 : Int32)) := Has.at Hs18 hin18 rfl
    obtain ⟨T19, X19, e19, st19⟩ := getS2 X17 hx hZ hown (host := "") (Or.inl (hw _ (List.mem_of_getElem? (i := 11) rfl))) Via.refl e17 S_LANDINGS (g := (mkF m 24 #[.val (.long q1), .second, .val (.int (4 : Int32)), .val (.int (9 : Int32)), .val (.long (q1 <<< ((9 : Int32) &&& 0x3f).toInt64)), .second] [(.long (q1 <<< ((9 : Int32) &&& 0x3f).toInt64))])) rfl (hb hby d2_24)
    obtain ⟨cl20, Ar20, qq20, Sz20, Nn20, Hs20, Gs20⟩ := id V_LANDINGS
    have hin20 : ¬ ((4 : Int32) < 0 ∨ cl20.slots.size ≤ ((4 : Int32)).toNatClampNeg) := inb_of Sz20 ⟨by decide, by decide⟩
    have hat20 : cl20.slots[((4 : Int32)).toNatClampNeg]? = some (.long (-72340172838076674 : Int64)) := Has.at Hs20 hin20 rfl
    obtain ⟨fs, hr, hrun, hended, hW, hsame⟩ := X19.leave (v := some (.long ((q1 <<< ((9 : Int32) &&& 0x3f).toInt64) &&& (-72340172838076674 : Int64)))) (fun h => by rw [Bd.returns] at h; cases h)
    refine ⟨_, _, pre0 _ ?_, hrun, hended, _, _, rfl, ?_, ⟨_, rfl⟩, hW, hsame.mono (by decide) (by decide)⟩
    ·
      show Steps p.tables e below (s₁.setTop (mkF m 0 #[.val (.long q1), .second, .val (.int p2), .unset, .unset, .unset] [])) _
      rewrite [hd_4]
      show Steps p.tables e below (s₁.setTop (mkF m 0 #[.val (.long q1), .second, .val (.int (4 : Int32)), .unset, .unset, .unset] [])) _
      refine st17 _ ?_
      show Steps p.tables e below (T17.setTop (mkF m 3 #[.val (.long q1), .second, .val (.int (4 : Int32)), .unset, .unset, .unset] [(.ref w_STEPS)])) _
      refine XS.iloadN X17.here hx rfl (hb hby d2_3) rfl ?_
      show Steps p.tables e below (T17.setTop (mkF m 4 #[.val (.long q1), .second, .val (.int (4 : Int32)), .unset, .unset, .unset] [(.int (4 : Int32)), (.ref w_STEPS)])) _
      refine X17.iaload hx (j := (4 : Int32)) (v := (.int (9 : Int32))) (by rw [e17]; exact Ar18.1) (State.isArrayOf_alike hZ.alike Ar18.2.1) Ar18.2.2 hin18 hat18 (g := (mkF m 4 #[.val (.long q1), .second, .val (.int (4 : Int32)), .unset, .unset, .unset] [(.int (4 : Int32)), (.ref w_STEPS)])) rfl rfl (hb hby d2_4) _ ?_
      show Steps p.tables e below (T17.setTop (mkF m 5 #[.val (.long q1), .second, .val (.int (4 : Int32)), .unset, .unset, .unset] [(.int (9 : Int32))])) _
      refine XS.istoreN X17.here hx rfl (hb hby d2_5) rfl (l' := #[.val (.long q1), .second, .val (.int (4 : Int32)), .val (.int (9 : Int32)), .unset, .unset]) rfl ?_
      show Steps p.tables e below (T17.setTop (mkF m 6 #[.val (.long q1), .second, .val (.int (4 : Int32)), .val (.int (9 : Int32)), .unset, .unset] [])) _
      refine XS.iloadN X17.here hx rfl (hb hby d2_6) rfl ?_
      show Steps p.tables e below (T17.setTop (mkF m 7 #[.val (.long q1), .second, .val (.int (4 : Int32)), .val (.int (9 : Int32)), .unset, .unset] [(.int (9 : Int32))])) _
      refine XS.ifNo X17.here hx rfl (hb hby d2_7) rfl ((if0 _ _).trans (tlt (by decide : (0 : Int32) < (9 : Int32))).2.2.2) ?_
      show Steps p.tables e below (T17.setTop (mkF m 10 #[.val (.long q1), .second, .val (.int (4 : Int32)), .val (.int (9 : Int32)), .unset, .unset] [])) _
      refine XS.lloadN X17.here hx rfl (hb hby d2_10) rfl ?_
      show Steps p.tables e below (T17.setTop (mkF m 11 #[.val (.long q1), .second, .val (.int (4 : Int32)), .val (.int (9 : Int32)), .unset, .unset] [(.long q1)])) _
      refine XS.iloadN X17.here hx rfl (hb hby d2_11) rfl ?_
      show Steps p.tables e below (T17.setTop (mkF m 12 #[.val (.long q1), .second, .val (.int (4 : Int32)), .val (.int (9 : Int32)), .unset, .unset] [(.int (9 : Int32)), (.long q1)])) _
      refine XS.lshl X17.here hx rfl (hb hby d2_12) rfl ?_
      show Steps p.tables e below (T17.setTop (mkF m 13 #[.val (.long q1), .second, .val (.int (4 : Int32)), .val (.int (9 : Int32)), .unset, .unset] [(.long (q1 <<< ((9 : Int32) &&& 0x3f).toInt64))])) _
      refine XS.goto X17.here hx rfl (pc0 := 13) (pc' := 20) rfl (hb hby d2_13) (by decide) (by decide) ?_
      show Steps p.tables e below (T17.setTop (mkF m 20 #[.val (.long q1), .second, .val (.int (4 : Int32)), .val (.int (9 : Int32)), .unset, .unset] [(.long (q1 <<< ((9 : Int32) &&& 0x3f).toInt64))])) _
      refine XS.lstore X17.here hx rfl (hb hby d2_20) rfl (l' := #[.val (.long q1), .second, .val (.int (4 : Int32)), .val (.int (9 : Int32)), .val (.long (q1 <<< ((9 : Int32) &&& 0x3f).toInt64)), .second]) rfl ?_
      show Steps p.tables e below (T17.setTop (mkF m 22 #[.val (.long q1), .second, .val (.int (4 : Int32)), .val (.int (9 : Int32)), .val (.long (q1 <<< ((9 : Int32) &&& 0x3f).toInt64)), .second] [])) _
      refine XS.lload X17.here hx rfl (hb hby d2_22) rfl ?_
      show Steps p.tables e below (T17.setTop (mkF m 24 #[.val (.long q1), .second, .val (.int (4 : Int32)), .val (.int (9 : Int32)), .val (.long (q1 <<< ((9 : Int32) &&& 0x3f).toInt64)), .second] [(.long (q1 <<< ((9 : Int32) &&& 0x3f).toInt64))])) _
      refine st19 _ ?_
      show Steps p.tables e below (T19.setTop (mkF m 27 #[.val (.long q1), .second, .val (.int (4 : Int32)), .val (.int (9 : Int32)), .val (.long (q1 <<< ((9 : Int32) &&& 0x3f).toInt64)), .second] [(.ref w_LANDINGS), (.long (q1 <<< ((9 : Int32) &&& 0x3f).toInt64))])) _
      refine XS.iloadN X19.here hx rfl (hb hby d2_27) rfl ?_
      show Steps p.tables e below (T19.setTop (mkF m 28 #[.val (.long q1), .second, .val (.int (4 : Int32)), .val (.int (9 : Int32)), .val (.long (q1 <<< ((9 : Int32) &&& 0x3f).toInt64)), .second] [(.int (4 : Int32)), (.ref w_LANDINGS), (.long (q1 <<< ((9 : Int32) &&& 0x3f).toInt64))])) _
      refine X19.laload hx (j := (4 : Int32)) (v := (.long (-72340172838076674 : Int64))) (by rw [e19]; exact Ar20.1) (State.isArrayOf_alike hZ.alike Ar20.2.1) Ar20.2.2 hin20 hat20 (g := (mkF m 28 #[.val (.long q1), .second, .val (.int (4 : Int32)), .val (.int (9 : Int32)), .val (.long (q1 <<< ((9 : Int32) &&& 0x3f).toInt64)), .second] [(.int (4 : Int32)), (.ref w_LANDINGS), (.long (q1 <<< ((9 : Int32) &&& 0x3f).toInt64))])) rfl rfl (hb hby d2_28) _ ?_
      show Steps p.tables e below (T19.setTop (mkF m 29 #[.val (.long q1), .second, .val (.int (4 : Int32)), .val (.int (9 : Int32)), .val (.long (q1 <<< ((9 : Int32) &&& 0x3f).toInt64)), .second] [(.long (-72340172838076674 : Int64)), (.long (q1 <<< ((9 : Int32) &&& 0x3f).toInt64))])) _
      refine XS.land X19.here hx rfl (hb hby d2_29) rfl ?_
      show Steps p.tables e below (T19.setTop (mkF m 30 #[.val (.long q1), .second, .val (.int (4 : Int32)), .val (.int (9 : Int32)), .val (.long (q1 <<< ((9 : Int32) &&& 0x3f).toInt64)), .second] [(.long ((q1 <<< ((9 : Int32) &&& 0x3f).toInt64) &&& (-72340172838076674 : Int64)))])) _
      exact X19.lreturnOut hx Bd.returns (hb hby d2_30) hr
    · show Q2_0 Z q1 p2 w_STEPS kv_STEPS w_LANDINGS kv_LANDINGS h0 n0 _ T19.heap _
      rw [e19]
      exact ⟨(by rw [hd_4]; rfl), N0, rfl⟩
  ·
    obtain ⟨T21, X21, e21, st21⟩ := getS2 X0 hx hZ hown (host := "") (Or.inl (hw _ (List.mem_of_getElem? (i := 6) rfl))) Via.refl e0 S_STEPS (g := (mkF m 0 #[.val (.long q1), .second, .val (.int (5 : Int32)), .unset, .unset, .unset] [])) rfl (hb hby d2_0)
    obtain ⟨cl22, Ar22, qq22, Sz22, Nn22, Hs22, Gs22⟩ := id V_STEPS
    have hin22 : ¬ ((5 : Int32) < 0 ∨ cl22.slots.size ≤ ((5 : Int32)).toNatClampNeg) := inb_of Sz22 ⟨by decide, by decide⟩
    have hat22 : cl22.slots[((5 : Int32)).toNatClampNeg]? = some (.int (-9 : Int32)) := Has.at Hs22 hin22 rfl
    obtain ⟨T23, X23, e23, st23⟩ := getS2 X21 hx hZ hown (host := "") (Or.inl (hw _ (List.mem_of_getElem? (i := 11) rfl))) Via.refl e21 S_LANDINGS (g := (mkF m 24 #[.val (.long q1), .second, .val (.int (5 : Int32)), .val (.int (-9 : Int32)), .val (.long ((q1.toUInt64 >>> ((9 : Int32) &&& 0x3f).toInt64.toUInt64).toInt64)), .second] [(.long ((q1.toUInt64 >>> ((9 : Int32) &&& 0x3f).toInt64.toUInt64).toInt64))])) rfl (hb hby d2_24)
    obtain ⟨cl24, Ar24, qq24, Sz24, Nn24, Hs24, Gs24⟩ := id V_LANDINGS
    have hin24 : ¬ ((5 : Int32) < 0 ∨ cl24.slots.size ≤ ((5 : Int32)).toNatClampNeg) := inb_of Sz24 ⟨by decide, by decide⟩
    have hat24 : cl24.slots[((5 : Int32)).toNatClampNeg]? = some (.long (9187201950435737471 : Int64)) := Has.at Hs24 hin24 rfl
    obtain ⟨fs, hr, hrun, hended, hW, hsame⟩ := X23.leave (v := some (.long (((q1.toUInt64 >>> ((9 : Int32) &&& 0x3f).toInt64.toUInt64).toInt64) &&& (9187201950435737471 : Int64)))) (fun h => by rw [Bd.returns] at h; cases h)
    refine ⟨_, _, pre0 _ ?_, hrun, hended, _, _, rfl, ?_, ⟨_, rfl⟩, hW, hsame.mono (by decide) (by decide)⟩
    ·
      show Steps p.tables e below (s₁.setTop (mkF m 0 #[.val (.long q1), .second, .val (.int p2), .unset, .unset, .unset] [])) _
      rewrite [hd_5]
      show Steps p.tables e below (s₁.setTop (mkF m 0 #[.val (.long q1), .second, .val (.int (5 : Int32)), .unset, .unset, .unset] [])) _
      refine st21 _ ?_
      show Steps p.tables e below (T21.setTop (mkF m 3 #[.val (.long q1), .second, .val (.int (5 : Int32)), .unset, .unset, .unset] [(.ref w_STEPS)])) _
      refine XS.iloadN X21.here hx rfl (hb hby d2_3) rfl ?_
      show Steps p.tables e below (T21.setTop (mkF m 4 #[.val (.long q1), .second, .val (.int (5 : Int32)), .unset, .unset, .unset] [(.int (5 : Int32)), (.ref w_STEPS)])) _
      refine X21.iaload hx (j := (5 : Int32)) (v := (.int (-9 : Int32))) (by rw [e21]; exact Ar22.1) (State.isArrayOf_alike hZ.alike Ar22.2.1) Ar22.2.2 hin22 hat22 (g := (mkF m 4 #[.val (.long q1), .second, .val (.int (5 : Int32)), .unset, .unset, .unset] [(.int (5 : Int32)), (.ref w_STEPS)])) rfl rfl (hb hby d2_4) _ ?_
      show Steps p.tables e below (T21.setTop (mkF m 5 #[.val (.long q1), .second, .val (.int (5 : Int32)), .unset, .unset, .unset] [(.int (-9 : Int32))])) _
      refine XS.istoreN X21.here hx rfl (hb hby d2_5) rfl (l' := #[.val (.long q1), .second, .val (.int (5 : Int32)), .val (.int (-9 : Int32)), .unset, .unset]) rfl ?_
      show Steps p.tables e below (T21.setTop (mkF m 6 #[.val (.long q1), .second, .val (.int (5 : Int32)), .val (.int (-9 : Int32)), .unset, .unset] [])) _
      refine XS.iloadN X21.here hx rfl (hb hby d2_6) rfl ?_
      show Steps p.tables e below (T21.setTop (mkF m 7 #[.val (.long q1), .second, .val (.int (5 : Int32)), .val (.int (-9 : Int32)), .unset, .unset] [(.int (-9 : Int32))])) _
      refine XS.ifYes X21.here hx rfl (pc0 := 7) (pc' := 16) rfl (hb hby d2_7) rfl ((if0 _ _).trans (flt (by decide : ¬ ((0 : Int32) < (-9 : Int32)))).2.2.2) (by decide) (by decide) ?_
      show Steps p.tables e below (T21.setTop (mkF m 16 #[.val (.long q1), .second, .val (.int (5 : Int32)), .val (.int (-9 : Int32)), .unset, .unset] [])) _
      refine XS.lloadN X21.here hx rfl (hb hby d2_16) rfl ?_
      show Steps p.tables e below (T21.setTop (mkF m 17 #[.val (.long q1), .second, .val (.int (5 : Int32)), .val (.int (-9 : Int32)), .unset, .unset] [(.long q1)])) _
      refine XS.iloadN X21.here hx rfl (hb hby d2_17) rfl ?_
      show Steps p.tables e below (T21.setTop (mkF m 18 #[.val (.long q1), .second, .val (.int (5 : Int32)), .val (.int (-9 : Int32)), .unset, .unset] [(.int (-9 : Int32)), (.long q1)])) _
      refine XS.ineg X21.here hx rfl (hb hby d2_18) rfl ?_
      show Steps p.tables e below (T21.setTop (mkF m 19 #[.val (.long q1), .second, .val (.int (5 : Int32)), .val (.int (-9 : Int32)), .unset, .unset] [(.int (-(-9 : Int32))), (.long q1)])) _
      rewrite [show (-(-9 : Int32)) = (9 : Int32) from by decide]
      show Steps p.tables e below (T21.setTop (mkF m 19 #[.val (.long q1), .second, .val (.int (5 : Int32)), .val (.int (-9 : Int32)), .unset, .unset] [(.int (9 : Int32)), (.long q1)])) _
      refine XS.lushr X21.here hx rfl (hb hby d2_19) rfl ?_
      show Steps p.tables e below (T21.setTop (mkF m 20 #[.val (.long q1), .second, .val (.int (5 : Int32)), .val (.int (-9 : Int32)), .unset, .unset] [(.long ((q1.toUInt64 >>> ((9 : Int32) &&& 0x3f).toInt64.toUInt64).toInt64))])) _
      refine XS.lstore X21.here hx rfl (hb hby d2_20) rfl (l' := #[.val (.long q1), .second, .val (.int (5 : Int32)), .val (.int (-9 : Int32)), .val (.long ((q1.toUInt64 >>> ((9 : Int32) &&& 0x3f).toInt64.toUInt64).toInt64)), .second]) rfl ?_
      show Steps p.tables e below (T21.setTop (mkF m 22 #[.val (.long q1), .second, .val (.int (5 : Int32)), .val (.int (-9 : Int32)), .val (.long ((q1.toUInt64 >>> ((9 : Int32) &&& 0x3f).toInt64.toUInt64).toInt64)), .second] [])) _
      refine XS.lload X21.here hx rfl (hb hby d2_22) rfl ?_
      show Steps p.tables e below (T21.setTop (mkF m 24 #[.val (.long q1), .second, .val (.int (5 : Int32)), .val (.int (-9 : Int32)), .val (.long ((q1.toUInt64 >>> ((9 : Int32) &&& 0x3f).toInt64.toUInt64).toInt64)), .second] [(.long ((q1.toUInt64 >>> ((9 : Int32) &&& 0x3f).toInt64.toUInt64).toInt64))])) _
      refine st23 _ ?_
      show Steps p.tables e below (T23.setTop (mkF m 27 #[.val (.long q1), .second, .val (.int (5 : Int32)), .val (.int (-9 : Int32)), .val (.long ((q1.toUInt64 >>> ((9 : Int32) &&& 0x3f).toInt64.toUInt64).toInt64)), .second] [(.ref w_LANDINGS), (.long ((q1.toUInt64 >>> ((9 : Int32) &&& 0x3f).toInt64.toUInt64).toInt64))])) _
      refine XS.iloadN X23.here hx rfl (hb hby d2_27) rfl ?_
      show Steps p.tables e below (T23.setTop (mkF m 28 #[.val (.long q1), .second, .val (.int (5 : Int32)), .val (.int (-9 : Int32)), .val (.long ((q1.toUInt64 >>> ((9 : Int32) &&& 0x3f).toInt64.toUInt64).toInt64)), .second] [(.int (5 : Int32)), (.ref w_LANDINGS), (.long ((q1.toUInt64 >>> ((9 : Int32) &&& 0x3f).toInt64.toUInt64).toInt64))])) _
      refine X23.laload hx (j := (5 : Int32)) (v := (.long (9187201950435737471 : Int64))) (by rw [e23]; exact Ar24.1) (State.isArrayOf_alike hZ.alike Ar24.2.1) Ar24.2.2 hin24 hat24 (g := (mkF m 28 #[.val (.long q1), .second, .val (.int (5 : Int32)), .val (.int (-9 : Int32)), .val (.long ((q1.toUInt64 >>> ((9 : Int32) &&& 0x3f).toInt64.toUInt64).toInt64)), .second] [(.int (5 : Int32)), (.ref w_LANDINGS), (.long ((q1.toUInt64 >>> ((9 : Int32) &&& 0x3f).toInt64.toUInt64).toInt64))])) rfl rfl (hb hby d2_28) _ ?_
      show Steps p.tables e below (T23.setTop (mkF m 29 #[.val (.long q1), .second, .val (.int (5 : Int32)), .val (.int (-9 : Int32)), .val (.long ((q1.toUInt64 >>> ((9 : Int32) &&& 0x3f).toInt64.toUInt64).toInt64)), .second] [(.long (9187201950435737471 : Int64)), (.long ((q1.toUInt64 >>> ((9 : Int32) &&& 0x3f).toInt64.toUInt64).toInt64))])) _
      refine XS.land X23.here hx rfl (hb hby d2_29) rfl ?_
      show Steps p.tables e below (T23.setTop (mkF m 30 #[.val (.long q1), .second, .val (.int (5 : Int32)), .val (.int (-9 : Int32)), .val (.long ((q1.toUInt64 >>> ((9 : Int32) &&& 0x3f).toInt64.toUInt64).toInt64)), .second] [(.long (((q1.toUInt64 >>> ((9 : Int32) &&& 0x3f).toInt64.toUInt64).toInt64) &&& (9187201950435737471 : Int64)))])) _
      exact X23.lreturnOut hx Bd.returns (hb hby d2_30) hr
    · show Q2_0 Z q1 p2 w_STEPS kv_STEPS w_LANDINGS kv_LANDINGS h0 n0 _ T23.heap _
      rw [e23]
      exact ⟨(by rw [hd_5]; rfl), N0, rfl⟩
  ·
    obtain ⟨T25, X25, e25, st25⟩ := getS2 X0 hx hZ hown (host := "") (Or.inl (hw _ (List.mem_of_getElem? (i := 6) rfl))) Via.refl e0 S_STEPS (g := (mkF m 0 #[.val (.long q1), .second, .val (.int (6 : Int32)), .unset, .unset, .unset] [])) rfl (hb hby d2_0)
    obtain ⟨cl26, Ar26, qq26, Sz26, Nn26, Hs26, Gs26⟩ := id V_STEPS
    have hin26 : ¬ ((6 : Int32) < 0 ∨ cl26.slots.size ≤ ((6 : Int32)).toNatClampNeg) := inb_of Sz26 ⟨by decide, by decide⟩
    have hat26 : cl26.slots[((6 : Int32)).toNatClampNeg]? = some (.int (7 : Int32)) := Has.at Hs26 hin26 rfl
    obtain ⟨T27, X27, e27, st27⟩ := getS2 X25 hx hZ hown (host := "") (Or.inl (hw _ (List.mem_of_getElem? (i := 11) rfl))) Via.refl e25 S_LANDINGS (g := (mkF m 24 #[.val (.long q1), .second, .val (.int (6 : Int32)), .val (.int (7 : Int32)), .val (.long (q1 <<< ((7 : Int32) &&& 0x3f).toInt64)), .second] [(.long (q1 <<< ((7 : Int32) &&& 0x3f).toInt64))])) rfl (hb hby d2_24)
    obtain ⟨cl28, Ar28, qq28, Sz28, Nn28, Hs28, Gs28⟩ := id V_LANDINGS
    have hin28 : ¬ ((6 : Int32) < 0 ∨ cl28.slots.size ≤ ((6 : Int32)).toNatClampNeg) := inb_of Sz28 ⟨by decide, by decide⟩
    have hat28 : cl28.slots[((6 : Int32)).toNatClampNeg]? = some (.long (9187201950435737471 : Int64)) := Has.at Hs28 hin28 rfl
    obtain ⟨fs, hr, hrun, hended, hW, hsame⟩ := X27.leave (v := some (.long ((q1 <<< ((7 : Int32) &&& 0x3f).toInt64) &&& (9187201950435737471 : Int64)))) (fun h => by rw [Bd.returns] at h; cases h)
    refine ⟨_, _, pre0 _ ?_, hrun, hended, _, _, rfl, ?_, ⟨_, rfl⟩, hW, hsame.mono (by decide) (by decide)⟩
    ·
      show Steps p.tables e below (s₁.setTop (mkF m 0 #[.val (.long q1), .second, .val (.int p2), .unset, .unset, .unset] [])) _
      rewrite [hd_6]
      show Steps p.tables e below (s₁.setTop (mkF m 0 #[.val (.long q1), .second, .val (.int (6 : Int32)), .unset, .unset, .unset] [])) _
      refine st25 _ ?_
      show Steps p.tables e below (T25.setTop (mkF m 3 #[.val (.long q1), .second, .val (.int (6 : Int32)), .unset, .unset, .unset] [(.ref w_STEPS)])) _
      refine XS.iloadN X25.here hx rfl (hb hby d2_3) rfl ?_
      show Steps p.tables e below (T25.setTop (mkF m 4 #[.val (.long q1), .second, .val (.int (6 : Int32)), .unset, .unset, .unset] [(.int (6 : Int32)), (.ref w_STEPS)])) _
      refine X25.iaload hx (j := (6 : Int32)) (v := (.int (7 : Int32))) (by rw [e25]; exact Ar26.1) (State.isArrayOf_alike hZ.alike Ar26.2.1) Ar26.2.2 hin26 hat26 (g := (mkF m 4 #[.val (.long q1), .second, .val (.int (6 : Int32)), .unset, .unset, .unset] [(.int (6 : Int32)), (.ref w_STEPS)])) rfl rfl (hb hby d2_4) _ ?_
      show Steps p.tables e below (T25.setTop (mkF m 5 #[.val (.long q1), .second, .val (.int (6 : Int32)), .unset, .unset, .unset] [(.int (7 : Int32))])) _
      refine XS.istoreN X25.here hx rfl (hb hby d2_5) rfl (l' := #[.val (.long q1), .second, .val (.int (6 : Int32)), .val (.int (7 : Int32)), .unset, .unset]) rfl ?_
      show Steps p.tables e below (T25.setTop (mkF m 6 #[.val (.long q1), .second, .val (.int (6 : Int32)), .val (.int (7 : Int32)), .unset, .unset] [])) _
      refine XS.iloadN X25.here hx rfl (hb hby d2_6) rfl ?_
      show Steps p.tables e below (T25.setTop (mkF m 7 #[.val (.long q1), .second, .val (.int (6 : Int32)), .val (.int (7 : Int32)), .unset, .unset] [(.int (7 : Int32))])) _
      refine XS.ifNo X25.here hx rfl (hb hby d2_7) rfl ((if0 _ _).trans (tlt (by decide : (0 : Int32) < (7 : Int32))).2.2.2) ?_
      show Steps p.tables e below (T25.setTop (mkF m 10 #[.val (.long q1), .second, .val (.int (6 : Int32)), .val (.int (7 : Int32)), .unset, .unset] [])) _
      refine XS.lloadN X25.here hx rfl (hb hby d2_10) rfl ?_
      show Steps p.tables e below (T25.setTop (mkF m 11 #[.val (.long q1), .second, .val (.int (6 : Int32)), .val (.int (7 : Int32)), .unset, .unset] [(.long q1)])) _
      refine XS.iloadN X25.here hx rfl (hb hby d2_11) rfl ?_
      show Steps p.tables e below (T25.setTop (mkF m 12 #[.val (.long q1), .second, .val (.int (6 : Int32)), .val (.int (7 : Int32)), .unset, .unset] [(.int (7 : Int32)), (.long q1)])) _
      refine XS.lshl X25.here hx rfl (hb hby d2_12) rfl ?_
      show Steps p.tables e below (T25.setTop (mkF m 13 #[.val (.long q1), .second, .val (.int (6 : Int32)), .val (.int (7 : Int32)), .unset, .unset] [(.long (q1 <<< ((7 : Int32) &&& 0x3f).toInt64))])) _
      refine XS.goto X25.here hx rfl (pc0 := 13) (pc' := 20) rfl (hb hby d2_13) (by decide) (by decide) ?_
      show Steps p.tables e below (T25.setTop (mkF m 20 #[.val (.long q1), .second, .val (.int (6 : Int32)), .val (.int (7 : Int32)), .unset, .unset] [(.long (q1 <<< ((7 : Int32) &&& 0x3f).toInt64))])) _
      refine XS.lstore X25.here hx rfl (hb hby d2_20) rfl (l' := #[.val (.long q1), .second, .val (.int (6 : Int32)), .val (.int (7 : Int32)), .val (.long (q1 <<< ((7 : Int32) &&& 0x3f).toInt64)), .second]) rfl ?_
      show Steps p.tables e below (T25.setTop (mkF m 22 #[.val (.long q1), .second, .val (.int (6 : Int32)), .val (.int (7 : Int32)), .val (.long (q1 <<< ((7 : Int32) &&& 0x3f).toInt64)), .second] [])) _
      refine XS.lload X25.here hx rfl (hb hby d2_22) rfl ?_
      show Steps p.tables e below (T25.setTop (mkF m 24 #[.val (.long q1), .second, .val (.int (6 : Int32)), .val (.int (7 : Int32)), .val (.long (q1 <<< ((7 : Int32) &&& 0x3f).toInt64)), .second] [(.long (q1 <<< ((7 : Int32) &&& 0x3f).toInt64))])) _
      refine st27 _ ?_
      show Steps p.tables e below (T27.setTop (mkF m 27 #[.val (.long q1), .second, .val (.int (6 : Int32)), .val (.int (7 : Int32)), .val (.long (q1 <<< ((7 : Int32) &&& 0x3f).toInt64)), .second] [(.ref w_LANDINGS), (.long (q1 <<< ((7 : Int32) &&& 0x3f).toInt64))])) _
      refine XS.iloadN X27.here hx rfl (hb hby d2_27) rfl ?_
      show Steps p.tables e below (T27.setTop (mkF m 28 #[.val (.long q1), .second, .val (.int (6 : Int32)), .val (.int (7 : Int32)), .val (.long (q1 <<< ((7 : Int32) &&& 0x3f).toInt64)), .second] [(.int (6 : Int32)), (.ref w_LANDINGS), (.long (q1 <<< ((7 : Int32) &&& 0x3f).toInt64))])) _
      refine X27.laload hx (j := (6 : Int32)) (v := (.long (9187201950435737471 : Int64))) (by rw [e27]; exact Ar28.1) (State.isArrayOf_alike hZ.alike Ar28.2.1) Ar28.2.2 hin28 hat28 (g := (mkF m 28 #[.val (.long q1), .second, .val (.int (6 : Int32)), .val (.int (7 : Int32)), .val (.long (q1 <<< ((7 : Int32) &&& 0x3f).toInt64)), .second] [(.int (6 : Int32)), (.ref w_LANDINGS), (.long (q1 <<< ((7 : Int32) &&& 0x3f).toInt64))])) rfl rfl (hb hby d2_28) _ ?_
      show Steps p.tables e below (T27.setTop (mkF m 29 #[.val (.long q1), .second, .val (.int (6 : Int32)), .val (.int (7 : Int32)), .val (.long (q1 <<< ((7 : Int32) &&& 0x3f).toInt64)), .second] [(.long (9187201950435737471 : Int64)), (.long (q1 <<< ((7 : Int32) &&& 0x3f).toInt64))])) _
      refine XS.land X27.here hx rfl (hb hby d2_29) rfl ?_
      show Steps p.tables e below (T27.setTop (mkF m 30 #[.val (.long q1), .second, .val (.int (6 : Int32)), .val (.int (7 : Int32)), .val (.long (q1 <<< ((7 : Int32) &&& 0x3f).toInt64)), .second] [(.long ((q1 <<< ((7 : Int32) &&& 0x3f).toInt64) &&& (9187201950435737471 : Int64)))])) _
      exact X27.lreturnOut hx Bd.returns (hb hby d2_30) hr
    · show Q2_0 Z q1 p2 w_STEPS kv_STEPS w_LANDINGS kv_LANDINGS h0 n0 _ T27.heap _
      rw [e27]
      exact ⟨(by rw [hd_6]; rfl), N0, rfl⟩
  ·
    obtain ⟨T29, X29, e29, st29⟩ := getS2 X0 hx hZ hown (host := "") (Or.inl (hw _ (List.mem_of_getElem? (i := 6) rfl))) Via.refl e0 S_STEPS (g := (mkF m 0 #[.val (.long q1), .second, .val (.int (7 : Int32)), .unset, .unset, .unset] [])) rfl (hb hby d2_0)
    obtain ⟨cl30, Ar30, qq30, Sz30, Nn30, Hs30, Gs30⟩ := id V_STEPS
    have hin30 : ¬ ((7 : Int32) < 0 ∨ cl30.slots.size ≤ ((7 : Int32)).toNatClampNeg) := inb_of Sz30 ⟨by decide, by decide⟩
    have hat30 : cl30.slots[((7 : Int32)).toNatClampNeg]? = some (.int (-7 : Int32)) := Has.at Hs30 hin30 rfl
    obtain ⟨T31, X31, e31, st31⟩ := getS2 X29 hx hZ hown (host := "") (Or.inl (hw _ (List.mem_of_getElem? (i := 11) rfl))) Via.refl e29 S_LANDINGS (g := (mkF m 24 #[.val (.long q1), .second, .val (.int (7 : Int32)), .val (.int (-7 : Int32)), .val (.long ((q1.toUInt64 >>> ((7 : Int32) &&& 0x3f).toInt64.toUInt64).toInt64)), .second] [(.long ((q1.toUInt64 >>> ((7 : Int32) &&& 0x3f).toInt64.toUInt64).toInt64))])) rfl (hb hby d2_24)
    obtain ⟨cl32, Ar32, qq32, Sz32, Nn32, Hs32, Gs32⟩ := id V_LANDINGS
    have hin32 : ¬ ((7 : Int32) < 0 ∨ cl32.slots.size ≤ ((7 : Int32)).toNatClampNeg) := inb_of Sz32 ⟨by decide, by decide⟩
    have hat32 : cl32.slots[((7 : Int32)).toNatClampNeg]? = some (.long (-72340172838076674 : Int64)) := Has.at Hs32 hin32 rfl
    obtain ⟨fs, hr, hrun, hended, hW, hsame⟩ := X31.leave (v := some (.long (((q1.toUInt64 >>> ((7 : Int32) &&& 0x3f).toInt64.toUInt64).toInt64) &&& (-72340172838076674 : Int64)))) (fun h => by rw [Bd.returns] at h; cases h)
    refine ⟨_, _, pre0 _ ?_, hrun, hended, _, _, rfl, ?_, ⟨_, rfl⟩, hW, hsame.mono (by decide) (by decide)⟩
    ·
      show Steps p.tables e below (s₁.setTop (mkF m 0 #[.val (.long q1), .second, .val (.int p2), .unset, .unset, .unset] [])) _
      rewrite [hd_7]
      show Steps p.tables e below (s₁.setTop (mkF m 0 #[.val (.long q1), .second, .val (.int (7 : Int32)), .unset, .unset, .unset] [])) _
      refine st29 _ ?_
      show Steps p.tables e below (T29.setTop (mkF m 3 #[.val (.long q1), .second, .val (.int (7 : Int32)), .unset, .unset, .unset] [(.ref w_STEPS)])) _
      refine XS.iloadN X29.here hx rfl (hb hby d2_3) rfl ?_
      show Steps p.tables e below (T29.setTop (mkF m 4 #[.val (.long q1), .second, .val (.int (7 : Int32)), .unset, .unset, .unset] [(.int (7 : Int32)), (.ref w_STEPS)])) _
      refine X29.iaload hx (j := (7 : Int32)) (v := (.int (-7 : Int32))) (by rw [e29]; exact Ar30.1) (State.isArrayOf_alike hZ.alike Ar30.2.1) Ar30.2.2 hin30 hat30 (g := (mkF m 4 #[.val (.long q1), .second, .val (.int (7 : Int32)), .unset, .unset, .unset] [(.int (7 : Int32)), (.ref w_STEPS)])) rfl rfl (hb hby d2_4) _ ?_
      show Steps p.tables e below (T29.setTop (mkF m 5 #[.val (.long q1), .second, .val (.int (7 : Int32)), .unset, .unset, .unset] [(.int (-7 : Int32))])) _
      refine XS.istoreN X29.here hx rfl (hb hby d2_5) rfl (l' := #[.val (.long q1), .second, .val (.int (7 : Int32)), .val (.int (-7 : Int32)), .unset, .unset]) rfl ?_
      show Steps p.tables e below (T29.setTop (mkF m 6 #[.val (.long q1), .second, .val (.int (7 : Int32)), .val (.int (-7 : Int32)), .unset, .unset] [])) _
      refine XS.iloadN X29.here hx rfl (hb hby d2_6) rfl ?_
      show Steps p.tables e below (T29.setTop (mkF m 7 #[.val (.long q1), .second, .val (.int (7 : Int32)), .val (.int (-7 : Int32)), .unset, .unset] [(.int (-7 : Int32))])) _
      refine XS.ifYes X29.here hx rfl (pc0 := 7) (pc' := 16) rfl (hb hby d2_7) rfl ((if0 _ _).trans (flt (by decide : ¬ ((0 : Int32) < (-7 : Int32)))).2.2.2) (by decide) (by decide) ?_
      show Steps p.tables e below (T29.setTop (mkF m 16 #[.val (.long q1), .second, .val (.int (7 : Int32)), .val (.int (-7 : Int32)), .unset, .unset] [])) _
      refine XS.lloadN X29.here hx rfl (hb hby d2_16) rfl ?_
      show Steps p.tables e below (T29.setTop (mkF m 17 #[.val (.long q1), .second, .val (.int (7 : Int32)), .val (.int (-7 : Int32)), .unset, .unset] [(.long q1)])) _
      refine XS.iloadN X29.here hx rfl (hb hby d2_17) rfl ?_
      show Steps p.tables e below (T29.setTop (mkF m 18 #[.val (.long q1), .second, .val (.int (7 : Int32)), .val (.int (-7 : Int32)), .unset, .unset] [(.int (-7 : Int32)), (.long q1)])) _
      refine XS.ineg X29.here hx rfl (hb hby d2_18) rfl ?_
      show Steps p.tables e below (T29.setTop (mkF m 19 #[.val (.long q1), .second, .val (.int (7 : Int32)), .val (.int (-7 : Int32)), .unset, .unset] [(.int (-(-7 : Int32))), (.long q1)])) _
      rewrite [show (-(-7 : Int32)) = (7 : Int32) from by decide]
      show Steps p.tables e below (T29.setTop (mkF m 19 #[.val (.long q1), .second, .val (.int (7 : Int32)), .val (.int (-7 : Int32)), .unset, .unset] [(.int (7 : Int32)), (.long q1)])) _
      refine XS.lushr X29.here hx rfl (hb hby d2_19) rfl ?_
      show Steps p.tables e below (T29.setTop (mkF m 20 #[.val (.long q1), .second, .val (.int (7 : Int32)), .val (.int (-7 : Int32)), .unset, .unset] [(.long ((q1.toUInt64 >>> ((7 : Int32) &&& 0x3f).toInt64.toUInt64).toInt64))])) _
      refine XS.lstore X29.here hx rfl (hb hby d2_20) rfl (l' := #[.val (.long q1), .second, .val (.int (7 : Int32)), .val (.int (-7 : Int32)), .val (.long ((q1.toUInt64 >>> ((7 : Int32) &&& 0x3f).toInt64.toUInt64).toInt64)), .second]) rfl ?_
      show Steps p.tables e below (T29.setTop (mkF m 22 #[.val (.long q1), .second, .val (.int (7 : Int32)), .val (.int (-7 : Int32)), .val (.long ((q1.toUInt64 >>> ((7 : Int32) &&& 0x3f).toInt64.toUInt64).toInt64)), .second] [])) _
      refine XS.lload X29.here hx rfl (hb hby d2_22) rfl ?_
      show Steps p.tables e below (T29.setTop (mkF m 24 #[.val (.long q1), .second, .val (.int (7 : Int32)), .val (.int (-7 : Int32)), .val (.long ((q1.toUInt64 >>> ((7 : Int32) &&& 0x3f).toInt64.toUInt64).toInt64)), .second] [(.long ((q1.toUInt64 >>> ((7 : Int32) &&& 0x3f).toInt64.toUInt64).toInt64))])) _
      refine st31 _ ?_
      show Steps p.tables e below (T31.setTop (mkF m 27 #[.val (.long q1), .second, .val (.int (7 : Int32)), .val (.int (-7 : Int32)), .val (.long ((q1.toUInt64 >>> ((7 : Int32) &&& 0x3f).toInt64.toUInt64).toInt64)), .second] [(.ref w_LANDINGS), (.long ((q1.toUInt64 >>> ((7 : Int32) &&& 0x3f).toInt64.toUInt64).toInt64))])) _
      refine XS.iloadN X31.here hx rfl (hb hby d2_27) rfl ?_
      show Steps p.tables e below (T31.setTop (mkF m 28 #[.val (.long q1), .second, .val (.int (7 : Int32)), .val (.int (-7 : Int32)), .val (.long ((q1.toUInt64 >>> ((7 : Int32) &&& 0x3f).toInt64.toUInt64).toInt64)), .second] [(.int (7 : Int32)), (.ref w_LANDINGS), (.long ((q1.toUInt64 >>> ((7 : Int32) &&& 0x3f).toInt64.toUInt64).toInt64))])) _
      refine X31.laload hx (j := (7 : Int32)) (v := (.long (-72340172838076674 : Int64))) (by rw [e31]; exact Ar32.1) (State.isArrayOf_alike hZ.alike Ar32.2.1) Ar32.2.2 hin32 hat32 (g := (mkF m 28 #[.val (.long q1), .second, .val (.int (7 : Int32)), .val (.int (-7 : Int32)), .val (.long ((q1.toUInt64 >>> ((7 : Int32) &&& 0x3f).toInt64.toUInt64).toInt64)), .second] [(.int (7 : Int32)), (.ref w_LANDINGS), (.long ((q1.toUInt64 >>> ((7 : Int32) &&& 0x3f).toInt64.toUInt64).toInt64))])) rfl rfl (hb hby d2_28) _ ?_
      show Steps p.tables e below (T31.setTop (mkF m 29 #[.val (.long q1), .second, .val (.int (7 : Int32)), .val (.int (-7 : Int32)), .val (.long ((q1.toUInt64 >>> ((7 : Int32) &&& 0x3f).toInt64.toUInt64).toInt64)), .second] [(.long (-72340172838076674 : Int64)), (.long ((q1.toUInt64 >>> ((7 : Int32) &&& 0x3f).toInt64.toUInt64).toInt64))])) _
      refine XS.land X31.here hx rfl (hb hby d2_29) rfl ?_
      show Steps p.tables e below (T31.setTop (mkF m 30 #[.val (.long q1), .second, .val (.int (7 : Int32)), .val (.int (-7 : Int32)), .val (.long ((q1.toUInt64 >>> ((7 : Int32) &&& 0x3f).toInt64.toUInt64).toInt64)), .second] [(.long (((q1.toUInt64 >>> ((7 : Int32) &&& 0x3f).toInt64.toUInt64).toInt64) &&& (-72340172838076674 : Int64)))])) _
      exact X31.lreturnOut hx Bd.returns (hb hby d2_30) hr
    · show Q2_0 Z q1 p2 w_STEPS kv_STEPS w_LANDINGS kv_LANDINGS h0 n0 _ T31.heap _
      rw [e31]
      exact ⟨(by rw [hd_7]; rfl), N0, rfl⟩
theorem pd_0 : parseMethodDescriptor "(JI)J" = some ⟨[.long, .int], some .long⟩ := by decide +kernel
theorem d1_30 : decode prog_43_method_2_code 30 = .ok (.lload_n 2, 1) := by decide +kernel
theorem d1_31 : decode prog_43_method_2_code 31 = .ok (.land, 1) := by decide +kernel
theorem d1_32 : decode prog_43_method_2_code 32 = .ok (.lstore 9, 2) := by decide +kernel
theorem d1_34 : decode prog_43_method_2_code 34 = .ok (.iconst 0, 1) := by decide +kernel
theorem d1_35 : decode prog_43_method_2_code 35 = .ok (.istore 11, 2) := by decide +kernel
set_option maxRecDepth 65536 in
set_option maxHeartbeats 40000000 in
theorem own_mAu {p : Program} {l : Launch} {e : Env} {s : State} {m : MethodId} {args : Array Value} {below : List Frame} {meth : Method} {c : Code} {T0 : State} {locs : List Loc} {Z : State} {a0 : Array Value} {h0 : Heap} {n0 : Nat} {q1 : Int64} {q2 : Int64} {em : Int64} {mv : Int64} {d : Int32} {w_STEPS : Addr} {kv_STEPS : ClassId} {w_LANDINGS : Addr} {kv_LANDINGS : ClassId} (X0 : Stand p l e ({ frames := 1, cells := 0, slots := 0, locals := 19 } : Room) s m args below meth c T0 locs 0 0) (hx : p.tables.exec = Jvm.exec) (hZ : Z.Warmed39 s.vm) (hw : ∀ d ∈ tables_1, d.before a0 Z = true) (hby : c.code = prog_43_method_2_code) (hml : c.maxLocals = 12) (hown : s.vm.findClass "com/example/counterply/counterply/othello/Board" = some m.cls) (e0 : T0.heap = h0) (N0 : Fr n0 locs) (Z0 : n0 ≤ h0.size) (S_STEPS : Sta Z h0 "com/example/counterply/counterply/othello/Board" "STEPS" "[I" (.ref w_STEPS)) (V_STEPS : Arv Z h0 w_STEPS kv_STEPS .int (8 : Int32) [(.int (1 : Int32)), (.int (-1 : Int32)), (.int (8 : Int32)), (.int (-8 : Int32)), (.int (9 : Int32)), (.int (-9 : Int32)), (.int (7 : Int32)), (.int (-7 : Int32))] (.int (0 : Int32))) (S_LANDINGS : Sta Z h0 "com/example/counterply/counterply/othello/Board" "LANDINGS" "[J" (.ref w_LANDINGS)) (V_LANDINGS : Arv Z h0 w_LANDINGS kv_LANDINGS .long (8 : Int32) [(.long (-72340172838076674 : Int64)), (.long (9187201950435737471 : Int64)), (.long (-1 : Int64)), (.long (-1 : Int64)), (.long (-72340172838076674 : Int64)), (.long (9187201950435737471 : Int64)), (.long (9187201950435737471 : Int64)), (.long (-72340172838076674 : Int64))] (.long (0 : Int64))) (hlt : d < (8 : Int32)) (hD : own_dirs d) :
    ∃ (T' : State) (L' : List Loc), Stand p l e ({ frames := 1, cells := 0, slots := 0, locals := 19 } : Room) s m args below meth c T' L' 0 0 ∧ T'.heap = h0 ∧ Fr n0 L' ∧ ∀ t, Steps p.tables e below (T'.setTop (mkF m 37 #[.val (.long q1), .second, .val (.long q2), .second, .val (.long em), .second, .val (.long mv), .second, .val (.int d), .val (.long (own_r0 d q1 q2)), .second, .val (.int (0 : Int32))] [])) t → Steps p.tables e below (T0.setTop (mkF m 15 #[.val (.long q1), .second, .val (.long q2), .second, .val (.long em), .second, .val (.long mv), .second, .val (.int d), .unset, .unset, .unset] [])) t := by
  have pre0 : ∀ t, Steps p.tables e below (T0.setTop (mkF m 15 #[.val (.long q1), .second, .val (.long q2), .second, .val (.long em), .second, .val (.long mv), .second, .val (.int d), .unset, .unset, .unset] [])) t → Steps p.tables e below (T0.setTop (mkF m 15 #[.val (.long q1), .second, .val (.long q2), .second, .val (.long em), .second, .val (.long mv), .second, .val (.int d), .unset, .unset, .unset] [])) t := fun t k => k
  obtain ⟨T1, X1, e1, st1⟩ := getS2 X0 hx hZ hown (host := "") (Or.inl (hw _ (List.mem_of_getElem? (i := 6) rfl))) Via.refl e0 S_STEPS (g := (mkF m 17 #[.val (.long q1), .second, .val (.long q2), .second, .val (.long em), .second, .val (.long mv), .second, .val (.int d), .unset, .unset, .unset] [(.int d)])) rfl (hb hby d1_17)
  obtain ⟨cl2, Ar2, qq2, Sz2, Nn2, Hs2, Gs2⟩ := id V_STEPS
  obtain ⟨_, _, ⟨T3, L3, k3, n3⟩, -, X3, ⟨Lc3, hQ3, l3, y3, z3⟩, st3⟩ := Jvm.LawKit.callS X1 hx (y := (⟨"com/example/counterply/counterply/othello/Board", "step", "(JI)J"⟩ : MethodName)) hown (mvT hZ (hw _ (List.mem_of_getElem? (i := 8) rfl))) (mvT hZ (hw _ (List.mem_of_getElem? (i := 9) rfl))) (mvT hZ (hw _ (List.mem_of_getElem? (i := 3) rfl))) (mvT hZ (hw _ (List.mem_of_getElem? (i := 10) rfl))) (by decide) (backOf (W := 0) (rm2_0 l Z a0 hw [] q1 d w_STEPS kv_STEPS w_LANDINGS kv_LANDINGS h0 n0 Z0 hD S_STEPS V_STEPS S_LANDINGS V_LANDINGS) hZ (hw _ (List.mem_of_getElem? (i := 10) rfl)) (hw _ (List.mem_of_getElem? (i := 3) rfl)) (by decide) (by decide)) (g := (mkF m 27 #[.val (.long q1), .second, .val (.long q2), .second, .val (.long em), .second, .val (.long mv), .second, .val (.int d), .unset, .unset, .unset] [(.int d), (.long q1)])) rfl (by rw [hml]; rfl) (argsL := [(.long q1), (.int d)]) (rest := []) (lenOf pd_0 rfl) rfl (by show 2 * 0 + _ ≤ _; exact Nat.le_of_eq rfl) (hb hby d1_27) (fun _ _ => ⟨rfl, e1, (by decide : 0 + 0 ≤ _), (by decide : 0 + 0 ≤ _)⟩)
  dsimp only [Pt.U, Pt.locs, Pt.cells, Pt.slots] at X3 l3 y3 z3 st3 hQ3
  subst l3 y3 z3
  obtain ⟨rfl, N3q, e3⟩ := hQ3
  have N3 := Fr.app N0 N3q
  have k4 : ∀ t, Steps p.tables e below (T3.setTop (mkF m 37 #[.val (.long q1), .second, .val (.long q2), .second, .val (.long em), .second, .val (.long mv), .second, .val (.int d), .val (.long (own_r0 d q1 q2)), .second, .val (.int (0 : Int32))] [])) t → Steps p.tables e below (T0.setTop (mkF m 15 #[.val (.long q1), .second, .val (.long q2), .second, .val (.long em), .second, .val (.long mv), .second, .val (.int d), .unset, .unset, .unset] [])) t := by
    intro t k
    refine pre0 t ?_
    show Steps p.tables e below (T0.setTop (mkF m 15 #[.val (.long q1), .second, .val (.long q2), .second, .val (.long em), .second, .val (.long mv), .second, .val (.int d), .unset, .unset, .unset] [])) _
    refine XS.iload X0.here hx rfl (hb hby d1_15) rfl ?_
    show Steps p.tables e below (T0.setTop (mkF m 17 #[.val (.long q1), .second, .val (.long q2), .second, .val (.long em), .second, .val (.long mv), .second, .val (.int d), .unset, .unset, .unset] [(.int d)])) _
    refine st1 _ ?_
    show Steps p.tables e below (T1.setTop (mkF m 20 #[.val (.long q1), .second, .val (.long q2), .second, .val (.long em), .second, .val (.long mv), .second, .val (.int d), .unset, .unset, .unset] [(.ref w_STEPS), (.int d)])) _
    refine X1.arraylength hx (by rw [e1]; exact Ar2.1) (State.isArrayOf_alike hZ.alike Ar2.2.1) (g := (mkF m 20 #[.val (.long q1), .second, .val (.long q2), .second, .val (.long em), .second, .val (.long mv), .second, .val (.int d), .unset, .unset, .unset] [(.ref w_STEPS), (.int d)])) rfl rfl (hb hby d1_20) _ ?_
    rw [len_of Sz2 Nn2]
    show Steps p.tables e below (T1.setTop (mkF m 21 #[.val (.long q1), .second, .val (.long q2), .second, .val (.long em), .second, .val (.long mv), .second, .val (.int d), .unset, .unset, .unset] [(.int (8 : Int32)), (.int d)])) _
    refine XS.icmpNo X1.here hx rfl (hb hby d1_21) rfl (tlt hlt).2.1 ?_
    show Steps p.tables e below (T1.setTop (mkF m 24 #[.val (.long q1), .second, .val (.long q2), .second, .val (.long em), .second, .val (.long mv), .second, .val (.int d), .unset, .unset, .unset] [])) _
    refine XS.lloadN X1.here hx rfl (hb hby d1_24) rfl ?_
    show Steps p.tables e below (T1.setTop (mkF m 25 #[.val (.long q1), .second, .val (.long q2), .second, .val (.long em), .second, .val (.long mv), .second, .val (.int d), .unset, .unset, .unset] [(.long q1)])) _
    refine XS.iload X1.here hx rfl (hb hby d1_25) rfl ?_
    show Steps p.tables e below (T1.setTop (mkF m 27 #[.val (.long q1), .second, .val (.long q2), .second, .val (.long em), .second, .val (.long mv), .second, .val (.int d), .unset, .unset, .unset] [(.int d), (.long q1)])) _
    refine st3 _ ?_
    show Steps p.tables e below (T3.setTop (mkF m 30 #[.val (.long q1), .second, .val (.long q2), .second, .val (.long em), .second, .val (.long mv), .second, .val (.int d), .unset, .unset, .unset] [(.long (own_st d q1))])) _
    refine XS.lloadN X3.here hx rfl (hb hby d1_30) rfl ?_
    show Steps p.tables e below (T3.setTop (mkF m 31 #[.val (.long q1), .second, .val (.long q2), .second, .val (.long em), .second, .val (.long mv), .second, .val (.int d), .unset, .unset, .unset] [(.long q2), (.long (own_st d q1))])) _
    refine XS.land X3.here hx rfl (hb hby d1_31) rfl ?_
    show Steps p.tables e below (T3.setTop (mkF m 32 #[.val (.long q1), .second, .val (.long q2), .second, .val (.long em), .second, .val (.long mv), .second, .val (.int d), .unset, .unset, .unset] [(.long (own_r0 d q1 q2))])) _
    refine XS.lstore X3.here hx rfl (hb hby d1_32) rfl (l' := #[.val (.long q1), .second, .val (.long q2), .second, .val (.long em), .second, .val (.long mv), .second, .val (.int d), .val (.long (own_r0 d q1 q2)), .second, .unset]) rfl ?_
    show Steps p.tables e below (T3.setTop (mkF m 34 #[.val (.long q1), .second, .val (.long q2), .second, .val (.long em), .second, .val (.long mv), .second, .val (.int d), .val (.long (own_r0 d q1 q2)), .second, .unset] [])) _
    refine XS.iconst X3.here hx rfl (hb hby d1_34) ?_
    show Steps p.tables e below (T3.setTop (mkF m 35 #[.val (.long q1), .second, .val (.long q2), .second, .val (.long em), .second, .val (.long mv), .second, .val (.int d), .val (.long (own_r0 d q1 q2)), .second, .unset] [(.int (0 : Int32))])) _
    refine XS.istore X3.here hx rfl (hb hby d1_35) rfl (l' := #[.val (.long q1), .second, .val (.long q2), .second, .val (.long em), .second, .val (.long mv), .second, .val (.int d), .val (.long (own_r0 d q1 q2)), .second, .val (.int (0 : Int32))]) rfl ?_
    exact k
  exact ⟨T3, _, X3, e3, N3, k4⟩
set_option maxRecDepth 65536 in
set_option maxHeartbeats 40000000 in
theorem own_mAv {p : Program} {l : Launch} {e : Env} {s : State} {m : MethodId} {args : Array Value} {below : List Frame} {meth : Method} {c : Code} {T0 : State} {locs : List Loc} {Z : State} {a0 : Array Value} {h0 : Heap} {n0 : Nat} {q1 : Int64} {q2 : Int64} {em : Int64} {mv : Int64} {d : Int32} {x9 : Int64} {x11 : Int32} {w_STEPS : Addr} {kv_STEPS : ClassId} {w_LANDINGS : Addr} {kv_LANDINGS : ClassId} (X0 : Stand p l e ({ frames := 1, cells := 0, slots := 0, locals := 19 } : Room) s m args below meth c T0 locs 0 0) (hx : p.tables.exec = Jvm.exec) (hZ : Z.Warmed39 s.vm) (hw : ∀ d ∈ tables_1, d.before a0 Z = true) (hby : c.code = prog_43_method_2_code) (hml : c.maxLocals = 12) (hown : s.vm.findClass "com/example/counterply/counterply/othello/Board" = some m.cls) (e0 : T0.heap = h0) (N0 : Fr n0 locs) (Z0 : n0 ≤ h0.size) (S_STEPS : Sta Z h0 "com/example/counterply/counterply/othello/Board" "STEPS" "[I" (.ref w_STEPS)) (V_STEPS : Arv Z h0 w_STEPS kv_STEPS .int (8 : Int32) [(.int (1 : Int32)), (.int (-1 : Int32)), (.int (8 : Int32)), (.int (-8 : Int32)), (.int (9 : Int32)), (.int (-9 : Int32)), (.int (7 : Int32)), (.int (-7 : Int32))] (.int (0 : Int32))) (S_LANDINGS : Sta Z h0 "com/example/counterply/counterply/othello/Board" "LANDINGS" "[J" (.ref w_LANDINGS)) (V_LANDINGS : Arv Z h0 w_LANDINGS kv_LANDINGS .long (8 : Int32) [(.long (-72340172838076674 : Int64)), (.long (9187201950435737471 : Int64)), (.long (-1 : Int64)), (.long (-1 : Int64)), (.long (-72340172838076674 : Int64)), (.long (9187201950435737471 : Int64)), (.long (9187201950435737471 : Int64)), (.long (-72340172838076674 : Int64))] (.long (0 : Int64))) (hlt : d < (8 : Int32)) (hD : own_dirs d) :
    ∃ (T' : State) (L' : List Loc), Stand p l e ({ frames := 1, cells := 0, slots := 0, locals := 19 } : Room) s m args below meth c T' L' 0 0 ∧ T'.heap = h0 ∧ Fr n0 L' ∧ ∀ t, Steps p.tables e below (T'.setTop (mkF m 37 #[.val (.long q1), .second, .val (.long q2), .second, .val (.long em), .second, .val (.long mv), .second, .val (.int d), .val (.long (own_r0 d q1 q2)), .second, .val (.int (0 : Int32))] [])) t → Steps p.tables e below (T0.setTop (mkF m 15 #[.val (.long q1), .second, .val (.long q2), .second, .val (.long em), .second, .val (.long mv), .second, .val (.int d), .val (.long x9), .second, .val (.int x11)] [])) t := by
  have pre0 : ∀ t, Steps p.tables e below (T0.setTop (mkF m 15 #[.val (.long q1), .second, .val (.long q2), .second, .val (.long em), .second, .val (.long mv), .second, .val (.int d), .val (.long x9), .second, .val (.int x11)] [])) t → Steps p.tables e below (T0.setTop (mkF m 15 #[.val (.long q1), .second, .val (.long q2), .second, .val (.long em), .second, .val (.long mv), .second, .val (.int d), .val (.long x9), .second, .val (.int x11)] [])) t := fun t k => k
  obtain ⟨T1, X1, e1, st1⟩ := getS2 X0 hx hZ hown (host := "") (Or.inl (hw _ (List.mem_of_getElem? (i := 6) rfl))) Via.refl e0 S_STEPS (g := (mkF m 17 #[.val (.long q1), .second, .val (.long q2), .second, .val (.long em), .second, .val (.long mv), .second, .val (.int d), .val (.long x9), .second, .val (.int x11)] [(.int d)])) rfl (hb hby d1_17)
  obtain ⟨cl2, Ar2, qq2, Sz2, Nn2, Hs2, Gs2⟩ := id V_STEPS
  obtain ⟨_, _, ⟨T3, L3, k3, n3⟩, -, X3, ⟨Lc3, hQ3, l3, y3, z3⟩, st3⟩ := Jvm.LawKit.callS X1 hx (y := (⟨"com/example/counterply/counterply/othello/Board", "step", "(JI)J"⟩ : MethodName)) hown (mvT hZ (hw _ (List.mem_of_getElem? (i := 8) rfl))) (mvT hZ (hw _ (List.mem_of_getElem? (i := 9) rfl))) (mvT hZ (hw _ (List.mem_of_getElem? (i := 3) rfl))) (mvT hZ (hw _ (List.mem_of_getElem? (i := 10) rfl))) (by decide) (backOf (W := 0) (rm2_0 l Z a0 hw [] q1 d w_STEPS kv_STEPS w_LANDINGS kv_LANDINGS h0 n0 Z0 hD S_STEPS V_STEPS S_LANDINGS V_LANDINGS) hZ (hw _ (List.mem_of_getElem? (i := 10) rfl)) (hw _ (List.mem_of_getElem? (i := 3) rfl)) (by decide) (by decide)) (g := (mkF m 27 #[.val (.long q1), .second, .val (.long q2), .second, .val (.long em), .second, .val (.long mv), .second, .val (.int d), .val (.long x9), .second, .val (.int x11)] [(.int d), (.long q1)])) rfl (by rw [hml]; rfl) (argsL := [(.long q1), (.int d)]) (rest := []) (lenOf pd_0 rfl) rfl (by show 2 * 0 + _ ≤ _; exact Nat.le_of_eq rfl) (hb hby d1_27) (fun _ _ => ⟨rfl, e1, (by decide : 0 + 0 ≤ _), (by decide : 0 + 0 ≤ _)⟩)
  dsimp only [Pt.U, Pt.locs, Pt.cells, Pt.slots] at X3 l3 y3 z3 st3 hQ3
  subst l3 y3 z3
  obtain ⟨rfl, N3q, e3⟩ := hQ3
  have N3 := Fr.app N0 N3q
  have k4 : ∀ t, Steps p.tables e below (T3.setTop (mkF m 37 #[.val (.long q1), .second, .val (.long q2), .second, .val (.long em), .second, .val (.long mv), .second, .val (.int d), .val (.long (own_r0 d q1 q2)), .second, .val (.int (0 : Int32))] [])) t → Steps p.tables e below (T0.setTop (mkF m 15 #[.val (.long q1), .second, .val (.long q2), .second, .val (.long em), .second, .val (.long mv), .second, .val (.int d), .val (.long x9), .second, .val (.int x11)] [])) t := by
    intro t k
    refine pre0 t ?_
    show Steps p.tables e below (T0.setTop (mkF m 15 #[.val (.long q1), .second, .val (.long q2), .second, .val (.long em), .second, .val (.long mv), .second, .val (.int d), .val (.long x9), .second, .val (.int x11)] [])) _
    refine XS.iload X0.here hx rfl (hb hby d1_15) rfl ?_
    show Steps p.tables e below (T0.setTop (mkF m 17 #[.val (.long q1), .second, .val (.long q2), .second, .val (.long em), .second, .val (.long mv), .second, .val (.int d), .val (.long x9), .second, .val (.int x11)] [(.int d)])) _
    refine st1 _ ?_
    show Steps p.tables e below (T1.setTop (mkF m 20 #[.val (.long q1), .second, .val (.long q2), .second, .val (.long em), .second, .val (.long mv), .second, .val (.int d), .val (.long x9), .second, .val (.int x11)] [(.ref w_STEPS), (.int d)])) _
    refine X1.arraylength hx (by rw [e1]; exact Ar2.1) (State.isArrayOf_alike hZ.alike Ar2.2.1) (g := (mkF m 20 #[.val (.long q1), .second, .val (.long q2), .second, .val (.long em), .second, .val (.long mv), .second, .val (.int d), .val (.long x9), .second, .val (.int x11)] [(.ref w_STEPS), (.int d)])) rfl rfl (hb hby d1_20) _ ?_
    rw [len_of Sz2 Nn2]
    show Steps p.tables e below (T1.setTop (mkF m 21 #[.val (.long q1), .second, .val (.long q2), .second, .val (.long em), .second, .val (.long mv), .second, .val (.int d), .val (.long x9), .second, .val (.int x11)] [(.int (8 : Int32)), (.int d)])) _
    refine XS.icmpNo X1.here hx rfl (hb hby d1_21) rfl (tlt hlt).2.1 ?_
    show Steps p.tables e below (T1.setTop (mkF m 24 #[.val (.long q1), .second, .val (.long q2), .second, .val (.long em), .second, .val (.long mv), .second, .val (.int d), .val (.long x9), .second, .val (.int x11)] [])) _
    refine XS.lloadN X1.here hx rfl (hb hby d1_24) rfl ?_
    show Steps p.tables e below (T1.setTop (mkF m 25 #[.val (.long q1), .second, .val (.long q2), .second, .val (.long em), .second, .val (.long mv), .second, .val (.int d), .val (.long x9), .second, .val (.int x11)] [(.long q1)])) _
    refine XS.iload X1.here hx rfl (hb hby d1_25) rfl ?_
    show Steps p.tables e below (T1.setTop (mkF m 27 #[.val (.long q1), .second, .val (.long q2), .second, .val (.long em), .second, .val (.long mv), .second, .val (.int d), .val (.long x9), .second, .val (.int x11)] [(.int d), (.long q1)])) _
    refine st3 _ ?_
    show Steps p.tables e below (T3.setTop (mkF m 30 #[.val (.long q1), .second, .val (.long q2), .second, .val (.long em), .second, .val (.long mv), .second, .val (.int d), .val (.long x9), .second, .val (.int x11)] [(.long (own_st d q1))])) _
    refine XS.lloadN X3.here hx rfl (hb hby d1_30) rfl ?_
    show Steps p.tables e below (T3.setTop (mkF m 31 #[.val (.long q1), .second, .val (.long q2), .second, .val (.long em), .second, .val (.long mv), .second, .val (.int d), .val (.long x9), .second, .val (.int x11)] [(.long q2), (.long (own_st d q1))])) _
    refine XS.land X3.here hx rfl (hb hby d1_31) rfl ?_
    show Steps p.tables e below (T3.setTop (mkF m 32 #[.val (.long q1), .second, .val (.long q2), .second, .val (.long em), .second, .val (.long mv), .second, .val (.int d), .val (.long x9), .second, .val (.int x11)] [(.long (own_r0 d q1 q2))])) _
    refine XS.lstore X3.here hx rfl (hb hby d1_32) rfl (l' := #[.val (.long q1), .second, .val (.long q2), .second, .val (.long em), .second, .val (.long mv), .second, .val (.int d), .val (.long (own_r0 d q1 q2)), .second, .val (.int x11)]) rfl ?_
    show Steps p.tables e below (T3.setTop (mkF m 34 #[.val (.long q1), .second, .val (.long q2), .second, .val (.long em), .second, .val (.long mv), .second, .val (.int d), .val (.long (own_r0 d q1 q2)), .second, .val (.int x11)] [])) _
    refine XS.iconst X3.here hx rfl (hb hby d1_34) ?_
    show Steps p.tables e below (T3.setTop (mkF m 35 #[.val (.long q1), .second, .val (.long q2), .second, .val (.long em), .second, .val (.long mv), .second, .val (.int d), .val (.long (own_r0 d q1 q2)), .second, .val (.int x11)] [(.int (0 : Int32))])) _
    refine XS.istore X3.here hx rfl (hb hby d1_35) rfl (l' := #[.val (.long q1), .second, .val (.long q2), .second, .val (.long em), .second, .val (.long mv), .second, .val (.int d), .val (.long (own_r0 d q1 q2)), .second, .val (.int (0 : Int32))]) rfl ?_
    exact k
  exact ⟨T3, _, X3, e3, N3, k4⟩
theorem d1_37 : decode prog_43_method_2_code 37 = .ok (.iload 11, 2) := by decide +kernel
theorem d1_39 : decode prog_43_method_2_code 39 = .ok (.iconst 5, 1) := by decide +kernel
theorem d1_40 : decode prog_43_method_2_code 40 = .ok (.if_icmp .ge 23, 3) := by decide +kernel
theorem d1_43 : decode prog_43_method_2_code 43 = .ok (.lload 9, 2) := by decide +kernel
theorem d1_45 : decode prog_43_method_2_code 45 = .ok (.lload 9, 2) := by decide +kernel
theorem d1_47 : decode prog_43_method_2_code 47 = .ok (.iload 8, 2) := by decide +kernel
theorem d1_49 : decode prog_43_method_2_code 49 = .ok (.invokestatic 15, 3) := by decide +kernel
theorem d1_52 : decode prog_43_method_2_code 52 = .ok (.lload_n 2, 1) := by decide +kernel
theorem d1_53 : decode prog_43_method_2_code 53 = .ok (.land, 1) := by decide +kernel
theorem d1_54 : decode prog_43_method_2_code 54 = .ok (.lor, 1) := by decide +kernel
theorem d1_55 : decode prog_43_method_2_code 55 = .ok (.lstore 9, 2) := by decide +kernel
theorem d1_57 : decode prog_43_method_2_code 57 = .ok (.iinc 11 1, 3) := by decide +kernel
theorem d1_60 : decode prog_43_method_2_code 60 = .ok (.goto (-23), 3) := by decide +kernel
set_option maxRecDepth 65536 in
set_option maxHeartbeats 40000000 in
theorem own_mT {p : Program} {l : Launch} {e : Env} {s : State} {m : MethodId} {args : Array Value} {below : List Frame} {meth : Method} {c : Code} {T0 : State} {locs : List Loc} {Z : State} {a0 : Array Value} {h0 : Heap} {n0 : Nat} {q1 : Int64} {q2 : Int64} {em : Int64} {mv : Int64} {d : Int32} {r : Int64} {i : Int32} {w_STEPS : Addr} {kv_STEPS : ClassId} {w_LANDINGS : Addr} {kv_LANDINGS : ClassId} (X0 : Stand p l e ({ frames := 1, cells := 0, slots := 0, locals := 19 } : Room) s m args below meth c T0 locs 0 0) (hx : p.tables.exec = Jvm.exec) (hZ : Z.Warmed39 s.vm) (hw : ∀ d ∈ tables_1, d.before a0 Z = true) (hby : c.code = prog_43_method_2_code) (hml : c.maxLocals = 12) (hown : s.vm.findClass "com/example/counterply/counterply/othello/Board" = some m.cls) (e0 : T0.heap = h0) (N0 : Fr n0 locs) (Z0 : n0 ≤ h0.size) (S_STEPS : Sta Z h0 "com/example/counterply/counterply/othello/Board" "STEPS" "[I" (.ref w_STEPS)) (V_STEPS : Arv Z h0 w_STEPS kv_STEPS .int (8 : Int32) [(.int (1 : Int32)), (.int (-1 : Int32)), (.int (8 : Int32)), (.int (-8 : Int32)), (.int (9 : Int32)), (.int (-9 : Int32)), (.int (7 : Int32)), (.int (-7 : Int32))] (.int (0 : Int32))) (S_LANDINGS : Sta Z h0 "com/example/counterply/counterply/othello/Board" "LANDINGS" "[J" (.ref w_LANDINGS)) (V_LANDINGS : Arv Z h0 w_LANDINGS kv_LANDINGS .long (8 : Int32) [(.long (-72340172838076674 : Int64)), (.long (9187201950435737471 : Int64)), (.long (-1 : Int64)), (.long (-1 : Int64)), (.long (-72340172838076674 : Int64)), (.long (9187201950435737471 : Int64)), (.long (9187201950435737471 : Int64)), (.long (-72340172838076674 : Int64))] (.long (0 : Int64))) (hi : i < (5 : Int32)) (hD : own_dirs d) :
    ∃ (T' : State) (L' : List Loc), Stand p l e ({ frames := 1, cells := 0, slots := 0, locals := 19 } : Room) s m args below meth c T' L' 0 0 ∧ T'.heap = h0 ∧ Fr n0 L' ∧ ∀ t, Steps p.tables e below (T'.setTop (mkF m 37 #[.val (.long q1), .second, .val (.long q2), .second, .val (.long em), .second, .val (.long mv), .second, .val (.int d), .val (.long (own_gr d q2 r)), .second, .val (.int (i + (1 : Int32)))] [])) t → Steps p.tables e below (T0.setTop (mkF m 37 #[.val (.long q1), .second, .val (.long q2), .second, .val (.long em), .second, .val (.long mv), .second, .val (.int d), .val (.long r), .second, .val (.int i)] [])) t := by
  have pre0 : ∀ t, Steps p.tables e below (T0.setTop (mkF m 37 #[.val (.long q1), .second, .val (.long q2), .second, .val (.long em), .second, .val (.long mv), .second, .val (.int d), .val (.long r), .second, .val (.int i)] [])) t → Steps p.tables e below (T0.setTop (mkF m 37 #[.val (.long q1), .second, .val (.long q2), .second, .val (.long em), .second, .val (.long mv), .second, .val (.int d), .val (.long r), .second, .val (.int i)] [])) t := fun t k => k
  obtain ⟨_, _, ⟨T1, L1, k1, n1⟩, -, X1, ⟨Lc1, hQ1, l1, y1, z1⟩, st1⟩ := Jvm.LawKit.callS X0 hx (y := (⟨"com/example/counterply/counterply/othello/Board", "step", "(JI)J"⟩ : MethodName)) hown (mvT hZ (hw _ (List.mem_of_getElem? (i := 8) rfl))) (mvT hZ (hw _ (List.mem_of_getElem? (i := 9) rfl))) (mvT hZ (hw _ (List.mem_of_getElem? (i := 3) rfl))) (mvT hZ (hw _ (List.mem_of_getElem? (i := 10) rfl))) (by decide) (backOf (W := 2) (rm2_0 l Z a0 hw [] r d w_STEPS kv_STEPS w_LANDINGS kv_LANDINGS h0 n0 Z0 hD S_STEPS V_STEPS S_LANDINGS V_LANDINGS) hZ (hw _ (List.mem_of_getElem? (i := 10) rfl)) (hw _ (List.mem_of_getElem? (i := 3) rfl)) (by decide) (by decide)) (g := (mkF m 49 #[.val (.long q1), .second, .val (.long q2), .second, .val (.long em), .second, .val (.long mv), .second, .val (.int d), .val (.long r), .second, .val (.int i)] [(.int d), (.long r), (.long r)])) rfl (by rw [hml]; rfl) (argsL := [(.long r), (.int d)]) (rest := [(.long r)]) (lenOf pd_0 rfl) rfl (by show 2 * 0 + _ ≤ _; exact Nat.le_of_eq rfl) (hb hby d1_49) (fun _ _ => ⟨rfl, e0, (by decide : 0 + 0 ≤ _), (by decide : 0 + 0 ≤ _)⟩)
  dsimp only [Pt.U, Pt.locs, Pt.cells, Pt.slots] at X1 l1 y1 z1 st1 hQ1
  subst l1 y1 z1
  obtain ⟨rfl, N1q, e1⟩ := hQ1
  have N1 := Fr.app N0 N1q
  have k2 : ∀ t, Steps p.tables e below (T1.setTop (mkF m 37 #[.val (.long q1), .second, .val (.long q2), .second, .val (.long em), .second, .val (.long mv), .second, .val (.int d), .val (.long (own_gr d q2 r)), .second, .val (.int (i + (1 : Int32)))] [])) t → Steps p.tables e below (T0.setTop (mkF m 37 #[.val (.long q1), .second, .val (.long q2), .second, .val (.long em), .second, .val (.long mv), .second, .val (.int d), .val (.long r), .second, .val (.int i)] [])) t := by
    intro t k
    refine pre0 t ?_
    show Steps p.tables e below (T0.setTop (mkF m 37 #[.val (.long q1), .second, .val (.long q2), .second, .val (.long em), .second, .val (.long mv), .second, .val (.int d), .val (.long r), .second, .val (.int i)] [])) _
    refine XS.iload X0.here hx rfl (hb hby d1_37) rfl ?_
    show Steps p.tables e below (T0.setTop (mkF m 39 #[.val (.long q1), .second, .val (.long q2), .second, .val (.long em), .second, .val (.long mv), .second, .val (.int d), .val (.long r), .second, .val (.int i)] [(.int i)])) _
    refine XS.iconst X0.here hx rfl (hb hby d1_39) ?_
    show Steps p.tables e below (T0.setTop (mkF m 40 #[.val (.long q1), .second, .val (.long q2), .second, .val (.long em), .second, .val (.long mv), .second, .val (.int d), .val (.long r), .second, .val (.int i)] [(.int (5 : Int32)), (.int i)])) _
    refine XS.icmpNo X0.here hx rfl (hb hby d1_40) rfl (tlt hi).2.1 ?_
    show Steps p.tables e below (T0.setTop (mkF m 43 #[.val (.long q1), .second, .val (.long q2), .second, .val (.long em), .second, .val (.long mv), .second, .val (.int d), .val (.long r), .second, .val (.int i)] [])) _
    refine XS.lload X0.here hx rfl (hb hby d1_43) rfl ?_
    show Steps p.tables e below (T0.setTop (mkF m 45 #[.val (.long q1), .second, .val (.long q2), .second, .val (.long em), .second, .val (.long mv), .second, .val (.int d), .val (.long r), .second, .val (.int i)] [(.long r)])) _
    refine XS.lload X0.here hx rfl (hb hby d1_45) rfl ?_
    show Steps p.tables e below (T0.setTop (mkF m 47 #[.val (.long q1), .second, .val (.long q2), .second, .val (.long em), .second, .val (.long mv), .second, .val (.int d), .val (.long r), .second, .val (.int i)] [(.long r), (.long r)])) _
    refine XS.iload X0.here hx rfl (hb hby d1_47) rfl ?_
    show Steps p.tables e below (T0.setTop (mkF m 49 #[.val (.long q1), .second, .val (.long q2), .second, .val (.long em), .second, .val (.long mv), .second, .val (.int d), .val (.long r), .second, .val (.int i)] [(.int d), (.long r), (.long r)])) _
    refine st1 _ ?_
    show Steps p.tables e below (T1.setTop (mkF m 52 #[.val (.long q1), .second, .val (.long q2), .second, .val (.long em), .second, .val (.long mv), .second, .val (.int d), .val (.long r), .second, .val (.int i)] [(.long (own_st d r)), (.long r)])) _
    refine XS.lloadN X1.here hx rfl (hb hby d1_52) rfl ?_
    show Steps p.tables e below (T1.setTop (mkF m 53 #[.val (.long q1), .second, .val (.long q2), .second, .val (.long em), .second, .val (.long mv), .second, .val (.int d), .val (.long r), .second, .val (.int i)] [(.long q2), (.long (own_st d r)), (.long r)])) _
    refine XS.land X1.here hx rfl (hb hby d1_53) rfl ?_
    show Steps p.tables e below (T1.setTop (mkF m 54 #[.val (.long q1), .second, .val (.long q2), .second, .val (.long em), .second, .val (.long mv), .second, .val (.int d), .val (.long r), .second, .val (.int i)] [(.long ((own_st d r) &&& q2)), (.long r)])) _
    refine XS.lor X1.here hx rfl (hb hby d1_54) rfl ?_
    show Steps p.tables e below (T1.setTop (mkF m 55 #[.val (.long q1), .second, .val (.long q2), .second, .val (.long em), .second, .val (.long mv), .second, .val (.int d), .val (.long r), .second, .val (.int i)] [(.long (own_gr d q2 r))])) _
    refine XS.lstore X1.here hx rfl (hb hby d1_55) rfl (l' := #[.val (.long q1), .second, .val (.long q2), .second, .val (.long em), .second, .val (.long mv), .second, .val (.int d), .val (.long (own_gr d q2 r)), .second, .val (.int i)]) rfl ?_
    show Steps p.tables e below (T1.setTop (mkF m 57 #[.val (.long q1), .second, .val (.long q2), .second, .val (.long em), .second, .val (.long mv), .second, .val (.int d), .val (.long (own_gr d q2 r)), .second, .val (.int i)] [])) _
    refine XS.iinc X1.here hx rfl (hb hby d1_57) rfl (l' := #[.val (.long q1), .second, .val (.long q2), .second, .val (.long em), .second, .val (.long mv), .second, .val (.int d), .val (.long (own_gr d q2 r)), .second, .val (.int (i + (1 : Int32)))]) rfl ?_
    show Steps p.tables e below (T1.setTop (mkF m 60 #[.val (.long q1), .second, .val (.long q2), .second, .val (.long em), .second, .val (.long mv), .second, .val (.int d), .val (.long (own_gr d q2 r)), .second, .val (.int (i + (1 : Int32)))] [])) _
    refine XS.goto X1.here hx rfl (pc0 := 60) (pc' := 37) rfl (hb hby d1_60) (by decide) (by decide) ?_
    exact k
  exact ⟨T1, _, X1, e1, N1, k2⟩
theorem d1_63 : decode prog_43_method_2_code 63 = .ok (.lload 6, 2) := by decide +kernel
theorem d1_65 : decode prog_43_method_2_code 65 = .ok (.lload 9, 2) := by decide +kernel
theorem d1_67 : decode prog_43_method_2_code 67 = .ok (.iload 8, 2) := by decide +kernel
theorem d1_69 : decode prog_43_method_2_code 69 = .ok (.invokestatic 15, 3) := by decide +kernel
theorem d1_72 : decode prog_43_method_2_code 72 = .ok (.lload 4, 2) := by decide +kernel
theorem d1_74 : decode prog_43_method_2_code 74 = .ok (.land, 1) := by decide +kernel
theorem d1_75 : decode prog_43_method_2_code 75 = .ok (.lor, 1) := by decide +kernel
theorem d1_76 : decode prog_43_method_2_code 76 = .ok (.lstore 6, 2) := by decide +kernel
theorem d1_78 : decode prog_43_method_2_code 78 = .ok (.iinc 8 1, 3) := by decide +kernel
theorem d1_81 : decode prog_43_method_2_code 81 = .ok (.goto (-66), 3) := by decide +kernel
set_option maxRecDepth 65536 in
set_option maxHeartbeats 40000000 in
theorem own_mC {p : Program} {l : Launch} {e : Env} {s : State} {m : MethodId} {args : Array Value} {below : List Frame} {meth : Method} {c : Code} {T0 : State} {locs : List Loc} {Z : State} {a0 : Array Value} {h0 : Heap} {n0 : Nat} {q1 : Int64} {q2 : Int64} {em : Int64} {mv : Int64} {d : Int32} {r : Int64} {i : Int32} {w_STEPS : Addr} {kv_STEPS : ClassId} {w_LANDINGS : Addr} {kv_LANDINGS : ClassId} (X0 : Stand p l e ({ frames := 1, cells := 0, slots := 0, locals := 19 } : Room) s m args below meth c T0 locs 0 0) (hx : p.tables.exec = Jvm.exec) (hZ : Z.Warmed39 s.vm) (hw : ∀ d ∈ tables_1, d.before a0 Z = true) (hby : c.code = prog_43_method_2_code) (hml : c.maxLocals = 12) (hown : s.vm.findClass "com/example/counterply/counterply/othello/Board" = some m.cls) (e0 : T0.heap = h0) (N0 : Fr n0 locs) (Z0 : n0 ≤ h0.size) (S_STEPS : Sta Z h0 "com/example/counterply/counterply/othello/Board" "STEPS" "[I" (.ref w_STEPS)) (V_STEPS : Arv Z h0 w_STEPS kv_STEPS .int (8 : Int32) [(.int (1 : Int32)), (.int (-1 : Int32)), (.int (8 : Int32)), (.int (-8 : Int32)), (.int (9 : Int32)), (.int (-9 : Int32)), (.int (7 : Int32)), (.int (-7 : Int32))] (.int (0 : Int32))) (S_LANDINGS : Sta Z h0 "com/example/counterply/counterply/othello/Board" "LANDINGS" "[J" (.ref w_LANDINGS)) (V_LANDINGS : Arv Z h0 w_LANDINGS kv_LANDINGS .long (8 : Int32) [(.long (-72340172838076674 : Int64)), (.long (9187201950435737471 : Int64)), (.long (-1 : Int64)), (.long (-1 : Int64)), (.long (-72340172838076674 : Int64)), (.long (9187201950435737471 : Int64)), (.long (9187201950435737471 : Int64)), (.long (-72340172838076674 : Int64))] (.long (0 : Int64))) (hi : ¬ (i < (5 : Int32))) (hD : own_dirs d) :
    ∃ (T' : State) (L' : List Loc), Stand p l e ({ frames := 1, cells := 0, slots := 0, locals := 19 } : Room) s m args below meth c T' L' 0 0 ∧ T'.heap = h0 ∧ Fr n0 L' ∧ ∀ t, Steps p.tables e below (T'.setTop (mkF m 15 #[.val (.long q1), .second, .val (.long q2), .second, .val (.long em), .second, .val (.long (mv ||| ((own_st d r) &&& em))), .second, .val (.int (d + (1 : Int32))), .val (.long r), .second, .val (.int i)] [])) t → Steps p.tables e below (T0.setTop (mkF m 37 #[.val (.long q1), .second, .val (.long q2), .second, .val (.long em), .second, .val (.long mv), .second, .val (.int d), .val (.long r), .second, .val (.int i)] [])) t := by
  have pre0 : ∀ t, Steps p.tables e below (T0.setTop (mkF m 37 #[.val (.long q1), .second, .val (.long q2), .second, .val (.long em), .second, .val (.long mv), .second, .val (.int d), .val (.long r), .second, .val (.int i)] [])) t → Steps p.tables e below (T0.setTop (mkF m 37 #[.val (.long q1), .second, .val (.long q2), .second, .val (.long em), .second, .val (.long mv), .second, .val (.int d), .val (.long r), .second, .val (.int i)] [])) t := fun t k => k
  obtain ⟨_, _, ⟨T1, L1, k1, n1⟩, -, X1, ⟨Lc1, hQ1, l1, y1, z1⟩, st1⟩ := Jvm.LawKit.callS X0 hx (y := (⟨"com/example/counterply/counterply/othello/Board", "step", "(JI)J"⟩ : MethodName)) hown (mvT hZ (hw _ (List.mem_of_getElem? (i := 8) rfl))) (mvT hZ (hw _ (List.mem_of_getElem? (i := 9) rfl))) (mvT hZ (hw _ (List.mem_of_getElem? (i := 3) rfl))) (mvT hZ (hw _ (List.mem_of_getElem? (i := 10) rfl))) (by decide) (backOf (W := 2) (rm2_0 l Z a0 hw [] r d w_STEPS kv_STEPS w_LANDINGS kv_LANDINGS h0 n0 Z0 hD S_STEPS V_STEPS S_LANDINGS V_LANDINGS) hZ (hw _ (List.mem_of_getElem? (i := 10) rfl)) (hw _ (List.mem_of_getElem? (i := 3) rfl)) (by decide) (by decide)) (g := (mkF m 69 #[.val (.long q1), .second, .val (.long q2), .second, .val (.long em), .second, .val (.long mv), .second, .val (.int d), .val (.long r), .second, .val (.int i)] [(.int d), (.long r), (.long mv)])) rfl (by rw [hml]; rfl) (argsL := [(.long r), (.int d)]) (rest := [(.long mv)]) (lenOf pd_0 rfl) rfl (by show 2 * 0 + _ ≤ _; exact Nat.le_of_eq rfl) (hb hby d1_69) (fun _ _ => ⟨rfl, e0, (by decide : 0 + 0 ≤ _), (by decide : 0 + 0 ≤ _)⟩)
  dsimp only [Pt.U, Pt.locs, Pt.cells, Pt.slots] at X1 l1 y1 z1 st1 hQ1
  subst l1 y1 z1
  obtain ⟨rfl, N1q, e1⟩ := hQ1
  have N1 := Fr.app N0 N1q
  have k2 : ∀ t, Steps p.tables e below (T1.setTop (mkF m 15 #[.val (.long q1), .second, .val (.long q2), .second, .val (.long em), .second, .val (.long (mv ||| ((own_st d r) &&& em))), .second, .val (.int (d + (1 : Int32))), .val (.long r), .second, .val (.int i)] [])) t → Steps p.tables e below (T0.setTop (mkF m 37 #[.val (.long q1), .second, .val (.long q2), .second, .val (.long em), .second, .val (.long mv), .second, .val (.int d), .val (.long r), .second, .val (.int i)] [])) t := by
    intro t k
    refine pre0 t ?_
    show Steps p.tables e below (T0.setTop (mkF m 37 #[.val (.long q1), .second, .val (.long q2), .second, .val (.long em), .second, .val (.long mv), .second, .val (.int d), .val (.long r), .second, .val (.int i)] [])) _
    refine XS.iload X0.here hx rfl (hb hby d1_37) rfl ?_
    show Steps p.tables e below (T0.setTop (mkF m 39 #[.val (.long q1), .second, .val (.long q2), .second, .val (.long em), .second, .val (.long mv), .second, .val (.int d), .val (.long r), .second, .val (.int i)] [(.int i)])) _
    refine XS.iconst X0.here hx rfl (hb hby d1_39) ?_
    show Steps p.tables e below (T0.setTop (mkF m 40 #[.val (.long q1), .second, .val (.long q2), .second, .val (.long em), .second, .val (.long mv), .second, .val (.int d), .val (.long r), .second, .val (.int i)] [(.int (5 : Int32)), (.int i)])) _
    refine XS.icmpYes X0.here hx rfl (pc0 := 40) (pc' := 63) rfl (hb hby d1_40) rfl (flt hi).2.1 (by decide) (by decide) ?_
    show Steps p.tables e below (T0.setTop (mkF m 63 #[.val (.long q1), .second, .val (.long q2), .second, .val (.long em), .second, .val (.long mv), .second, .val (.int d), .val (.long r), .second, .val (.int i)] [])) _
    refine XS.lload X0.here hx rfl (hb hby d1_63) rfl ?_
    show Steps p.tables e below (T0.setTop (mkF m 65 #[.val (.long q1), .second, .val (.long q2), .second, .val (.long em), .second, .val (.long mv), .second, .val (.int d), .val (.long r), .second, .val (.int i)] [(.long mv)])) _
    refine XS.lload X0.here hx rfl (hb hby d1_65) rfl ?_
    show Steps p.tables e below (T0.setTop (mkF m 67 #[.val (.long q1), .second, .val (.long q2), .second, .val (.long em), .second, .val (.long mv), .second, .val (.int d), .val (.long r), .second, .val (.int i)] [(.long r), (.long mv)])) _
    refine XS.iload X0.here hx rfl (hb hby d1_67) rfl ?_
    show Steps p.tables e below (T0.setTop (mkF m 69 #[.val (.long q1), .second, .val (.long q2), .second, .val (.long em), .second, .val (.long mv), .second, .val (.int d), .val (.long r), .second, .val (.int i)] [(.int d), (.long r), (.long mv)])) _
    refine st1 _ ?_
    show Steps p.tables e below (T1.setTop (mkF m 72 #[.val (.long q1), .second, .val (.long q2), .second, .val (.long em), .second, .val (.long mv), .second, .val (.int d), .val (.long r), .second, .val (.int i)] [(.long (own_st d r)), (.long mv)])) _
    refine XS.lload X1.here hx rfl (hb hby d1_72) rfl ?_
    show Steps p.tables e below (T1.setTop (mkF m 74 #[.val (.long q1), .second, .val (.long q2), .second, .val (.long em), .second, .val (.long mv), .second, .val (.int d), .val (.long r), .second, .val (.int i)] [(.long em), (.long (own_st d r)), (.long mv)])) _
    refine XS.land X1.here hx rfl (hb hby d1_74) rfl ?_
    show Steps p.tables e below (T1.setTop (mkF m 75 #[.val (.long q1), .second, .val (.long q2), .second, .val (.long em), .second, .val (.long mv), .second, .val (.int d), .val (.long r), .second, .val (.int i)] [(.long ((own_st d r) &&& em)), (.long mv)])) _
    refine XS.lor X1.here hx rfl (hb hby d1_75) rfl ?_
    show Steps p.tables e below (T1.setTop (mkF m 76 #[.val (.long q1), .second, .val (.long q2), .second, .val (.long em), .second, .val (.long mv), .second, .val (.int d), .val (.long r), .second, .val (.int i)] [(.long (mv ||| ((own_st d r) &&& em)))])) _
    refine XS.lstore X1.here hx rfl (hb hby d1_76) rfl (l' := #[.val (.long q1), .second, .val (.long q2), .second, .val (.long em), .second, .val (.long (mv ||| ((own_st d r) &&& em))), .second, .val (.int d), .val (.long r), .second, .val (.int i)]) rfl ?_
    show Steps p.tables e below (T1.setTop (mkF m 78 #[.val (.long q1), .second, .val (.long q2), .second, .val (.long em), .second, .val (.long (mv ||| ((own_st d r) &&& em))), .second, .val (.int d), .val (.long r), .second, .val (.int i)] [])) _
    refine XS.iinc X1.here hx rfl (hb hby d1_78) rfl (l' := #[.val (.long q1), .second, .val (.long q2), .second, .val (.long em), .second, .val (.long (mv ||| ((own_st d r) &&& em))), .second, .val (.int (d + (1 : Int32))), .val (.long r), .second, .val (.int i)]) rfl ?_
    show Steps p.tables e below (T1.setTop (mkF m 81 #[.val (.long q1), .second, .val (.long q2), .second, .val (.long em), .second, .val (.long (mv ||| ((own_st d r) &&& em))), .second, .val (.int (d + (1 : Int32))), .val (.long r), .second, .val (.int i)] [])) _
    refine XS.goto X1.here hx rfl (pc0 := 81) (pc' := 15) rfl (hb hby d1_81) (by decide) (by decide) ?_
    exact k
  exact ⟨T1, _, X1, e1, N1, k2⟩
theorem own_turnMu {p : Program} {l : Launch} {e : Env} {s : State} {m : MethodId} {args : Array Value} {below : List Frame} {meth : Method} {c : Code} {Z : State} {a0 : Array Value} {h0 : Heap} {n0 : Nat} {T0 : State} {locs : List Loc} {q1 q2 em mv : Int64} {d d' : Int32}  (X0 : Stand p l e ({ frames := 1, cells := 0, slots := 0, locals := 19 } : Room) s m args below meth c T0 locs 0 0) (hx : p.tables.exec = Jvm.exec) (hZ : Z.Warmed39 s.vm) (hw : ∀ d ∈ tables_1, d.before a0 Z = true) (hby : c.code = prog_43_method_2_code) (hml : c.maxLocals = 12) (hown : s.vm.findClass "com/example/counterply/counterply/othello/Board" = some m.cls) (Z0 : n0 ≤ h0.size) (e0 : T0.heap = h0) (N0 : Fr n0 locs) (S_STEPS : Sta Z h0 "com/example/counterply/counterply/othello/Board" "STEPS" "[I" (.ref w_STEPS)) (V_STEPS : Arv Z h0 w_STEPS kv_STEPS .int (8 : Int32) [(.int (1 : Int32)), (.int (-1 : Int32)), (.int (8 : Int32)), (.int (-8 : Int32)), (.int (9 : Int32)), (.int (-9 : Int32)), (.int (7 : Int32)), (.int (-7 : Int32))] (.int (0 : Int32))) (S_LANDINGS : Sta Z h0 "com/example/counterply/counterply/othello/Board" "LANDINGS" "[J" (.ref w_LANDINGS)) (V_LANDINGS : Arv Z h0 w_LANDINGS kv_LANDINGS .long (8 : Int32) [(.long (-72340172838076674 : Int64)), (.long (9187201950435737471 : Int64)), (.long (-1 : Int64)), (.long (-1 : Int64)), (.long (-72340172838076674 : Int64)), (.long (9187201950435737471 : Int64)), (.long (9187201950435737471 : Int64)), (.long (-72340172838076674 : Int64))] (.long (0 : Int64))) (hlt : d < (8 : Int32)) (hD : own_dirs d) (hd' : (d + (1 : Int32)) = d') : ∃ (T' : State) (L' : List Loc), Stand p l e ({ frames := 1, cells := 0, slots := 0, locals := 19 } : Room) s m args below meth c T' L' 0 0 ∧ T'.heap = h0 ∧ Fr n0 L' ∧ ∀ t, Steps p.tables e below (T'.setTop (mkF m 15 #[.val (.long q1), .second, .val (.long q2), .second, .val (.long em), .second, .val (.long (mv ||| ((own_st d (own_gr d q2 (own_gr d q2 (own_gr d q2 (own_gr d q2 (own_gr d q2 (own_r0 d q1 q2))))))) &&& em))), .second, .val (.int d'), .val (.long (own_gr d q2 (own_gr d q2 (own_gr d q2 (own_gr d q2 (own_gr d q2 (own_r0 d q1 q2))))))), .second, .val (.int ((((((0 : Int32) + (1 : Int32)) + (1 : Int32)) + (1 : Int32)) + (1 : Int32)) + (1 : Int32)))] [])) t → Steps p.tables e below (T0.setTop (mkF m 15 #[.val (.long q1), .second, .val (.long q2), .second, .val (.long em), .second, .val (.long mv), .second, .val (.int d), .unset, .unset, .unset] [])) t := by
  subst hd'
  obtain ⟨T1, L1, X1, e1, N1, s1⟩ := own_mAu (em := em) (mv := mv) X0 hx hZ hw hby hml hown e0 N0 Z0 S_STEPS V_STEPS S_LANDINGS V_LANDINGS hlt hD
  obtain ⟨T2, L2, X2, e2, N2, s2⟩ := own_mT (q1 := q1) (q2 := q2) (em := em) (mv := mv) (d := d) (i := (0 : Int32)) X1 hx hZ hw hby hml hown e1 N1 Z0 S_STEPS V_STEPS S_LANDINGS V_LANDINGS (by decide) hD
  obtain ⟨T3, L3, X3, e3, N3, s3⟩ := own_mT (q1 := q1) (q2 := q2) (em := em) (mv := mv) (d := d) (i := ((0 : Int32) + (1 : Int32))) X2 hx hZ hw hby hml hown e2 N2 Z0 S_STEPS V_STEPS S_LANDINGS V_LANDINGS (by decide) hD
  obtain ⟨T4, L4, X4, e4, N4, s4⟩ := own_mT (q1 := q1) (q2 := q2) (em := em) (mv := mv) (d := d) (i := (((0 : Int32) + (1 : Int32)) + (1 : Int32))) X3 hx hZ hw hby hml hown e3 N3 Z0 S_STEPS V_STEPS S_LANDINGS V_LANDINGS (by decide) hD
  obtain ⟨T5, L5, X5, e5, N5, s5⟩ := own_mT (q1 := q1) (q2 := q2) (em := em) (mv := mv) (d := d) (i := ((((0 : Int32) + (1 : Int32)) + (1 : Int32)) + (1 : Int32))) X4 hx hZ hw hby hml hown e4 N4 Z0 S_STEPS V_STEPS S_LANDINGS V_LANDINGS (by decide) hD
  obtain ⟨T6, L6, X6, e6, N6, s6⟩ := own_mT (q1 := q1) (q2 := q2) (em := em) (mv := mv) (d := d) (i := (((((0 : Int32) + (1 : Int32)) + (1 : Int32)) + (1 : Int32)) + (1 : Int32))) X5 hx hZ hw hby hml hown e5 N5 Z0 S_STEPS V_STEPS S_LANDINGS V_LANDINGS (by decide) hD
  obtain ⟨T7, L7, X7, e7, N7, s7⟩ := own_mC (q1 := q1) (q2 := q2) (em := em) (mv := mv) (d := d) (i := ((((((0 : Int32) + (1 : Int32)) + (1 : Int32)) + (1 : Int32)) + (1 : Int32)) + (1 : Int32))) X6 hx hZ hw hby hml hown e6 N6 Z0 S_STEPS V_STEPS S_LANDINGS V_LANDINGS (by decide) hD
  exact ⟨T7, L7, X7, e7, N7, fun t kk => s1 t (s2 t (s3 t (s4 t (s5 t (s6 t (s7 t kk))))))⟩
theorem own_turnMv {p : Program} {l : Launch} {e : Env} {s : State} {m : MethodId} {args : Array Value} {below : List Frame} {meth : Method} {c : Code} {Z : State} {a0 : Array Value} {h0 : Heap} {n0 : Nat} {T0 : State} {locs : List Loc} {q1 q2 em mv : Int64} {d d' : Int32} {x9 : Int64} {x11 : Int32}  (X0 : Stand p l e ({ frames := 1, cells := 0, slots := 0, locals := 19 } : Room) s m args below meth c T0 locs 0 0) (hx : p.tables.exec = Jvm.exec) (hZ : Z.Warmed39 s.vm) (hw : ∀ d ∈ tables_1, d.before a0 Z = true) (hby : c.code = prog_43_method_2_code) (hml : c.maxLocals = 12) (hown : s.vm.findClass "com/example/counterply/counterply/othello/Board" = some m.cls) (Z0 : n0 ≤ h0.size) (e0 : T0.heap = h0) (N0 : Fr n0 locs) (S_STEPS : Sta Z h0 "com/example/counterply/counterply/othello/Board" "STEPS" "[I" (.ref w_STEPS)) (V_STEPS : Arv Z h0 w_STEPS kv_STEPS .int (8 : Int32) [(.int (1 : Int32)), (.int (-1 : Int32)), (.int (8 : Int32)), (.int (-8 : Int32)), (.int (9 : Int32)), (.int (-9 : Int32)), (.int (7 : Int32)), (.int (-7 : Int32))] (.int (0 : Int32))) (S_LANDINGS : Sta Z h0 "com/example/counterply/counterply/othello/Board" "LANDINGS" "[J" (.ref w_LANDINGS)) (V_LANDINGS : Arv Z h0 w_LANDINGS kv_LANDINGS .long (8 : Int32) [(.long (-72340172838076674 : Int64)), (.long (9187201950435737471 : Int64)), (.long (-1 : Int64)), (.long (-1 : Int64)), (.long (-72340172838076674 : Int64)), (.long (9187201950435737471 : Int64)), (.long (9187201950435737471 : Int64)), (.long (-72340172838076674 : Int64))] (.long (0 : Int64))) (hlt : d < (8 : Int32)) (hD : own_dirs d) (hd' : (d + (1 : Int32)) = d') : ∃ (T' : State) (L' : List Loc), Stand p l e ({ frames := 1, cells := 0, slots := 0, locals := 19 } : Room) s m args below meth c T' L' 0 0 ∧ T'.heap = h0 ∧ Fr n0 L' ∧ ∀ t, Steps p.tables e below (T'.setTop (mkF m 15 #[.val (.long q1), .second, .val (.long q2), .second, .val (.long em), .second, .val (.long (mv ||| ((own_st d (own_gr d q2 (own_gr d q2 (own_gr d q2 (own_gr d q2 (own_gr d q2 (own_r0 d q1 q2))))))) &&& em))), .second, .val (.int d'), .val (.long (own_gr d q2 (own_gr d q2 (own_gr d q2 (own_gr d q2 (own_gr d q2 (own_r0 d q1 q2))))))), .second, .val (.int ((((((0 : Int32) + (1 : Int32)) + (1 : Int32)) + (1 : Int32)) + (1 : Int32)) + (1 : Int32)))] [])) t → Steps p.tables e below (T0.setTop (mkF m 15 #[.val (.long q1), .second, .val (.long q2), .second, .val (.long em), .second, .val (.long mv), .second, .val (.int d), .val (.long x9), .second, .val (.int x11)] [])) t := by
  subst hd'
  obtain ⟨T1, L1, X1, e1, N1, s1⟩ := own_mAv (em := em) (mv := mv) X0 hx hZ hw hby hml hown e0 N0 Z0 S_STEPS V_STEPS S_LANDINGS V_LANDINGS hlt hD
  obtain ⟨T2, L2, X2, e2, N2, s2⟩ := own_mT (q1 := q1) (q2 := q2) (em := em) (mv := mv) (d := d) (i := (0 : Int32)) X1 hx hZ hw hby hml hown e1 N1 Z0 S_STEPS V_STEPS S_LANDINGS V_LANDINGS (by decide) hD
  obtain ⟨T3, L3, X3, e3, N3, s3⟩ := own_mT (q1 := q1) (q2 := q2) (em := em) (mv := mv) (d := d) (i := ((0 : Int32) + (1 : Int32))) X2 hx hZ hw hby hml hown e2 N2 Z0 S_STEPS V_STEPS S_LANDINGS V_LANDINGS (by decide) hD
  obtain ⟨T4, L4, X4, e4, N4, s4⟩ := own_mT (q1 := q1) (q2 := q2) (em := em) (mv := mv) (d := d) (i := (((0 : Int32) + (1 : Int32)) + (1 : Int32))) X3 hx hZ hw hby hml hown e3 N3 Z0 S_STEPS V_STEPS S_LANDINGS V_LANDINGS (by decide) hD
  obtain ⟨T5, L5, X5, e5, N5, s5⟩ := own_mT (q1 := q1) (q2 := q2) (em := em) (mv := mv) (d := d) (i := ((((0 : Int32) + (1 : Int32)) + (1 : Int32)) + (1 : Int32))) X4 hx hZ hw hby hml hown e4 N4 Z0 S_STEPS V_STEPS S_LANDINGS V_LANDINGS (by decide) hD
  obtain ⟨T6, L6, X6, e6, N6, s6⟩ := own_mT (q1 := q1) (q2 := q2) (em := em) (mv := mv) (d := d) (i := (((((0 : Int32) + (1 : Int32)) + (1 : Int32)) + (1 : Int32)) + (1 : Int32))) X5 hx hZ hw hby hml hown e5 N5 Z0 S_STEPS V_STEPS S_LANDINGS V_LANDINGS (by decide) hD
  obtain ⟨T7, L7, X7, e7, N7, s7⟩ := own_mC (q1 := q1) (q2 := q2) (em := em) (mv := mv) (d := d) (i := ((((((0 : Int32) + (1 : Int32)) + (1 : Int32)) + (1 : Int32)) + (1 : Int32)) + (1 : Int32))) X6 hx hZ hw hby hml hown e6 N6 Z0 S_STEPS V_STEPS S_LANDINGS V_LANDINGS (by decide) hD
  exact ⟨T7, L7, X7, e7, N7, fun t kk => s1 t (s2 t (s3 t (s4 t (s5 t (s6 t (s7 t kk))))))⟩
theorem d1_84 : decode prog_43_method_2_code 84 = .ok (.lload 6, 2) := by decide +kernel
theorem d1_86 : decode prog_43_method_2_code 86 = .ok (.lreturn, 1) := by decide +kernel
theorem ef_rm1_0 (m : MethodId) (x0 : Int64) (x1 : Int64) : entryFrame m #[(.long x0), (.long x1)] 12 = mkF m 0 #[.val (.long x0), .second, .val (.long x1), .second, .unset, .unset, .unset, .unset, .unset, .unset, .unset, .unset] [] := by first | (simp [entryFrame, mkF, argsToLocals, Value.category]; done) | rfl
def Q1_0 (Z : State) (q1 : Int64) (q2 : Int64) (w_STEPS : Addr) (kv_STEPS : ClassId) (w_LANDINGS : Addr) (kv_LANDINGS : ClassId) (h0 : Heap) (n0 : Nat) (v : Option Value) (h : Heap) (L : List Loc) : Prop := v = some (.long (own_moves q1 q2)) ∧ Fr n0 L ∧ h = h0
set_option maxRecDepth 65536 in
set_option maxHeartbeats 40000000 in
theorem rm1_0 (l : Launch) (Z : State) (a0 : Array Value) (hw : ∀ d ∈ tables_1, d.before a0 Z = true) (ws : List Jvm.Cond) (q1 : Int64) (q2 : Int64) (w_STEPS : Addr) (kv_STEPS : ClassId) (w_LANDINGS : Addr) (kv_LANDINGS : ClassId) (h0 : Heap) (n0 : Nat) (Z0 : n0 ≤ h0.size) (S_STEPS : Sta Z h0 "com/example/counterply/counterply/othello/Board" "STEPS" "[I" (.ref w_STEPS)) (V_STEPS : Arv Z h0 w_STEPS kv_STEPS .int (8 : Int32) [(.int (1 : Int32)), (.int (-1 : Int32)), (.int (8 : Int32)), (.int (-8 : Int32)), (.int (9 : Int32)), (.int (-9 : Int32)), (.int (7 : Int32)), (.int (-7 : Int32))] (.int (0 : Int32))) (S_LANDINGS : Sta Z h0 "com/example/counterply/counterply/othello/Board" "LANDINGS" "[J" (.ref w_LANDINGS)) (V_LANDINGS : Arv Z h0 w_LANDINGS kv_LANDINGS .long (8 : Int32) [(.long (-72340172838076674 : Int64)), (.long (9187201950435737471 : Int64)), (.long (-1 : Int64)), (.long (-1 : Int64)), (.long (-72340172838076674 : Int64)), (.long (9187201950435737471 : Int64)), (.long (9187201950435737471 : Int64)), (.long (-72340172838076674 : Int64))] (.long (0 : Int64))) :
    MetFree l (⟨"com/example/counterply/counterply/othello/Board", "moves", "(JJ)J"⟩ : MethodName) (head1 (Jvm.Cond.code (⟨"com/example/counterply/counterply/othello/Board", "moves", "(JJ)J"⟩ : MethodName) prog_43_method_2_code 12 (some .long) :: ws) ({ frames := 1, cells := 0, slots := 0, locals := 19 } : Room)) (fun a U => a = #[(.long q1), (.long q2)] ∧ Z.Warmed39 U.vm ∧ U.heap = h0) (fun _ _ _ _ _ => True) (fun _ U o U' => ∃ v L, o = .returned v ∧ Q1_0 Z q1 q2 w_STEPS kv_STEPS w_LANDINGS kv_LANDINGS h0 n0 v U'.heap L ∧ FrameEnd U o U' L ({ frames := 1, cells := 0, slots := 0, locals := 19 } : Room).cells ({ frames := 1, cells := 0, slots := 0, locals := 19 } : Room).slots) := by
  refine MetFree.of_bodySF (plainFor_of_name pn_0) hisR ?_
  intro p e s m args below meth c s₁ Bd hml0 hP hK
  obtain ⟨rfl, hZ, hh⟩ := hP
  have hx := Bd.exec
  have hby := Bd.bytes
  have hml : c.maxLocals = 12 := hml0
  have hown : s.vm.findClass "com/example/counterply/counterply/othello/Board" = some m.cls := findClass_of_methodNamed Bd.named
  have hnm := (name_of_methodNamed Bd.named Bd.method).1
  have X0 : Stand p l e ({ frames := 1, cells := 0, slots := 0, locals := 19 } : Room) s m #[(.long q1), (.long q2)] below meth c s₁ [] 0 0 := Stand.of_body Bd
  have e0 : s₁.heap = h0 := by rw [← hh, Bd.state]; rfl
  have N0 := Fr.nil n0
  have pre0 : ∀ t, Steps p.tables e below (s₁.setTop (mkF m 0 #[.val (.long q1), .second, .val (.long q2), .second, .unset, .unset, .unset, .unset, .unset, .unset, .unset, .unset] [])) t → Steps p.tables e below (s₁.setTop (entryFrame m #[(.long q1), (.long q2)] 12)) t := fun t k => castTop (ef_rm1_0 m q1 q2) k
  obtain ⟨T1, L1, X1, e1, N1, s1⟩ := own_turnMu (q1 := q1) (q2 := q2) (em := ((q1 ||| q2) ^^^ (-1 : Int64))) (mv := (0 : Int64)) (d := (0 : Int32)) (d' := (1 : Int32)) X0 hx hZ hw hby hml hown Z0 e0 N0 S_STEPS V_STEPS S_LANDINGS V_LANDINGS (by decide) (by decide) (by decide)
  obtain ⟨T2, L2, X2, e2, N2, s2⟩ := own_turnMv (q1 := q1) (q2 := q2) (em := ((q1 ||| q2) ^^^ (-1 : Int64))) (mv := ((0 : Int64) ||| ((own_st (0 : Int32) (own_gr (0 : Int32) q2 (own_gr (0 : Int32) q2 (own_gr (0 : Int32) q2 (own_gr (0 : Int32) q2 (own_gr (0 : Int32) q2 (own_r0 (0 : Int32) q1 q2))))))) &&& ((q1 ||| q2) ^^^ (-1 : Int64))))) (d := (1 : Int32)) (d' := (2 : Int32)) X1 hx hZ hw hby hml hown Z0 e1 N1 S_STEPS V_STEPS S_LANDINGS V_LANDINGS (by decide) (by decide) (by decide)
  obtain ⟨T3, L3, X3, e3, N3, s3⟩ := own_turnMv (q1 := q1) (q2 := q2) (em := ((q1 ||| q2) ^^^ (-1 : Int64))) (mv := (((0 : Int64) ||| ((own_st (0 : Int32) (own_gr (0 : Int32) q2 (own_gr (0 : Int32) q2 (own_gr (0 : Int32) q2 (own_gr (0 : Int32) q2 (own_gr (0 : Int32) q2 (own_r0 (0 : Int32) q1 q2))))))) &&& ((q1 ||| q2) ^^^ (-1 : Int64)))) ||| ((own_st (1 : Int32) (own_gr (1 : Int32) q2 (own_gr (1 : Int32) q2 (own_gr (1 : Int32) q2 (own_gr (1 : Int32) q2 (own_gr (1 : Int32) q2 (own_r0 (1 : Int32) q1 q2))))))) &&& ((q1 ||| q2) ^^^ (-1 : Int64))))) (d := (2 : Int32)) (d' := (3 : Int32)) X2 hx hZ hw hby hml hown Z0 e2 N2 S_STEPS V_STEPS S_LANDINGS V_LANDINGS (by decide) (by decide) (by decide)
  obtain ⟨T4, L4, X4, e4, N4, s4⟩ := own_turnMv (q1 := q1) (q2 := q2) (em := ((q1 ||| q2) ^^^ (-1 : Int64))) (mv := ((((0 : Int64) ||| ((own_st (0 : Int32) (own_gr (0 : Int32) q2 (own_gr (0 : Int32) q2 (own_gr (0 : Int32) q2 (own_gr (0 : Int32) q2 (own_gr (0 : Int32) q2 (own_r0 (0 : Int32) q1 q2))))))) &&& ((q1 ||| q2) ^^^ (-1 : Int64)))) ||| ((own_st (1 : Int32) (own_gr (1 : Int32) q2 (own_gr (1 : Int32) q2 (own_gr (1 : Int32) q2 (own_gr (1 : Int32) q2 (own_gr (1 : Int32) q2 (own_r0 (1 : Int32) q1 q2))))))) &&& ((q1 ||| q2) ^^^ (-1 : Int64)))) ||| ((own_st (2 : Int32) (own_gr (2 : Int32) q2 (own_gr (2 : Int32) q2 (own_gr (2 : Int32) q2 (own_gr (2 : Int32) q2 (own_gr (2 : Int32) q2 (own_r0 (2 : Int32) q1 q2))))))) &&& ((q1 ||| q2) ^^^ (-1 : Int64))))) (d := (3 : Int32)) (d' := (4 : Int32)) X3 hx hZ hw hby hml hown Z0 e3 N3 S_STEPS V_STEPS S_LANDINGS V_LANDINGS (by decide) (by decide) (by decide)
  obtain ⟨T5, L5, X5, e5, N5, s5⟩ := own_turnMv (q1 := q1) (q2 := q2) (em := ((q1 ||| q2) ^^^ (-1 : Int64))) (mv := (((((0 : Int64) ||| ((own_st (0 : Int32) (own_gr (0 : Int32) q2 (own_gr (0 : Int32) q2 (own_gr (0 : Int32) q2 (own_gr (0 : Int32) q2 (own_gr (0 : Int32) q2 (own_r0 (0 : Int32) q1 q2))))))) &&& ((q1 ||| q2) ^^^ (-1 : Int64)))) ||| ((own_st (1 : Int32) (own_gr (1 : Int32) q2 (own_gr (1 : Int32) q2 (own_gr (1 : Int32) q2 (own_gr (1 : Int32) q2 (own_gr (1 : Int32) q2 (own_r0 (1 : Int32) q1 q2))))))) &&& ((q1 ||| q2) ^^^ (-1 : Int64)))) ||| ((own_st (2 : Int32) (own_gr (2 : Int32) q2 (own_gr (2 : Int32) q2 (own_gr (2 : Int32) q2 (own_gr (2 : Int32) q2 (own_gr (2 : Int32) q2 (own_r0 (2 : Int32) q1 q2))))))) &&& ((q1 ||| q2) ^^^ (-1 : Int64)))) ||| ((own_st (3 : Int32) (own_gr (3 : Int32) q2 (own_gr (3 : Int32) q2 (own_gr (3 : Int32) q2 (own_gr (3 : Int32) q2 (own_gr (3 : Int32) q2 (own_r0 (3 : Int32) q1 q2))))))) &&& ((q1 ||| q2) ^^^ (-1 : Int64))))) (d := (4 : Int32)) (d' := (5 : Int32)) X4 hx hZ hw hby hml hown Z0 e4 N4 S_STEPS V_STEPS S_LANDINGS V_LANDINGS (by decide) (by decide) (by decide)
  obtain ⟨T6, L6, X6, e6, N6, s6⟩ := own_turnMv (q1 := q1) (q2 := q2) (em := ((q1 ||| q2) ^^^ (-1 : Int64))) (mv := ((((((0 : Int64) ||| ((own_st (0 : Int32) (own_gr (0 : Int32) q2 (own_gr (0 : Int32) q2 (own_gr (0 : Int32) q2 (own_gr (0 : Int32) q2 (own_gr (0 : Int32) q2 (own_r0 (0 : Int32) q1 q2))))))) &&& ((q1 ||| q2) ^^^ (-1 : Int64)))) ||| ((own_st (1 : Int32) (own_gr (1 : Int32) q2 (own_gr (1 : Int32) q2 (own_gr (1 : Int32) q2 (own_gr (1 : Int32) q2 (own_gr (1 : Int32) q2 (own_r0 (1 : Int32) q1 q2))))))) &&& ((q1 ||| q2) ^^^ (-1 : Int64)))) ||| ((own_st (2 : Int32) (own_gr (2 : Int32) q2 (own_gr (2 : Int32) q2 (own_gr (2 : Int32) q2 (own_gr (2 : Int32) q2 (own_gr (2 : Int32) q2 (own_r0 (2 : Int32) q1 q2))))))) &&& ((q1 ||| q2) ^^^ (-1 : Int64)))) ||| ((own_st (3 : Int32) (own_gr (3 : Int32) q2 (own_gr (3 : Int32) q2 (own_gr (3 : Int32) q2 (own_gr (3 : Int32) q2 (own_gr (3 : Int32) q2 (own_r0 (3 : Int32) q1 q2))))))) &&& ((q1 ||| q2) ^^^ (-1 : Int64)))) ||| ((own_st (4 : Int32) (own_gr (4 : Int32) q2 (own_gr (4 : Int32) q2 (own_gr (4 : Int32) q2 (own_gr (4 : Int32) q2 (own_gr (4 : Int32) q2 (own_r0 (4 : Int32) q1 q2))))))) &&& ((q1 ||| q2) ^^^ (-1 : Int64))))) (d := (5 : Int32)) (d' := (6 : Int32)) X5 hx hZ hw hby hml hown Z0 e5 N5 S_STEPS V_STEPS S_LANDINGS V_LANDINGS (by decide) (by decide) (by decide)
  obtain ⟨T7, L7, X7, e7, N7, s7⟩ := own_turnMv (q1 := q1) (q2 := q2) (em := ((q1 ||| q2) ^^^ (-1 : Int64))) (mv := (((((((0 : Int64) ||| ((own_st (0 : Int32) (own_gr (0 : Int32) q2 (own_gr (0 : Int32) q2 (own_gr (0 : Int32) q2 (own_gr (0 : Int32) q2 (own_gr (0 : Int32) q2 (own_r0 (0 : Int32) q1 q2))))))) &&& ((q1 ||| q2) ^^^ (-1 : Int64)))) ||| ((own_st (1 : Int32) (own_gr (1 : Int32) q2 (own_gr (1 : Int32) q2 (own_gr (1 : Int32) q2 (own_gr (1 : Int32) q2 (own_gr (1 : Int32) q2 (own_r0 (1 : Int32) q1 q2))))))) &&& ((q1 ||| q2) ^^^ (-1 : Int64)))) ||| ((own_st (2 : Int32) (own_gr (2 : Int32) q2 (own_gr (2 : Int32) q2 (own_gr (2 : Int32) q2 (own_gr (2 : Int32) q2 (own_gr (2 : Int32) q2 (own_r0 (2 : Int32) q1 q2))))))) &&& ((q1 ||| q2) ^^^ (-1 : Int64)))) ||| ((own_st (3 : Int32) (own_gr (3 : Int32) q2 (own_gr (3 : Int32) q2 (own_gr (3 : Int32) q2 (own_gr (3 : Int32) q2 (own_gr (3 : Int32) q2 (own_r0 (3 : Int32) q1 q2))))))) &&& ((q1 ||| q2) ^^^ (-1 : Int64)))) ||| ((own_st (4 : Int32) (own_gr (4 : Int32) q2 (own_gr (4 : Int32) q2 (own_gr (4 : Int32) q2 (own_gr (4 : Int32) q2 (own_gr (4 : Int32) q2 (own_r0 (4 : Int32) q1 q2))))))) &&& ((q1 ||| q2) ^^^ (-1 : Int64)))) ||| ((own_st (5 : Int32) (own_gr (5 : Int32) q2 (own_gr (5 : Int32) q2 (own_gr (5 : Int32) q2 (own_gr (5 : Int32) q2 (own_gr (5 : Int32) q2 (own_r0 (5 : Int32) q1 q2))))))) &&& ((q1 ||| q2) ^^^ (-1 : Int64))))) (d := (6 : Int32)) (d' := (7 : Int32)) X6 hx hZ hw hby hml hown Z0 e6 N6 S_STEPS V_STEPS S_LANDINGS V_LANDINGS (by decide) (by decide) (by decide)
  obtain ⟨T8, L8, X8, e8, N8, s8⟩ := own_turnMv (q1 := q1) (q2 := q2) (em := ((q1 ||| q2) ^^^ (-1 : Int64))) (mv := ((((((((0 : Int64) ||| ((own_st (0 : Int32) (own_gr (0 : Int32) q2 (own_gr (0 : Int32) q2 (own_gr (0 : Int32) q2 (own_gr (0 : Int32) q2 (own_gr (0 : Int32) q2 (own_r0 (0 : Int32) q1 q2))))))) &&& ((q1 ||| q2) ^^^ (-1 : Int64)))) ||| ((own_st (1 : Int32) (own_gr (1 : Int32) q2 (own_gr (1 : Int32) q2 (own_gr (1 : Int32) q2 (own_gr (1 : Int32) q2 (own_gr (1 : Int32) q2 (own_r0 (1 : Int32) q1 q2))))))) &&& ((q1 ||| q2) ^^^ (-1 : Int64)))) ||| ((own_st (2 : Int32) (own_gr (2 : Int32) q2 (own_gr (2 : Int32) q2 (own_gr (2 : Int32) q2 (own_gr (2 : Int32) q2 (own_gr (2 : Int32) q2 (own_r0 (2 : Int32) q1 q2))))))) &&& ((q1 ||| q2) ^^^ (-1 : Int64)))) ||| ((own_st (3 : Int32) (own_gr (3 : Int32) q2 (own_gr (3 : Int32) q2 (own_gr (3 : Int32) q2 (own_gr (3 : Int32) q2 (own_gr (3 : Int32) q2 (own_r0 (3 : Int32) q1 q2))))))) &&& ((q1 ||| q2) ^^^ (-1 : Int64)))) ||| ((own_st (4 : Int32) (own_gr (4 : Int32) q2 (own_gr (4 : Int32) q2 (own_gr (4 : Int32) q2 (own_gr (4 : Int32) q2 (own_gr (4 : Int32) q2 (own_r0 (4 : Int32) q1 q2))))))) &&& ((q1 ||| q2) ^^^ (-1 : Int64)))) ||| ((own_st (5 : Int32) (own_gr (5 : Int32) q2 (own_gr (5 : Int32) q2 (own_gr (5 : Int32) q2 (own_gr (5 : Int32) q2 (own_gr (5 : Int32) q2 (own_r0 (5 : Int32) q1 q2))))))) &&& ((q1 ||| q2) ^^^ (-1 : Int64)))) ||| ((own_st (6 : Int32) (own_gr (6 : Int32) q2 (own_gr (6 : Int32) q2 (own_gr (6 : Int32) q2 (own_gr (6 : Int32) q2 (own_gr (6 : Int32) q2 (own_r0 (6 : Int32) q1 q2))))))) &&& ((q1 ||| q2) ^^^ (-1 : Int64))))) (d := (7 : Int32)) (d' := (8 : Int32)) X7 hx hZ hw hby hml hown Z0 e7 N7 S_STEPS V_STEPS S_LANDINGS V_LANDINGS (by decide) (by decide) (by decide)
  obtain ⟨T9, X9, e9, st9⟩ := getS2 X8 hx hZ hown (host := "") (Or.inl (hw _ (List.mem_of_getElem? (i := 6) rfl))) Via.refl e8 S_STEPS (g := (mkF m 17 #[.val (.long q1), .second, .val (.long q2), .second, .val (.long ((q1 ||| q2) ^^^ (-1 : Int64))), .second, .val (.long (((((((((0 : Int64) ||| ((own_st (0 : Int32) (own_gr (0 : Int32) q2 (own_gr (0 : Int32) q2 (own_gr (0 : Int32) q2 (own_gr (0 : Int32) q2 (own_gr (0 : Int32) q2 (own_r0 (0 : Int32) q1 q2))))))) &&& ((q1 ||| q2) ^^^ (-1 : Int64)))) ||| ((own_st (1 : Int32) (own_gr (1 : Int32) q2 (own_gr (1 : Int32) q2 (own_gr (1 : Int32) q2 (own_gr (1 : Int32) q2 (own_gr (1 : Int32) q2 (own_r0 (1 : Int32) q1 q2))))))) &&& ((q1 ||| q2) ^^^ (-1 : Int64)))) ||| ((own_st (2 : Int32) (own_gr (2 : Int32) q2 (own_gr (2 : Int32) q2 (own_gr (2 : Int32) q2 (own_gr (2 : Int32) q2 (own_gr (2 : Int32) q2 (own_r0 (2 : Int32) q1 q2))))))) &&& ((q1 ||| q2) ^^^ (-1 : Int64)))) ||| ((own_st (3 : Int32) (own_gr (3 : Int32) q2 (own_gr (3 : Int32) q2 (own_gr (3 : Int32) q2 (own_gr (3 : Int32) q2 (own_gr (3 : Int32) q2 (own_r0 (3 : Int32) q1 q2))))))) &&& ((q1 ||| q2) ^^^ (-1 : Int64)))) ||| ((own_st (4 : Int32) (own_gr (4 : Int32) q2 (own_gr (4 : Int32) q2 (own_gr (4 : Int32) q2 (own_gr (4 : Int32) q2 (own_gr (4 : Int32) q2 (own_r0 (4 : Int32) q1 q2))))))) &&& ((q1 ||| q2) ^^^ (-1 : Int64)))) ||| ((own_st (5 : Int32) (own_gr (5 : Int32) q2 (own_gr (5 : Int32) q2 (own_gr (5 : Int32) q2 (own_gr (5 : Int32) q2 (own_gr (5 : Int32) q2 (own_r0 (5 : Int32) q1 q2))))))) &&& ((q1 ||| q2) ^^^ (-1 : Int64)))) ||| ((own_st (6 : Int32) (own_gr (6 : Int32) q2 (own_gr (6 : Int32) q2 (own_gr (6 : Int32) q2 (own_gr (6 : Int32) q2 (own_gr (6 : Int32) q2 (own_r0 (6 : Int32) q1 q2))))))) &&& ((q1 ||| q2) ^^^ (-1 : Int64)))) ||| ((own_st (7 : Int32) (own_gr (7 : Int32) q2 (own_gr (7 : Int32) q2 (own_gr (7 : Int32) q2 (own_gr (7 : Int32) q2 (own_gr (7 : Int32) q2 (own_r0 (7 : Int32) q1 q2))))))) &&& ((q1 ||| q2) ^^^ (-1 : Int64))))), .second, .val (.int (8 : Int32)), .val (.long (own_gr (7 : Int32) q2 (own_gr (7 : Int32) q2 (own_gr (7 : Int32) q2 (own_gr (7 : Int32) q2 (own_gr (7 : Int32) q2 (own_r0 (7 : Int32) q1 q2))))))), .second, .val (.int ((((((0 : Int32) + (1 : Int32)) + (1 : Int32)) + (1 : Int32)) + (1 : Int32)) + (1 : Int32)))] [(.int (8 : Int32))])) rfl (hb hby d1_17)
  obtain ⟨cl10, Ar10, qq10, Sz10, Nn10, Hs10, Gs10⟩ := id V_STEPS
  obtain ⟨fs, hr, hrun, hended, hW, hsame⟩ := X9.leave (v := some (.long (((((((((0 : Int64) ||| ((own_st (0 : Int32) (own_gr (0 : Int32) q2 (own_gr (0 : Int32) q2 (own_gr (0 : Int32) q2 (own_gr (0 : Int32) q2 (own_gr (0 : Int32) q2 (own_r0 (0 : Int32) q1 q2))))))) &&& ((q1 ||| q2) ^^^ (-1 : Int64)))) ||| ((own_st (1 : Int32) (own_gr (1 : Int32) q2 (own_gr (1 : Int32) q2 (own_gr (1 : Int32) q2 (own_gr (1 : Int32) q2 (own_gr (1 : Int32) q2 (own_r0 (1 : Int32) q1 q2))))))) &&& ((q1 ||| q2) ^^^ (-1 : Int64)))) ||| ((own_st (2 : Int32) (own_gr (2 : Int32) q2 (own_gr (2 : Int32) q2 (own_gr (2 : Int32) q2 (own_gr (2 : Int32) q2 (own_gr (2 : Int32) q2 (own_r0 (2 : Int32) q1 q2))))))) &&& ((q1 ||| q2) ^^^ (-1 : Int64)))) ||| ((own_st (3 : Int32) (own_gr (3 : Int32) q2 (own_gr (3 : Int32) q2 (own_gr (3 : Int32) q2 (own_gr (3 : Int32) q2 (own_gr (3 : Int32) q2 (own_r0 (3 : Int32) q1 q2))))))) &&& ((q1 ||| q2) ^^^ (-1 : Int64)))) ||| ((own_st (4 : Int32) (own_gr (4 : Int32) q2 (own_gr (4 : Int32) q2 (own_gr (4 : Int32) q2 (own_gr (4 : Int32) q2 (own_gr (4 : Int32) q2 (own_r0 (4 : Int32) q1 q2))))))) &&& ((q1 ||| q2) ^^^ (-1 : Int64)))) ||| ((own_st (5 : Int32) (own_gr (5 : Int32) q2 (own_gr (5 : Int32) q2 (own_gr (5 : Int32) q2 (own_gr (5 : Int32) q2 (own_gr (5 : Int32) q2 (own_r0 (5 : Int32) q1 q2))))))) &&& ((q1 ||| q2) ^^^ (-1 : Int64)))) ||| ((own_st (6 : Int32) (own_gr (6 : Int32) q2 (own_gr (6 : Int32) q2 (own_gr (6 : Int32) q2 (own_gr (6 : Int32) q2 (own_gr (6 : Int32) q2 (own_r0 (6 : Int32) q1 q2))))))) &&& ((q1 ||| q2) ^^^ (-1 : Int64)))) ||| ((own_st (7 : Int32) (own_gr (7 : Int32) q2 (own_gr (7 : Int32) q2 (own_gr (7 : Int32) q2 (own_gr (7 : Int32) q2 (own_gr (7 : Int32) q2 (own_r0 (7 : Int32) q1 q2))))))) &&& ((q1 ||| q2) ^^^ (-1 : Int64)))))) (fun h => by rw [Bd.returns] at h; cases h)
  refine ⟨_, _, pre0 _ ?_, hrun, hended, _, _, rfl, ?_, ⟨_, rfl⟩, hW, hsame.mono (by decide) (by decide)⟩
  ·
    show Steps p.tables e below (s₁.setTop (mkF m 0 #[.val (.long q1), .second, .val (.long q2), .second, .unset, .unset, .unset, .unset, .unset, .unset, .unset, .unset] [])) _
    refine XS.lloadN X0.here hx rfl (hb hby d1_0) rfl ?_
    show Steps p.tables e below (s₁.setTop (mkF m 1 #[.val (.long q1), .second, .val (.long q2), .second, .unset, .unset, .unset, .unset, .unset, .unset, .unset, .unset] [(.long q1)])) _
    refine XS.lloadN X0.here hx rfl (hb hby d1_1) rfl ?_
    show Steps p.tables e below (s₁.setTop (mkF m 2 #[.val (.long q1), .second, .val (.long q2), .second, .unset, .unset, .unset, .unset, .unset, .unset, .unset, .unset] [(.long q2), (.long q1)])) _
    refine XS.lor X0.here hx rfl (hb hby d1_2) rfl ?_
    show Steps p.tables e below (s₁.setTop (mkF m 3 #[.val (.long q1), .second, .val (.long q2), .second, .unset, .unset, .unset, .unset, .unset, .unset, .unset, .unset] [(.long (q1 ||| q2))])) _
    refine X0.ldc2Long hx hown (mvT hZ (hw _ (List.mem_of_getElem? (i := 5) rfl))) (g := (mkF m 3 #[.val (.long q1), .second, .val (.long q2), .second, .unset, .unset, .unset, .unset, .unset, .unset, .unset, .unset] [(.long (q1 ||| q2))])) rfl (hb hby d1_3) _ ?_
    show Steps p.tables e below (s₁.setTop (mkF m 6 #[.val (.long q1), .second, .val (.long q2), .second, .unset, .unset, .unset, .unset, .unset, .unset, .unset, .unset] [(.long (-1 : Int64)), (.long (q1 ||| q2))])) _
    refine XS.lxor X0.here hx rfl (hb hby d1_6) rfl ?_
    show Steps p.tables e below (s₁.setTop (mkF m 7 #[.val (.long q1), .second, .val (.long q2), .second, .unset, .unset, .unset, .unset, .unset, .unset, .unset, .unset] [(.long ((q1 ||| q2) ^^^ (-1 : Int64)))])) _
    refine XS.lstore X0.here hx rfl (hb hby d1_7) rfl (l' := #[.val (.long q1), .second, .val (.long q2), .second, .val (.long ((q1 ||| q2) ^^^ (-1 : Int64))), .second, .unset, .unset, .unset, .unset, .unset, .unset]) rfl ?_
    show Steps p.tables e below (s₁.setTop (mkF m 9 #[.val (.long q1), .second, .val (.long q2), .second, .val (.long ((q1 ||| q2) ^^^ (-1 : Int64))), .second, .unset, .unset, .unset, .unset, .unset, .unset] [])) _
    refine XS.lconst X0.here hx rfl (hb hby d1_9) ?_
    show Steps p.tables e below (s₁.setTop (mkF m 10 #[.val (.long q1), .second, .val (.long q2), .second, .val (.long ((q1 ||| q2) ^^^ (-1 : Int64))), .second, .unset, .unset, .unset, .unset, .unset, .unset] [(.long (0 : Int64))])) _
    refine XS.lstore X0.here hx rfl (hb hby d1_10) rfl (l' := #[.val (.long q1), .second, .val (.long q2), .second, .val (.long ((q1 ||| q2) ^^^ (-1 : Int64))), .second, .val (.long (0 : Int64)), .second, .unset, .unset, .unset, .unset]) rfl ?_
    show Steps p.tables e below (s₁.setTop (mkF m 12 #[.val (.long q1), .second, .val (.long q2), .second, .val (.long ((q1 ||| q2) ^^^ (-1 : Int64))), .second, .val (.long (0 : Int64)), .second, .unset, .unset, .unset, .unset] [])) _
    refine XS.iconst X0.here hx rfl (hb hby d1_12) ?_
    show Steps p.tables e below (s₁.setTop (mkF m 13 #[.val (.long q1), .second, .val (.long q2), .second, .val (.long ((q1 ||| q2) ^^^ (-1 : Int64))), .second, .val (.long (0 : Int64)), .second, .unset, .unset, .unset, .unset] [(.int (0 : Int32))])) _
    refine XS.istore X0.here hx rfl (hb hby d1_13) rfl (l' := #[.val (.long q1), .second, .val (.long q2), .second, .val (.long ((q1 ||| q2) ^^^ (-1 : Int64))), .second, .val (.long (0 : Int64)), .second, .val (.int (0 : Int32)), .unset, .unset, .unset]) rfl ?_
    show Steps p.tables e below (s₁.setTop (mkF m 15 #[.val (.long q1), .second, .val (.long q2), .second, .val (.long ((q1 ||| q2) ^^^ (-1 : Int64))), .second, .val (.long (0 : Int64)), .second, .val (.int (0 : Int32)), .unset, .unset, .unset] [])) _
    refine s1 _ ?_
    show Steps p.tables e below (T1.setTop (mkF m 15 #[.val (.long q1), .second, .val (.long q2), .second, .val (.long ((q1 ||| q2) ^^^ (-1 : Int64))), .second, .val (.long ((0 : Int64) ||| ((own_st (0 : Int32) (own_gr (0 : Int32) q2 (own_gr (0 : Int32) q2 (own_gr (0 : Int32) q2 (own_gr (0 : Int32) q2 (own_gr (0 : Int32) q2 (own_r0 (0 : Int32) q1 q2))))))) &&& ((q1 ||| q2) ^^^ (-1 : Int64))))), .second, .val (.int (1 : Int32)), .val (.long (own_gr (0 : Int32) q2 (own_gr (0 : Int32) q2 (own_gr (0 : Int32) q2 (own_gr (0 : Int32) q2 (own_gr (0 : Int32) q2 (own_r0 (0 : Int32) q1 q2))))))), .second, .val (.int ((((((0 : Int32) + (1 : Int32)) + (1 : Int32)) + (1 : Int32)) + (1 : Int32)) + (1 : Int32)))] [])) _
    refine s2 _ ?_
    show Steps p.tables e below (T2.setTop (mkF m 15 #[.val (.long q1), .second, .val (.long q2), .second, .val (.long ((q1 ||| q2) ^^^ (-1 : Int64))), .second, .val (.long (((0 : Int64) ||| ((own_st (0 : Int32) (own_gr (0 : Int32) q2 (own_gr (0 : Int32) q2 (own_gr (0 : Int32) q2 (own_gr (0 : Int32) q2 (own_gr (0 : Int32) q2 (own_r0 (0 : Int32) q1 q2))))))) &&& ((q1 ||| q2) ^^^ (-1 : Int64)))) ||| ((own_st (1 : Int32) (own_gr (1 : Int32) q2 (own_gr (1 : Int32) q2 (own_gr (1 : Int32) q2 (own_gr (1 : Int32) q2 (own_gr (1 : Int32) q2 (own_r0 (1 : Int32) q1 q2))))))) &&& ((q1 ||| q2) ^^^ (-1 : Int64))))), .second, .val (.int (2 : Int32)), .val (.long (own_gr (1 : Int32) q2 (own_gr (1 : Int32) q2 (own_gr (1 : Int32) q2 (own_gr (1 : Int32) q2 (own_gr (1 : Int32) q2 (own_r0 (1 : Int32) q1 q2))))))), .second, .val (.int ((((((0 : Int32) + (1 : Int32)) + (1 : Int32)) + (1 : Int32)) + (1 : Int32)) + (1 : Int32)))] [])) _
    refine s3 _ ?_
    show Steps p.tables e below (T3.setTop (mkF m 15 #[.val (.long q1), .second, .val (.long q2), .second, .val (.long ((q1 ||| q2) ^^^ (-1 : Int64))), .second, .val (.long ((((0 : Int64) ||| ((own_st (0 : Int32) (own_gr (0 : Int32) q2 (own_gr (0 : Int32) q2 (own_gr (0 : Int32) q2 (own_gr (0 : Int32) q2 (own_gr (0 : Int32) q2 (own_r0 (0 : Int32) q1 q2))))))) &&& ((q1 ||| q2) ^^^ (-1 : Int64)))) ||| ((own_st (1 : Int32) (own_gr (1 : Int32) q2 (own_gr (1 : Int32) q2 (own_gr (1 : Int32) q2 (own_gr (1 : Int32) q2 (own_gr (1 : Int32) q2 (own_r0 (1 : Int32) q1 q2))))))) &&& ((q1 ||| q2) ^^^ (-1 : Int64)))) ||| ((own_st (2 : Int32) (own_gr (2 : Int32) q2 (own_gr (2 : Int32) q2 (own_gr (2 : Int32) q2 (own_gr (2 : Int32) q2 (own_gr (2 : Int32) q2 (own_r0 (2 : Int32) q1 q2))))))) &&& ((q1 ||| q2) ^^^ (-1 : Int64))))), .second, .val (.int (3 : Int32)), .val (.long (own_gr (2 : Int32) q2 (own_gr (2 : Int32) q2 (own_gr (2 : Int32) q2 (own_gr (2 : Int32) q2 (own_gr (2 : Int32) q2 (own_r0 (2 : Int32) q1 q2))))))), .second, .val (.int ((((((0 : Int32) + (1 : Int32)) + (1 : Int32)) + (1 : Int32)) + (1 : Int32)) + (1 : Int32)))] [])) _
    refine s4 _ ?_
    show Steps p.tables e below (T4.setTop (mkF m 15 #[.val (.long q1), .second, .val (.long q2), .second, .val (.long ((q1 ||| q2) ^^^ (-1 : Int64))), .second, .val (.long (((((0 : Int64) ||| ((own_st (0 : Int32) (own_gr (0 : Int32) q2 (own_gr (0 : Int32) q2 (own_gr (0 : Int32) q2 (own_gr (0 : Int32) q2 (own_gr (0 : Int32) q2 (own_r0 (0 : Int32) q1 q2))))))) &&& ((q1 ||| q2) ^^^ (-1 : Int64)))) ||| ((own_st (1 : Int32) (own_gr (1 : Int32) q2 (own_gr (1 : Int32) q2 (own_gr (1 : Int32) q2 (own_gr (1 : Int32) q2 (own_gr (1 : Int32) q2 (own_r0 (1 : Int32) q1 q2))))))) &&& ((q1 ||| q2) ^^^ (-1 : Int64)))) ||| ((own_st (2 : Int32) (own_gr (2 : Int32) q2 (own_gr (2 : Int32) q2 (own_gr (2 : Int32) q2 (own_gr (2 : Int32) q2 (own_gr (2 : Int32) q2 (own_r0 (2 : Int32) q1 q2))))))) &&& ((q1 ||| q2) ^^^ (-1 : Int64)))) ||| ((own_st (3 : Int32) (own_gr (3 : Int32) q2 (own_gr (3 : Int32) q2 (own_gr (3 : Int32) q2 (own_gr (3 : Int32) q2 (own_gr (3 : Int32) q2 (own_r0 (3 : Int32) q1 q2))))))) &&& ((q1 ||| q2) ^^^ (-1 : Int64))))), .second, .val (.int (4 : Int32)), .val (.long (own_gr (3 : Int32) q2 (own_gr (3 : Int32) q2 (own_gr (3 : Int32) q2 (own_gr (3 : Int32) q2 (own_gr (3 : Int32) q2 (own_r0 (3 : Int32) q1 q2))))))), .second, .val (.int ((((((0 : Int32) + (1 : Int32)) + (1 : Int32)) + (1 : Int32)) + (1 : Int32)) + (1 : Int32)))] [])) _
    refine s5 _ ?_
    show Steps p.tables e below (T5.setTop (mkF m 15 #[.val (.long q1), .second, .val (.long q2), .second, .val (.long ((q1 ||| q2) ^^^ (-1 : Int64))), .second, .val (.long ((((((0 : Int64) ||| ((own_st (0 : Int32) (own_gr (0 : Int32) q2 (own_gr (0 : Int32) q2 (own_gr (0 : Int32) q2 (own_gr (0 : Int32) q2 (own_gr (0 : Int32) q2 (own_r0 (0 : Int32) q1 q2))))))) &&& ((q1 ||| q2) ^^^ (-1 : Int64)))) ||| ((own_st (1 : Int32) (own_gr (1 : Int32) q2 (own_gr (1 : Int32) q2 (own_gr (1 : Int32) q2 (own_gr (1 : Int32) q2 (own_gr (1 : Int32) q2 (own_r0 (1 : Int32) q1 q2))))))) &&& ((q1 ||| q2) ^^^ (-1 : Int64)))) ||| ((own_st (2 : Int32) (own_gr (2 : Int32) q2 (own_gr (2 : Int32) q2 (own_gr (2 : Int32) q2 (own_gr (2 : Int32) q2 (own_gr (2 : Int32) q2 (own_r0 (2 : Int32) q1 q2))))))) &&& ((q1 ||| q2) ^^^ (-1 : Int64)))) ||| ((own_st (3 : Int32) (own_gr (3 : Int32) q2 (own_gr (3 : Int32) q2 (own_gr (3 : Int32) q2 (own_gr (3 : Int32) q2 (own_gr (3 : Int32) q2 (own_r0 (3 : Int32) q1 q2))))))) &&& ((q1 ||| q2) ^^^ (-1 : Int64)))) ||| ((own_st (4 : Int32) (own_gr (4 : Int32) q2 (own_gr (4 : Int32) q2 (own_gr (4 : Int32) q2 (own_gr (4 : Int32) q2 (own_gr (4 : Int32) q2 (own_r0 (4 : Int32) q1 q2))))))) &&& ((q1 ||| q2) ^^^ (-1 : Int64))))), .second, .val (.int (5 : Int32)), .val (.long (own_gr (4 : Int32) q2 (own_gr (4 : Int32) q2 (own_gr (4 : Int32) q2 (own_gr (4 : Int32) q2 (own_gr (4 : Int32) q2 (own_r0 (4 : Int32) q1 q2))))))), .second, .val (.int ((((((0 : Int32) + (1 : Int32)) + (1 : Int32)) + (1 : Int32)) + (1 : Int32)) + (1 : Int32)))] [])) _
    refine s6 _ ?_
    show Steps p.tables e below (T6.setTop (mkF m 15 #[.val (.long q1), .second, .val (.long q2), .second, .val (.long ((q1 ||| q2) ^^^ (-1 : Int64))), .second, .val (.long (((((((0 : Int64) ||| ((own_st (0 : Int32) (own_gr (0 : Int32) q2 (own_gr (0 : Int32) q2 (own_gr (0 : Int32) q2 (own_gr (0 : Int32) q2 (own_gr (0 : Int32) q2 (own_r0 (0 : Int32) q1 q2))))))) &&& ((q1 ||| q2) ^^^ (-1 : Int64)))) ||| ((own_st (1 : Int32) (own_gr (1 : Int32) q2 (own_gr (1 : Int32) q2 (own_gr (1 : Int32) q2 (own_gr (1 : Int32) q2 (own_gr (1 : Int32) q2 (own_r0 (1 : Int32) q1 q2))))))) &&& ((q1 ||| q2) ^^^ (-1 : Int64)))) ||| ((own_st (2 : Int32) (own_gr (2 : Int32) q2 (own_gr (2 : Int32) q2 (own_gr (2 : Int32) q2 (own_gr (2 : Int32) q2 (own_gr (2 : Int32) q2 (own_r0 (2 : Int32) q1 q2))))))) &&& ((q1 ||| q2) ^^^ (-1 : Int64)))) ||| ((own_st (3 : Int32) (own_gr (3 : Int32) q2 (own_gr (3 : Int32) q2 (own_gr (3 : Int32) q2 (own_gr (3 : Int32) q2 (own_gr (3 : Int32) q2 (own_r0 (3 : Int32) q1 q2))))))) &&& ((q1 ||| q2) ^^^ (-1 : Int64)))) ||| ((own_st (4 : Int32) (own_gr (4 : Int32) q2 (own_gr (4 : Int32) q2 (own_gr (4 : Int32) q2 (own_gr (4 : Int32) q2 (own_gr (4 : Int32) q2 (own_r0 (4 : Int32) q1 q2))))))) &&& ((q1 ||| q2) ^^^ (-1 : Int64)))) ||| ((own_st (5 : Int32) (own_gr (5 : Int32) q2 (own_gr (5 : Int32) q2 (own_gr (5 : Int32) q2 (own_gr (5 : Int32) q2 (own_gr (5 : Int32) q2 (own_r0 (5 : Int32) q1 q2))))))) &&& ((q1 ||| q2) ^^^ (-1 : Int64))))), .second, .val (.int (6 : Int32)), .val (.long (own_gr (5 : Int32) q2 (own_gr (5 : Int32) q2 (own_gr (5 : Int32) q2 (own_gr (5 : Int32) q2 (own_gr (5 : Int32) q2 (own_r0 (5 : Int32) q1 q2))))))), .second, .val (.int ((((((0 : Int32) + (1 : Int32)) + (1 : Int32)) + (1 : Int32)) + (1 : Int32)) + (1 : Int32)))] [])) _
    refine s7 _ ?_
    show Steps p.tables e below (T7.setTop (mkF m 15 #[.val (.long q1), .second, .val (.long q2), .second, .val (.long ((q1 ||| q2) ^^^ (-1 : Int64))), .second, .val (.long ((((((((0 : Int64) ||| ((own_st (0 : Int32) (own_gr (0 : Int32) q2 (own_gr (0 : Int32) q2 (own_gr (0 : Int32) q2 (own_gr (0 : Int32) q2 (own_gr (0 : Int32) q2 (own_r0 (0 : Int32) q1 q2))))))) &&& ((q1 ||| q2) ^^^ (-1 : Int64)))) ||| ((own_st (1 : Int32) (own_gr (1 : Int32) q2 (own_gr (1 : Int32) q2 (own_gr (1 : Int32) q2 (own_gr (1 : Int32) q2 (own_gr (1 : Int32) q2 (own_r0 (1 : Int32) q1 q2))))))) &&& ((q1 ||| q2) ^^^ (-1 : Int64)))) ||| ((own_st (2 : Int32) (own_gr (2 : Int32) q2 (own_gr (2 : Int32) q2 (own_gr (2 : Int32) q2 (own_gr (2 : Int32) q2 (own_gr (2 : Int32) q2 (own_r0 (2 : Int32) q1 q2))))))) &&& ((q1 ||| q2) ^^^ (-1 : Int64)))) ||| ((own_st (3 : Int32) (own_gr (3 : Int32) q2 (own_gr (3 : Int32) q2 (own_gr (3 : Int32) q2 (own_gr (3 : Int32) q2 (own_gr (3 : Int32) q2 (own_r0 (3 : Int32) q1 q2))))))) &&& ((q1 ||| q2) ^^^ (-1 : Int64)))) ||| ((own_st (4 : Int32) (own_gr (4 : Int32) q2 (own_gr (4 : Int32) q2 (own_gr (4 : Int32) q2 (own_gr (4 : Int32) q2 (own_gr (4 : Int32) q2 (own_r0 (4 : Int32) q1 q2))))))) &&& ((q1 ||| q2) ^^^ (-1 : Int64)))) ||| ((own_st (5 : Int32) (own_gr (5 : Int32) q2 (own_gr (5 : Int32) q2 (own_gr (5 : Int32) q2 (own_gr (5 : Int32) q2 (own_gr (5 : Int32) q2 (own_r0 (5 : Int32) q1 q2))))))) &&& ((q1 ||| q2) ^^^ (-1 : Int64)))) ||| ((own_st (6 : Int32) (own_gr (6 : Int32) q2 (own_gr (6 : Int32) q2 (own_gr (6 : Int32) q2 (own_gr (6 : Int32) q2 (own_gr (6 : Int32) q2 (own_r0 (6 : Int32) q1 q2))))))) &&& ((q1 ||| q2) ^^^ (-1 : Int64))))), .second, .val (.int (7 : Int32)), .val (.long (own_gr (6 : Int32) q2 (own_gr (6 : Int32) q2 (own_gr (6 : Int32) q2 (own_gr (6 : Int32) q2 (own_gr (6 : Int32) q2 (own_r0 (6 : Int32) q1 q2))))))), .second, .val (.int ((((((0 : Int32) + (1 : Int32)) + (1 : Int32)) + (1 : Int32)) + (1 : Int32)) + (1 : Int32)))] [])) _
    refine s8 _ ?_
    show Steps p.tables e below (T8.setTop (mkF m 15 #[.val (.long q1), .second, .val (.long q2), .second, .val (.long ((q1 ||| q2) ^^^ (-1 : Int64))), .second, .val (.long (((((((((0 : Int64) ||| ((own_st (0 : Int32) (own_gr (0 : Int32) q2 (own_gr (0 : Int32) q2 (own_gr (0 : Int32) q2 (own_gr (0 : Int32) q2 (own_gr (0 : Int32) q2 (own_r0 (0 : Int32) q1 q2))))))) &&& ((q1 ||| q2) ^^^ (-1 : Int64)))) ||| ((own_st (1 : Int32) (own_gr (1 : Int32) q2 (own_gr (1 : Int32) q2 (own_gr (1 : Int32) q2 (own_gr (1 : Int32) q2 (own_gr (1 : Int32) q2 (own_r0 (1 : Int32) q1 q2))))))) &&& ((q1 ||| q2) ^^^ (-1 : Int64)))) ||| ((own_st (2 : Int32) (own_gr (2 : Int32) q2 (own_gr (2 : Int32) q2 (own_gr (2 : Int32) q2 (own_gr (2 : Int32) q2 (own_gr (2 : Int32) q2 (own_r0 (2 : Int32) q1 q2))))))) &&& ((q1 ||| q2) ^^^ (-1 : Int64)))) ||| ((own_st (3 : Int32) (own_gr (3 : Int32) q2 (own_gr (3 : Int32) q2 (own_gr (3 : Int32) q2 (own_gr (3 : Int32) q2 (own_gr (3 : Int32) q2 (own_r0 (3 : Int32) q1 q2))))))) &&& ((q1 ||| q2) ^^^ (-1 : Int64)))) ||| ((own_st (4 : Int32) (own_gr (4 : Int32) q2 (own_gr (4 : Int32) q2 (own_gr (4 : Int32) q2 (own_gr (4 : Int32) q2 (own_gr (4 : Int32) q2 (own_r0 (4 : Int32) q1 q2))))))) &&& ((q1 ||| q2) ^^^ (-1 : Int64)))) ||| ((own_st (5 : Int32) (own_gr (5 : Int32) q2 (own_gr (5 : Int32) q2 (own_gr (5 : Int32) q2 (own_gr (5 : Int32) q2 (own_gr (5 : Int32) q2 (own_r0 (5 : Int32) q1 q2))))))) &&& ((q1 ||| q2) ^^^ (-1 : Int64)))) ||| ((own_st (6 : Int32) (own_gr (6 : Int32) q2 (own_gr (6 : Int32) q2 (own_gr (6 : Int32) q2 (own_gr (6 : Int32) q2 (own_gr (6 : Int32) q2 (own_r0 (6 : Int32) q1 q2))))))) &&& ((q1 ||| q2) ^^^ (-1 : Int64)))) ||| ((own_st (7 : Int32) (own_gr (7 : Int32) q2 (own_gr (7 : Int32) q2 (own_gr (7 : Int32) q2 (own_gr (7 : Int32) q2 (own_gr (7 : Int32) q2 (own_r0 (7 : Int32) q1 q2))))))) &&& ((q1 ||| q2) ^^^ (-1 : Int64))))), .second, .val (.int (8 : Int32)), .val (.long (own_gr (7 : Int32) q2 (own_gr (7 : Int32) q2 (own_gr (7 : Int32) q2 (own_gr (7 : Int32) q2 (own_gr (7 : Int32) q2 (own_r0 (7 : Int32) q1 q2))))))), .second, .val (.int ((((((0 : Int32) + (1 : Int32)) + (1 : Int32)) + (1 : Int32)) + (1 : Int32)) + (1 : Int32)))] [])) _
    refine XS.iload X8.here hx rfl (hb hby d1_15) rfl ?_
    show Steps p.tables e below (T8.setTop (mkF m 17 #[.val (.long q1), .second, .val (.long q2), .second, .val (.long ((q1 ||| q2) ^^^ (-1 : Int64))), .second, .val (.long (((((((((0 : Int64) ||| ((own_st (0 : Int32) (own_gr (0 : Int32) q2 (own_gr (0 : Int32) q2 (own_gr (0 : Int32) q2 (own_gr (0 : Int32) q2 (own_gr (0 : Int32) q2 (own_r0 (0 : Int32) q1 q2))))))) &&& ((q1 ||| q2) ^^^ (-1 : Int64)))) ||| ((own_st (1 : Int32) (own_gr (1 : Int32) q2 (own_gr (1 : Int32) q2 (own_gr (1 : Int32) q2 (own_gr (1 : Int32) q2 (own_gr (1 : Int32) q2 (own_r0 (1 : Int32) q1 q2))))))) &&& ((q1 ||| q2) ^^^ (-1 : Int64)))) ||| ((own_st (2 : Int32) (own_gr (2 : Int32) q2 (own_gr (2 : Int32) q2 (own_gr (2 : Int32) q2 (own_gr (2 : Int32) q2 (own_gr (2 : Int32) q2 (own_r0 (2 : Int32) q1 q2))))))) &&& ((q1 ||| q2) ^^^ (-1 : Int64)))) ||| ((own_st (3 : Int32) (own_gr (3 : Int32) q2 (own_gr (3 : Int32) q2 (own_gr (3 : Int32) q2 (own_gr (3 : Int32) q2 (own_gr (3 : Int32) q2 (own_r0 (3 : Int32) q1 q2))))))) &&& ((q1 ||| q2) ^^^ (-1 : Int64)))) ||| ((own_st (4 : Int32) (own_gr (4 : Int32) q2 (own_gr (4 : Int32) q2 (own_gr (4 : Int32) q2 (own_gr (4 : Int32) q2 (own_gr (4 : Int32) q2 (own_r0 (4 : Int32) q1 q2))))))) &&& ((q1 ||| q2) ^^^ (-1 : Int64)))) ||| ((own_st (5 : Int32) (own_gr (5 : Int32) q2 (own_gr (5 : Int32) q2 (own_gr (5 : Int32) q2 (own_gr (5 : Int32) q2 (own_gr (5 : Int32) q2 (own_r0 (5 : Int32) q1 q2))))))) &&& ((q1 ||| q2) ^^^ (-1 : Int64)))) ||| ((own_st (6 : Int32) (own_gr (6 : Int32) q2 (own_gr (6 : Int32) q2 (own_gr (6 : Int32) q2 (own_gr (6 : Int32) q2 (own_gr (6 : Int32) q2 (own_r0 (6 : Int32) q1 q2))))))) &&& ((q1 ||| q2) ^^^ (-1 : Int64)))) ||| ((own_st (7 : Int32) (own_gr (7 : Int32) q2 (own_gr (7 : Int32) q2 (own_gr (7 : Int32) q2 (own_gr (7 : Int32) q2 (own_gr (7 : Int32) q2 (own_r0 (7 : Int32) q1 q2))))))) &&& ((q1 ||| q2) ^^^ (-1 : Int64))))), .second, .val (.int (8 : Int32)), .val (.long (own_gr (7 : Int32) q2 (own_gr (7 : Int32) q2 (own_gr (7 : Int32) q2 (own_gr (7 : Int32) q2 (own_gr (7 : Int32) q2 (own_r0 (7 : Int32) q1 q2))))))), .second, .val (.int ((((((0 : Int32) + (1 : Int32)) + (1 : Int32)) + (1 : Int32)) + (1 : Int32)) + (1 : Int32)))] [(.int (8 : Int32))])) _
    refine st9 _ ?_
    show Steps p.tables e below (T9.setTop (mkF m 20 #[.val (.long q1), .second, .val (.long q2), .second, .val (.long ((q1 ||| q2) ^^^ (-1 : Int64))), .second, .val (.long (((((((((0 : Int64) ||| ((own_st (0 : Int32) (own_gr (0 : Int32) q2 (own_gr (0 : Int32) q2 (own_gr (0 : Int32) q2 (own_gr (0 : Int32) q2 (own_gr (0 : Int32) q2 (own_r0 (0 : Int32) q1 q2))))))) &&& ((q1 ||| q2) ^^^ (-1 : Int64)))) ||| ((own_st (1 : Int32) (own_gr (1 : Int32) q2 (own_gr (1 : Int32) q2 (own_gr (1 : Int32) q2 (own_gr (1 : Int32) q2 (own_gr (1 : Int32) q2 (own_r0 (1 : Int32) q1 q2))))))) &&& ((q1 ||| q2) ^^^ (-1 : Int64)))) ||| ((own_st (2 : Int32) (own_gr (2 : Int32) q2 (own_gr (2 : Int32) q2 (own_gr (2 : Int32) q2 (own_gr (2 : Int32) q2 (own_gr (2 : Int32) q2 (own_r0 (2 : Int32) q1 q2))))))) &&& ((q1 ||| q2) ^^^ (-1 : Int64)))) ||| ((own_st (3 : Int32) (own_gr (3 : Int32) q2 (own_gr (3 : Int32) q2 (own_gr (3 : Int32) q2 (own_gr (3 : Int32) q2 (own_gr (3 : Int32) q2 (own_r0 (3 : Int32) q1 q2))))))) &&& ((q1 ||| q2) ^^^ (-1 : Int64)))) ||| ((own_st (4 : Int32) (own_gr (4 : Int32) q2 (own_gr (4 : Int32) q2 (own_gr (4 : Int32) q2 (own_gr (4 : Int32) q2 (own_gr (4 : Int32) q2 (own_r0 (4 : Int32) q1 q2))))))) &&& ((q1 ||| q2) ^^^ (-1 : Int64)))) ||| ((own_st (5 : Int32) (own_gr (5 : Int32) q2 (own_gr (5 : Int32) q2 (own_gr (5 : Int32) q2 (own_gr (5 : Int32) q2 (own_gr (5 : Int32) q2 (own_r0 (5 : Int32) q1 q2))))))) &&& ((q1 ||| q2) ^^^ (-1 : Int64)))) ||| ((own_st (6 : Int32) (own_gr (6 : Int32) q2 (own_gr (6 : Int32) q2 (own_gr (6 : Int32) q2 (own_gr (6 : Int32) q2 (own_gr (6 : Int32) q2 (own_r0 (6 : Int32) q1 q2))))))) &&& ((q1 ||| q2) ^^^ (-1 : Int64)))) ||| ((own_st (7 : Int32) (own_gr (7 : Int32) q2 (own_gr (7 : Int32) q2 (own_gr (7 : Int32) q2 (own_gr (7 : Int32) q2 (own_gr (7 : Int32) q2 (own_r0 (7 : Int32) q1 q2))))))) &&& ((q1 ||| q2) ^^^ (-1 : Int64))))), .second, .val (.int (8 : Int32)), .val (.long (own_gr (7 : Int32) q2 (own_gr (7 : Int32) q2 (own_gr (7 : Int32) q2 (own_gr (7 : Int32) q2 (own_gr (7 : Int32) q2 (own_r0 (7 : Int32) q1 q2))))))), .second, .val (.int ((((((0 : Int32) + (1 : Int32)) + (1 : Int32)) + (1 : Int32)) + (1 : Int32)) + (1 : Int32)))] [(.ref w_STEPS), (.int (8 : Int32))])) _
    refine X9.arraylength hx (by rw [e9]; exact Ar10.1) (State.isArrayOf_alike hZ.alike Ar10.2.1) (g := (mkF m 20 #[.val (.long q1), .second, .val (.long q2), .second, .val (.long ((q1 ||| q2) ^^^ (-1 : Int64))), .second, .val (.long (((((((((0 : Int64) ||| ((own_st (0 : Int32) (own_gr (0 : Int32) q2 (own_gr (0 : Int32) q2 (own_gr (0 : Int32) q2 (own_gr (0 : Int32) q2 (own_gr (0 : Int32) q2 (own_r0 (0 : Int32) q1 q2))))))) &&& ((q1 ||| q2) ^^^ (-1 : Int64)))) ||| ((own_st (1 : Int32) (own_gr (1 : Int32) q2 (own_gr (1 : Int32) q2 (own_gr (1 : Int32) q2 (own_gr (1 : Int32) q2 (own_gr (1 : Int32) q2 (own_r0 (1 : Int32) q1 q2))))))) &&& ((q1 ||| q2) ^^^ (-1 : Int64)))) ||| ((own_st (2 : Int32) (own_gr (2 : Int32) q2 (own_gr (2 : Int32) q2 (own_gr (2 : Int32) q2 (own_gr (2 : Int32) q2 (own_gr (2 : Int32) q2 (own_r0 (2 : Int32) q1 q2))))))) &&& ((q1 ||| q2) ^^^ (-1 : Int64)))) ||| ((own_st (3 : Int32) (own_gr (3 : Int32) q2 (own_gr (3 : Int32) q2 (own_gr (3 : Int32) q2 (own_gr (3 : Int32) q2 (own_gr (3 : Int32) q2 (own_r0 (3 : Int32) q1 q2))))))) &&& ((q1 ||| q2) ^^^ (-1 : Int64)))) ||| ((own_st (4 : Int32) (own_gr (4 : Int32) q2 (own_gr (4 : Int32) q2 (own_gr (4 : Int32) q2 (own_gr (4 : Int32) q2 (own_gr (4 : Int32) q2 (own_r0 (4 : Int32) q1 q2))))))) &&& ((q1 ||| q2) ^^^ (-1 : Int64)))) ||| ((own_st (5 : Int32) (own_gr (5 : Int32) q2 (own_gr (5 : Int32) q2 (own_gr (5 : Int32) q2 (own_gr (5 : Int32) q2 (own_gr (5 : Int32) q2 (own_r0 (5 : Int32) q1 q2))))))) &&& ((q1 ||| q2) ^^^ (-1 : Int64)))) ||| ((own_st (6 : Int32) (own_gr (6 : Int32) q2 (own_gr (6 : Int32) q2 (own_gr (6 : Int32) q2 (own_gr (6 : Int32) q2 (own_gr (6 : Int32) q2 (own_r0 (6 : Int32) q1 q2))))))) &&& ((q1 ||| q2) ^^^ (-1 : Int64)))) ||| ((own_st (7 : Int32) (own_gr (7 : Int32) q2 (own_gr (7 : Int32) q2 (own_gr (7 : Int32) q2 (own_gr (7 : Int32) q2 (own_gr (7 : Int32) q2 (own_r0 (7 : Int32) q1 q2))))))) &&& ((q1 ||| q2) ^^^ (-1 : Int64))))), .second, .val (.int (8 : Int32)), .val (.long (own_gr (7 : Int32) q2 (own_gr (7 : Int32) q2 (own_gr (7 : Int32) q2 (own_gr (7 : Int32) q2 (own_gr (7 : Int32) q2 (own_r0 (7 : Int32) q1 q2))))))), .second, .val (.int ((((((0 : Int32) + (1 : Int32)) + (1 : Int32)) + (1 : Int32)) + (1 : Int32)) + (1 : Int32)))] [(.ref w_STEPS), (.int (8 : Int32))])) rfl rfl (hb hby d1_20) _ ?_
    rw [len_of Sz10 Nn10]
    show Steps p.tables e below (T9.setTop (mkF m 21 #[.val (.long q1), .second, .val (.long q2), .second, .val (.long ((q1 ||| q2) ^^^ (-1 : Int64))), .second, .val (.long (((((((((0 : Int64) ||| ((own_st (0 : Int32) (own_gr (0 : Int32) q2 (own_gr (0 : Int32) q2 (own_gr (0 : Int32) q2 (own_gr (0 : Int32) q2 (own_gr (0 : Int32) q2 (own_r0 (0 : Int32) q1 q2))))))) &&& ((q1 ||| q2) ^^^ (-1 : Int64)))) ||| ((own_st (1 : Int32) (own_gr (1 : Int32) q2 (own_gr (1 : Int32) q2 (own_gr (1 : Int32) q2 (own_gr (1 : Int32) q2 (own_gr (1 : Int32) q2 (own_r0 (1 : Int32) q1 q2))))))) &&& ((q1 ||| q2) ^^^ (-1 : Int64)))) ||| ((own_st (2 : Int32) (own_gr (2 : Int32) q2 (own_gr (2 : Int32) q2 (own_gr (2 : Int32) q2 (own_gr (2 : Int32) q2 (own_gr (2 : Int32) q2 (own_r0 (2 : Int32) q1 q2))))))) &&& ((q1 ||| q2) ^^^ (-1 : Int64)))) ||| ((own_st (3 : Int32) (own_gr (3 : Int32) q2 (own_gr (3 : Int32) q2 (own_gr (3 : Int32) q2 (own_gr (3 : Int32) q2 (own_gr (3 : Int32) q2 (own_r0 (3 : Int32) q1 q2))))))) &&& ((q1 ||| q2) ^^^ (-1 : Int64)))) ||| ((own_st (4 : Int32) (own_gr (4 : Int32) q2 (own_gr (4 : Int32) q2 (own_gr (4 : Int32) q2 (own_gr (4 : Int32) q2 (own_gr (4 : Int32) q2 (own_r0 (4 : Int32) q1 q2))))))) &&& ((q1 ||| q2) ^^^ (-1 : Int64)))) ||| ((own_st (5 : Int32) (own_gr (5 : Int32) q2 (own_gr (5 : Int32) q2 (own_gr (5 : Int32) q2 (own_gr (5 : Int32) q2 (own_gr (5 : Int32) q2 (own_r0 (5 : Int32) q1 q2))))))) &&& ((q1 ||| q2) ^^^ (-1 : Int64)))) ||| ((own_st (6 : Int32) (own_gr (6 : Int32) q2 (own_gr (6 : Int32) q2 (own_gr (6 : Int32) q2 (own_gr (6 : Int32) q2 (own_gr (6 : Int32) q2 (own_r0 (6 : Int32) q1 q2))))))) &&& ((q1 ||| q2) ^^^ (-1 : Int64)))) ||| ((own_st (7 : Int32) (own_gr (7 : Int32) q2 (own_gr (7 : Int32) q2 (own_gr (7 : Int32) q2 (own_gr (7 : Int32) q2 (own_gr (7 : Int32) q2 (own_r0 (7 : Int32) q1 q2))))))) &&& ((q1 ||| q2) ^^^ (-1 : Int64))))), .second, .val (.int (8 : Int32)), .val (.long (own_gr (7 : Int32) q2 (own_gr (7 : Int32) q2 (own_gr (7 : Int32) q2 (own_gr (7 : Int32) q2 (own_gr (7 : Int32) q2 (own_r0 (7 : Int32) q1 q2))))))), .second, .val (.int ((((((0 : Int32) + (1 : Int32)) + (1 : Int32)) + (1 : Int32)) + (1 : Int32)) + (1 : Int32)))] [(.int (8 : Int32)), (.int (8 : Int32))])) _
    refine XS.icmpYes X9.here hx rfl (pc0 := 21) (pc' := 84) rfl (hb hby d1_21) rfl (flt (by decide : ¬ ((8 : Int32) < (8 : Int32)))).2.1 (by decide) (by decide) ?_
    show Steps p.tables e below (T9.setTop (mkF m 84 #[.val (.long q1), .second, .val (.long q2), .second, .val (.long ((q1 ||| q2) ^^^ (-1 : Int64))), .second, .val (.long (((((((((0 : Int64) ||| ((own_st (0 : Int32) (own_gr (0 : Int32) q2 (own_gr (0 : Int32) q2 (own_gr (0 : Int32) q2 (own_gr (0 : Int32) q2 (own_gr (0 : Int32) q2 (own_r0 (0 : Int32) q1 q2))))))) &&& ((q1 ||| q2) ^^^ (-1 : Int64)))) ||| ((own_st (1 : Int32) (own_gr (1 : Int32) q2 (own_gr (1 : Int32) q2 (own_gr (1 : Int32) q2 (own_gr (1 : Int32) q2 (own_gr (1 : Int32) q2 (own_r0 (1 : Int32) q1 q2))))))) &&& ((q1 ||| q2) ^^^ (-1 : Int64)))) ||| ((own_st (2 : Int32) (own_gr (2 : Int32) q2 (own_gr (2 : Int32) q2 (own_gr (2 : Int32) q2 (own_gr (2 : Int32) q2 (own_gr (2 : Int32) q2 (own_r0 (2 : Int32) q1 q2))))))) &&& ((q1 ||| q2) ^^^ (-1 : Int64)))) ||| ((own_st (3 : Int32) (own_gr (3 : Int32) q2 (own_gr (3 : Int32) q2 (own_gr (3 : Int32) q2 (own_gr (3 : Int32) q2 (own_gr (3 : Int32) q2 (own_r0 (3 : Int32) q1 q2))))))) &&& ((q1 ||| q2) ^^^ (-1 : Int64)))) ||| ((own_st (4 : Int32) (own_gr (4 : Int32) q2 (own_gr (4 : Int32) q2 (own_gr (4 : Int32) q2 (own_gr (4 : Int32) q2 (own_gr (4 : Int32) q2 (own_r0 (4 : Int32) q1 q2))))))) &&& ((q1 ||| q2) ^^^ (-1 : Int64)))) ||| ((own_st (5 : Int32) (own_gr (5 : Int32) q2 (own_gr (5 : Int32) q2 (own_gr (5 : Int32) q2 (own_gr (5 : Int32) q2 (own_gr (5 : Int32) q2 (own_r0 (5 : Int32) q1 q2))))))) &&& ((q1 ||| q2) ^^^ (-1 : Int64)))) ||| ((own_st (6 : Int32) (own_gr (6 : Int32) q2 (own_gr (6 : Int32) q2 (own_gr (6 : Int32) q2 (own_gr (6 : Int32) q2 (own_gr (6 : Int32) q2 (own_r0 (6 : Int32) q1 q2))))))) &&& ((q1 ||| q2) ^^^ (-1 : Int64)))) ||| ((own_st (7 : Int32) (own_gr (7 : Int32) q2 (own_gr (7 : Int32) q2 (own_gr (7 : Int32) q2 (own_gr (7 : Int32) q2 (own_gr (7 : Int32) q2 (own_r0 (7 : Int32) q1 q2))))))) &&& ((q1 ||| q2) ^^^ (-1 : Int64))))), .second, .val (.int (8 : Int32)), .val (.long (own_gr (7 : Int32) q2 (own_gr (7 : Int32) q2 (own_gr (7 : Int32) q2 (own_gr (7 : Int32) q2 (own_gr (7 : Int32) q2 (own_r0 (7 : Int32) q1 q2))))))), .second, .val (.int ((((((0 : Int32) + (1 : Int32)) + (1 : Int32)) + (1 : Int32)) + (1 : Int32)) + (1 : Int32)))] [])) _
    refine XS.lload X9.here hx rfl (hb hby d1_84) rfl ?_
    show Steps p.tables e below (T9.setTop (mkF m 86 #[.val (.long q1), .second, .val (.long q2), .second, .val (.long ((q1 ||| q2) ^^^ (-1 : Int64))), .second, .val (.long (((((((((0 : Int64) ||| ((own_st (0 : Int32) (own_gr (0 : Int32) q2 (own_gr (0 : Int32) q2 (own_gr (0 : Int32) q2 (own_gr (0 : Int32) q2 (own_gr (0 : Int32) q2 (own_r0 (0 : Int32) q1 q2))))))) &&& ((q1 ||| q2) ^^^ (-1 : Int64)))) ||| ((own_st (1 : Int32) (own_gr (1 : Int32) q2 (own_gr (1 : Int32) q2 (own_gr (1 : Int32) q2 (own_gr (1 : Int32) q2 (own_gr (1 : Int32) q2 (own_r0 (1 : Int32) q1 q2))))))) &&& ((q1 ||| q2) ^^^ (-1 : Int64)))) ||| ((own_st (2 : Int32) (own_gr (2 : Int32) q2 (own_gr (2 : Int32) q2 (own_gr (2 : Int32) q2 (own_gr (2 : Int32) q2 (own_gr (2 : Int32) q2 (own_r0 (2 : Int32) q1 q2))))))) &&& ((q1 ||| q2) ^^^ (-1 : Int64)))) ||| ((own_st (3 : Int32) (own_gr (3 : Int32) q2 (own_gr (3 : Int32) q2 (own_gr (3 : Int32) q2 (own_gr (3 : Int32) q2 (own_gr (3 : Int32) q2 (own_r0 (3 : Int32) q1 q2))))))) &&& ((q1 ||| q2) ^^^ (-1 : Int64)))) ||| ((own_st (4 : Int32) (own_gr (4 : Int32) q2 (own_gr (4 : Int32) q2 (own_gr (4 : Int32) q2 (own_gr (4 : Int32) q2 (own_gr (4 : Int32) q2 (own_r0 (4 : Int32) q1 q2))))))) &&& ((q1 ||| q2) ^^^ (-1 : Int64)))) ||| ((own_st (5 : Int32) (own_gr (5 : Int32) q2 (own_gr (5 : Int32) q2 (own_gr (5 : Int32) q2 (own_gr (5 : Int32) q2 (own_gr (5 : Int32) q2 (own_r0 (5 : Int32) q1 q2))))))) &&& ((q1 ||| q2) ^^^ (-1 : Int64)))) ||| ((own_st (6 : Int32) (own_gr (6 : Int32) q2 (own_gr (6 : Int32) q2 (own_gr (6 : Int32) q2 (own_gr (6 : Int32) q2 (own_gr (6 : Int32) q2 (own_r0 (6 : Int32) q1 q2))))))) &&& ((q1 ||| q2) ^^^ (-1 : Int64)))) ||| ((own_st (7 : Int32) (own_gr (7 : Int32) q2 (own_gr (7 : Int32) q2 (own_gr (7 : Int32) q2 (own_gr (7 : Int32) q2 (own_gr (7 : Int32) q2 (own_r0 (7 : Int32) q1 q2))))))) &&& ((q1 ||| q2) ^^^ (-1 : Int64))))), .second, .val (.int (8 : Int32)), .val (.long (own_gr (7 : Int32) q2 (own_gr (7 : Int32) q2 (own_gr (7 : Int32) q2 (own_gr (7 : Int32) q2 (own_gr (7 : Int32) q2 (own_r0 (7 : Int32) q1 q2))))))), .second, .val (.int ((((((0 : Int32) + (1 : Int32)) + (1 : Int32)) + (1 : Int32)) + (1 : Int32)) + (1 : Int32)))] [(.long (((((((((0 : Int64) ||| ((own_st (0 : Int32) (own_gr (0 : Int32) q2 (own_gr (0 : Int32) q2 (own_gr (0 : Int32) q2 (own_gr (0 : Int32) q2 (own_gr (0 : Int32) q2 (own_r0 (0 : Int32) q1 q2))))))) &&& ((q1 ||| q2) ^^^ (-1 : Int64)))) ||| ((own_st (1 : Int32) (own_gr (1 : Int32) q2 (own_gr (1 : Int32) q2 (own_gr (1 : Int32) q2 (own_gr (1 : Int32) q2 (own_gr (1 : Int32) q2 (own_r0 (1 : Int32) q1 q2))))))) &&& ((q1 ||| q2) ^^^ (-1 : Int64)))) ||| ((own_st (2 : Int32) (own_gr (2 : Int32) q2 (own_gr (2 : Int32) q2 (own_gr (2 : Int32) q2 (own_gr (2 : Int32) q2 (own_gr (2 : Int32) q2 (own_r0 (2 : Int32) q1 q2))))))) &&& ((q1 ||| q2) ^^^ (-1 : Int64)))) ||| ((own_st (3 : Int32) (own_gr (3 : Int32) q2 (own_gr (3 : Int32) q2 (own_gr (3 : Int32) q2 (own_gr (3 : Int32) q2 (own_gr (3 : Int32) q2 (own_r0 (3 : Int32) q1 q2))))))) &&& ((q1 ||| q2) ^^^ (-1 : Int64)))) ||| ((own_st (4 : Int32) (own_gr (4 : Int32) q2 (own_gr (4 : Int32) q2 (own_gr (4 : Int32) q2 (own_gr (4 : Int32) q2 (own_gr (4 : Int32) q2 (own_r0 (4 : Int32) q1 q2))))))) &&& ((q1 ||| q2) ^^^ (-1 : Int64)))) ||| ((own_st (5 : Int32) (own_gr (5 : Int32) q2 (own_gr (5 : Int32) q2 (own_gr (5 : Int32) q2 (own_gr (5 : Int32) q2 (own_gr (5 : Int32) q2 (own_r0 (5 : Int32) q1 q2))))))) &&& ((q1 ||| q2) ^^^ (-1 : Int64)))) ||| ((own_st (6 : Int32) (own_gr (6 : Int32) q2 (own_gr (6 : Int32) q2 (own_gr (6 : Int32) q2 (own_gr (6 : Int32) q2 (own_gr (6 : Int32) q2 (own_r0 (6 : Int32) q1 q2))))))) &&& ((q1 ||| q2) ^^^ (-1 : Int64)))) ||| ((own_st (7 : Int32) (own_gr (7 : Int32) q2 (own_gr (7 : Int32) q2 (own_gr (7 : Int32) q2 (own_gr (7 : Int32) q2 (own_gr (7 : Int32) q2 (own_r0 (7 : Int32) q1 q2))))))) &&& ((q1 ||| q2) ^^^ (-1 : Int64)))))])) _
    exact X9.lreturnOut hx Bd.returns (hb hby d1_86) hr
  · show Q1_0 Z q1 q2 w_STEPS kv_STEPS w_LANDINGS kv_LANDINGS h0 n0 _ T9.heap _
    rw [e9]
    exact ⟨rfl, N8, rfl⟩
theorem pd_1 : parseMethodDescriptor "(JJ)J" = some ⟨[.long, .long], some .long⟩ := by decide +kernel
theorem d3_0 : decode method_3_code 0 = .ok (.lload_n 0, 1) := by decide +kernel
theorem d3_1 : decode method_3_code 1 = .ok (.iload_n 2, 1) := by decide +kernel
theorem d3_2 : decode method_3_code 2 = .ok (.lushr, 1) := by decide +kernel
theorem d3_3 : decode method_3_code 3 = .ok (.lconst 1, 1) := by decide +kernel
theorem d3_4 : decode method_3_code 4 = .ok (.land, 1) := by decide +kernel
theorem d3_5 : decode method_3_code 5 = .ok (.lconst 0, 1) := by decide +kernel
theorem d3_6 : decode method_3_code 6 = .ok (.lcmp, 1) := by decide +kernel
theorem d3_7 : decode method_3_code 7 = .ok (.ifCond .eq 7, 3) := by decide +kernel
theorem d3_14 : decode method_3_code 14 = .ok (.iconst 0, 1) := by decide +kernel
theorem d3_15 : decode method_3_code 15 = .ok (.istore 7, 2) := by decide +kernel
theorem d3_17 : decode method_3_code 17 = .ok (.lload_n 3, 1) := by decide +kernel
theorem d3_18 : decode method_3_code 18 = .ok (.lload 5, 2) := by decide +kernel
theorem d3_20 : decode method_3_code 20 = .ok (.lor, 1) := by decide +kernel
theorem d3_21 : decode method_3_code 21 = .ok (.iload_n 2, 1) := by decide +kernel
theorem d3_22 : decode method_3_code 22 = .ok (.lushr, 1) := by decide +kernel
theorem d3_23 : decode method_3_code 23 = .ok (.lconst 1, 1) := by decide +kernel
theorem d3_24 : decode method_3_code 24 = .ok (.land, 1) := by decide +kernel
theorem d3_25 : decode method_3_code 25 = .ok (.lconst 0, 1) := by decide +kernel
theorem d3_26 : decode method_3_code 26 = .ok (.lcmp, 1) := by decide +kernel
theorem d3_27 : decode method_3_code 27 = .ok (.ifCond .ne 7, 3) := by decide +kernel
theorem d3_30 : decode method_3_code 30 = .ok (.iconst 1, 1) := by decide +kernel
theorem d3_31 : decode method_3_code 31 = .ok (.goto 4, 3) := by decide +kernel
theorem d3_35 : decode method_3_code 35 = .ok (.istore 8, 2) := by decide +kernel
theorem d3_37 : decode method_3_code 37 = .ok (.iload 8, 2) := by decide +kernel
theorem d3_39 : decode method_3_code 39 = .ok (.ifCond .eq 19, 3) := by decide +kernel
theorem d3_42 : decode method_3_code 42 = .ok (.iload_n 2, 1) := by decide +kernel
theorem d3_43 : decode method_3_code 43 = .ok (.lload_n 3, 1) := by decide +kernel
theorem d3_44 : decode method_3_code 44 = .ok (.lload 5, 2) := by decide +kernel
theorem d3_46 : decode method_3_code 46 = .ok (.invokestatic 21, 3) := by decide +kernel
theorem d4_0 : decode prog_43_method_3_code 0 = .ok (.lconst 0, 1) := by decide +kernel
theorem d4_1 : decode prog_43_method_3_code 1 = .ok (.lstore 5, 2) := by decide +kernel
theorem d4_3 : decode prog_43_method_3_code 3 = .ok (.iconst 0, 1) := by decide +kernel
theorem d4_4 : decode prog_43_method_3_code 4 = .ok (.istore 7, 2) := by decide +kernel
theorem d4_6 : decode prog_43_method_3_code 6 = .ok (.iload 7, 2) := by decide +kernel
theorem d4_8 : decode prog_43_method_3_code 8 = .ok (.getstatic 11, 3) := by decide +kernel
theorem d4_11 : decode prog_43_method_3_code 11 = .ok (.arraylength, 1) := by decide +kernel
theorem d4_12 : decode prog_43_method_3_code 12 = .ok (.if_icmp .ge 66, 3) := by decide +kernel
theorem d4_15 : decode prog_43_method_3_code 15 = .ok (.lconst 0, 1) := by decide +kernel
theorem d4_16 : decode prog_43_method_3_code 16 = .ok (.lstore 8, 2) := by decide +kernel
theorem d4_18 : decode prog_43_method_3_code 18 = .ok (.lconst 1, 1) := by decide +kernel
theorem d4_19 : decode prog_43_method_3_code 19 = .ok (.iload_n 0, 1) := by decide +kernel
theorem d4_20 : decode prog_43_method_3_code 20 = .ok (.lshl, 1) := by decide +kernel
theorem d4_21 : decode prog_43_method_3_code 21 = .ok (.iload 7, 2) := by decide +kernel
theorem d4_23 : decode prog_43_method_3_code 23 = .ok (.invokestatic 15, 3) := by decide +kernel
theorem d4_26 : decode prog_43_method_3_code 26 = .ok (.lstore 10, 2) := by decide +kernel
set_option maxRecDepth 65536 in
set_option maxHeartbeats 40000000 in
theorem own_fAu {p : Program} {l : Launch} {e : Env} {s : State} {m : MethodId} {args : Array Value} {below : List Frame} {meth : Method} {c : Code} {T0 : State} {locs : List Loc} {Z : State} {a0 : Array Value} {h0 : Heap} {n0 : Nat} {p1 : Int32} {q2 : Int64} {q3 : Int64} {fl : Int64} {d : Int32} {w_STEPS : Addr} {kv_STEPS : ClassId} {w_LANDINGS : Addr} {kv_LANDINGS : ClassId} (X0 : Stand p l e ({ frames := 1, cells := 0, slots := 0, locals := 17 } : Room) s m args below meth c T0 locs 0 0) (hx : p.tables.exec = Jvm.exec) (hZ : Z.Warmed39 s.vm) (hw : ∀ d ∈ tables_1, d.before a0 Z = true) (hby : c.code = prog_43_method_3_code) (hml : c.maxLocals = 12) (hown : s.vm.findClass "com/example/counterply/counterply/othello/Board" = some m.cls) (e0 : T0.heap = h0) (N0 : Fr n0 locs) (Z0 : n0 ≤ h0.size) (S_STEPS : Sta Z h0 "com/example/counterply/counterply/othello/Board" "STEPS" "[I" (.ref w_STEPS)) (V_STEPS : Arv Z h0 w_STEPS kv_STEPS .int (8 : Int32) [(.int (1 : Int32)), (.int (-1 : Int32)), (.int (8 : Int32)), (.int (-8 : Int32)), (.int (9 : Int32)), (.int (-9 : Int32)), (.int (7 : Int32)), (.int (-7 : Int32))] (.int (0 : Int32))) (S_LANDINGS : Sta Z h0 "com/example/counterply/counterply/othello/Board" "LANDINGS" "[J" (.ref w_LANDINGS)) (V_LANDINGS : Arv Z h0 w_LANDINGS kv_LANDINGS .long (8 : Int32) [(.long (-72340172838076674 : Int64)), (.long (9187201950435737471 : Int64)), (.long (-1 : Int64)), (.long (-1 : Int64)), (.long (-72340172838076674 : Int64)), (.long (9187201950435737471 : Int64)), (.long (9187201950435737471 : Int64)), (.long (-72340172838076674 : Int64))] (.long (0 : Int64))) (hlt : d < (8 : Int32)) (hD : own_dirs d) :
    ∃ (T' : State) (L' : List Loc), Stand p l e ({ frames := 1, cells := 0, slots := 0, locals := 17 } : Room) s m args below meth c T' L' 0 0 ∧ T'.heap = h0 ∧ Fr n0 L' ∧ ∀ t, Steps p.tables e below (T'.setTop (mkF m 28 #[.val (.int p1), .val (.long q2), .second, .val (.long q3), .second, .val (.long fl), .second, .val (.int d), .val (.long (0 : Int64)), .second, .val (.long (own_st d ((1 : Int64) <<< (p1 &&& 0x3f).toInt64))), .second] [])) t → Steps p.tables e below (T0.setTop (mkF m 6 #[.val (.int p1), .val (.long q2), .second, .val (.long q3), .second, .val (.long fl), .second, .val (.int d), .unset, .unset, .unset, .unset] [])) t := by
  have pre0 : ∀ t, Steps p.tables e below (T0.setTop (mkF m 6 #[.val (.int p1), .val (.long q2), .second, .val (.long q3), .second, .val (.long fl), .second, .val (.int d), .unset, .unset, .unset, .unset] [])) t → Steps p.tables e below (T0.setTop (mkF m 6 #[.val (.int p1), .val (.long q2), .second, .val (.long q3), .second, .val (.long fl), .second, .val (.int d), .unset, .unset, .unset, .unset] [])) t := fun t k => k
  obtain ⟨T1, X1, e1, st1⟩ := getS2 X0 hx hZ hown (host := "") (Or.inl (hw _ (List.mem_of_getElem? (i := 6) rfl))) Via.refl e0 S_STEPS (g := (mkF m 8 #[.val (.int p1), .val (.long q2), .second, .val (.long q3), .second, .val (.long fl), .second, .val (.int d), .unset, .unset, .unset, .unset] [(.int d)])) rfl (hb hby d4_8)
  obtain ⟨cl2, Ar2, qq2, Sz2, Nn2, Hs2, Gs2⟩ := id V_STEPS
  obtain ⟨_, _, ⟨T3, L3, k3, n3⟩, -, X3, ⟨Lc3, hQ3, l3, y3, z3⟩, st3⟩ := Jvm.LawKit.callS X1 hx (y := (⟨"com/example/counterply/counterply/othello/Board", "step", "(JI)J"⟩ : MethodName)) hown (mvT hZ (hw _ (List.mem_of_getElem? (i := 8) rfl))) (mvT hZ (hw _ (List.mem_of_getElem? (i := 9) rfl))) (mvT hZ (hw _ (List.mem_of_getElem? (i := 3) rfl))) (mvT hZ (hw _ (List.mem_of_getElem? (i := 10) rfl))) (by decide) (backOf (W := 0) (rm2_0 l Z a0 hw [] ((1 : Int64) <<< (p1 &&& 0x3f).toInt64) d w_STEPS kv_STEPS w_LANDINGS kv_LANDINGS h0 n0 Z0 hD S_STEPS V_STEPS S_LANDINGS V_LANDINGS) hZ (hw _ (List.mem_of_getElem? (i := 10) rfl)) (hw _ (List.mem_of_getElem? (i := 3) rfl)) (by decide) (by decide)) (g := (mkF m 23 #[.val (.int p1), .val (.long q2), .second, .val (.long q3), .second, .val (.long fl), .second, .val (.int d), .val (.long (0 : Int64)), .second, .unset, .unset] [(.int d), (.long ((1 : Int64) <<< (p1 &&& 0x3f).toInt64))])) rfl (by rw [hml]; rfl) (argsL := [(.long ((1 : Int64) <<< (p1 &&& 0x3f).toInt64)), (.int d)]) (rest := []) (lenOf pd_0 rfl) rfl (by show 2 * 0 + _ ≤ _; exact Nat.le_of_eq rfl) (hb hby d4_23) (fun _ _ => ⟨rfl, e1, (by decide : 0 + 0 ≤ _), (by decide : 0 + 0 ≤ _)⟩)
  dsimp only [Pt.U, Pt.locs, Pt.cells, Pt.slots] at X3 l3 y3 z3 st3 hQ3
  subst l3 y3 z3
  obtain ⟨rfl, N3q, e3⟩ := hQ3
  have N3 := Fr.app N0 N3q
  have k4 : ∀ t, Steps p.tables e below (T3.setTop (mkF m 28 #[.val (.int p1), .val (.long q2), .second, .val (.long q3), .second, .val (.long fl), .second, .val (.int d), .val (.long (0 : Int64)), .second, .val (.long (own_st d ((1 : Int64) <<< (p1 &&& 0x3f).toInt64))), .second] [])) t → Steps p.tables e below (T0.setTop (mkF m 6 #[.val (.int p1), .val (.long q2), .second, .val (.long q3), .second, .val (.long fl), .second, .val (.int d), .unset, .unset, .unset, .unset] [])) t := by
    intro t k
    refine pre0 t ?_
    show Steps p.tables e below (T0.setTop (mkF m 6 #[.val (.int p1), .val (.long q2), .second, .val (.long q3), .second, .val (.long fl), .second, .val (.int d), .unset, .unset, .unset, .unset] [])) _
    refine XS.iload X0.here hx rfl (hb hby d4_6) rfl ?_
    show Steps p.tables e below (T0.setTop (mkF m 8 #[.val (.int p1), .val (.long q2), .second, .val (.long q3), .second, .val (.long fl), .second, .val (.int d), .unset, .unset, .unset, .unset] [(.int d)])) _
    refine st1 _ ?_
    show Steps p.tables e below (T1.setTop (mkF m 11 #[.val (.int p1), .val (.long q2), .second, .val (.long q3), .second, .val (.long fl), .second, .val (.int d), .unset, .unset, .unset, .unset] [(.ref w_STEPS), (.int d)])) _
    refine X1.arraylength hx (by rw [e1]; exact Ar2.1) (State.isArrayOf_alike hZ.alike Ar2.2.1) (g := (mkF m 11 #[.val (.int p1), .val (.long q2), .second, .val (.long q3), .second, .val (.long fl), .second, .val (.int d), .unset, .unset, .unset, .unset] [(.ref w_STEPS), (.int d)])) rfl rfl (hb hby d4_11) _ ?_
    rw [len_of Sz2 Nn2]
    show Steps p.tables e below (T1.setTop (mkF m 12 #[.val (.int p1), .val (.long q2), .second, .val (.long q3), .second, .val (.long fl), .second, .val (.int d), .unset, .unset, .unset, .unset] [(.int (8 : Int32)), (.int d)])) _
    refine XS.icmpNo X1.here hx rfl (hb hby d4_12) rfl (tlt hlt).2.1 ?_
    show Steps p.tables e below (T1.setTop (mkF m 15 #[.val (.int p1), .val (.long q2), .second, .val (.long q3), .second, .val (.long fl), .second, .val (.int d), .unset, .unset, .unset, .unset] [])) _
    refine XS.lconst X1.here hx rfl (hb hby d4_15) ?_
    show Steps p.tables e below (T1.setTop (mkF m 16 #[.val (.int p1), .val (.long q2), .second, .val (.long q3), .second, .val (.long fl), .second, .val (.int d), .unset, .unset, .unset, .unset] [(.long (0 : Int64))])) _
    refine XS.lstore X1.here hx rfl (hb hby d4_16) rfl (l' := #[.val (.int p1), .val (.long q2), .second, .val (.long q3), .second, .val (.long fl), .second, .val (.int d), .val (.long (0 : Int64)), .second, .unset, .unset]) rfl ?_
    show Steps p.tables e below (T1.setTop (mkF m 18 #[.val (.int p1), .val (.long q2), .second, .val (.long q3), .second, .val (.long fl), .second, .val (.int d), .val (.long (0 : Int64)), .second, .unset, .unset] [])) _
    refine XS.lconst X1.here hx rfl (hb hby d4_18) ?_
    show Steps p.tables e below (T1.setTop (mkF m 19 #[.val (.int p1), .val (.long q2), .second, .val (.long q3), .second, .val (.long fl), .second, .val (.int d), .val (.long (0 : Int64)), .second, .unset, .unset] [(.long (1 : Int64))])) _
    refine XS.iloadN X1.here hx rfl (hb hby d4_19) rfl ?_
    show Steps p.tables e below (T1.setTop (mkF m 20 #[.val (.int p1), .val (.long q2), .second, .val (.long q3), .second, .val (.long fl), .second, .val (.int d), .val (.long (0 : Int64)), .second, .unset, .unset] [(.int p1), (.long (1 : Int64))])) _
    refine XS.lshl X1.here hx rfl (hb hby d4_20) rfl ?_
    show Steps p.tables e below (T1.setTop (mkF m 21 #[.val (.int p1), .val (.long q2), .second, .val (.long q3), .second, .val (.long fl), .second, .val (.int d), .val (.long (0 : Int64)), .second, .unset, .unset] [(.long ((1 : Int64) <<< (p1 &&& 0x3f).toInt64))])) _
    refine XS.iload X1.here hx rfl (hb hby d4_21) rfl ?_
    show Steps p.tables e below (T1.setTop (mkF m 23 #[.val (.int p1), .val (.long q2), .second, .val (.long q3), .second, .val (.long fl), .second, .val (.int d), .val (.long (0 : Int64)), .second, .unset, .unset] [(.int d), (.long ((1 : Int64) <<< (p1 &&& 0x3f).toInt64))])) _
    refine st3 _ ?_
    show Steps p.tables e below (T3.setTop (mkF m 26 #[.val (.int p1), .val (.long q2), .second, .val (.long q3), .second, .val (.long fl), .second, .val (.int d), .val (.long (0 : Int64)), .second, .unset, .unset] [(.long (own_st d ((1 : Int64) <<< (p1 &&& 0x3f).toInt64)))])) _
    refine XS.lstore X3.here hx rfl (hb hby d4_26) rfl (l' := #[.val (.int p1), .val (.long q2), .second, .val (.long q3), .second, .val (.long fl), .second, .val (.int d), .val (.long (0 : Int64)), .second, .val (.long (own_st d ((1 : Int64) <<< (p1 &&& 0x3f).toInt64))), .second]) rfl ?_
    exact k
  exact ⟨T3, _, X3, e3, N3, k4⟩
set_option maxRecDepth 65536 in
set_option maxHeartbeats 40000000 in
theorem own_fAv {p : Program} {l : Launch} {e : Env} {s : State} {m : MethodId} {args : Array Value} {below : List Frame} {meth : Method} {c : Code} {T0 : State} {locs : List Loc} {Z : State} {a0 : Array Value} {h0 : Heap} {n0 : Nat} {p1 : Int32} {q2 : Int64} {q3 : Int64} {fl : Int64} {d : Int32} {x8 : Int64} {x10 : Int64} {w_STEPS : Addr} {kv_STEPS : ClassId} {w_LANDINGS : Addr} {kv_LANDINGS : ClassId} (X0 : Stand p l e ({ frames := 1, cells := 0, slots := 0, locals := 17 } : Room) s m args below meth c T0 locs 0 0) (hx : p.tables.exec = Jvm.exec) (hZ : Z.Warmed39 s.vm) (hw : ∀ d ∈ tables_1, d.before a0 Z = true) (hby : c.code = prog_43_method_3_code) (hml : c.maxLocals = 12) (hown : s.vm.findClass "com/example/counterply/counterply/othello/Board" = some m.cls) (e0 : T0.heap = h0) (N0 : Fr n0 locs) (Z0 : n0 ≤ h0.size) (S_STEPS : Sta Z h0 "com/example/counterply/counterply/othello/Board" "STEPS" "[I" (.ref w_STEPS)) (V_STEPS : Arv Z h0 w_STEPS kv_STEPS .int (8 : Int32) [(.int (1 : Int32)), (.int (-1 : Int32)), (.int (8 : Int32)), (.int (-8 : Int32)), (.int (9 : Int32)), (.int (-9 : Int32)), (.int (7 : Int32)), (.int (-7 : Int32))] (.int (0 : Int32))) (S_LANDINGS : Sta Z h0 "com/example/counterply/counterply/othello/Board" "LANDINGS" "[J" (.ref w_LANDINGS)) (V_LANDINGS : Arv Z h0 w_LANDINGS kv_LANDINGS .long (8 : Int32) [(.long (-72340172838076674 : Int64)), (.long (9187201950435737471 : Int64)), (.long (-1 : Int64)), (.long (-1 : Int64)), (.long (-72340172838076674 : Int64)), (.long (9187201950435737471 : Int64)), (.long (9187201950435737471 : Int64)), (.long (-72340172838076674 : Int64))] (.long (0 : Int64))) (hlt : d < (8 : Int32)) (hD : own_dirs d) :
    ∃ (T' : State) (L' : List Loc), Stand p l e ({ frames := 1, cells := 0, slots := 0, locals := 17 } : Room) s m args below meth c T' L' 0 0 ∧ T'.heap = h0 ∧ Fr n0 L' ∧ ∀ t, Steps p.tables e below (T'.setTop (mkF m 28 #[.val (.int p1), .val (.long q2), .second, .val (.long q3), .second, .val (.long fl), .second, .val (.int d), .val (.long (0 : Int64)), .second, .val (.long (own_st d ((1 : Int64) <<< (p1 &&& 0x3f).toInt64))), .second] [])) t → Steps p.tables e below (T0.setTop (mkF m 6 #[.val (.int p1), .val (.long q2), .second, .val (.long q3), .second, .val (.long fl), .second, .val (.int d), .val (.long x8), .second, .val (.long x10), .second] [])) t := by
  have pre0 : ∀ t, Steps p.tables e below (T0.setTop (mkF m 6 #[.val (.int p1), .val (.long q2), .second, .val (.long q3), .second, .val (.long fl), .second, .val (.int d), .val (.long x8), .second, .val (.long x10), .second] [])) t → Steps p.tables e below (T0.setTop (mkF m 6 #[.val (.int p1), .val (.long q2), .second, .val (.long q3), .second, .val (.long fl), .second, .val (.int d), .val (.long x8), .second, .val (.long x10), .second] [])) t := fun t k => k
  obtain ⟨T1, X1, e1, st1⟩ := getS2 X0 hx hZ hown (host := "") (Or.inl (hw _ (List.mem_of_getElem? (i := 6) rfl))) Via.refl e0 S_STEPS (g := (mkF m 8 #[.val (.int p1), .val (.long q2), .second, .val (.long q3), .second, .val (.long fl), .second, .val (.int d), .val (.long x8), .second, .val (.long x10), .second] [(.int d)])) rfl (hb hby d4_8)
  obtain ⟨cl2, Ar2, qq2, Sz2, Nn2, Hs2, Gs2⟩ := id V_STEPS
  obtain ⟨_, _, ⟨T3, L3, k3, n3⟩, -, X3, ⟨Lc3, hQ3, l3, y3, z3⟩, st3⟩ := Jvm.LawKit.callS X1 hx (y := (⟨"com/example/counterply/counterply/othello/Board", "step", "(JI)J"⟩ : MethodName)) hown (mvT hZ (hw _ (List.mem_of_getElem? (i := 8) rfl))) (mvT hZ (hw _ (List.mem_of_getElem? (i := 9) rfl))) (mvT hZ (hw _ (List.mem_of_getElem? (i := 3) rfl))) (mvT hZ (hw _ (List.mem_of_getElem? (i := 10) rfl))) (by decide) (backOf (W := 0) (rm2_0 l Z a0 hw [] ((1 : Int64) <<< (p1 &&& 0x3f).toInt64) d w_STEPS kv_STEPS w_LANDINGS kv_LANDINGS h0 n0 Z0 hD S_STEPS V_STEPS S_LANDINGS V_LANDINGS) hZ (hw _ (List.mem_of_getElem? (i := 10) rfl)) (hw _ (List.mem_of_getElem? (i := 3) rfl)) (by decide) (by decide)) (g := (mkF m 23 #[.val (.int p1), .val (.long q2), .second, .val (.long q3), .second, .val (.long fl), .second, .val (.int d), .val (.long (0 : Int64)), .second, .val (.long x10), .second] [(.int d), (.long ((1 : Int64) <<< (p1 &&& 0x3f).toInt64))])) rfl (by rw [hml]; rfl) (argsL := [(.long ((1 : Int64) <<< (p1 &&& 0x3f).toInt64)), (.int d)]) (rest := []) (lenOf pd_0 rfl) rfl (by show 2 * 0 + _ ≤ _; exact Nat.le_of_eq rfl) (hb hby d4_23) (fun _ _ => ⟨rfl, e1, (by decide : 0 + 0 ≤ _), (by decide : 0 + 0 ≤ _)⟩)
  dsimp only [Pt.U, Pt.locs, Pt.cells, Pt.slots] at X3 l3 y3 z3 st3 hQ3
  subst l3 y3 z3
  obtain ⟨rfl, N3q, e3⟩ := hQ3
  have N3 := Fr.app N0 N3q
  have k4 : ∀ t, Steps p.tables e below (T3.setTop (mkF m 28 #[.val (.int p1), .val (.long q2), .second, .val (.long q3), .second, .val (.long fl), .second, .val (.int d), .val (.long (0 : Int64)), .second, .val (.long (own_st d ((1 : Int64) <<< (p1 &&& 0x3f).toInt64))), .second] [])) t → Steps p.tables e below (T0.setTop (mkF m 6 #[.val (.int p1), .val (.long q2), .second, .val (.long q3), .second, .val (.long fl), .second, .val (.int d), .val (.long x8), .second, .val (.long x10), .second] [])) t := by
    intro t k
    refine pre0 t ?_
    show Steps p.tables e below (T0.setTop (mkF m 6 #[.val (.int p1), .val (.long q2), .second, .val (.long q3), .second, .val (.long fl), .second, .val (.int d), .val (.long x8), .second, .val (.long x10), .second] [])) _
    refine XS.iload X0.here hx rfl (hb hby d4_6) rfl ?_
    show Steps p.tables e below (T0.setTop (mkF m 8 #[.val (.int p1), .val (.long q2), .second, .val (.long q3), .second, .val (.long fl), .second, .val (.int d), .val (.long x8), .second, .val (.long x10), .second] [(.int d)])) _
    refine st1 _ ?_
    show Steps p.tables e below (T1.setTop (mkF m 11 #[.val (.int p1), .val (.long q2), .second, .val (.long q3), .second, .val (.long fl), .second, .val (.int d), .val (.long x8), .second, .val (.long x10), .second] [(.ref w_STEPS), (.int d)])) _
    refine X1.arraylength hx (by rw [e1]; exact Ar2.1) (State.isArrayOf_alike hZ.alike Ar2.2.1) (g := (mkF m 11 #[.val (.int p1), .val (.long q2), .second, .val (.long q3), .second, .val (.long fl), .second, .val (.int d), .val (.long x8), .second, .val (.long x10), .second] [(.ref w_STEPS), (.int d)])) rfl rfl (hb hby d4_11) _ ?_
    rw [len_of Sz2 Nn2]
    show Steps p.tables e below (T1.setTop (mkF m 12 #[.val (.int p1), .val (.long q2), .second, .val (.long q3), .second, .val (.long fl), .second, .val (.int d), .val (.long x8), .second, .val (.long x10), .second] [(.int (8 : Int32)), (.int d)])) _
    refine XS.icmpNo X1.here hx rfl (hb hby d4_12) rfl (tlt hlt).2.1 ?_
    show Steps p.tables e below (T1.setTop (mkF m 15 #[.val (.int p1), .val (.long q2), .second, .val (.long q3), .second, .val (.long fl), .second, .val (.int d), .val (.long x8), .second, .val (.long x10), .second] [])) _
    refine XS.lconst X1.here hx rfl (hb hby d4_15) ?_
    show Steps p.tables e below (T1.setTop (mkF m 16 #[.val (.int p1), .val (.long q2), .second, .val (.long q3), .second, .val (.long fl), .second, .val (.int d), .val (.long x8), .second, .val (.long x10), .second] [(.long (0 : Int64))])) _
    refine XS.lstore X1.here hx rfl (hb hby d4_16) rfl (l' := #[.val (.int p1), .val (.long q2), .second, .val (.long q3), .second, .val (.long fl), .second, .val (.int d), .val (.long (0 : Int64)), .second, .val (.long x10), .second]) rfl ?_
    show Steps p.tables e below (T1.setTop (mkF m 18 #[.val (.int p1), .val (.long q2), .second, .val (.long q3), .second, .val (.long fl), .second, .val (.int d), .val (.long (0 : Int64)), .second, .val (.long x10), .second] [])) _
    refine XS.lconst X1.here hx rfl (hb hby d4_18) ?_
    show Steps p.tables e below (T1.setTop (mkF m 19 #[.val (.int p1), .val (.long q2), .second, .val (.long q3), .second, .val (.long fl), .second, .val (.int d), .val (.long (0 : Int64)), .second, .val (.long x10), .second] [(.long (1 : Int64))])) _
    refine XS.iloadN X1.here hx rfl (hb hby d4_19) rfl ?_
    show Steps p.tables e below (T1.setTop (mkF m 20 #[.val (.int p1), .val (.long q2), .second, .val (.long q3), .second, .val (.long fl), .second, .val (.int d), .val (.long (0 : Int64)), .second, .val (.long x10), .second] [(.int p1), (.long (1 : Int64))])) _
    refine XS.lshl X1.here hx rfl (hb hby d4_20) rfl ?_
    show Steps p.tables e below (T1.setTop (mkF m 21 #[.val (.int p1), .val (.long q2), .second, .val (.long q3), .second, .val (.long fl), .second, .val (.int d), .val (.long (0 : Int64)), .second, .val (.long x10), .second] [(.long ((1 : Int64) <<< (p1 &&& 0x3f).toInt64))])) _
    refine XS.iload X1.here hx rfl (hb hby d4_21) rfl ?_
    show Steps p.tables e below (T1.setTop (mkF m 23 #[.val (.int p1), .val (.long q2), .second, .val (.long q3), .second, .val (.long fl), .second, .val (.int d), .val (.long (0 : Int64)), .second, .val (.long x10), .second] [(.int d), (.long ((1 : Int64) <<< (p1 &&& 0x3f).toInt64))])) _
    refine st3 _ ?_
    show Steps p.tables e below (T3.setTop (mkF m 26 #[.val (.int p1), .val (.long q2), .second, .val (.long q3), .second, .val (.long fl), .second, .val (.int d), .val (.long (0 : Int64)), .second, .val (.long x10), .second] [(.long (own_st d ((1 : Int64) <<< (p1 &&& 0x3f).toInt64)))])) _
    refine XS.lstore X3.here hx rfl (hb hby d4_26) rfl (l' := #[.val (.int p1), .val (.long q2), .second, .val (.long q3), .second, .val (.long fl), .second, .val (.int d), .val (.long (0 : Int64)), .second, .val (.long (own_st d ((1 : Int64) <<< (p1 &&& 0x3f).toInt64))), .second]) rfl ?_
    exact k
  exact ⟨T3, _, X3, e3, N3, k4⟩
theorem d4_28 : decode prog_43_method_3_code 28 = .ok (.lload 10, 2) := by decide +kernel
theorem d4_30 : decode prog_43_method_3_code 30 = .ok (.lload_n 3, 1) := by decide +kernel
theorem d4_31 : decode prog_43_method_3_code 31 = .ok (.land, 1) := by decide +kernel
theorem d4_32 : decode prog_43_method_3_code 32 = .ok (.lconst 0, 1) := by decide +kernel
theorem d4_33 : decode prog_43_method_3_code 33 = .ok (.lcmp, 1) := by decide +kernel
theorem d4_34 : decode prog_43_method_3_code 34 = .ok (.ifCond .eq 22, 3) := by decide +kernel
set_option maxRecDepth 65536 in
set_option maxHeartbeats 40000000 in
theorem own_fX {p : Program} {l : Launch} {e : Env} {s : State} {m : MethodId} {args : Array Value} {below : List Frame} {meth : Method} {c : Code} {T0 : State} {locs : List Loc} {Z : State} {a0 : Array Value} {h0 : Heap} {n0 : Nat} {p1 : Int32} {q2 : Int64} {q3 : Int64} {fl : Int64} {d : Int32} {r : Int64} {n : Int64} (X0 : Stand p l e ({ frames := 1, cells := 0, slots := 0, locals := 17 } : Room) s m args below meth c T0 locs 0 0) (hx : p.tables.exec = Jvm.exec) (hZ : Z.Warmed39 s.vm) (hw : ∀ d ∈ tables_1, d.before a0 Z = true) (hby : c.code = prog_43_method_3_code) (hml : c.maxLocals = 12) (hown : s.vm.findClass "com/example/counterply/counterply/othello/Board" = some m.cls) (e0 : T0.heap = h0) (N0 : Fr n0 locs) (Z0 : n0 ≤ h0.size) (hc : (lcmpW (n &&& q3) (0 : Int64)) = (0 : Int32)) :
    ∃ (T' : State) (L' : List Loc), Stand p l e ({ frames := 1, cells := 0, slots := 0, locals := 17 } : Room) s m args below meth c T' L' 0 0 ∧ T'.heap = h0 ∧ Fr n0 L' ∧ ∀ t, Steps p.tables e below (T'.setTop (mkF m 56 #[.val (.int p1), .val (.long q2), .second, .val (.long q3), .second, .val (.long fl), .second, .val (.int d), .val (.long r), .second, .val (.long n), .second] [])) t → Steps p.tables e below (T0.setTop (mkF m 28 #[.val (.int p1), .val (.long q2), .second, .val (.long q3), .second, .val (.long fl), .second, .val (.int d), .val (.long r), .second, .val (.long n), .second] [])) t := by
  have pre0 : ∀ t, Steps p.tables e below (T0.setTop (mkF m 28 #[.val (.int p1), .val (.long q2), .second, .val (.long q3), .second, .val (.long fl), .second, .val (.int d), .val (.long r), .second, .val (.long n), .second] [])) t → Steps p.tables e below (T0.setTop (mkF m 28 #[.val (.int p1), .val (.long q2), .second, .val (.long q3), .second, .val (.long fl), .second, .val (.int d), .val (.long r), .second, .val (.long n), .second] [])) t := fun t k => k
  have k1 : ∀ t, Steps p.tables e below (T0.setTop (mkF m 56 #[.val (.int p1), .val (.long q2), .second, .val (.long q3), .second, .val (.long fl), .second, .val (.int d), .val (.long r), .second, .val (.long n), .second] [])) t → Steps p.tables e below (T0.setTop (mkF m 28 #[.val (.int p1), .val (.long q2), .second, .val (.long q3), .second, .val (.long fl), .second, .val (.int d), .val (.long r), .second, .val (.long n), .second] [])) t := by
    intro t k
    refine pre0 t ?_
    show Steps p.tables e below (T0.setTop (mkF m 28 #[.val (.int p1), .val (.long q2), .second, .val (.long q3), .second, .val (.long fl), .second, .val (.int d), .val (.long r), .second, .val (.long n), .second] [])) _
    refine XS.lload X0.here hx rfl (hb hby d4_28) rfl ?_
    show Steps p.tables e below (T0.setTop (mkF m 30 #[.val (.int p1), .val (.long q2), .second, .val (.long q3), .second, .val (.long fl), .second, .val (.int d), .val (.long r), .second, .val (.long n), .second] [(.long n)])) _
    refine XS.lloadN X0.here hx rfl (hb hby d4_30) rfl ?_
    show Steps p.tables e below (T0.setTop (mkF m 31 #[.val (.int p1), .val (.long q2), .second, .val (.long q3), .second, .val (.long fl), .second, .val (.int d), .val (.long r), .second, .val (.long n), .second] [(.long q3), (.long n)])) _
    refine XS.land X0.here hx rfl (hb hby d4_31) rfl ?_
    show Steps p.tables e below (T0.setTop (mkF m 32 #[.val (.int p1), .val (.long q2), .second, .val (.long q3), .second, .val (.long fl), .second, .val (.int d), .val (.long r), .second, .val (.long n), .second] [(.long (n &&& q3))])) _
    refine XS.lconst X0.here hx rfl (hb hby d4_32) ?_
    show Steps p.tables e below (T0.setTop (mkF m 33 #[.val (.int p1), .val (.long q2), .second, .val (.long q3), .second, .val (.long fl), .second, .val (.int d), .val (.long r), .second, .val (.long n), .second] [(.long (0 : Int64)), (.long (n &&& q3))])) _
    refine XS.lcmp X0.here hx rfl (hb hby d4_33) rfl ?_
    show Steps p.tables e below (T0.setTop (mkF m 34 #[.val (.int p1), .val (.long q2), .second, .val (.long q3), .second, .val (.long fl), .second, .val (.int d), .val (.long r), .second, .val (.long n), .second] [(.int (lcmpW (n &&& q3) (0 : Int64)))])) _
    refine XS.ifYes X0.here hx rfl (pc0 := 34) (pc' := 56) rfl (hb hby d4_34) rfl ((if0 _ _).trans (teq hc).1) (by decide) (by decide) ?_
    exact k
  exact ⟨T0, _, X0, e0, N0, k1⟩
theorem d4_37 : decode prog_43_method_3_code 37 = .ok (.lload 8, 2) := by decide +kernel
theorem d4_39 : decode prog_43_method_3_code 39 = .ok (.lload 10, 2) := by decide +kernel
theorem d4_41 : decode prog_43_method_3_code 41 = .ok (.lor, 1) := by decide +kernel
theorem d4_42 : decode prog_43_method_3_code 42 = .ok (.lstore 8, 2) := by decide +kernel
theorem d4_44 : decode prog_43_method_3_code 44 = .ok (.lload 10, 2) := by decide +kernel
theorem d4_46 : decode prog_43_method_3_code 46 = .ok (.iload 7, 2) := by decide +kernel
theorem d4_48 : decode prog_43_method_3_code 48 = .ok (.invokestatic 15, 3) := by decide +kernel
theorem d4_51 : decode prog_43_method_3_code 51 = .ok (.lstore 10, 2) := by decide +kernel
theorem d4_53 : decode prog_43_method_3_code 53 = .ok (.goto (-25), 3) := by decide +kernel
set_option maxRecDepth 65536 in
set_option maxHeartbeats 40000000 in
theorem own_fT {p : Program} {l : Launch} {e : Env} {s : State} {m : MethodId} {args : Array Value} {below : List Frame} {meth : Method} {c : Code} {T0 : State} {locs : List Loc} {Z : State} {a0 : Array Value} {h0 : Heap} {n0 : Nat} {p1 : Int32} {q2 : Int64} {q3 : Int64} {fl : Int64} {d : Int32} {r : Int64} {n : Int64} {w_STEPS : Addr} {kv_STEPS : ClassId} {w_LANDINGS : Addr} {kv_LANDINGS : ClassId} (X0 : Stand p l e ({ frames := 1, cells := 0, slots := 0, locals := 17 } : Room) s m args below meth c T0 locs 0 0) (hx : p.tables.exec = Jvm.exec) (hZ : Z.Warmed39 s.vm) (hw : ∀ d ∈ tables_1, d.before a0 Z = true) (hby : c.code = prog_43_method_3_code) (hml : c.maxLocals = 12) (hown : s.vm.findClass "com/example/counterply/counterply/othello/Board" = some m.cls) (e0 : T0.heap = h0) (N0 : Fr n0 locs) (Z0 : n0 ≤ h0.size) (S_STEPS : Sta Z h0 "com/example/counterply/counterply/othello/Board" "STEPS" "[I" (.ref w_STEPS)) (V_STEPS : Arv Z h0 w_STEPS kv_STEPS .int (8 : Int32) [(.int (1 : Int32)), (.int (-1 : Int32)), (.int (8 : Int32)), (.int (-8 : Int32)), (.int (9 : Int32)), (.int (-9 : Int32)), (.int (7 : Int32)), (.int (-7 : Int32))] (.int (0 : Int32))) (S_LANDINGS : Sta Z h0 "com/example/counterply/counterply/othello/Board" "LANDINGS" "[J" (.ref w_LANDINGS)) (V_LANDINGS : Arv Z h0 w_LANDINGS kv_LANDINGS .long (8 : Int32) [(.long (-72340172838076674 : Int64)), (.long (9187201950435737471 : Int64)), (.long (-1 : Int64)), (.long (-1 : Int64)), (.long (-72340172838076674 : Int64)), (.long (9187201950435737471 : Int64)), (.long (9187201950435737471 : Int64)), (.long (-72340172838076674 : Int64))] (.long (0 : Int64))) (hc : ¬ ((lcmpW (n &&& q3) (0 : Int64)) = (0 : Int32))) (hD : own_dirs d) :
    ∃ (T' : State) (L' : List Loc), Stand p l e ({ frames := 1, cells := 0, slots := 0, locals := 17 } : Room) s m args below meth c T' L' 0 0 ∧ T'.heap = h0 ∧ Fr n0 L' ∧ ∀ t, Steps p.tables e below (T'.setTop (mkF m 28 #[.val (.int p1), .val (.long q2), .second, .val (.long q3), .second, .val (.long fl), .second, .val (.int d), .val (.long (r ||| n)), .second, .val (.long (own_st d n)), .second] [])) t → Steps p.tables e below (T0.setTop (mkF m 28 #[.val (.int p1), .val (.long q2), .second, .val (.long q3), .second, .val (.long fl), .second, .val (.int d), .val (.long r), .second, .val (.long n), .second] [])) t := by
  have pre0 : ∀ t, Steps p.tables e below (T0.setTop (mkF m 28 #[.val (.int p1), .val (.long q2), .second, .val (.long q3), .second, .val (.long fl), .second, .val (.int d), .val (.long r), .second, .val (.long n), .second] [])) t → Steps p.tables e below (T0.setTop (mkF m 28 #[.val (.int p1), .val (.long q2), .second, .val (.long q3), .second, .val (.long fl), .second, .val (.int d), .val (.long r), .second, .val (.long n), .second] [])) t := fun t k => k
  obtain ⟨_, _, ⟨T1, L1, k1, n1⟩, -, X1, ⟨Lc1, hQ1, l1, y1, z1⟩, st1⟩ := Jvm.LawKit.callS X0 hx (y := (⟨"com/example/counterply/counterply/othello/Board", "step", "(JI)J"⟩ : MethodName)) hown (mvT hZ (hw _ (List.mem_of_getElem? (i := 8) rfl))) (mvT hZ (hw _ (List.mem_of_getElem? (i := 9) rfl))) (mvT hZ (hw _ (List.mem_of_getElem? (i := 3) rfl))) (mvT hZ (hw _ (List.mem_of_getElem? (i := 10) rfl))) (by decide) (backOf (W := 0) (rm2_0 l Z a0 hw [] n d w_STEPS kv_STEPS w_LANDINGS kv_LANDINGS h0 n0 Z0 hD S_STEPS V_STEPS S_LANDINGS V_LANDINGS) hZ (hw _ (List.mem_of_getElem? (i := 10) rfl)) (hw _ (List.mem_of_getElem? (i := 3) rfl)) (by decide) (by decide)) (g := (mkF m 48 #[.val (.int p1), .val (.long q2), .second, .val (.long q3), .second, .val (.long fl), .second, .val (.int d), .val (.long (r ||| n)), .second, .val (.long n), .second] [(.int d), (.long n)])) rfl (by rw [hml]; rfl) (argsL := [(.long n), (.int d)]) (rest := []) (lenOf pd_0 rfl) rfl (by show 2 * 0 + _ ≤ _; exact Nat.le_of_eq rfl) (hb hby d4_48) (fun _ _ => ⟨rfl, e0, (by decide : 0 + 0 ≤ _), (by decide : 0 + 0 ≤ _)⟩)
  dsimp only [Pt.U, Pt.locs, Pt.cells, Pt.slots] at X1 l1 y1 z1 st1 hQ1
  subst l1 y1 z1
  obtain ⟨rfl, N1q, e1⟩ := hQ1
  have N1 := Fr.app N0 N1q
  have k2 : ∀ t, Steps p.tables e below (T1.setTop (mkF m 28 #[.val (.int p1), .val (.long q2), .second, .val (.long q3), .second, .val (.long fl), .second, .val (.int d), .val (.long (r ||| n)), .second, .val (.long (own_st d n)), .second] [])) t → Steps p.tables e below (T0.setTop (mkF m 28 #[.val (.int p1), .val (.long q2), .second, .val (.long q3), .second, .val (.long fl), .second, .val (.int d), .val (.long r), .second, .val (.long n), .second] [])) t := by
    intro t k
    refine pre0 t ?_
    show Steps p.tables e below (T0.setTop (mkF m 28 #[.val (.int p1), .val (.long q2), .second, .val (.long q3), .second, .val (.long fl), .second, .val (.int d), .val (.long r), .second, .val (.long n), .second] [])) _
    refine XS.lload X0.here hx rfl (hb hby d4_28) rfl ?_
    show Steps p.tables e below (T0.setTop (mkF m 30 #[.val (.int p1), .val (.long q2), .second, .val (.long q3), .second, .val (.long fl), .second, .val (.int d), .val (.long r), .second, .val (.long n), .second] [(.long n)])) _
    refine XS.lloadN X0.here hx rfl (hb hby d4_30) rfl ?_
    show Steps p.tables e below (T0.setTop (mkF m 31 #[.val (.int p1), .val (.long q2), .second, .val (.long q3), .second, .val (.long fl), .second, .val (.int d), .val (.long r), .second, .val (.long n), .second] [(.long q3), (.long n)])) _
    refine XS.land X0.here hx rfl (hb hby d4_31) rfl ?_
    show Steps p.tables e below (T0.setTop (mkF m 32 #[.val (.int p1), .val (.long q2), .second, .val (.long q3), .second, .val (.long fl), .second, .val (.int d), .val (.long r), .second, .val (.long n), .second] [(.long (n &&& q3))])) _
    refine XS.lconst X0.here hx rfl (hb hby d4_32) ?_
    show Steps p.tables e below (T0.setTop (mkF m 33 #[.val (.int p1), .val (.long q2), .second, .val (.long q3), .second, .val (.long fl), .second, .val (.int d), .val (.long r), .second, .val (.long n), .second] [(.long (0 : Int64)), (.long (n &&& q3))])) _
    refine XS.lcmp X0.here hx rfl (hb hby d4_33) rfl ?_
    show Steps p.tables e below (T0.setTop (mkF m 34 #[.val (.int p1), .val (.long q2), .second, .val (.long q3), .second, .val (.long fl), .second, .val (.int d), .val (.long r), .second, .val (.long n), .second] [(.int (lcmpW (n &&& q3) (0 : Int64)))])) _
    refine XS.ifNo X0.here hx rfl (hb hby d4_34) rfl ((if0 _ _).trans (feq hc).1) ?_
    show Steps p.tables e below (T0.setTop (mkF m 37 #[.val (.int p1), .val (.long q2), .second, .val (.long q3), .second, .val (.long fl), .second, .val (.int d), .val (.long r), .second, .val (.long n), .second] [])) _
    refine XS.lload X0.here hx rfl (hb hby d4_37) rfl ?_
    show Steps p.tables e below (T0.setTop (mkF m 39 #[.val (.int p1), .val (.long q2), .second, .val (.long q3), .second, .val (.long fl), .second, .val (.int d), .val (.long r), .second, .val (.long n), .second] [(.long r)])) _
    refine XS.lload X0.here hx rfl (hb hby d4_39) rfl ?_
    show Steps p.tables e below (T0.setTop (mkF m 41 #[.val (.int p1), .val (.long q2), .second, .val (.long q3), .second, .val (.long fl), .second, .val (.int d), .val (.long r), .second, .val (.long n), .second] [(.long n), (.long r)])) _
    refine XS.lor X0.here hx rfl (hb hby d4_41) rfl ?_
    show Steps p.tables e below (T0.setTop (mkF m 42 #[.val (.int p1), .val (.long q2), .second, .val (.long q3), .second, .val (.long fl), .second, .val (.int d), .val (.long r), .second, .val (.long n), .second] [(.long (r ||| n))])) _
    refine XS.lstore X0.here hx rfl (hb hby d4_42) rfl (l' := #[.val (.int p1), .val (.long q2), .second, .val (.long q3), .second, .val (.long fl), .second, .val (.int d), .val (.long (r ||| n)), .second, .val (.long n), .second]) rfl ?_
    show Steps p.tables e below (T0.setTop (mkF m 44 #[.val (.int p1), .val (.long q2), .second, .val (.long q3), .second, .val (.long fl), .second, .val (.int d), .val (.long (r ||| n)), .second, .val (.long n), .second] [])) _
    refine XS.lload X0.here hx rfl (hb hby d4_44) rfl ?_
    show Steps p.tables e below (T0.setTop (mkF m 46 #[.val (.int p1), .val (.long q2), .second, .val (.long q3), .second, .val (.long fl), .second, .val (.int d), .val (.long (r ||| n)), .second, .val (.long n), .second] [(.long n)])) _
    refine XS.iload X0.here hx rfl (hb hby d4_46) rfl ?_
    show Steps p.tables e below (T0.setTop (mkF m 48 #[.val (.int p1), .val (.long q2), .second, .val (.long q3), .second, .val (.long fl), .second, .val (.int d), .val (.long (r ||| n)), .second, .val (.long n), .second] [(.int d), (.long n)])) _
    refine st1 _ ?_
    show Steps p.tables e below (T1.setTop (mkF m 51 #[.val (.int p1), .val (.long q2), .second, .val (.long q3), .second, .val (.long fl), .second, .val (.int d), .val (.long (r ||| n)), .second, .val (.long n), .second] [(.long (own_st d n))])) _
    refine XS.lstore X1.here hx rfl (hb hby d4_51) rfl (l' := #[.val (.int p1), .val (.long q2), .second, .val (.long q3), .second, .val (.long fl), .second, .val (.int d), .val (.long (r ||| n)), .second, .val (.long (own_st d n)), .second]) rfl ?_
    show Steps p.tables e below (T1.setTop (mkF m 53 #[.val (.int p1), .val (.long q2), .second, .val (.long q3), .second, .val (.long fl), .second, .val (.int d), .val (.long (r ||| n)), .second, .val (.long (own_st d n)), .second] [])) _
    refine XS.goto X1.here hx rfl (pc0 := 53) (pc' := 28) rfl (hb hby d4_53) (by decide) (by decide) ?_
    exact k
  exact ⟨T1, _, X1, e1, N1, k2⟩
theorem d4_56 : decode prog_43_method_3_code 56 = .ok (.lload 10, 2) := by decide +kernel
theorem d4_58 : decode prog_43_method_3_code 58 = .ok (.lload_n 1, 1) := by decide +kernel
theorem d4_59 : decode prog_43_method_3_code 59 = .ok (.land, 1) := by decide +kernel
theorem d4_60 : decode prog_43_method_3_code 60 = .ok (.lconst 0, 1) := by decide +kernel
theorem d4_61 : decode prog_43_method_3_code 61 = .ok (.lcmp, 1) := by decide +kernel
theorem d4_62 : decode prog_43_method_3_code 62 = .ok (.ifCond .eq 10, 3) := by decide +kernel
theorem d4_65 : decode prog_43_method_3_code 65 = .ok (.lload 5, 2) := by decide +kernel
theorem d4_67 : decode prog_43_method_3_code 67 = .ok (.lload 8, 2) := by decide +kernel
theorem d4_69 : decode prog_43_method_3_code 69 = .ok (.lor, 1) := by decide +kernel
theorem d4_70 : decode prog_43_method_3_code 70 = .ok (.lstore 5, 2) := by decide +kernel
theorem d4_72 : decode prog_43_method_3_code 72 = .ok (.iinc 7 1, 3) := by decide +kernel
theorem d4_75 : decode prog_43_method_3_code 75 = .ok (.goto (-69), 3) := by decide +kernel
set_option maxRecDepth 65536 in
set_option maxHeartbeats 40000000 in
theorem own_fC {p : Program} {l : Launch} {e : Env} {s : State} {m : MethodId} {args : Array Value} {below : List Frame} {meth : Method} {c : Code} {T0 : State} {locs : List Loc} {Z : State} {a0 : Array Value} {h0 : Heap} {n0 : Nat} {p1 : Int32} {q2 : Int64} {q3 : Int64} {fl : Int64} {d : Int32} {r : Int64} {n : Int64} (X0 : Stand p l e ({ frames := 1, cells := 0, slots := 0, locals := 17 } : Room) s m args below meth c T0 locs 0 0) (hx : p.tables.exec = Jvm.exec) (hZ : Z.Warmed39 s.vm) (hw : ∀ d ∈ tables_1, d.before a0 Z = true) (hby : c.code = prog_43_method_3_code) (hml : c.maxLocals = 12) (hown : s.vm.findClass "com/example/counterply/counterply/othello/Board" = some m.cls) (e0 : T0.heap = h0) (N0 : Fr n0 locs) (Z0 : n0 ≤ h0.size) :
    ∃ (T' : State) (L' : List Loc), Stand p l e ({ frames := 1, cells := 0, slots := 0, locals := 17 } : Room) s m args below meth c T' L' 0 0 ∧ T'.heap = h0 ∧ Fr n0 L' ∧ ∀ t, Steps p.tables e below (T'.setTop (mkF m 6 #[.val (.int p1), .val (.long q2), .second, .val (.long q3), .second, .val (.long (own_fl q2 n r fl)), .second, .val (.int (d + (1 : Int32))), .val (.long r), .second, .val (.long n), .second] [])) t → Steps p.tables e below (T0.setTop (mkF m 56 #[.val (.int p1), .val (.long q2), .second, .val (.long q3), .second, .val (.long fl), .second, .val (.int d), .val (.long r), .second, .val (.long n), .second] [])) t := by
  have pre0 : ∀ t, Steps p.tables e below (T0.setTop (mkF m 56 #[.val (.int p1), .val (.long q2), .second, .val (.long q3), .second, .val (.long fl), .second, .val (.int d), .val (.long r), .second, .val (.long n), .second] [])) t → Steps p.tables e below (T0.setTop (mkF m 56 #[.val (.int p1), .val (.long q2), .second, .val (.long q3), .second, .val (.long fl), .second, .val (.int d), .val (.long r), .second, .val (.long n), .second] [])) t := fun t k => k
  have k1 : ∀ t, Steps p.tables e below (T0.setTop (mkF m 62 #[.val (.int p1), .val (.long q2), .second, .val (.long q3), .second, .val (.long fl), .second, .val (.int d), .val (.long r), .second, .val (.long n), .second] [(.int (lcmpW (n &&& q2) (0 : Int64)))])) t → Steps p.tables e below (T0.setTop (mkF m 56 #[.val (.int p1), .val (.long q2), .second, .val (.long q3), .second, .val (.long fl), .second, .val (.int d), .val (.long r), .second, .val (.long n), .second] [])) t := by
    intro t k
    refine pre0 t ?_
    show Steps p.tables e below (T0.setTop (mkF m 56 #[.val (.int p1), .val (.long q2), .second, .val (.long q3), .second, .val (.long fl), .second, .val (.int d), .val (.long r), .second, .val (.long n), .second] [])) _
    refine XS.lload X0.here hx rfl (hb hby d4_56) rfl ?_
    show Steps p.tables e below (T0.setTop (mkF m 58 #[.val (.int p1), .val (.long q2), .second, .val (.long q3), .second, .val (.long fl), .second, .val (.int d), .val (.long r), .second, .val (.long n), .second] [(.long n)])) _
    refine XS.lloadN X0.here hx rfl (hb hby d4_58) rfl ?_
    show Steps p.tables e below (T0.setTop (mkF m 59 #[.val (.int p1), .val (.long q2), .second, .val (.long q3), .second, .val (.long fl), .second, .val (.int d), .val (.long r), .second, .val (.long n), .second] [(.long q2), (.long n)])) _
    refine XS.land X0.here hx rfl (hb hby d4_59) rfl ?_
    show Steps p.tables e below (T0.setTop (mkF m 60 #[.val (.int p1), .val (.long q2), .second, .val (.long q3), .second, .val (.long fl), .second, .val (.int d), .val (.long r), .second, .val (.long n), .second] [(.long (n &&& q2))])) _
    refine XS.lconst X0.here hx rfl (hb hby d4_60) ?_
    show Steps p.tables e below (T0.setTop (mkF m 61 #[.val (.int p1), .val (.long q2), .second, .val (.long q3), .second, .val (.long fl), .second, .val (.int d), .val (.long r), .second, .val (.long n), .second] [(.long (0 : Int64)), (.long (n &&& q2))])) _
    refine XS.lcmp X0.here hx rfl (hb hby d4_61) rfl ?_
    exact k
  obtain ⟨j2_0, T2, L2, X2, e2, N2, hp2, k2⟩ : ∃ (j2_0 : Int64) (T' : State) (L' : List Loc), Stand p l e ({ frames := 1, cells := 0, slots := 0, locals := 17 } : Room) s m args below meth c T' L' 0 0 ∧ T'.heap = h0 ∧ Fr n0 L' ∧ (j2_0 = own_fl q2 n r fl) ∧ ∀ t, Steps p.tables e below (T'.setTop (mkF m 72 #[.val (.int p1), .val (.long q2), .second, .val (.long q3), .second, .val (.long j2_0), .second, .val (.int d), .val (.long r), .second, .val (.long n), .second] [])) t → Steps p.tables e below (T0.setTop (mkF m 56 #[.val (.int p1), .val (.long q2), .second, .val (.long q3), .second, .val (.long fl), .second, .val (.int d), .val (.long r), .second, .val (.long n), .second] [])) t := by
    by_cases hc62_1 : (lcmpW (n &&& q2) (0 : Int64)) = (0 : Int32)
    ·
      have k3 : ∀ t, Steps p.tables e below (T0.setTop (mkF m 72 #[.val (.int p1), .val (.long q2), .second, .val (.long q3), .second, .val (.long fl), .second, .val (.int d), .val (.long r), .second, .val (.long n), .second] [])) t → Steps p.tables e below (T0.setTop (mkF m 56 #[.val (.int p1), .val (.long q2), .second, .val (.long q3), .second, .val (.long fl), .second, .val (.int d), .val (.long r), .second, .val (.long n), .second] [])) t := by
        intro t k
        refine k1 t ?_
        show Steps p.tables e below (T0.setTop (mkF m 62 #[.val (.int p1), .val (.long q2), .second, .val (.long q3), .second, .val (.long fl), .second, .val (.int d), .val (.long r), .second, .val (.long n), .second] [(.int (lcmpW (n &&& q2) (0 : Int64)))])) _
        refine XS.ifYes X0.here hx rfl (pc0 := 62) (pc' := 72) rfl (hb hby d4_62) rfl ((if0 _ _).trans (teq hc62_1).1) (by decide) (by decide) ?_
        exact k
      exact ⟨fl, T0, _, X0, e0, N0, (by unfold own_fl; first | rw [if_pos (by assumption)] | rw [if_neg (by assumption)]), k3⟩
    ·
      have k4 : ∀ t, Steps p.tables e below (T0.setTop (mkF m 72 #[.val (.int p1), .val (.long q2), .second, .val (.long q3), .second, .val (.long (fl ||| r)), .second, .val (.int d), .val (.long r), .second, .val (.long n), .second] [])) t → Steps p.tables e below (T0.setTop (mkF m 56 #[.val (.int p1), .val (.long q2), .second, .val (.long q3), .second, .val (.long fl), .second, .val (.int d), .val (.long r), .second, .val (.long n), .second] [])) t := by
        intro t k
        refine k1 t ?_
        show Steps p.tables e below (T0.setTop (mkF m 62 #[.val (.int p1), .val (.long q2), .second, .val (.long q3), .second, .val (.long fl), .second, .val (.int d), .val (.long r), .second, .val (.long n), .second] [(.int (lcmpW (n &&& q2) (0 : Int64)))])) _
        refine XS.ifNo X0.here hx rfl (hb hby d4_62) rfl ((if0 _ _).trans (feq hc62_1).1) ?_
        show Steps p.tables e below (T0.setTop (mkF m 65 #[.val (.int p1), .val (.long q2), .second, .val (.long q3), .second, .val (.long fl), .second, .val (.int d), .val (.long r), .second, .val (.long n), .second] [])) _
        refine XS.lload X0.here hx rfl (hb hby d4_65) rfl ?_
        show Steps p.tables e below (T0.setTop (mkF m 67 #[.val (.int p1), .val (.long q2), .second, .val (.long q3), .second, .val (.long fl), .second, .val (.int d), .val (.long r), .second, .val (.long n), .second] [(.long fl)])) _
        refine XS.lload X0.here hx rfl (hb hby d4_67) rfl ?_
        show Steps p.tables e below (T0.setTop (mkF m 69 #[.val (.int p1), .val (.long q2), .second, .val (.long q3), .second, .val (.long fl), .second, .val (.int d), .val (.long r), .second, .val (.long n), .second] [(.long r), (.long fl)])) _
        refine XS.lor X0.here hx rfl (hb hby d4_69) rfl ?_
        show Steps p.tables e below (T0.setTop (mkF m 70 #[.val (.int p1), .val (.long q2), .second, .val (.long q3), .second, .val (.long fl), .second, .val (.int d), .val (.long r), .second, .val (.long n), .second] [(.long (fl ||| r))])) _
        refine XS.lstore X0.here hx rfl (hb hby d4_70) rfl (l' := #[.val (.int p1), .val (.long q2), .second, .val (.long q3), .second, .val (.long (fl ||| r)), .second, .val (.int d), .val (.long r), .second, .val (.long n), .second]) rfl ?_
        exact k
      exact ⟨(fl ||| r), T0, _, X0, e0, N0, (by unfold own_fl; first | rw [if_pos (by assumption)] | rw [if_neg (by assumption)]), k4⟩
  subst hp2
  have k5 : ∀ t, Steps p.tables e below (T2.setTop (mkF m 6 #[.val (.int p1), .val (.long q2), .second, .val (.long q3), .second, .val (.long (own_fl q2 n r fl)), .second, .val (.int (d + (1 : Int32))), .val (.long r), .second, .val (.long n), .second] [])) t → Steps p.tables e below (T0.setTop (mkF m 56 #[.val (.int p1), .val (.long q2), .second, .val (.long q3), .second, .val (.long fl), .second, .val (.int d), .val (.long r), .second, .val (.long n), .second] [])) t := by
    intro t k
    refine k2 t ?_
    show Steps p.tables e below (T2.setTop (mkF m 72 #[.val (.int p1), .val (.long q2), .second, .val (.long q3), .second, .val (.long (own_fl q2 n r fl)), .second, .val (.int d), .val (.long r), .second, .val (.long n), .second] [])) _
    refine XS.iinc X2.here hx rfl (hb hby d4_72) rfl (l' := #[.val (.int p1), .val (.long q2), .second, .val (.long q3), .second, .val (.long (own_fl q2 n r fl)), .second, .val (.int (d + (1 : Int32))), .val (.long r), .second, .val (.long n), .second]) rfl ?_
    show Steps p.tables e below (T2.setTop (mkF m 75 #[.val (.int p1), .val (.long q2), .second, .val (.long q3), .second, .val (.long (own_fl q2 n r fl)), .second, .val (.int (d + (1 : Int32))), .val (.long r), .second, .val (.long n), .second] [])) _
    refine XS.goto X2.here hx rfl (pc0 := 75) (pc' := 6) rfl (hb hby d4_75) (by decide) (by decide) ?_
    exact k
  exact ⟨T2, _, X2, e2, N2, k5⟩
theorem own_loopF {p : Program} {l : Launch} {e : Env} {s : State} {m : MethodId} {args : Array Value} {below : List Frame} {meth : Method} {c : Code} {Z : State} {a0 : Array Value} {h0 : Heap} {n0 : Nat} {p1 : Int32} {q2 q3 fl : Int64} {d : Int32}  (hx : p.tables.exec = Jvm.exec) (hZ : Z.Warmed39 s.vm) (hw : ∀ d ∈ tables_1, d.before a0 Z = true) (hby : c.code = prog_43_method_3_code) (hml : c.maxLocals = 12) (hown : s.vm.findClass "com/example/counterply/counterply/othello/Board" = some m.cls) (Z0 : n0 ≤ h0.size) (S_STEPS : Sta Z h0 "com/example/counterply/counterply/othello/Board" "STEPS" "[I" (.ref w_STEPS)) (V_STEPS : Arv Z h0 w_STEPS kv_STEPS .int (8 : Int32) [(.int (1 : Int32)), (.int (-1 : Int32)), (.int (8 : Int32)), (.int (-8 : Int32)), (.int (9 : Int32)), (.int (-9 : Int32)), (.int (7 : Int32)), (.int (-7 : Int32))] (.int (0 : Int32))) (S_LANDINGS : Sta Z h0 "com/example/counterply/counterply/othello/Board" "LANDINGS" "[J" (.ref w_LANDINGS)) (V_LANDINGS : Arv Z h0 w_LANDINGS kv_LANDINGS .long (8 : Int32) [(.long (-72340172838076674 : Int64)), (.long (9187201950435737471 : Int64)), (.long (-1 : Int64)), (.long (-1 : Int64)), (.long (-72340172838076674 : Int64)), (.long (9187201950435737471 : Int64)), (.long (9187201950435737471 : Int64)), (.long (-72340172838076674 : Int64))] (.long (0 : Int64))) (hD : own_dirs d) : ∀ (k : Nat) (r n : Int64) (T0 : State) (locs : List Loc), Stand p l e ({ frames := 1, cells := 0, slots := 0, locals := 17 } : Room) s m args below meth c T0 locs 0 0 → T0.heap = h0 → Fr n0 locs → own_itS d k n = (0 : Int64) → ∃ (T' : State) (L' : List Loc), Stand p l e ({ frames := 1, cells := 0, slots := 0, locals := 17 } : Room) s m args below meth c T' L' 0 0 ∧ T'.heap = h0 ∧ Fr n0 L' ∧ ∀ t, Steps p.tables e below (T'.setTop (mkF m 56 #[.val (.int p1), .val (.long q2), .second, .val (.long q3), .second, .val (.long fl), .second, .val (.int d), .val (.long (own_scan d q3 k r n).1), .second, .val (.long (own_scan d q3 k r n).2), .second] [])) t → Steps p.tables e below (T0.setTop (mkF m 28 #[.val (.int p1), .val (.long q2), .second, .val (.long q3), .second, .val (.long fl), .second, .val (.int d), .val (.long r), .second, .val (.long n), .second] [])) t
  | 0, r, n, T0, locs, X0, e0, N0, hz => by
    have hc : (lcmpW (n &&& q3) (0 : Int64)) = (0 : Int32) := by
      have e : n = (0 : Int64) := hz
      rw [e, own_l0, Int64.toBitVec_and]
      show 0#64 &&& _ = 0#64
      simp
    exact own_fX X0 hx hZ hw hby hml hown e0 N0 Z0  hc
  | k + 1, r, n, T0, locs, X0, e0, N0, hz => by
    by_cases hc : (lcmpW (n &&& q3) (0 : Int64)) = (0 : Int32)
    · have e2 : own_scan d q3 (k + 1) r n = (r, n) := by rw [own_scan, if_pos hc]
      rw [e2]
      exact own_fX X0 hx hZ hw hby hml hown e0 N0 Z0  hc
    · have e2 : own_scan d q3 (k + 1) r n = own_scan d q3 k (r ||| n) (own_st d n) := by rw [own_scan, if_neg hc]
      rw [e2]
      obtain ⟨T1, L1, X1, e1, N1, s1⟩ := own_fT X0 hx hZ hw hby hml hown e0 N0 Z0 S_STEPS V_STEPS S_LANDINGS V_LANDINGS hc hD
      obtain ⟨T2, L2, X2, e2', N2, s2⟩ := own_loopF hx hZ hw hby hml hown Z0 S_STEPS V_STEPS S_LANDINGS V_LANDINGS hD k (r ||| n) (own_st d n) T1 L1 X1 e1 N1 hz
      exact ⟨T2, L2, X2, e2', N2, fun t kk => s1 t (s2 t kk)⟩
theorem own_turnU {p : Program} {l : Launch} {e : Env} {s : State} {m : MethodId} {args : Array Value} {below : List Frame} {meth : Method} {c : Code} {Z : State} {a0 : Array Value} {h0 : Heap} {n0 : Nat} {T0 : State} {locs : List Loc} {p1 : Int32} {q2 q3 fl : Int64} {d d' : Int32}  (X0 : Stand p l e ({ frames := 1, cells := 0, slots := 0, locals := 17 } : Room) s m args below meth c T0 locs 0 0) (hx : p.tables.exec = Jvm.exec) (hZ : Z.Warmed39 s.vm) (hw : ∀ d ∈ tables_1, d.before a0 Z = true) (hby : c.code = prog_43_method_3_code) (hml : c.maxLocals = 12) (hown : s.vm.findClass "com/example/counterply/counterply/othello/Board" = some m.cls) (Z0 : n0 ≤ h0.size) (e0 : T0.heap = h0) (N0 : Fr n0 locs) (S_STEPS : Sta Z h0 "com/example/counterply/counterply/othello/Board" "STEPS" "[I" (.ref w_STEPS)) (V_STEPS : Arv Z h0 w_STEPS kv_STEPS .int (8 : Int32) [(.int (1 : Int32)), (.int (-1 : Int32)), (.int (8 : Int32)), (.int (-8 : Int32)), (.int (9 : Int32)), (.int (-9 : Int32)), (.int (7 : Int32)), (.int (-7 : Int32))] (.int (0 : Int32))) (S_LANDINGS : Sta Z h0 "com/example/counterply/counterply/othello/Board" "LANDINGS" "[J" (.ref w_LANDINGS)) (V_LANDINGS : Arv Z h0 w_LANDINGS kv_LANDINGS .long (8 : Int32) [(.long (-72340172838076674 : Int64)), (.long (9187201950435737471 : Int64)), (.long (-1 : Int64)), (.long (-1 : Int64)), (.long (-72340172838076674 : Int64)), (.long (9187201950435737471 : Int64)), (.long (9187201950435737471 : Int64)), (.long (-72340172838076674 : Int64))] (.long (0 : Int64))) (hlt : d < (8 : Int32)) (hD : own_dirs d) (hd' : (d + (1 : Int32)) = d') : ∃ (T' : State) (L' : List Loc), Stand p l e ({ frames := 1, cells := 0, slots := 0, locals := 17 } : Room) s m args below meth c T' L' 0 0 ∧ T'.heap = h0 ∧ Fr n0 L' ∧ ∀ t, Steps p.tables e below (T'.setTop (mkF m 6 #[.val (.int p1), .val (.long q2), .second, .val (.long q3), .second, .val (.long (own_fl q2 (own_scan d q3 8 (0 : Int64) (own_st d ((1 : Int64) <<< (p1 &&& 0x3f).toInt64))).2 (own_scan d q3 8 (0 : Int64) (own_st d ((1 : Int64) <<< (p1 &&& 0x3f).toInt64))).1 fl)), .second, .val (.int d'), .val (.long (own_scan d q3 8 (0 : Int64) (own_st d ((1 : Int64) <<< (p1 &&& 0x3f).toInt64))).1), .second, .val (.long (own_scan d q3 8 (0 : Int64) (own_st d ((1 : Int64) <<< (p1 &&& 0x3f).toInt64))).2), .second] [])) t → Steps p.tables e below (T0.setTop (mkF m 6 #[.val (.int p1), .val (.long q2), .second, .val (.long q3), .second, .val (.long fl), .second, .val (.int d), .unset, .unset, .unset, .unset] [])) t := by
  subst hd'
  obtain ⟨T1, L1, X1, e1, N1, s1⟩ := own_fAu X0 hx hZ hw hby hml hown e0 N0 Z0 S_STEPS V_STEPS S_LANDINGS V_LANDINGS hlt hD
  obtain ⟨T2, L2, X2, e2, N2, s2⟩ := own_loopF (p1 := p1) (q2 := q2) (q3 := q3) (fl := fl) hx hZ hw hby hml hown Z0 S_STEPS V_STEPS S_LANDINGS V_LANDINGS hD 8 (0 : Int64) (own_st d ((1 : Int64) <<< (p1 &&& 0x3f).toInt64)) T1 L1 X1 e1 N1 (own_itS0 hD _)
  obtain ⟨T3, L3, X3, e3, N3, s3⟩ := own_fC (p1 := p1) (q2 := q2) (q3 := q3) (fl := fl) (d := d) X2 hx hZ hw hby hml hown e2 N2 Z0 
  exact ⟨T3, L3, X3, e3, N3, fun t kk => s1 t (s2 t (s3 t kk))⟩
theorem own_turnV {p : Program} {l : Launch} {e : Env} {s : State} {m : MethodId} {args : Array Value} {below : List Frame} {meth : Method} {c : Code} {Z : State} {a0 : Array Value} {h0 : Heap} {n0 : Nat} {T0 : State} {locs : List Loc} {p1 : Int32} {q2 q3 fl : Int64} {d d' : Int32} {x8 x10 : Int64}  (X0 : Stand p l e ({ frames := 1, cells := 0, slots := 0, locals := 17 } : Room) s m args below meth c T0 locs 0 0) (hx : p.tables.exec = Jvm.exec) (hZ : Z.Warmed39 s.vm) (hw : ∀ d ∈ tables_1, d.before a0 Z = true) (hby : c.code = prog_43_method_3_code) (hml : c.maxLocals = 12) (hown : s.vm.findClass "com/example/counterply/counterply/othello/Board" = some m.cls) (Z0 : n0 ≤ h0.size) (e0 : T0.heap = h0) (N0 : Fr n0 locs) (S_STEPS : Sta Z h0 "com/example/counterply/counterply/othello/Board" "STEPS" "[I" (.ref w_STEPS)) (V_STEPS : Arv Z h0 w_STEPS kv_STEPS .int (8 : Int32) [(.int (1 : Int32)), (.int (-1 : Int32)), (.int (8 : Int32)), (.int (-8 : Int32)), (.int (9 : Int32)), (.int (-9 : Int32)), (.int (7 : Int32)), (.int (-7 : Int32))] (.int (0 : Int32))) (S_LANDINGS : Sta Z h0 "com/example/counterply/counterply/othello/Board" "LANDINGS" "[J" (.ref w_LANDINGS)) (V_LANDINGS : Arv Z h0 w_LANDINGS kv_LANDINGS .long (8 : Int32) [(.long (-72340172838076674 : Int64)), (.long (9187201950435737471 : Int64)), (.long (-1 : Int64)), (.long (-1 : Int64)), (.long (-72340172838076674 : Int64)), (.long (9187201950435737471 : Int64)), (.long (9187201950435737471 : Int64)), (.long (-72340172838076674 : Int64))] (.long (0 : Int64))) (hlt : d < (8 : Int32)) (hD : own_dirs d) (hd' : (d + (1 : Int32)) = d') : ∃ (T' : State) (L' : List Loc), Stand p l e ({ frames := 1, cells := 0, slots := 0, locals := 17 } : Room) s m args below meth c T' L' 0 0 ∧ T'.heap = h0 ∧ Fr n0 L' ∧ ∀ t, Steps p.tables e below (T'.setTop (mkF m 6 #[.val (.int p1), .val (.long q2), .second, .val (.long q3), .second, .val (.long (own_fl q2 (own_scan d q3 8 (0 : Int64) (own_st d ((1 : Int64) <<< (p1 &&& 0x3f).toInt64))).2 (own_scan d q3 8 (0 : Int64) (own_st d ((1 : Int64) <<< (p1 &&& 0x3f).toInt64))).1 fl)), .second, .val (.int d'), .val (.long (own_scan d q3 8 (0 : Int64) (own_st d ((1 : Int64) <<< (p1 &&& 0x3f).toInt64))).1), .second, .val (.long (own_scan d q3 8 (0 : Int64) (own_st d ((1 : Int64) <<< (p1 &&& 0x3f).toInt64))).2), .second] [])) t → Steps p.tables e below (T0.setTop (mkF m 6 #[.val (.int p1), .val (.long q2), .second, .val (.long q3), .second, .val (.long fl), .second, .val (.int d), .val (.long x8), .second, .val (.long x10), .second] [])) t := by
  subst hd'
  obtain ⟨T1, L1, X1, e1, N1, s1⟩ := own_fAv X0 hx hZ hw hby hml hown e0 N0 Z0 S_STEPS V_STEPS S_LANDINGS V_LANDINGS hlt hD
  obtain ⟨T2, L2, X2, e2, N2, s2⟩ := own_loopF (p1 := p1) (q2 := q2) (q3 := q3) (fl := fl) hx hZ hw hby hml hown Z0 S_STEPS V_STEPS S_LANDINGS V_LANDINGS hD 8 (0 : Int64) (own_st d ((1 : Int64) <<< (p1 &&& 0x3f).toInt64)) T1 L1 X1 e1 N1 (own_itS0 hD _)
  obtain ⟨T3, L3, X3, e3, N3, s3⟩ := own_fC (p1 := p1) (q2 := q2) (q3 := q3) (fl := fl) (d := d) X2 hx hZ hw hby hml hown e2 N2 Z0 
  exact ⟨T3, L3, X3, e3, N3, fun t kk => s1 t (s2 t (s3 t kk))⟩
theorem d4_78 : decode prog_43_method_3_code 78 = .ok (.lload 5, 2) := by decide +kernel
theorem d4_80 : decode prog_43_method_3_code 80 = .ok (.lreturn, 1) := by decide +kernel
theorem ef_rm4_0 (m : MethodId) (x0 : Int32) (x1 : Int64) (x2 : Int64) : entryFrame m #[(.int x0), (.long x1), (.long x2)] 12 = mkF m 0 #[.val (.int x0), .val (.long x1), .second, .val (.long x2), .second, .unset, .unset, .unset, .unset, .unset, .unset, .unset] [] := by first | (simp [entryFrame, mkF, argsToLocals, Value.category]; done) | rfl
def Q4_0 (Z : State) (p1 : Int32) (q2 : Int64) (q3 : Int64) (w_STEPS : Addr) (kv_STEPS : ClassId) (w_LANDINGS : Addr) (kv_LANDINGS : ClassId) (h0 : Heap) (n0 : Nat) (v : Option Value) (h : Heap) (L : List Loc) : Prop := v = some (.long (own_flips p1 q2 q3)) ∧ Fr n0 L ∧ h = h0
set_option maxRecDepth 65536 in
set_option maxHeartbeats 40000000 in
theorem rm4_0 (l : Launch) (Z : State) (a0 : Array Value) (hw : ∀ d ∈ tables_1, d.before a0 Z = true) (ws : List Jvm.Cond) (p1 : Int32) (q2 : Int64) (q3 : Int64) (w_STEPS : Addr) (kv_STEPS : ClassId) (w_LANDINGS : Addr) (kv_LANDINGS : ClassId) (h0 : Heap) (n0 : Nat) (Z0 : n0 ≤ h0.size) (S_STEPS : Sta Z h0 "com/example/counterply/counterply/othello/Board" "STEPS" "[I" (.ref w_STEPS)) (V_STEPS : Arv Z h0 w_STEPS kv_STEPS .int (8 : Int32) [(.int (1 : Int32)), (.int (-1 : Int32)), (.int (8 : Int32)), (.int (-8 : Int32)), (.int (9 : Int32)), (.int (-9 : Int32)), (.int (7 : Int32)), (.int (-7 : Int32))] (.int (0 : Int32))) (S_LANDINGS : Sta Z h0 "com/example/counterply/counterply/othello/Board" "LANDINGS" "[J" (.ref w_LANDINGS)) (V_LANDINGS : Arv Z h0 w_LANDINGS kv_LANDINGS .long (8 : Int32) [(.long (-72340172838076674 : Int64)), (.long (9187201950435737471 : Int64)), (.long (-1 : Int64)), (.long (-1 : Int64)), (.long (-72340172838076674 : Int64)), (.long (9187201950435737471 : Int64)), (.long (9187201950435737471 : Int64)), (.long (-72340172838076674 : Int64))] (.long (0 : Int64))) :
    MetFree l (⟨"com/example/counterply/counterply/othello/Board", "flips", "(IJJ)J"⟩ : MethodName) (head1 (Jvm.Cond.code (⟨"com/example/counterply/counterply/othello/Board", "flips", "(IJJ)J"⟩ : MethodName) prog_43_method_3_code 12 (some .long) :: ws) ({ frames := 1, cells := 0, slots := 0, locals := 17 } : Room)) (fun a U => a = #[(.int p1), (.long q2), (.long q3)] ∧ Z.Warmed39 U.vm ∧ U.heap = h0) (fun _ _ _ _ _ => True) (fun _ U o U' => ∃ v L, o = .returned v ∧ Q4_0 Z p1 q2 q3 w_STEPS kv_STEPS w_LANDINGS kv_LANDINGS h0 n0 v U'.heap L ∧ FrameEnd U o U' L ({ frames := 1, cells := 0, slots := 0, locals := 17 } : Room).cells ({ frames := 1, cells := 0, slots := 0, locals := 17 } : Room).slots) := by
  refine MetFree.of_bodySF (plainFor_of_name pn_0) hisR ?_
  intro p e s m args below meth c s₁ Bd hml0 hP hK
  obtain ⟨rfl, hZ, hh⟩ := hP
  have hx := Bd.exec
  have hby := Bd.bytes
  have hml : c.maxLocals = 12 := hml0
  have hown : s.vm.findClass "com/example/counterply/counterply/othello/Board" = some m.cls := findClass_of_methodNamed Bd.named
  have hnm := (name_of_methodNamed Bd.named Bd.method).1
  have X0 : Stand p l e ({ frames := 1, cells := 0, slots := 0, locals := 17 } : Room) s m #[(.int p1), (.long q2), (.long q3)] below meth c s₁ [] 0 0 := Stand.of_body Bd
  have e0 : s₁.heap = h0 := by rw [← hh, Bd.state]; rfl
  have N0 := Fr.nil n0
  have pre0 : ∀ t, Steps p.tables e below (s₁.setTop (mkF m 0 #[.val (.int p1), .val (.long q2), .second, .val (.long q3), .second, .unset, .unset, .unset, .unset, .unset, .unset, .unset] [])) t → Steps p.tables e below (s₁.setTop (entryFrame m #[(.int p1), (.long q2), (.long q3)] 12)) t := fun t k => castTop (ef_rm4_0 m p1 q2 q3) k
  obtain ⟨T1, L1, X1, e1, N1, s1⟩ := own_turnU (p1 := p1) (q2 := q2) (q3 := q3) (fl := (0 : Int64)) (d := (0 : Int32)) (d' := (1 : Int32)) X0 hx hZ hw hby hml hown Z0 e0 N0 S_STEPS V_STEPS S_LANDINGS V_LANDINGS (by decide) (by decide) (by decide)
  obtain ⟨T2, L2, X2, e2, N2, s2⟩ := own_turnV (p1 := p1) (q2 := q2) (q3 := q3) (fl := (own_fl q2 (own_scan (0 : Int32) q3 8 (0 : Int64) (own_st (0 : Int32) ((1 : Int64) <<< (p1 &&& 0x3f).toInt64))).2 (own_scan (0 : Int32) q3 8 (0 : Int64) (own_st (0 : Int32) ((1 : Int64) <<< (p1 &&& 0x3f).toInt64))).1 (0 : Int64))) (d := (1 : Int32)) (d' := (2 : Int32)) X1 hx hZ hw hby hml hown Z0 e1 N1 S_STEPS V_STEPS S_LANDINGS V_LANDINGS (by decide) (by decide) (by decide)
  obtain ⟨T3, L3, X3, e3, N3, s3⟩ := own_turnV (p1 := p1) (q2 := q2) (q3 := q3) (fl := (own_fl q2 (own_scan (1 : Int32) q3 8 (0 : Int64) (own_st (1 : Int32) ((1 : Int64) <<< (p1 &&& 0x3f).toInt64))).2 (own_scan (1 : Int32) q3 8 (0 : Int64) (own_st (1 : Int32) ((1 : Int64) <<< (p1 &&& 0x3f).toInt64))).1 (own_fl q2 (own_scan (0 : Int32) q3 8 (0 : Int64) (own_st (0 : Int32) ((1 : Int64) <<< (p1 &&& 0x3f).toInt64))).2 (own_scan (0 : Int32) q3 8 (0 : Int64) (own_st (0 : Int32) ((1 : Int64) <<< (p1 &&& 0x3f).toInt64))).1 (0 : Int64)))) (d := (2 : Int32)) (d' := (3 : Int32)) X2 hx hZ hw hby hml hown Z0 e2 N2 S_STEPS V_STEPS S_LANDINGS V_LANDINGS (by decide) (by decide) (by decide)
  obtain ⟨T4, L4, X4, e4, N4, s4⟩ := own_turnV (p1 := p1) (q2 := q2) (q3 := q3) (fl := (own_fl q2 (own_scan (2 : Int32) q3 8 (0 : Int64) (own_st (2 : Int32) ((1 : Int64) <<< (p1 &&& 0x3f).toInt64))).2 (own_scan (2 : Int32) q3 8 (0 : Int64) (own_st (2 : Int32) ((1 : Int64) <<< (p1 &&& 0x3f).toInt64))).1 (own_fl q2 (own_scan (1 : Int32) q3 8 (0 : Int64) (own_st (1 : Int32) ((1 : Int64) <<< (p1 &&& 0x3f).toInt64))).2 (own_scan (1 : Int32) q3 8 (0 : Int64) (own_st (1 : Int32) ((1 : Int64) <<< (p1 &&& 0x3f).toInt64))).1 (own_fl q2 (own_scan (0 : Int32) q3 8 (0 : Int64) (own_st (0 : Int32) ((1 : Int64) <<< (p1 &&& 0x3f).toInt64))).2 (own_scan (0 : Int32) q3 8 (0 : Int64) (own_st (0 : Int32) ((1 : Int64) <<< (p1 &&& 0x3f).toInt64))).1 (0 : Int64))))) (d := (3 : Int32)) (d' := (4 : Int32)) X3 hx hZ hw hby hml hown Z0 e3 N3 S_STEPS V_STEPS S_LANDINGS V_LANDINGS (by decide) (by decide) (by decide)
  obtain ⟨T5, L5, X5, e5, N5, s5⟩ := own_turnV (p1 := p1) (q2 := q2) (q3 := q3) (fl := (own_fl q2 (own_scan (3 : Int32) q3 8 (0 : Int64) (own_st (3 : Int32) ((1 : Int64) <<< (p1 &&& 0x3f).toInt64))).2 (own_scan (3 : Int32) q3 8 (0 : Int64) (own_st (3 : Int32) ((1 : Int64) <<< (p1 &&& 0x3f).toInt64))).1 (own_fl q2 (own_scan (2 : Int32) q3 8 (0 : Int64) (own_st (2 : Int32) ((1 : Int64) <<< (p1 &&& 0x3f).toInt64))).2 (own_scan (2 : Int32) q3 8 (0 : Int64) (own_st (2 : Int32) ((1 : Int64) <<< (p1 &&& 0x3f).toInt64))).1 (own_fl q2 (own_scan (1 : Int32) q3 8 (0 : Int64) (own_st (1 : Int32) ((1 : Int64) <<< (p1 &&& 0x3f).toInt64))).2 (own_scan (1 : Int32) q3 8 (0 : Int64) (own_st (1 : Int32) ((1 : Int64) <<< (p1 &&& 0x3f).toInt64))).1 (own_fl q2 (own_scan (0 : Int32) q3 8 (0 : Int64) (own_st (0 : Int32) ((1 : Int64) <<< (p1 &&& 0x3f).toInt64))).2 (own_scan (0 : Int32) q3 8 (0 : Int64) (own_st (0 : Int32) ((1 : Int64) <<< (p1 &&& 0x3f).toInt64))).1 (0 : Int64)))))) (d := (4 : Int32)) (d' := (5 : Int32)) X4 hx hZ hw hby hml hown Z0 e4 N4 S_STEPS V_STEPS S_LANDINGS V_LANDINGS (by decide) (by decide) (by decide)
  obtain ⟨T6, L6, X6, e6, N6, s6⟩ := own_turnV (p1 := p1) (q2 := q2) (q3 := q3) (fl := (own_fl q2 (own_scan (4 : Int32) q3 8 (0 : Int64) (own_st (4 : Int32) ((1 : Int64) <<< (p1 &&& 0x3f).toInt64))).2 (own_scan (4 : Int32) q3 8 (0 : Int64) (own_st (4 : Int32) ((1 : Int64) <<< (p1 &&& 0x3f).toInt64))).1 (own_fl q2 (own_scan (3 : Int32) q3 8 (0 : Int64) (own_st (3 : Int32) ((1 : Int64) <<< (p1 &&& 0x3f).toInt64))).2 (own_scan (3 : Int32) q3 8 (0 : Int64) (own_st (3 : Int32) ((1 : Int64) <<< (p1 &&& 0x3f).toInt64))).1 (own_fl q2 (own_scan (2 : Int32) q3 8 (0 : Int64) (own_st (2 : Int32) ((1 : Int64) <<< (p1 &&& 0x3f).toInt64))).2 (own_scan (2 : Int32) q3 8 (0 : Int64) (own_st (2 : Int32) ((1 : Int64) <<< (p1 &&& 0x3f).toInt64))).1 (own_fl q2 (own_scan (1 : Int32) q3 8 (0 : Int64) (own_st (1 : Int32) ((1 : Int64) <<< (p1 &&& 0x3f).toInt64))).2 (own_scan (1 : Int32) q3 8 (0 : Int64) (own_st (1 : Int32) ((1 : Int64) <<< (p1 &&& 0x3f).toInt64))).1 (own_fl q2 (own_scan (0 : Int32) q3 8 (0 : Int64) (own_st (0 : Int32) ((1 : Int64) <<< (p1 &&& 0x3f).toInt64))).2 (own_scan (0 : Int32) q3 8 (0 : Int64) (own_st (0 : Int32) ((1 : Int64) <<< (p1 &&& 0x3f).toInt64))).1 (0 : Int64))))))) (d := (5 : Int32)) (d' := (6 : Int32)) X5 hx hZ hw hby hml hown Z0 e5 N5 S_STEPS V_STEPS S_LANDINGS V_LANDINGS (by decide) (by decide) (by decide)
  obtain ⟨T7, L7, X7, e7, N7, s7⟩ := own_turnV (p1 := p1) (q2 := q2) (q3 := q3) (fl := (own_fl q2 (own_scan (5 : Int32) q3 8 (0 : Int64) (own_st (5 : Int32) ((1 : Int64) <<< (p1 &&& 0x3f).toInt64))).2 (own_scan (5 : Int32) q3 8 (0 : Int64) (own_st (5 : Int32) ((1 : Int64) <<< (p1 &&& 0x3f).toInt64))).1 (own_fl q2 (own_scan (4 : Int32) q3 8 (0 : Int64) (own_st (4 : Int32) ((1 : Int64) <<< (p1 &&& 0x3f).toInt64))).2 (own_scan (4 : Int32) q3 8 (0 : Int64) (own_st (4 : Int32) ((1 : Int64) <<< (p1 &&& 0x3f).toInt64))).1 (own_fl q2 (own_scan (3 : Int32) q3 8 (0 : Int64) (own_st (3 : Int32) ((1 : Int64) <<< (p1 &&& 0x3f).toInt64))).2 (own_scan (3 : Int32) q3 8 (0 : Int64) (own_st (3 : Int32) ((1 : Int64) <<< (p1 &&& 0x3f).toInt64))).1 (own_fl q2 (own_scan (2 : Int32) q3 8 (0 : Int64) (own_st (2 : Int32) ((1 : Int64) <<< (p1 &&& 0x3f).toInt64))).2 (own_scan (2 : Int32) q3 8 (0 : Int64) (own_st (2 : Int32) ((1 : Int64) <<< (p1 &&& 0x3f).toInt64))).1 (own_fl q2 (own_scan (1 : Int32) q3 8 (0 : Int64) (own_st (1 : Int32) ((1 : Int64) <<< (p1 &&& 0x3f).toInt64))).2 (own_scan (1 : Int32) q3 8 (0 : Int64) (own_st (1 : Int32) ((1 : Int64) <<< (p1 &&& 0x3f).toInt64))).1 (own_fl q2 (own_scan (0 : Int32) q3 8 (0 : Int64) (own_st (0 : Int32) ((1 : Int64) <<< (p1 &&& 0x3f).toInt64))).2 (own_scan (0 : Int32) q3 8 (0 : Int64) (own_st (0 : Int32) ((1 : Int64) <<< (p1 &&& 0x3f).toInt64))).1 (0 : Int64)))))))) (d := (6 : Int32)) (d' := (7 : Int32)) X6 hx hZ hw hby hml hown Z0 e6 N6 S_STEPS V_STEPS S_LANDINGS V_LANDINGS (by decide) (by decide) (by decide)
  obtain ⟨T8, L8, X8, e8, N8, s8⟩ := own_turnV (p1 := p1) (q2 := q2) (q3 := q3) (fl := (own_fl q2 (own_scan (6 : Int32) q3 8 (0 : Int64) (own_st (6 : Int32) ((1 : Int64) <<< (p1 &&& 0x3f).toInt64))).2 (own_scan (6 : Int32) q3 8 (0 : Int64) (own_st (6 : Int32) ((1 : Int64) <<< (p1 &&& 0x3f).toInt64))).1 (own_fl q2 (own_scan (5 : Int32) q3 8 (0 : Int64) (own_st (5 : Int32) ((1 : Int64) <<< (p1 &&& 0x3f).toInt64))).2 (own_scan (5 : Int32) q3 8 (0 : Int64) (own_st (5 : Int32) ((1 : Int64) <<< (p1 &&& 0x3f).toInt64))).1 (own_fl q2 (own_scan (4 : Int32) q3 8 (0 : Int64) (own_st (4 : Int32) ((1 : Int64) <<< (p1 &&& 0x3f).toInt64))).2 (own_scan (4 : Int32) q3 8 (0 : Int64) (own_st (4 : Int32) ((1 : Int64) <<< (p1 &&& 0x3f).toInt64))).1 (own_fl q2 (own_scan (3 : Int32) q3 8 (0 : Int64) (own_st (3 : Int32) ((1 : Int64) <<< (p1 &&& 0x3f).toInt64))).2 (own_scan (3 : Int32) q3 8 (0 : Int64) (own_st (3 : Int32) ((1 : Int64) <<< (p1 &&& 0x3f).toInt64))).1 (own_fl q2 (own_scan (2 : Int32) q3 8 (0 : Int64) (own_st (2 : Int32) ((1 : Int64) <<< (p1 &&& 0x3f).toInt64))).2 (own_scan (2 : Int32) q3 8 (0 : Int64) (own_st (2 : Int32) ((1 : Int64) <<< (p1 &&& 0x3f).toInt64))).1 (own_fl q2 (own_scan (1 : Int32) q3 8 (0 : Int64) (own_st (1 : Int32) ((1 : Int64) <<< (p1 &&& 0x3f).toInt64))).2 (own_scan (1 : Int32) q3 8 (0 : Int64) (own_st (1 : Int32) ((1 : Int64) <<< (p1 &&& 0x3f).toInt64))).1 (own_fl q2 (own_scan (0 : Int32) q3 8 (0 : Int64) (own_st (0 : Int32) ((1 : Int64) <<< (p1 &&& 0x3f).toInt64))).2 (own_scan (0 : Int32) q3 8 (0 : Int64) (own_st (0 : Int32) ((1 : Int64) <<< (p1 &&& 0x3f).toInt64))).1 (0 : Int64))))))))) (d := (7 : Int32)) (d' := (8 : Int32)) X7 hx hZ hw hby hml hown Z0 e7 N7 S_STEPS V_STEPS S_LANDINGS V_LANDINGS (by decide) (by decide) (by decide)
  obtain ⟨T9, X9, e9, st9⟩ := getS2 X8 hx hZ hown (host := "") (Or.inl (hw _ (List.mem_of_getElem? (i := 6) rfl))) Via.refl e8 S_STEPS (g := (mkF m 8 #[.val (.int p1), .val (.long q2), .second, .val (.long q3), .second, .val (.long (own_fl q2 (own_scan (7 : Int32) q3 8 (0 : Int64) (own_st (7 : Int32) ((1 : Int64) <<< (p1 &&& 0x3f).toInt64))).2 (own_scan (7 : Int32) q3 8 (0 : Int64) (own_st (7 : Int32) ((1 : Int64) <<< (p1 &&& 0x3f).toInt64))).1 (own_fl q2 (own_scan (6 : Int32) q3 8 (0 : Int64) (own_st (6 : Int32) ((1 : Int64) <<< (p1 &&& 0x3f).toInt64))).2 (own_scan (6 : Int32) q3 8 (0 : Int64) (own_st (6 : Int32) ((1 : Int64) <<< (p1 &&& 0x3f).toInt64))).1 (own_fl q2 (own_scan (5 : Int32) q3 8 (0 : Int64) (own_st (5 : Int32) ((1 : Int64) <<< (p1 &&& 0x3f).toInt64))).2 (own_scan (5 : Int32) q3 8 (0 : Int64) (own_st (5 : Int32) ((1 : Int64) <<< (p1 &&& 0x3f).toInt64))).1 (own_fl q2 (own_scan (4 : Int32) q3 8 (0 : Int64) (own_st (4 : Int32) ((1 : Int64) <<< (p1 &&& 0x3f).toInt64))).2 (own_scan (4 : Int32) q3 8 (0 : Int64) (own_st (4 : Int32) ((1 : Int64) <<< (p1 &&& 0x3f).toInt64))).1 (own_fl q2 (own_scan (3 : Int32) q3 8 (0 : Int64) (own_st (3 : Int32) ((1 : Int64) <<< (p1 &&& 0x3f).toInt64))).2 (own_scan (3 : Int32) q3 8 (0 : Int64) (own_st (3 : Int32) ((1 : Int64) <<< (p1 &&& 0x3f).toInt64))).1 (own_fl q2 (own_scan (2 : Int32) q3 8 (0 : Int64) (own_st (2 : Int32) ((1 : Int64) <<< (p1 &&& 0x3f).toInt64))).2 (own_scan (2 : Int32) q3 8 (0 : Int64) (own_st (2 : Int32) ((1 : Int64) <<< (p1 &&& 0x3f).toInt64))).1 (own_fl q2 (own_scan (1 : Int32) q3 8 (0 : Int64) (own_st (1 : Int32) ((1 : Int64) <<< (p1 &&& 0x3f).toInt64))).2 (own_scan (1 : Int32) q3 8 (0 : Int64) (own_st (1 : Int32) ((1 : Int64) <<< (p1 &&& 0x3f).toInt64))).1 (own_fl q2 (own_scan (0 : Int32) q3 8 (0 : Int64) (own_st (0 : Int32) ((1 : Int64) <<< (p1 &&& 0x3f).toInt64))).2 (own_scan (0 : Int32) q3 8 (0 : Int64) (own_st (0 : Int32) ((1 : Int64) <<< (p1 &&& 0x3f).toInt64))).1 (0 : Int64)))))))))), .second, .val (.int (8 : Int32)), .val (.long (own_scan (7 : Int32) q3 8 (0 : Int64) (own_st (7 : Int32) ((1 : Int64) <<< (p1 &&& 0x3f).toInt64))).1), .second, .val (.long (own_scan (7 : Int32) q3 8 (0 : Int64) (own_st (7 : Int32) ((1 : Int64) <<< (p1 &&& 0x3f).toInt64))).2), .second] [(.int (8 : Int32))])) rfl (hb hby d4_8)
  obtain ⟨cl10, Ar10, qq10, Sz10, Nn10, Hs10, Gs10⟩ := id V_STEPS
  obtain ⟨fs, hr, hrun, hended, hW, hsame⟩ := X9.leave (v := some (.long (own_fl q2 (own_scan (7 : Int32) q3 8 (0 : Int64) (own_st (7 : Int32) ((1 : Int64) <<< (p1 &&& 0x3f).toInt64))).2 (own_scan (7 : Int32) q3 8 (0 : Int64) (own_st (7 : Int32) ((1 : Int64) <<< (p1 &&& 0x3f).toInt64))).1 (own_fl q2 (own_scan (6 : Int32) q3 8 (0 : Int64) (own_st (6 : Int32) ((1 : Int64) <<< (p1 &&& 0x3f).toInt64))).2 (own_scan (6 : Int32) q3 8 (0 : Int64) (own_st (6 : Int32) ((1 : Int64) <<< (p1 &&& 0x3f).toInt64))).1 (own_fl q2 (own_scan (5 : Int32) q3 8 (0 : Int64) (own_st (5 : Int32) ((1 : Int64) <<< (p1 &&& 0x3f).toInt64))).2 (own_scan (5 : Int32) q3 8 (0 : Int64) (own_st (5 : Int32) ((1 : Int64) <<< (p1 &&& 0x3f).toInt64))).1 (own_fl q2 (own_scan (4 : Int32) q3 8 (0 : Int64) (own_st (4 : Int32) ((1 : Int64) <<< (p1 &&& 0x3f).toInt64))).2 (own_scan (4 : Int32) q3 8 (0 : Int64) (own_st (4 : Int32) ((1 : Int64) <<< (p1 &&& 0x3f).toInt64))).1 (own_fl q2 (own_scan (3 : Int32) q3 8 (0 : Int64) (own_st (3 : Int32) ((1 : Int64) <<< (p1 &&& 0x3f).toInt64))).2 (own_scan (3 : Int32) q3 8 (0 : Int64) (own_st (3 : Int32) ((1 : Int64) <<< (p1 &&& 0x3f).toInt64))).1 (own_fl q2 (own_scan (2 : Int32) q3 8 (0 : Int64) (own_st (2 : Int32) ((1 : Int64) <<< (p1 &&& 0x3f).toInt64))).2 (own_scan (2 : Int32) q3 8 (0 : Int64) (own_st (2 : Int32) ((1 : Int64) <<< (p1 &&& 0x3f).toInt64))).1 (own_fl q2 (own_scan (1 : Int32) q3 8 (0 : Int64) (own_st (1 : Int32) ((1 : Int64) <<< (p1 &&& 0x3f).toInt64))).2 (own_scan (1 : Int32) q3 8 (0 : Int64) (own_st (1 : Int32) ((1 : Int64) <<< (p1 &&& 0x3f).toInt64))).1 (own_fl q2 (own_scan (0 : Int32) q3 8 (0 : Int64) (own_st (0 : Int32) ((1 : Int64) <<< (p1 &&& 0x3f).toInt64))).2 (own_scan (0 : Int32) q3 8 (0 : Int64) (own_st (0 : Int32) ((1 : Int64) <<< (p1 &&& 0x3f).toInt64))).1 (0 : Int64))))))))))) (fun h => by rw [Bd.returns] at h; cases h)
  refine ⟨_, _, pre0 _ ?_, hrun, hended, _, _, rfl, ?_, ⟨_, rfl⟩, hW, hsame.mono (by decide) (by decide)⟩
  ·
    show Steps p.tables e below (s₁.setTop (mkF m 0 #[.val (.int p1), .val (.long q2), .second, .val (.long q3), .second, .unset, .unset, .unset, .unset, .unset, .unset, .unset] [])) _
    refine XS.lconst X0.here hx rfl (hb hby d4_0) ?_
    show Steps p.tables e below (s₁.setTop (mkF m 1 #[.val (.int p1), .val (.long q2), .second, .val (.long q3), .second, .unset, .unset, .unset, .unset, .unset, .unset, .unset] [(.long (0 : Int64))])) _
    refine XS.lstore X0.here hx rfl (hb hby d4_1) rfl (l' := #[.val (.int p1), .val (.long q2), .second, .val (.long q3), .second, .val (.long (0 : Int64)), .second, .unset, .unset, .unset, .unset, .unset]) rfl ?_
    show Steps p.tables e below (s₁.setTop (mkF m 3 #[.val (.int p1), .val (.long q2), .second, .val (.long q3), .second, .val (.long (0 : Int64)), .second, .unset, .unset, .unset, .unset, .unset] [])) _
    refine XS.iconst X0.here hx rfl (hb hby d4_3) ?_
    show Steps p.tables e below (s₁.setTop (mkF m 4 #[.val (.int p1), .val (.long q2), .second, .val (.long q3), .second, .val (.long (0 : Int64)), .second, .unset, .unset, .unset, .unset, .unset] [(.int (0 : Int32))])) _
    refine XS.istore X0.here hx rfl (hb hby d4_4) rfl (l' := #[.val (.int p1), .val (.long q2), .second, .val (.long q3), .second, .val (.long (0 : Int64)), .second, .val (.int (0 : Int32)), .unset, .unset, .unset, .unset]) rfl ?_
    show Steps p.tables e below (s₁.setTop (mkF m 6 #[.val (.int p1), .val (.long q2), .second, .val (.long q3), .second, .val (.long (0 : Int64)), .second, .val (.int (0 : Int32)), .unset, .unset, .unset, .unset] [])) _
    refine s1 _ ?_
    show Steps p.tables e below (T1.setTop (mkF m 6 #[.val (.int p1), .val (.long q2), .second, .val (.long q3), .second, .val (.long (own_fl q2 (own_scan (0 : Int32) q3 8 (0 : Int64) (own_st (0 : Int32) ((1 : Int64) <<< (p1 &&& 0x3f).toInt64))).2 (own_scan (0 : Int32) q3 8 (0 : Int64) (own_st (0 : Int32) ((1 : Int64) <<< (p1 &&& 0x3f).toInt64))).1 (0 : Int64))), .second, .val (.int (1 : Int32)), .val (.long (own_scan (0 : Int32) q3 8 (0 : Int64) (own_st (0 : Int32) ((1 : Int64) <<< (p1 &&& 0x3f).toInt64))).1), .second, .val (.long (own_scan (0 : Int32) q3 8 (0 : Int64) (own_st (0 : Int32) ((1 : Int64) <<< (p1 &&& 0x3f).toInt64))).2), .second] [])) _
    refine s2 _ ?_
    show Steps p.tables e below (T2.setTop (mkF m 6 #[.val (.int p1), .val (.long q2), .second, .val (.long q3), .second, .val (.long (own_fl q2 (own_scan (1 : Int32) q3 8 (0 : Int64) (own_st (1 : Int32) ((1 : Int64) <<< (p1 &&& 0x3f).toInt64))).2 (own_scan (1 : Int32) q3 8 (0 : Int64) (own_st (1 : Int32) ((1 : Int64) <<< (p1 &&& 0x3f).toInt64))).1 (own_fl q2 (own_scan (0 : Int32) q3 8 (0 : Int64) (own_st (0 : Int32) ((1 : Int64) <<< (p1 &&& 0x3f).toInt64))).2 (own_scan (0 : Int32) q3 8 (0 : Int64) (own_st (0 : Int32) ((1 : Int64) <<< (p1 &&& 0x3f).toInt64))).1 (0 : Int64)))), .second, .val (.int (2 : Int32)), .val (.long (own_scan (1 : Int32) q3 8 (0 : Int64) (own_st (1 : Int32) ((1 : Int64) <<< (p1 &&& 0x3f).toInt64))).1), .second, .val (.long (own_scan (1 : Int32) q3 8 (0 : Int64) (own_st (1 : Int32) ((1 : Int64) <<< (p1 &&& 0x3f).toInt64))).2), .second] [])) _
    refine s3 _ ?_
    show Steps p.tables e below (T3.setTop (mkF m 6 #[.val (.int p1), .val (.long q2), .second, .val (.long q3), .second, .val (.long (own_fl q2 (own_scan (2 : Int32) q3 8 (0 : Int64) (own_st (2 : Int32) ((1 : Int64) <<< (p1 &&& 0x3f).toInt64))).2 (own_scan (2 : Int32) q3 8 (0 : Int64) (own_st (2 : Int32) ((1 : Int64) <<< (p1 &&& 0x3f).toInt64))).1 (own_fl q2 (own_scan (1 : Int32) q3 8 (0 : Int64) (own_st (1 : Int32) ((1 : Int64) <<< (p1 &&& 0x3f).toInt64))).2 (own_scan (1 : Int32) q3 8 (0 : Int64) (own_st (1 : Int32) ((1 : Int64) <<< (p1 &&& 0x3f).toInt64))).1 (own_fl q2 (own_scan (0 : Int32) q3 8 (0 : Int64) (own_st (0 : Int32) ((1 : Int64) <<< (p1 &&& 0x3f).toInt64))).2 (own_scan (0 : Int32) q3 8 (0 : Int64) (own_st (0 : Int32) ((1 : Int64) <<< (p1 &&& 0x3f).toInt64))).1 (0 : Int64))))), .second, .val (.int (3 : Int32)), .val (.long (own_scan (2 : Int32) q3 8 (0 : Int64) (own_st (2 : Int32) ((1 : Int64) <<< (p1 &&& 0x3f).toInt64))).1), .second, .val (.long (own_scan (2 : Int32) q3 8 (0 : Int64) (own_st (2 : Int32) ((1 : Int64) <<< (p1 &&& 0x3f).toInt64))).2), .second] [])) _
    refine s4 _ ?_
    show Steps p.tables e below (T4.setTop (mkF m 6 #[.val (.int p1), .val (.long q2), .second, .val (.long q3), .second, .val (.long (own_fl q2 (own_scan (3 : Int32) q3 8 (0 : Int64) (own_st (3 : Int32) ((1 : Int64) <<< (p1 &&& 0x3f).toInt64))).2 (own_scan (3 : Int32) q3 8 (0 : Int64) (own_st (3 : Int32) ((1 : Int64) <<< (p1 &&& 0x3f).toInt64))).1 (own_fl q2 (own_scan (2 : Int32) q3 8 (0 : Int64) (own_st (2 : Int32) ((1 : Int64) <<< (p1 &&& 0x3f).toInt64))).2 (own_scan (2 : Int32) q3 8 (0 : Int64) (own_st (2 : Int32) ((1 : Int64) <<< (p1 &&& 0x3f).toInt64))).1 (own_fl q2 (own_scan (1 : Int32) q3 8 (0 : Int64) (own_st (1 : Int32) ((1 : Int64) <<< (p1 &&& 0x3f).toInt64))).2 (own_scan (1 : Int32) q3 8 (0 : Int64) (own_st (1 : Int32) ((1 : Int64) <<< (p1 &&& 0x3f).toInt64))).1 (own_fl q2 (own_scan (0 : Int32) q3 8 (0 : Int64) (own_st (0 : Int32) ((1 : Int64) <<< (p1 &&& 0x3f).toInt64))).2 (own_scan (0 : Int32) q3 8 (0 : Int64) (own_st (0 : Int32) ((1 : Int64) <<< (p1 &&& 0x3f).toInt64))).1 (0 : Int64)))))), .second, .val (.int (4 : Int32)), .val (.long (own_scan (3 : Int32) q3 8 (0 : Int64) (own_st (3 : Int32) ((1 : Int64) <<< (p1 &&& 0x3f).toInt64))).1), .second, .val (.long (own_scan (3 : Int32) q3 8 (0 : Int64) (own_st (3 : Int32) ((1 : Int64) <<< (p1 &&& 0x3f).toInt64))).2), .second] [])) _
    refine s5 _ ?_
    show Steps p.tables e below (T5.setTop (mkF m 6 #[.val (.int p1), .val (.long q2), .second, .val (.long q3), .second, .val (.long (own_fl q2 (own_scan (4 : Int32) q3 8 (0 : Int64) (own_st (4 : Int32) ((1 : Int64) <<< (p1 &&& 0x3f).toInt64))).2 (own_scan (4 : Int32) q3 8 (0 : Int64) (own_st (4 : Int32) ((1 : Int64) <<< (p1 &&& 0x3f).toInt64))).1 (own_fl q2 (own_scan (3 : Int32) q3 8 (0 : Int64) (own_st (3 : Int32) ((1 : Int64) <<< (p1 &&& 0x3f).toInt64))).2 (own_scan (3 : Int32) q3 8 (0 : Int64) (own_st (3 : Int32) ((1 : Int64) <<< (p1 &&& 0x3f).toInt64))).1 (own_fl q2 (own_scan (2 : Int32) q3 8 (0 : Int64) (own_st (2 : Int32) ((1 : Int64) <<< (p1 &&& 0x3f).toInt64))).2 (own_scan (2 : Int32) q3 8 (0 : Int64) (own_st (2 : Int32) ((1 : Int64) <<< (p1 &&& 0x3f).toInt64))).1 (own_fl q2 (own_scan (1 : Int32) q3 8 (0 : Int64) (own_st (1 : Int32) ((1 : Int64) <<< (p1 &&& 0x3f).toInt64))).2 (own_scan (1 : Int32) q3 8 (0 : Int64) (own_st (1 : Int32) ((1 : Int64) <<< (p1 &&& 0x3f).toInt64))).1 (own_fl q2 (own_scan (0 : Int32) q3 8 (0 : Int64) (own_st (0 : Int32) ((1 : Int64) <<< (p1 &&& 0x3f).toInt64))).2 (own_scan (0 : Int32) q3 8 (0 : Int64) (own_st (0 : Int32) ((1 : Int64) <<< (p1 &&& 0x3f).toInt64))).1 (0 : Int64))))))), .second, .val (.int (5 : Int32)), .val (.long (own_scan (4 : Int32) q3 8 (0 : Int64) (own_st (4 : Int32) ((1 : Int64) <<< (p1 &&& 0x3f).toInt64))).1), .second, .val (.long (own_scan (4 : Int32) q3 8 (0 : Int64) (own_st (4 : Int32) ((1 : Int64) <<< (p1 &&& 0x3f).toInt64))).2), .second] [])) _
    refine s6 _ ?_
    show Steps p.tables e below (T6.setTop (mkF m 6 #[.val (.int p1), .val (.long q2), .second, .val (.long q3), .second, .val (.long (own_fl q2 (own_scan (5 : Int32) q3 8 (0 : Int64) (own_st (5 : Int32) ((1 : Int64) <<< (p1 &&& 0x3f).toInt64))).2 (own_scan (5 : Int32) q3 8 (0 : Int64) (own_st (5 : Int32) ((1 : Int64) <<< (p1 &&& 0x3f).toInt64))).1 (own_fl q2 (own_scan (4 : Int32) q3 8 (0 : Int64) (own_st (4 : Int32) ((1 : Int64) <<< (p1 &&& 0x3f).toInt64))).2 (own_scan (4 : Int32) q3 8 (0 : Int64) (own_st (4 : Int32) ((1 : Int64) <<< (p1 &&& 0x3f).toInt64))).1 (own_fl q2 (own_scan (3 : Int32) q3 8 (0 : Int64) (own_st (3 : Int32) ((1 : Int64) <<< (p1 &&& 0x3f).toInt64))).2 (own_scan (3 : Int32) q3 8 (0 : Int64) (own_st (3 : Int32) ((1 : Int64) <<< (p1 &&& 0x3f).toInt64))).1 (own_fl q2 (own_scan (2 : Int32) q3 8 (0 : Int64) (own_st (2 : Int32) ((1 : Int64) <<< (p1 &&& 0x3f).toInt64))).2 (own_scan (2 : Int32) q3 8 (0 : Int64) (own_st (2 : Int32) ((1 : Int64) <<< (p1 &&& 0x3f).toInt64))).1 (own_fl q2 (own_scan (1 : Int32) q3 8 (0 : Int64) (own_st (1 : Int32) ((1 : Int64) <<< (p1 &&& 0x3f).toInt64))).2 (own_scan (1 : Int32) q3 8 (0 : Int64) (own_st (1 : Int32) ((1 : Int64) <<< (p1 &&& 0x3f).toInt64))).1 (own_fl q2 (own_scan (0 : Int32) q3 8 (0 : Int64) (own_st (0 : Int32) ((1 : Int64) <<< (p1 &&& 0x3f).toInt64))).2 (own_scan (0 : Int32) q3 8 (0 : Int64) (own_st (0 : Int32) ((1 : Int64) <<< (p1 &&& 0x3f).toInt64))).1 (0 : Int64)))))))), .second, .val (.int (6 : Int32)), .val (.long (own_scan (5 : Int32) q3 8 (0 : Int64) (own_st (5 : Int32) ((1 : Int64) <<< (p1 &&& 0x3f).toInt64))).1), .second, .val (.long (own_scan (5 : Int32) q3 8 (0 : Int64) (own_st (5 : Int32) ((1 : Int64) <<< (p1 &&& 0x3f).toInt64))).2), .second] [])) _
    refine s7 _ ?_
    show Steps p.tables e below (T7.setTop (mkF m 6 #[.val (.int p1), .val (.long q2), .second, .val (.long q3), .second, .val (.long (own_fl q2 (own_scan (6 : Int32) q3 8 (0 : Int64) (own_st (6 : Int32) ((1 : Int64) <<< (p1 &&& 0x3f).toInt64))).2 (own_scan (6 : Int32) q3 8 (0 : Int64) (own_st (6 : Int32) ((1 : Int64) <<< (p1 &&& 0x3f).toInt64))).1 (own_fl q2 (own_scan (5 : Int32) q3 8 (0 : Int64) (own_st (5 : Int32) ((1 : Int64) <<< (p1 &&& 0x3f).toInt64))).2 (own_scan (5 : Int32) q3 8 (0 : Int64) (own_st (5 : Int32) ((1 : Int64) <<< (p1 &&& 0x3f).toInt64))).1 (own_fl q2 (own_scan (4 : Int32) q3 8 (0 : Int64) (own_st (4 : Int32) ((1 : Int64) <<< (p1 &&& 0x3f).toInt64))).2 (own_scan (4 : Int32) q3 8 (0 : Int64) (own_st (4 : Int32) ((1 : Int64) <<< (p1 &&& 0x3f).toInt64))).1 (own_fl q2 (own_scan (3 : Int32) q3 8 (0 : Int64) (own_st (3 : Int32) ((1 : Int64) <<< (p1 &&& 0x3f).toInt64))).2 (own_scan (3 : Int32) q3 8 (0 : Int64) (own_st (3 : Int32) ((1 : Int64) <<< (p1 &&& 0x3f).toInt64))).1 (own_fl q2 (own_scan (2 : Int32) q3 8 (0 : Int64) (own_st (2 : Int32) ((1 : Int64) <<< (p1 &&& 0x3f).toInt64))).2 (own_scan (2 : Int32) q3 8 (0 : Int64) (own_st (2 : Int32) ((1 : Int64) <<< (p1 &&& 0x3f).toInt64))).1 (own_fl q2 (own_scan (1 : Int32) q3 8 (0 : Int64) (own_st (1 : Int32) ((1 : Int64) <<< (p1 &&& 0x3f).toInt64))).2 (own_scan (1 : Int32) q3 8 (0 : Int64) (own_st (1 : Int32) ((1 : Int64) <<< (p1 &&& 0x3f).toInt64))).1 (own_fl q2 (own_scan (0 : Int32) q3 8 (0 : Int64) (own_st (0 : Int32) ((1 : Int64) <<< (p1 &&& 0x3f).toInt64))).2 (own_scan (0 : Int32) q3 8 (0 : Int64) (own_st (0 : Int32) ((1 : Int64) <<< (p1 &&& 0x3f).toInt64))).1 (0 : Int64))))))))), .second, .val (.int (7 : Int32)), .val (.long (own_scan (6 : Int32) q3 8 (0 : Int64) (own_st (6 : Int32) ((1 : Int64) <<< (p1 &&& 0x3f).toInt64))).1), .second, .val (.long (own_scan (6 : Int32) q3 8 (0 : Int64) (own_st (6 : Int32) ((1 : Int64) <<< (p1 &&& 0x3f).toInt64))).2), .second] [])) _
    refine s8 _ ?_
    show Steps p.tables e below (T8.setTop (mkF m 6 #[.val (.int p1), .val (.long q2), .second, .val (.long q3), .second, .val (.long (own_fl q2 (own_scan (7 : Int32) q3 8 (0 : Int64) (own_st (7 : Int32) ((1 : Int64) <<< (p1 &&& 0x3f).toInt64))).2 (own_scan (7 : Int32) q3 8 (0 : Int64) (own_st (7 : Int32) ((1 : Int64) <<< (p1 &&& 0x3f).toInt64))).1 (own_fl q2 (own_scan (6 : Int32) q3 8 (0 : Int64) (own_st (6 : Int32) ((1 : Int64) <<< (p1 &&& 0x3f).toInt64))).2 (own_scan (6 : Int32) q3 8 (0 : Int64) (own_st (6 : Int32) ((1 : Int64) <<< (p1 &&& 0x3f).toInt64))).1 (own_fl q2 (own_scan (5 : Int32) q3 8 (0 : Int64) (own_st (5 : Int32) ((1 : Int64) <<< (p1 &&& 0x3f).toInt64))).2 (own_scan (5 : Int32) q3 8 (0 : Int64) (own_st (5 : Int32) ((1 : Int64) <<< (p1 &&& 0x3f).toInt64))).1 (own_fl q2 (own_scan (4 : Int32) q3 8 (0 : Int64) (own_st (4 : Int32) ((1 : Int64) <<< (p1 &&& 0x3f).toInt64))).2 (own_scan (4 : Int32) q3 8 (0 : Int64) (own_st (4 : Int32) ((1 : Int64) <<< (p1 &&& 0x3f).toInt64))).1 (own_fl q2 (own_scan (3 : Int32) q3 8 (0 : Int64) (own_st (3 : Int32) ((1 : Int64) <<< (p1 &&& 0x3f).toInt64))).2 (own_scan (3 : Int32) q3 8 (0 : Int64) (own_st (3 : Int32) ((1 : Int64) <<< (p1 &&& 0x3f).toInt64))).1 (own_fl q2 (own_scan (2 : Int32) q3 8 (0 : Int64) (own_st (2 : Int32) ((1 : Int64) <<< (p1 &&& 0x3f).toInt64))).2 (own_scan (2 : Int32) q3 8 (0 : Int64) (own_st (2 : Int32) ((1 : Int64) <<< (p1 &&& 0x3f).toInt64))).1 (own_fl q2 (own_scan (1 : Int32) q3 8 (0 : Int64) (own_st (1 : Int32) ((1 : Int64) <<< (p1 &&& 0x3f).toInt64))).2 (own_scan (1 : Int32) q3 8 (0 : Int64) (own_st (1 : Int32) ((1 : Int64) <<< (p1 &&& 0x3f).toInt64))).1 (own_fl q2 (own_scan (0 : Int32) q3 8 (0 : Int64) (own_st (0 : Int32) ((1 : Int64) <<< (p1 &&& 0x3f).toInt64))).2 (own_scan (0 : Int32) q3 8 (0 : Int64) (own_st (0 : Int32) ((1 : Int64) <<< (p1 &&& 0x3f).toInt64))).1 (0 : Int64)))))))))), .second, .val (.int (8 : Int32)), .val (.long (own_scan (7 : Int32) q3 8 (0 : Int64) (own_st (7 : Int32) ((1 : Int64) <<< (p1 &&& 0x3f).toInt64))).1), .second, .val (.long (own_scan (7 : Int32) q3 8 (0 : Int64) (own_st (7 : Int32) ((1 : Int64) <<< (p1 &&& 0x3f).toInt64))).2), .second] [])) _
    refine XS.iload X8.here hx rfl (hb hby d4_6) rfl ?_
    show Steps p.tables e below (T8.setTop (mkF m 8 #[.val (.int p1), .val (.long q2), .second, .val (.long q3), .second, .val (.long (own_fl q2 (own_scan (7 : Int32) q3 8 (0 : Int64) (own_st (7 : Int32) ((1 : Int64) <<< (p1 &&& 0x3f).toInt64))).2 (own_scan (7 : Int32) q3 8 (0 : Int64) (own_st (7 : Int32) ((1 : Int64) <<< (p1 &&& 0x3f).toInt64))).1 (own_fl q2 (own_scan (6 : Int32) q3 8 (0 : Int64) (own_st (6 : Int32) ((1 : Int64) <<< (p1 &&& 0x3f).toInt64))).2 (own_scan (6 : Int32) q3 8 (0 : Int64) (own_st (6 : Int32) ((1 : Int64) <<< (p1 &&& 0x3f).toInt64))).1 (own_fl q2 (own_scan (5 : Int32) q3 8 (0 : Int64) (own_st (5 : Int32) ((1 : Int64) <<< (p1 &&& 0x3f).toInt64))).2 (own_scan (5 : Int32) q3 8 (0 : Int64) (own_st (5 : Int32) ((1 : Int64) <<< (p1 &&& 0x3f).toInt64))).1 (own_fl q2 (own_scan (4 : Int32) q3 8 (0 : Int64) (own_st (4 : Int32) ((1 : Int64) <<< (p1 &&& 0x3f).toInt64))).2 (own_scan (4 : Int32) q3 8 (0 : Int64) (own_st (4 : Int32) ((1 : Int64) <<< (p1 &&& 0x3f).toInt64))).1 (own_fl q2 (own_scan (3 : Int32) q3 8 (0 : Int64) (own_st (3 : Int32) ((1 : Int64) <<< (p1 &&& 0x3f).toInt64))).2 (own_scan (3 : Int32) q3 8 (0 : Int64) (own_st (3 : Int32) ((1 : Int64) <<< (p1 &&& 0x3f).toInt64))).1 (own_fl q2 (own_scan (2 : Int32) q3 8 (0 : Int64) (own_st (2 : Int32) ((1 : Int64) <<< (p1 &&& 0x3f).toInt64))).2 (own_scan (2 : Int32) q3 8 (0 : Int64) (own_st (2 : Int32) ((1 : Int64) <<< (p1 &&& 0x3f).toInt64))).1 (own_fl q2 (own_scan (1 : Int32) q3 8 (0 : Int64) (own_st (1 : Int32) ((1 : Int64) <<< (p1 &&& 0x3f).toInt64))).2 (own_scan (1 : Int32) q3 8 (0 : Int64) (own_st (1 : Int32) ((1 : Int64) <<< (p1 &&& 0x3f).toInt64))).1 (own_fl q2 (own_scan (0 : Int32) q3 8 (0 : Int64) (own_st (0 : Int32) ((1 : Int64) <<< (p1 &&& 0x3f).toInt64))).2 (own_scan (0 : Int32) q3 8 (0 : Int64) (own_st (0 : Int32) ((1 : Int64) <<< (p1 &&& 0x3f).toInt64))).1 (0 : Int64)))))))))), .second, .val (.int (8 : Int32)), .val (.long (own_scan (7 : Int32) q3 8 (0 : Int64) (own_st (7 : Int32) ((1 : Int64) <<< (p1 &&& 0x3f).toInt64))).1), .second, .val (.long (own_scan (7 : Int32) q3 8 (0 : Int64) (own_st (7 : Int32) ((1 : Int64) <<< (p1 &&& 0x3f).toInt64))).2), .second] [(.int (8 : Int32))])) _
    refine st9 _ ?_
    show Steps p.tables e below (T9.setTop (mkF m 11 #[.val (.int p1), .val (.long q2), .second, .val (.long q3), .second, .val (.long (own_fl q2 (own_scan (7 : Int32) q3 8 (0 : Int64) (own_st (7 : Int32) ((1 : Int64) <<< (p1 &&& 0x3f).toInt64))).2 (own_scan (7 : Int32) q3 8 (0 : Int64) (own_st (7 : Int32) ((1 : Int64) <<< (p1 &&& 0x3f).toInt64))).1 (own_fl q2 (own_scan (6 : Int32) q3 8 (0 : Int64) (own_st (6 : Int32) ((1 : Int64) <<< (p1 &&& 0x3f).toInt64))).2 (own_scan (6 : Int32) q3 8 (0 : Int64) (own_st (6 : Int32) ((1 : Int64) <<< (p1 &&& 0x3f).toInt64))).1 (own_fl q2 (own_scan (5 : Int32) q3 8 (0 : Int64) (own_st (5 : Int32) ((1 : Int64) <<< (p1 &&& 0x3f).toInt64))).2 (own_scan (5 : Int32) q3 8 (0 : Int64) (own_st (5 : Int32) ((1 : Int64) <<< (p1 &&& 0x3f).toInt64))).1 (own_fl q2 (own_scan (4 : Int32) q3 8 (0 : Int64) (own_st (4 : Int32) ((1 : Int64) <<< (p1 &&& 0x3f).toInt64))).2 (own_scan (4 : Int32) q3 8 (0 : Int64) (own_st (4 : Int32) ((1 : Int64) <<< (p1 &&& 0x3f).toInt64))).1 (own_fl q2 (own_scan (3 : Int32) q3 8 (0 : Int64) (own_st (3 : Int32) ((1 : Int64) <<< (p1 &&& 0x3f).toInt64))).2 (own_scan (3 : Int32) q3 8 (0 : Int64) (own_st (3 : Int32) ((1 : Int64) <<< (p1 &&& 0x3f).toInt64))).1 (own_fl q2 (own_scan (2 : Int32) q3 8 (0 : Int64) (own_st (2 : Int32) ((1 : Int64) <<< (p1 &&& 0x3f).toInt64))).2 (own_scan (2 : Int32) q3 8 (0 : Int64) (own_st (2 : Int32) ((1 : Int64) <<< (p1 &&& 0x3f).toInt64))).1 (own_fl q2 (own_scan (1 : Int32) q3 8 (0 : Int64) (own_st (1 : Int32) ((1 : Int64) <<< (p1 &&& 0x3f).toInt64))).2 (own_scan (1 : Int32) q3 8 (0 : Int64) (own_st (1 : Int32) ((1 : Int64) <<< (p1 &&& 0x3f).toInt64))).1 (own_fl q2 (own_scan (0 : Int32) q3 8 (0 : Int64) (own_st (0 : Int32) ((1 : Int64) <<< (p1 &&& 0x3f).toInt64))).2 (own_scan (0 : Int32) q3 8 (0 : Int64) (own_st (0 : Int32) ((1 : Int64) <<< (p1 &&& 0x3f).toInt64))).1 (0 : Int64)))))))))), .second, .val (.int (8 : Int32)), .val (.long (own_scan (7 : Int32) q3 8 (0 : Int64) (own_st (7 : Int32) ((1 : Int64) <<< (p1 &&& 0x3f).toInt64))).1), .second, .val (.long (own_scan (7 : Int32) q3 8 (0 : Int64) (own_st (7 : Int32) ((1 : Int64) <<< (p1 &&& 0x3f).toInt64))).2), .second] [(.ref w_STEPS), (.int (8 : Int32))])) _
    refine X9.arraylength hx (by rw [e9]; exact Ar10.1) (State.isArrayOf_alike hZ.alike Ar10.2.1) (g := (mkF m 11 #[.val (.int p1), .val (.long q2), .second, .val (.long q3), .second, .val (.long (own_fl q2 (own_scan (7 : Int32) q3 8 (0 : Int64) (own_st (7 : Int32) ((1 : Int64) <<< (p1 &&& 0x3f).toInt64))).2 (own_scan (7 : Int32) q3 8 (0 : Int64) (own_st (7 : Int32) ((1 : Int64) <<< (p1 &&& 0x3f).toInt64))).1 (own_fl q2 (own_scan (6 : Int32) q3 8 (0 : Int64) (own_st (6 : Int32) ((1 : Int64) <<< (p1 &&& 0x3f).toInt64))).2 (own_scan (6 : Int32) q3 8 (0 : Int64) (own_st (6 : Int32) ((1 : Int64) <<< (p1 &&& 0x3f).toInt64))).1 (own_fl q2 (own_scan (5 : Int32) q3 8 (0 : Int64) (own_st (5 : Int32) ((1 : Int64) <<< (p1 &&& 0x3f).toInt64))).2 (own_scan (5 : Int32) q3 8 (0 : Int64) (own_st (5 : Int32) ((1 : Int64) <<< (p1 &&& 0x3f).toInt64))).1 (own_fl q2 (own_scan (4 : Int32) q3 8 (0 : Int64) (own_st (4 : Int32) ((1 : Int64) <<< (p1 &&& 0x3f).toInt64))).2 (own_scan (4 : Int32) q3 8 (0 : Int64) (own_st (4 : Int32) ((1 : Int64) <<< (p1 &&& 0x3f).toInt64))).1 (own_fl q2 (own_scan (3 : Int32) q3 8 (0 : Int64) (own_st (3 : Int32) ((1 : Int64) <<< (p1 &&& 0x3f).toInt64))).2 (own_scan (3 : Int32) q3 8 (0 : Int64) (own_st (3 : Int32) ((1 : Int64) <<< (p1 &&& 0x3f).toInt64))).1 (own_fl q2 (own_scan (2 : Int32) q3 8 (0 : Int64) (own_st (2 : Int32) ((1 : Int64) <<< (p1 &&& 0x3f).toInt64))).2 (own_scan (2 : Int32) q3 8 (0 : Int64) (own_st (2 : Int32) ((1 : Int64) <<< (p1 &&& 0x3f).toInt64))).1 (own_fl q2 (own_scan (1 : Int32) q3 8 (0 : Int64) (own_st (1 : Int32) ((1 : Int64) <<< (p1 &&& 0x3f).toInt64))).2 (own_scan (1 : Int32) q3 8 (0 : Int64) (own_st (1 : Int32) ((1 : Int64) <<< (p1 &&& 0x3f).toInt64))).1 (own_fl q2 (own_scan (0 : Int32) q3 8 (0 : Int64) (own_st (0 : Int32) ((1 : Int64) <<< (p1 &&& 0x3f).toInt64))).2 (own_scan (0 : Int32) q3 8 (0 : Int64) (own_st (0 : Int32) ((1 : Int64) <<< (p1 &&& 0x3f).toInt64))).1 (0 : Int64)))))))))), .second, .val (.int (8 : Int32)), .val (.long (own_scan (7 : Int32) q3 8 (0 : Int64) (own_st (7 : Int32) ((1 : Int64) <<< (p1 &&& 0x3f).toInt64))).1), .second, .val (.long (own_scan (7 : Int32) q3 8 (0 : Int64) (own_st (7 : Int32) ((1 : Int64) <<< (p1 &&& 0x3f).toInt64))).2), .second] [(.ref w_STEPS), (.int (8 : Int32))])) rfl rfl (hb hby d4_11) _ ?_
    rw [len_of Sz10 Nn10]
    show Steps p.tables e below (T9.setTop (mkF m 12 #[.val (.int p1), .val (.long q2), .second, .val (.long q3), .second, .val (.long (own_fl q2 (own_scan (7 : Int32) q3 8 (0 : Int64) (own_st (7 : Int32) ((1 : Int64) <<< (p1 &&& 0x3f).toInt64))).2 (own_scan (7 : Int32) q3 8 (0 : Int64) (own_st (7 : Int32) ((1 : Int64) <<< (p1 &&& 0x3f).toInt64))).1 (own_fl q2 (own_scan (6 : Int32) q3 8 (0 : Int64) (own_st (6 : Int32) ((1 : Int64) <<< (p1 &&& 0x3f).toInt64))).2 (own_scan (6 : Int32) q3 8 (0 : Int64) (own_st (6 : Int32) ((1 : Int64) <<< (p1 &&& 0x3f).toInt64))).1 (own_fl q2 (own_scan (5 : Int32) q3 8 (0 : Int64) (own_st (5 : Int32) ((1 : Int64) <<< (p1 &&& 0x3f).toInt64))).2 (own_scan (5 : Int32) q3 8 (0 : Int64) (own_st (5 : Int32) ((1 : Int64) <<< (p1 &&& 0x3f).toInt64))).1 (own_fl q2 (own_scan (4 : Int32) q3 8 (0 : Int64) (own_st (4 : Int32) ((1 : Int64) <<< (p1 &&& 0x3f).toInt64))).2 (own_scan (4 : Int32) q3 8 (0 : Int64) (own_st (4 : Int32) ((1 : Int64) <<< (p1 &&& 0x3f).toInt64))).1 (own_fl q2 (own_scan (3 : Int32) q3 8 (0 : Int64) (own_st (3 : Int32) ((1 : Int64) <<< (p1 &&& 0x3f).toInt64))).2 (own_scan (3 : Int32) q3 8 (0 : Int64) (own_st (3 : Int32) ((1 : Int64) <<< (p1 &&& 0x3f).toInt64))).1 (own_fl q2 (own_scan (2 : Int32) q3 8 (0 : Int64) (own_st (2 : Int32) ((1 : Int64) <<< (p1 &&& 0x3f).toInt64))).2 (own_scan (2 : Int32) q3 8 (0 : Int64) (own_st (2 : Int32) ((1 : Int64) <<< (p1 &&& 0x3f).toInt64))).1 (own_fl q2 (own_scan (1 : Int32) q3 8 (0 : Int64) (own_st (1 : Int32) ((1 : Int64) <<< (p1 &&& 0x3f).toInt64))).2 (own_scan (1 : Int32) q3 8 (0 : Int64) (own_st (1 : Int32) ((1 : Int64) <<< (p1 &&& 0x3f).toInt64))).1 (own_fl q2 (own_scan (0 : Int32) q3 8 (0 : Int64) (own_st (0 : Int32) ((1 : Int64) <<< (p1 &&& 0x3f).toInt64))).2 (own_scan (0 : Int32) q3 8 (0 : Int64) (own_st (0 : Int32) ((1 : Int64) <<< (p1 &&& 0x3f).toInt64))).1 (0 : Int64)))))))))), .second, .val (.int (8 : Int32)), .val (.long (own_scan (7 : Int32) q3 8 (0 : Int64) (own_st (7 : Int32) ((1 : Int64) <<< (p1 &&& 0x3f).toInt64))).1), .second, .val (.long (own_scan (7 : Int32) q3 8 (0 : Int64) (own_st (7 : Int32) ((1 : Int64) <<< (p1 &&& 0x3f).toInt64))).2), .second] [(.int (8 : Int32)), (.int (8 : Int32))])) _
    refine XS.icmpYes X9.here hx rfl (pc0 := 12) (pc' := 78) rfl (hb hby d4_12) rfl (flt (by decide : ¬ ((8 : Int32) < (8 : Int32)))).2.1 (by decide) (by decide) ?_
    show Steps p.tables e below (T9.setTop (mkF m 78 #[.val (.int p1), .val (.long q2), .second, .val (.long q3), .second, .val (.long (own_fl q2 (own_scan (7 : Int32) q3 8 (0 : Int64) (own_st (7 : Int32) ((1 : Int64) <<< (p1 &&& 0x3f).toInt64))).2 (own_scan (7 : Int32) q3 8 (0 : Int64) (own_st (7 : Int32) ((1 : Int64) <<< (p1 &&& 0x3f).toInt64))).1 (own_fl q2 (own_scan (6 : Int32) q3 8 (0 : Int64) (own_st (6 : Int32) ((1 : Int64) <<< (p1 &&& 0x3f).toInt64))).2 (own_scan (6 : Int32) q3 8 (0 : Int64) (own_st (6 : Int32) ((1 : Int64) <<< (p1 &&& 0x3f).toInt64))).1 (own_fl q2 (own_scan (5 : Int32) q3 8 (0 : Int64) (own_st (5 : Int32) ((1 : Int64) <<< (p1 &&& 0x3f).toInt64))).2 (own_scan (5 : Int32) q3 8 (0 : Int64) (own_st (5 : Int32) ((1 : Int64) <<< (p1 &&& 0x3f).toInt64))).1 (own_fl q2 (own_scan (4 : Int32) q3 8 (0 : Int64) (own_st (4 : Int32) ((1 : Int64) <<< (p1 &&& 0x3f).toInt64))).2 (own_scan (4 : Int32) q3 8 (0 : Int64) (own_st (4 : Int32) ((1 : Int64) <<< (p1 &&& 0x3f).toInt64))).1 (own_fl q2 (own_scan (3 : Int32) q3 8 (0 : Int64) (own_st (3 : Int32) ((1 : Int64) <<< (p1 &&& 0x3f).toInt64))).2 (own_scan (3 : Int32) q3 8 (0 : Int64) (own_st (3 : Int32) ((1 : Int64) <<< (p1 &&& 0x3f).toInt64))).1 (own_fl q2 (own_scan (2 : Int32) q3 8 (0 : Int64) (own_st (2 : Int32) ((1 : Int64) <<< (p1 &&& 0x3f).toInt64))).2 (own_scan (2 : Int32) q3 8 (0 : Int64) (own_st (2 : Int32) ((1 : Int64) <<< (p1 &&& 0x3f).toInt64))).1 (own_fl q2 (own_scan (1 : Int32) q3 8 (0 : Int64) (own_st (1 : Int32) ((1 : Int64) <<< (p1 &&& 0x3f).toInt64))).2 (own_scan (1 : Int32) q3 8 (0 : Int64) (own_st (1 : Int32) ((1 : Int64) <<< (p1 &&& 0x3f).toInt64))).1 (own_fl q2 (own_scan (0 : Int32) q3 8 (0 : Int64) (own_st (0 : Int32) ((1 : Int64) <<< (p1 &&& 0x3f).toInt64))).2 (own_scan (0 : Int32) q3 8 (0 : Int64) (own_st (0 : Int32) ((1 : Int64) <<< (p1 &&& 0x3f).toInt64))).1 (0 : Int64)))))))))), .second, .val (.int (8 : Int32)), .val (.long (own_scan (7 : Int32) q3 8 (0 : Int64) (own_st (7 : Int32) ((1 : Int64) <<< (p1 &&& 0x3f).toInt64))).1), .second, .val (.long (own_scan (7 : Int32) q3 8 (0 : Int64) (own_st (7 : Int32) ((1 : Int64) <<< (p1 &&& 0x3f).toInt64))).2), .second] [])) _
    refine XS.lload X9.here hx rfl (hb hby d4_78) rfl ?_
    show Steps p.tables e below (T9.setTop (mkF m 80 #[.val (.int p1), .val (.long q2), .second, .val (.long q3), .second, .val (.long (own_fl q2 (own_scan (7 : Int32) q3 8 (0 : Int64) (own_st (7 : Int32) ((1 : Int64) <<< (p1 &&& 0x3f).toInt64))).2 (own_scan (7 : Int32) q3 8 (0 : Int64) (own_st (7 : Int32) ((1 : Int64) <<< (p1 &&& 0x3f).toInt64))).1 (own_fl q2 (own_scan (6 : Int32) q3 8 (0 : Int64) (own_st (6 : Int32) ((1 : Int64) <<< (p1 &&& 0x3f).toInt64))).2 (own_scan (6 : Int32) q3 8 (0 : Int64) (own_st (6 : Int32) ((1 : Int64) <<< (p1 &&& 0x3f).toInt64))).1 (own_fl q2 (own_scan (5 : Int32) q3 8 (0 : Int64) (own_st (5 : Int32) ((1 : Int64) <<< (p1 &&& 0x3f).toInt64))).2 (own_scan (5 : Int32) q3 8 (0 : Int64) (own_st (5 : Int32) ((1 : Int64) <<< (p1 &&& 0x3f).toInt64))).1 (own_fl q2 (own_scan (4 : Int32) q3 8 (0 : Int64) (own_st (4 : Int32) ((1 : Int64) <<< (p1 &&& 0x3f).toInt64))).2 (own_scan (4 : Int32) q3 8 (0 : Int64) (own_st (4 : Int32) ((1 : Int64) <<< (p1 &&& 0x3f).toInt64))).1 (own_fl q2 (own_scan (3 : Int32) q3 8 (0 : Int64) (own_st (3 : Int32) ((1 : Int64) <<< (p1 &&& 0x3f).toInt64))).2 (own_scan (3 : Int32) q3 8 (0 : Int64) (own_st (3 : Int32) ((1 : Int64) <<< (p1 &&& 0x3f).toInt64))).1 (own_fl q2 (own_scan (2 : Int32) q3 8 (0 : Int64) (own_st (2 : Int32) ((1 : Int64) <<< (p1 &&& 0x3f).toInt64))).2 (own_scan (2 : Int32) q3 8 (0 : Int64) (own_st (2 : Int32) ((1 : Int64) <<< (p1 &&& 0x3f).toInt64))).1 (own_fl q2 (own_scan (1 : Int32) q3 8 (0 : Int64) (own_st (1 : Int32) ((1 : Int64) <<< (p1 &&& 0x3f).toInt64))).2 (own_scan (1 : Int32) q3 8 (0 : Int64) (own_st (1 : Int32) ((1 : Int64) <<< (p1 &&& 0x3f).toInt64))).1 (own_fl q2 (own_scan (0 : Int32) q3 8 (0 : Int64) (own_st (0 : Int32) ((1 : Int64) <<< (p1 &&& 0x3f).toInt64))).2 (own_scan (0 : Int32) q3 8 (0 : Int64) (own_st (0 : Int32) ((1 : Int64) <<< (p1 &&& 0x3f).toInt64))).1 (0 : Int64)))))))))), .second, .val (.int (8 : Int32)), .val (.long (own_scan (7 : Int32) q3 8 (0 : Int64) (own_st (7 : Int32) ((1 : Int64) <<< (p1 &&& 0x3f).toInt64))).1), .second, .val (.long (own_scan (7 : Int32) q3 8 (0 : Int64) (own_st (7 : Int32) ((1 : Int64) <<< (p1 &&& 0x3f).toInt64))).2), .second] [(.long (own_fl q2 (own_scan (7 : Int32) q3 8 (0 : Int64) (own_st (7 : Int32) ((1 : Int64) <<< (p1 &&& 0x3f).toInt64))).2 (own_scan (7 : Int32) q3 8 (0 : Int64) (own_st (7 : Int32) ((1 : Int64) <<< (p1 &&& 0x3f).toInt64))).1 (own_fl q2 (own_scan (6 : Int32) q3 8 (0 : Int64) (own_st (6 : Int32) ((1 : Int64) <<< (p1 &&& 0x3f).toInt64))).2 (own_scan (6 : Int32) q3 8 (0 : Int64) (own_st (6 : Int32) ((1 : Int64) <<< (p1 &&& 0x3f).toInt64))).1 (own_fl q2 (own_scan (5 : Int32) q3 8 (0 : Int64) (own_st (5 : Int32) ((1 : Int64) <<< (p1 &&& 0x3f).toInt64))).2 (own_scan (5 : Int32) q3 8 (0 : Int64) (own_st (5 : Int32) ((1 : Int64) <<< (p1 &&& 0x3f).toInt64))).1 (own_fl q2 (own_scan (4 : Int32) q3 8 (0 : Int64) (own_st (4 : Int32) ((1 : Int64) <<< (p1 &&& 0x3f).toInt64))).2 (own_scan (4 : Int32) q3 8 (0 : Int64) (own_st (4 : Int32) ((1 : Int64) <<< (p1 &&& 0x3f).toInt64))).1 (own_fl q2 (own_scan (3 : Int32) q3 8 (0 : Int64) (own_st (3 : Int32) ((1 : Int64) <<< (p1 &&& 0x3f).toInt64))).2 (own_scan (3 : Int32) q3 8 (0 : Int64) (own_st (3 : Int32) ((1 : Int64) <<< (p1 &&& 0x3f).toInt64))).1 (own_fl q2 (own_scan (2 : Int32) q3 8 (0 : Int64) (own_st (2 : Int32) ((1 : Int64) <<< (p1 &&& 0x3f).toInt64))).2 (own_scan (2 : Int32) q3 8 (0 : Int64) (own_st (2 : Int32) ((1 : Int64) <<< (p1 &&& 0x3f).toInt64))).1 (own_fl q2 (own_scan (1 : Int32) q3 8 (0 : Int64) (own_st (1 : Int32) ((1 : Int64) <<< (p1 &&& 0x3f).toInt64))).2 (own_scan (1 : Int32) q3 8 (0 : Int64) (own_st (1 : Int32) ((1 : Int64) <<< (p1 &&& 0x3f).toInt64))).1 (own_fl q2 (own_scan (0 : Int32) q3 8 (0 : Int64) (own_st (0 : Int32) ((1 : Int64) <<< (p1 &&& 0x3f).toInt64))).2 (own_scan (0 : Int32) q3 8 (0 : Int64) (own_st (0 : Int32) ((1 : Int64) <<< (p1 &&& 0x3f).toInt64))).1 (0 : Int64))))))))))])) _
    exact X9.lreturnOut hx Bd.returns (hb hby d4_80) hr
  · show Q4_0 Z p1 q2 q3 w_STEPS kv_STEPS w_LANDINGS kv_LANDINGS h0 n0 _ T9.heap _
    rw [e9]
    exact ⟨rfl, N8, rfl⟩
theorem pd_2 : parseMethodDescriptor "(IJJ)J" = some ⟨[.int, .long, .long], some .long⟩ := by decide +kernel
theorem d3_49 : decode method_3_code 49 = .ok (.lconst 0, 1) := by decide +kernel
theorem d3_50 : decode method_3_code 50 = .ok (.lcmp, 1) := by decide +kernel
theorem d3_51 : decode method_3_code 51 = .ok (.ifCond .eq 7, 3) := by decide +kernel
theorem d3_58 : decode method_3_code 58 = .ok (.iconst 0, 1) := by decide +kernel
theorem d3_59 : decode method_3_code 59 = .ok (.istore 9, 2) := by decide +kernel
theorem d3_61 : decode method_3_code 61 = .ok (.iload 7, 2) := by decide +kernel
theorem d3_63 : decode method_3_code 63 = .ok (.iload 9, 2) := by decide +kernel
theorem d3_65 : decode method_3_code 65 = .ok (.if_icmp .ne 7, 3) := by decide +kernel
theorem d3_68 : decode method_3_code 68 = .ok (.iconst 1, 1) := by decide +kernel
theorem d3_69 : decode method_3_code 69 = .ok (.goto 4, 3) := by decide +kernel
theorem d3_73 : decode method_3_code 73 = .ok (.ireturn, 1) := by decide +kernel
theorem d3_54 : decode method_3_code 54 = .ok (.iconst 1, 1) := by decide +kernel
theorem d3_55 : decode method_3_code 55 = .ok (.goto 4, 3) := by decide +kernel
theorem d3_72 : decode method_3_code 72 = .ok (.iconst 0, 1) := by decide +kernel
theorem d3_34 : decode method_3_code 34 = .ok (.iconst 0, 1) := by decide +kernel
theorem d3_10 : decode method_3_code 10 = .ok (.iconst 1, 1) := by decide +kernel
theorem d3_11 : decode method_3_code 11 = .ok (.goto 4, 3) := by decide +kernel
theorem pn_1 : plainName "com/example/counterply/counterply/othello/BoardMovesPinLaw" = true := by first | (simp [plainName, overriddenIn]; done) | decide +kernel
theorem ef_rm3_0 (m : MethodId) (x0 : Int64) (x1 : Int32) (x2 : Int64) (x3 : Int64) : entryFrame m #[(.long x0), (.int x1), (.long x2), (.long x3)] 10 = mkF m 0 #[.val (.long x0), .second, .val (.int x1), .val (.long x2), .second, .val (.long x3), .second, .unset, .unset, .unset] [] := by first | (simp [entryFrame, mkF, argsToLocals, Value.category]; done) | rfl
def Q3_0 (Z : State) (q1 : Int64) (p2 : Int32) (q3 : Int64) (q4 : Int64) (w_STEPS : Addr) (kv_STEPS : ClassId) (w_LANDINGS : Addr) (kv_LANDINGS : ClassId) (h0 : Heap) (n0 : Nat) (v : Option Value) (h : Heap) (L : List Loc) : Prop := v = some (.int (1 : Int32)) ∧ Fr n0 L ∧ h = h0
set_option maxRecDepth 65536 in
set_option maxHeartbeats 40000000 in
theorem rm3_0 (l : Launch) (Z : State) (a0 : Array Value) (hw : ∀ d ∈ tables_1, d.before a0 Z = true) (ws : List Jvm.Cond) (q1 : Int64) (p2 : Int32) (q3 : Int64) (q4 : Int64) (w_STEPS : Addr) (kv_STEPS : ClassId) (w_LANDINGS : Addr) (kv_LANDINGS : ClassId) (h0 : Heap) (n0 : Nat) (Z0 : n0 ≤ h0.size) (S_STEPS : Sta Z h0 "com/example/counterply/counterply/othello/Board" "STEPS" "[I" (.ref w_STEPS)) (V_STEPS : Arv Z h0 w_STEPS kv_STEPS .int (8 : Int32) [(.int (1 : Int32)), (.int (-1 : Int32)), (.int (8 : Int32)), (.int (-8 : Int32)), (.int (9 : Int32)), (.int (-9 : Int32)), (.int (7 : Int32)), (.int (-7 : Int32))] (.int (0 : Int32))) (S_LANDINGS : Sta Z h0 "com/example/counterply/counterply/othello/Board" "LANDINGS" "[J" (.ref w_LANDINGS)) (V_LANDINGS : Arv Z h0 w_LANDINGS kv_LANDINGS .long (8 : Int32) [(.long (-72340172838076674 : Int64)), (.long (9187201950435737471 : Int64)), (.long (-1 : Int64)), (.long (-1 : Int64)), (.long (-72340172838076674 : Int64)), (.long (9187201950435737471 : Int64)), (.long (9187201950435737471 : Int64)), (.long (-72340172838076674 : Int64))] (.long (0 : Int64))) (HP : (¬ ((lcmpW (((q1.toUInt64 >>> (p2 &&& 0x3f).toInt64.toUInt64).toInt64) &&& (1 : Int64)) (0 : Int64)) = (0 : Int32))) ↔ (((lcmpW ((((q3 ||| q4).toUInt64 >>> (p2 &&& 0x3f).toInt64.toUInt64).toInt64) &&& (1 : Int64)) (0 : Int64)) = (0 : Int32)) ∧ ¬ ((lcmpW (own_flips p2 q3 q4) (0 : Int64)) = (0 : Int32)))) :
    MetFree l (⟨"com/example/counterply/counterply/othello/BoardMovesPinLaw", "agrees", "(JIJJ)Z"⟩ : MethodName) (head1 (Jvm.Cond.code (⟨"com/example/counterply/counterply/othello/BoardMovesPinLaw", "agrees", "(JIJJ)Z"⟩ : MethodName) method_3_code 10 (some .boolean) :: ws) ({ frames := 2, cells := 0, slots := 0, locals := 40 } : Room)) (fun a U => a = #[(.long q1), (.int p2), (.long q3), (.long q4)] ∧ Z.Warmed39 U.vm ∧ U.heap = h0) (fun _ _ _ _ _ => True) (fun _ U o U' => ∃ v L, o = .returned v ∧ Q3_0 Z q1 p2 q3 q4 w_STEPS kv_STEPS w_LANDINGS kv_LANDINGS h0 n0 v U'.heap L ∧ FrameEnd U o U' L ({ frames := 2, cells := 0, slots := 0, locals := 40 } : Room).cells ({ frames := 2, cells := 0, slots := 0, locals := 40 } : Room).slots) := by
  refine MetFree.of_bodySF (plainFor_of_name pn_1) hisR ?_
  intro p e s m args below meth c s₁ Bd hml0 hP hK
  obtain ⟨rfl, hZ, hh⟩ := hP
  have hx := Bd.exec
  have hby := Bd.bytes
  have hml : c.maxLocals = 10 := hml0
  have hown : s.vm.findClass "com/example/counterply/counterply/othello/BoardMovesPinLaw" = some m.cls := findClass_of_methodNamed Bd.named
  have hnm := (name_of_methodNamed Bd.named Bd.method).1
  have X0 : Stand p l e ({ frames := 2, cells := 0, slots := 0, locals := 40 } : Room) s m #[(.long q1), (.int p2), (.long q3), (.long q4)] below meth c s₁ [] 0 0 := Stand.of_body Bd
  have e0 : s₁.heap = h0 := by rw [← hh, Bd.state]; rfl
  have N0 := Fr.nil n0
  have pre0 : ∀ t, Steps p.tables e below (s₁.setTop (mkF m 0 #[.val (.long q1), .second, .val (.int p2), .val (.long q3), .second, .val (.long q4), .second, .unset, .unset, .unset] [])) t → Steps p.tables e below (s₁.setTop (entryFrame m #[(.long q1), (.int p2), (.long q3), (.long q4)] 10)) t := fun t k => castTop (ef_rm3_0 m q1 p2 q3 q4) k
  have k1 : ∀ t, Steps p.tables e below (s₁.setTop (mkF m 7 #[.val (.long q1), .second, .val (.int p2), .val (.long q3), .second, .val (.long q4), .second, .unset, .unset, .unset] [(.int (lcmpW (((q1.toUInt64 >>> (p2 &&& 0x3f).toInt64.toUInt64).toInt64) &&& (1 : Int64)) (0 : Int64)))])) t → Steps p.tables e below (s₁.setTop (entryFrame m #[(.long q1), (.int p2), (.long q3), (.long q4)] 10)) t := by
    intro t k
    refine pre0 t ?_
    show Steps p.tables e below (s₁.setTop (mkF m 0 #[.val (.long q1), .second, .val (.int p2), .val (.long q3), .second, .val (.long q4), .second, .unset, .unset, .unset] [])) _
    refine XS.lloadN X0.here hx rfl (hb hby d3_0) rfl ?_
    show Steps p.tables e below (s₁.setTop (mkF m 1 #[.val (.long q1), .second, .val (.int p2), .val (.long q3), .second, .val (.long q4), .second, .unset, .unset, .unset] [(.long q1)])) _
    refine XS.iloadN X0.here hx rfl (hb hby d3_1) rfl ?_
    show Steps p.tables e below (s₁.setTop (mkF m 2 #[.val (.long q1), .second, .val (.int p2), .val (.long q3), .second, .val (.long q4), .second, .unset, .unset, .unset] [(.int p2), (.long q1)])) _
    refine XS.lushr X0.here hx rfl (hb hby d3_2) rfl ?_
    show Steps p.tables e below (s₁.setTop (mkF m 3 #[.val (.long q1), .second, .val (.int p2), .val (.long q3), .second, .val (.long q4), .second, .unset, .unset, .unset] [(.long ((q1.toUInt64 >>> (p2 &&& 0x3f).toInt64.toUInt64).toInt64))])) _
    refine XS.lconst X0.here hx rfl (hb hby d3_3) ?_
    show Steps p.tables e below (s₁.setTop (mkF m 4 #[.val (.long q1), .second, .val (.int p2), .val (.long q3), .second, .val (.long q4), .second, .unset, .unset, .unset] [(.long (1 : Int64)), (.long ((q1.toUInt64 >>> (p2 &&& 0x3f).toInt64.toUInt64).toInt64))])) _
    refine XS.land X0.here hx rfl (hb hby d3_4) rfl ?_
    show Steps p.tables e below (s₁.setTop (mkF m 5 #[.val (.long q1), .second, .val (.int p2), .val (.long q3), .second, .val (.long q4), .second, .unset, .unset, .unset] [(.long (((q1.toUInt64 >>> (p2 &&& 0x3f).toInt64.toUInt64).toInt64) &&& (1 : Int64)))])) _
    refine XS.lconst X0.here hx rfl (hb hby d3_5) ?_
    show Steps p.tables e below (s₁.setTop (mkF m 6 #[.val (.long q1), .second, .val (.int p2), .val (.long q3), .second, .val (.long q4), .second, .unset, .unset, .unset] [(.long (0 : Int64)), (.long (((q1.toUInt64 >>> (p2 &&& 0x3f).toInt64.toUInt64).toInt64) &&& (1 : Int64)))])) _
    refine XS.lcmp X0.here hx rfl (hb hby d3_6) rfl ?_
    exact k
  by_cases hc7_1 : (lcmpW (((q1.toUInt64 >>> (p2 &&& 0x3f).toInt64.toUInt64).toInt64) &&& (1 : Int64)) (0 : Int64)) = (0 : Int32)
  ·
    have k2 : ∀ t, Steps p.tables e below (s₁.setTop (mkF m 27 #[.val (.long q1), .second, .val (.int p2), .val (.long q3), .second, .val (.long q4), .second, .val (.int (0 : Int32)), .unset, .unset] [(.int (lcmpW ((((q3 ||| q4).toUInt64 >>> (p2 &&& 0x3f).toInt64.toUInt64).toInt64) &&& (1 : Int64)) (0 : Int64)))])) t → Steps p.tables e below (s₁.setTop (entryFrame m #[(.long q1), (.int p2), (.long q3), (.long q4)] 10)) t := by
      intro t k
      refine k1 t ?_
      show Steps p.tables e below (s₁.setTop (mkF m 7 #[.val (.long q1), .second, .val (.int p2), .val (.long q3), .second, .val (.long q4), .second, .unset, .unset, .unset] [(.int (lcmpW (((q1.toUInt64 >>> (p2 &&& 0x3f).toInt64.toUInt64).toInt64) &&& (1 : Int64)) (0 : Int64)))])) _
      refine XS.ifYes X0.here hx rfl (pc0 := 7) (pc' := 14) rfl (hb hby d3_7) rfl ((if0 _ _).trans (teq hc7_1).1) (by decide) (by decide) ?_
      show Steps p.tables e below (s₁.setTop (mkF m 14 #[.val (.long q1), .second, .val (.int p2), .val (.long q3), .second, .val (.long q4), .second, .unset, .unset, .unset] [])) _
      refine XS.iconst X0.here hx rfl (hb hby d3_14) ?_
      show Steps p.tables e below (s₁.setTop (mkF m 15 #[.val (.long q1), .second, .val (.int p2), .val (.long q3), .second, .val (.long q4), .second, .unset, .unset, .unset] [(.int (0 : Int32))])) _
      refine XS.istore X0.here hx rfl (hb hby d3_15) rfl (l' := #[.val (.long q1), .second, .val (.int p2), .val (.long q3), .second, .val (.long q4), .second, .val (.int (0 : Int32)), .unset, .unset]) rfl ?_
      show Steps p.tables e below (s₁.setTop (mkF m 17 #[.val (.long q1), .second, .val (.int p2), .val (.long q3), .second, .val (.long q4), .second, .val (.int (0 : Int32)), .unset, .unset] [])) _
      refine XS.lloadN X0.here hx rfl (hb hby d3_17) rfl ?_
      show Steps p.tables e below (s₁.setTop (mkF m 18 #[.val (.long q1), .second, .val (.int p2), .val (.long q3), .second, .val (.long q4), .second, .val (.int (0 : Int32)), .unset, .unset] [(.long q3)])) _
      refine XS.lload X0.here hx rfl (hb hby d3_18) rfl ?_
      show Steps p.tables e below (s₁.setTop (mkF m 20 #[.val (.long q1), .second, .val (.int p2), .val (.long q3), .second, .val (.long q4), .second, .val (.int (0 : Int32)), .unset, .unset] [(.long q4), (.long q3)])) _
      refine XS.lor X0.here hx rfl (hb hby d3_20) rfl ?_
      show Steps p.tables e below (s₁.setTop (mkF m 21 #[.val (.long q1), .second, .val (.int p2), .val (.long q3), .second, .val (.long q4), .second, .val (.int (0 : Int32)), .unset, .unset] [(.long (q3 ||| q4))])) _
      refine XS.iloadN X0.here hx rfl (hb hby d3_21) rfl ?_
      show Steps p.tables e below (s₁.setTop (mkF m 22 #[.val (.long q1), .second, .val (.int p2), .val (.long q3), .second, .val (.long q4), .second, .val (.int (0 : Int32)), .unset, .unset] [(.int p2), (.long (q3 ||| q4))])) _
      refine XS.lushr X0.here hx rfl (hb hby d3_22) rfl ?_
      show Steps p.tables e below (s₁.setTop (mkF m 23 #[.val (.long q1), .second, .val (.int p2), .val (.long q3), .second, .val (.long q4), .second, .val (.int (0 : Int32)), .unset, .unset] [(.long (((q3 ||| q4).toUInt64 >>> (p2 &&& 0x3f).toInt64.toUInt64).toInt64))])) _
      refine XS.lconst X0.here hx rfl (hb hby d3_23) ?_
      show Steps p.tables e below (s₁.setTop (mkF m 24 #[.val (.long q1), .second, .val (.int p2), .val (.long q3), .second, .val (.long q4), .second, .val (.int (0 : Int32)), .unset, .unset] [(.long (1 : Int64)), (.long (((q3 ||| q4).toUInt64 >>> (p2 &&& 0x3f).toInt64.toUInt64).toInt64))])) _
      refine XS.land X0.here hx rfl (hb hby d3_24) rfl ?_
      show Steps p.tables e below (s₁.setTop (mkF m 25 #[.val (.long q1), .second, .val (.int p2), .val (.long q3), .second, .val (.long q4), .second, .val (.int (0 : Int32)), .unset, .unset] [(.long ((((q3 ||| q4).toUInt64 >>> (p2 &&& 0x3f).toInt64.toUInt64).toInt64) &&& (1 : Int64)))])) _
      refine XS.lconst X0.here hx rfl (hb hby d3_25) ?_
      show Steps p.tables e below (s₁.setTop (mkF m 26 #[.val (.long q1), .second, .val (.int p2), .val (.long q3), .second, .val (.long q4), .second, .val (.int (0 : Int32)), .unset, .unset] [(.long (0 : Int64)), (.long ((((q3 ||| q4).toUInt64 >>> (p2 &&& 0x3f).toInt64.toUInt64).toInt64) &&& (1 : Int64)))])) _
      refine XS.lcmp X0.here hx rfl (hb hby d3_26) rfl ?_
      exact k
    by_cases hc27_2 : (lcmpW ((((q3 ||| q4).toUInt64 >>> (p2 &&& 0x3f).toInt64.toUInt64).toInt64) &&& (1 : Int64)) (0 : Int64)) = (0 : Int32)
    ·
      obtain ⟨_, _, ⟨T3, L3, k3, n3⟩, -, X3, ⟨Lc3, hQ3, l3, y3, z3⟩, st3⟩ := Jvm.LawKit.callS X0 hx (y := (⟨"com/example/counterply/counterply/othello/Board", "flips", "(IJJ)J"⟩ : MethodName)) hown (mvT hZ (hw _ (List.mem_of_getElem? (i := 17) rfl))) (mvT hZ (hw _ (List.mem_of_getElem? (i := 18) rfl))) (mvT hZ (hw _ (List.mem_of_getElem? (i := 3) rfl))) (mvT hZ (hw _ (List.mem_of_getElem? (i := 19) rfl))) (by decide) (backOf (W := 0) (rm4_0 l Z a0 hw [] p2 q3 q4 w_STEPS kv_STEPS w_LANDINGS kv_LANDINGS h0 n0 Z0 S_STEPS V_STEPS S_LANDINGS V_LANDINGS) hZ (hw _ (List.mem_of_getElem? (i := 19) rfl)) (hw _ (List.mem_of_getElem? (i := 3) rfl)) (by decide) (by decide)) (g := (mkF m 46 #[.val (.long q1), .second, .val (.int p2), .val (.long q3), .second, .val (.long q4), .second, .val (.int (0 : Int32)), .val (.int (1 : Int32)), .unset] [(.long q4), (.long q3), (.int p2)])) rfl (by rw [hml]; rfl) (argsL := [(.int p2), (.long q3), (.long q4)]) (rest := []) (lenOf pd_2 rfl) rfl (by show 2 * 0 + _ ≤ _; exact Nat.le_of_eq rfl) (hb hby d3_46) (fun _ _ => ⟨rfl, e0, (by decide : 0 + 0 ≤ _), (by decide : 0 + 0 ≤ _)⟩)
      dsimp only [Pt.U, Pt.locs, Pt.cells, Pt.slots] at X3 l3 y3 z3 st3 hQ3
      subst l3 y3 z3
      obtain ⟨rfl, N3q, e3⟩ := hQ3
      have N3 := Fr.app N0 N3q
      have k4 : ∀ t, Steps p.tables e below (T3.setTop (mkF m 51 #[.val (.long q1), .second, .val (.int p2), .val (.long q3), .second, .val (.long q4), .second, .val (.int (0 : Int32)), .val (.int (1 : Int32)), .unset] [(.int (lcmpW (own_flips p2 q3 q4) (0 : Int64)))])) t → Steps p.tables e below (s₁.setTop (entryFrame m #[(.long q1), (.int p2), (.long q3), (.long q4)] 10)) t := by
        intro t k
        refine k2 t ?_
        show Steps p.tables e below (s₁.setTop (mkF m 27 #[.val (.long q1), .second, .val (.int p2), .val (.long q3), .second, .val (.long q4), .second, .val (.int (0 : Int32)), .unset, .unset] [(.int (lcmpW ((((q3 ||| q4).toUInt64 >>> (p2 &&& 0x3f).toInt64.toUInt64).toInt64) &&& (1 : Int64)) (0 : Int64)))])) _
        refine XS.ifNo X0.here hx rfl (hb hby d3_27) rfl ((if0 _ _).trans (teq hc27_2).2) ?_
        show Steps p.tables e below (s₁.setTop (mkF m 30 #[.val (.long q1), .second, .val (.int p2), .val (.long q3), .second, .val (.long q4), .second, .val (.int (0 : Int32)), .unset, .unset] [])) _
        refine XS.iconst X0.here hx rfl (hb hby d3_30) ?_
        show Steps p.tables e below (s₁.setTop (mkF m 31 #[.val (.long q1), .second, .val (.int p2), .val (.long q3), .second, .val (.long q4), .second, .val (.int (0 : Int32)), .unset, .unset] [(.int (1 : Int32))])) _
        refine XS.goto X0.here hx rfl (pc0 := 31) (pc' := 35) rfl (hb hby d3_31) (by decide) (by decide) ?_
        show Steps p.tables e below (s₁.setTop (mkF m 35 #[.val (.long q1), .second, .val (.int p2), .val (.long q3), .second, .val (.long q4), .second, .val (.int (0 : Int32)), .unset, .unset] [(.int (1 : Int32))])) _
        refine XS.istore X0.here hx rfl (hb hby d3_35) rfl (l' := #[.val (.long q1), .second, .val (.int p2), .val (.long q3), .second, .val (.long q4), .second, .val (.int (0 : Int32)), .val (.int (1 : Int32)), .unset]) rfl ?_
        show Steps p.tables e below (s₁.setTop (mkF m 37 #[.val (.long q1), .second, .val (.int p2), .val (.long q3), .second, .val (.long q4), .second, .val (.int (0 : Int32)), .val (.int (1 : Int32)), .unset] [])) _
        refine XS.iload X0.here hx rfl (hb hby d3_37) rfl ?_
        show Steps p.tables e below (s₁.setTop (mkF m 39 #[.val (.long q1), .second, .val (.int p2), .val (.long q3), .second, .val (.long q4), .second, .val (.int (0 : Int32)), .val (.int (1 : Int32)), .unset] [(.int (1 : Int32))])) _
        refine XS.ifNo X0.here hx rfl (hb hby d3_39) rfl ((if0 _ _).trans (feq (by decide : ¬ ((1 : Int32) = (0 : Int32)))).1) ?_
        show Steps p.tables e below (s₁.setTop (mkF m 42 #[.val (.long q1), .second, .val (.int p2), .val (.long q3), .second, .val (.long q4), .second, .val (.int (0 : Int32)), .val (.int (1 : Int32)), .unset] [])) _
        refine XS.iloadN X0.here hx rfl (hb hby d3_42) rfl ?_
        show Steps p.tables e below (s₁.setTop (mkF m 43 #[.val (.long q1), .second, .val (.int p2), .val (.long q3), .second, .val (.long q4), .second, .val (.int (0 : Int32)), .val (.int (1 : Int32)), .unset] [(.int p2)])) _
        refine XS.lloadN X0.here hx rfl (hb hby d3_43) rfl ?_
        show Steps p.tables e below (s₁.setTop (mkF m 44 #[.val (.long q1), .second, .val (.int p2), .val (.long q3), .second, .val (.long q4), .second, .val (.int (0 : Int32)), .val (.int (1 : Int32)), .unset] [(.long q3), (.int p2)])) _
        refine XS.lload X0.here hx rfl (hb hby d3_44) rfl ?_
        show Steps p.tables e below (s₁.setTop (mkF m 46 #[.val (.long q1), .second, .val (.int p2), .val (.long q3), .second, .val (.long q4), .second, .val (.int (0 : Int32)), .val (.int (1 : Int32)), .unset] [(.long q4), (.long q3), (.int p2)])) _
        refine st3 _ ?_
        show Steps p.tables e below (T3.setTop (mkF m 49 #[.val (.long q1), .second, .val (.int p2), .val (.long q3), .second, .val (.long q4), .second, .val (.int (0 : Int32)), .val (.int (1 : Int32)), .unset] [(.long (own_flips p2 q3 q4))])) _
        refine XS.lconst X3.here hx rfl (hb hby d3_49) ?_
        show Steps p.tables e below (T3.setTop (mkF m 50 #[.val (.long q1), .second, .val (.int p2), .val (.long q3), .second, .val (.long q4), .second, .val (.int (0 : Int32)), .val (.int (1 : Int32)), .unset] [(.long (0 : Int64)), (.long (own_flips p2 q3 q4))])) _
        refine XS.lcmp X3.here hx rfl (hb hby d3_50) rfl ?_
        exact k
      by_cases hc51_3 : (lcmpW (own_flips p2 q3 q4) (0 : Int64)) = (0 : Int32)
      ·
        obtain ⟨fs, hr, hrun, hended, hW, hsame⟩ := X3.leave (v := some (.int (1 : Int32))) (fun h => by rw [Bd.returns] at h; cases h)
        refine ⟨_, _, k4 _ ?_, hrun, hended, _, _, rfl, ?_, ⟨_, rfl⟩, hW, hsame.mono (by decide) (by decide)⟩
        ·
          show Steps p.tables e below (T3.setTop (mkF m 51 #[.val (.long q1), .second, .val (.int p2), .val (.long q3), .second, .val (.long q4), .second, .val (.int (0 : Int32)), .val (.int (1 : Int32)), .unset] [(.int (lcmpW (own_flips p2 q3 q4) (0 : Int64)))])) _
          refine XS.ifYes X3.here hx rfl (pc0 := 51) (pc' := 58) rfl (hb hby d3_51) rfl ((if0 _ _).trans (teq hc51_3).1) (by decide) (by decide) ?_
          show Steps p.tables e below (T3.setTop (mkF m 58 #[.val (.long q1), .second, .val (.int p2), .val (.long q3), .second, .val (.long q4), .second, .val (.int (0 : Int32)), .val (.int (1 : Int32)), .unset] [])) _
          refine XS.iconst X3.here hx rfl (hb hby d3_58) ?_
          show Steps p.tables e below (T3.setTop (mkF m 59 #[.val (.long q1), .second, .val (.int p2), .val (.long q3), .second, .val (.long q4), .second, .val (.int (0 : Int32)), .val (.int (1 : Int32)), .unset] [(.int (0 : Int32))])) _
          refine XS.istore X3.here hx rfl (hb hby d3_59) rfl (l' := #[.val (.long q1), .second, .val (.int p2), .val (.long q3), .second, .val (.long q4), .second, .val (.int (0 : Int32)), .val (.int (1 : Int32)), .val (.int (0 : Int32))]) rfl ?_
          show Steps p.tables e below (T3.setTop (mkF m 61 #[.val (.long q1), .second, .val (.int p2), .val (.long q3), .second, .val (.long q4), .second, .val (.int (0 : Int32)), .val (.int (1 : Int32)), .val (.int (0 : Int32))] [])) _
          refine XS.iload X3.here hx rfl (hb hby d3_61) rfl ?_
          show Steps p.tables e below (T3.setTop (mkF m 63 #[.val (.long q1), .second, .val (.int p2), .val (.long q3), .second, .val (.long q4), .second, .val (.int (0 : Int32)), .val (.int (1 : Int32)), .val (.int (0 : Int32))] [(.int (0 : Int32))])) _
          refine XS.iload X3.here hx rfl (hb hby d3_63) rfl ?_
          show Steps p.tables e below (T3.setTop (mkF m 65 #[.val (.long q1), .second, .val (.int p2), .val (.long q3), .second, .val (.long q4), .second, .val (.int (0 : Int32)), .val (.int (1 : Int32)), .val (.int (0 : Int32))] [(.int (0 : Int32)), (.int (0 : Int32))])) _
          refine XS.icmpNo X3.here hx rfl (hb hby d3_65) rfl (teq (by decide : (0 : Int32) = (0 : Int32))).2 ?_
          show Steps p.tables e below (T3.setTop (mkF m 68 #[.val (.long q1), .second, .val (.int p2), .val (.long q3), .second, .val (.long q4), .second, .val (.int (0 : Int32)), .val (.int (1 : Int32)), .val (.int (0 : Int32))] [])) _
          refine XS.iconst X3.here hx rfl (hb hby d3_68) ?_
          show Steps p.tables e below (T3.setTop (mkF m 69 #[.val (.long q1), .second, .val (.int p2), .val (.long q3), .second, .val (.long q4), .second, .val (.int (0 : Int32)), .val (.int (1 : Int32)), .val (.int (0 : Int32))] [(.int (1 : Int32))])) _
          refine XS.goto X3.here hx rfl (pc0 := 69) (pc' := 73) rfl (hb hby d3_69) (by decide) (by decide) ?_
          show Steps p.tables e below (T3.setTop (mkF m 73 #[.val (.long q1), .second, .val (.int p2), .val (.long q3), .second, .val (.long q4), .second, .val (.int (0 : Int32)), .val (.int (1 : Int32)), .val (.int (0 : Int32))] [(.int (1 : Int32))])) _
          exact retN X3 hx (t := .boolean) Bd.returns (by simp) (hb hby d3_73) hr
        · show Q3_0 Z q1 p2 q3 q4 w_STEPS kv_STEPS w_LANDINGS kv_LANDINGS h0 n0 _ T3.heap _
          rw [e3]
          exact ⟨rfl, N3, rfl⟩
      ·
        exact absurd hc7_1 (HP.mpr ⟨hc27_2, hc51_3⟩)
    ·
      obtain ⟨fs, hr, hrun, hended, hW, hsame⟩ := X0.leave (v := some (.int (1 : Int32))) (fun h => by rw [Bd.returns] at h; cases h)
      refine ⟨_, _, k2 _ ?_, hrun, hended, _, _, rfl, ?_, ⟨_, rfl⟩, hW, hsame.mono (by decide) (by decide)⟩
      ·
        show Steps p.tables e below (s₁.setTop (mkF m 27 #[.val (.long q1), .second, .val (.int p2), .val (.long q3), .second, .val (.long q4), .second, .val (.int (0 : Int32)), .unset, .unset] [(.int (lcmpW ((((q3 ||| q4).toUInt64 >>> (p2 &&& 0x3f).toInt64.toUInt64).toInt64) &&& (1 : Int64)) (0 : Int64)))])) _
        refine XS.ifYes X0.here hx rfl (pc0 := 27) (pc' := 34) rfl (hb hby d3_27) rfl ((if0 _ _).trans (feq hc27_2).2) (by decide) (by decide) ?_
        show Steps p.tables e below (s₁.setTop (mkF m 34 #[.val (.long q1), .second, .val (.int p2), .val (.long q3), .second, .val (.long q4), .second, .val (.int (0 : Int32)), .unset, .unset] [])) _
        refine XS.iconst X0.here hx rfl (hb hby d3_34) ?_
        show Steps p.tables e below (s₁.setTop (mkF m 35 #[.val (.long q1), .second, .val (.int p2), .val (.long q3), .second, .val (.long q4), .second, .val (.int (0 : Int32)), .unset, .unset] [(.int (0 : Int32))])) _
        refine XS.istore X0.here hx rfl (hb hby d3_35) rfl (l' := #[.val (.long q1), .second, .val (.int p2), .val (.long q3), .second, .val (.long q4), .second, .val (.int (0 : Int32)), .val (.int (0 : Int32)), .unset]) rfl ?_
        show Steps p.tables e below (s₁.setTop (mkF m 37 #[.val (.long q1), .second, .val (.int p2), .val (.long q3), .second, .val (.long q4), .second, .val (.int (0 : Int32)), .val (.int (0 : Int32)), .unset] [])) _
        refine XS.iload X0.here hx rfl (hb hby d3_37) rfl ?_
        show Steps p.tables e below (s₁.setTop (mkF m 39 #[.val (.long q1), .second, .val (.int p2), .val (.long q3), .second, .val (.long q4), .second, .val (.int (0 : Int32)), .val (.int (0 : Int32)), .unset] [(.int (0 : Int32))])) _
        refine XS.ifYes X0.here hx rfl (pc0 := 39) (pc' := 58) rfl (hb hby d3_39) rfl ((if0 _ _).trans (teq (by decide : (0 : Int32) = (0 : Int32))).1) (by decide) (by decide) ?_
        show Steps p.tables e below (s₁.setTop (mkF m 58 #[.val (.long q1), .second, .val (.int p2), .val (.long q3), .second, .val (.long q4), .second, .val (.int (0 : Int32)), .val (.int (0 : Int32)), .unset] [])) _
        refine XS.iconst X0.here hx rfl (hb hby d3_58) ?_
        show Steps p.tables e below (s₁.setTop (mkF m 59 #[.val (.long q1), .second, .val (.int p2), .val (.long q3), .second, .val (.long q4), .second, .val (.int (0 : Int32)), .val (.int (0 : Int32)), .unset] [(.int (0 : Int32))])) _
        refine XS.istore X0.here hx rfl (hb hby d3_59) rfl (l' := #[.val (.long q1), .second, .val (.int p2), .val (.long q3), .second, .val (.long q4), .second, .val (.int (0 : Int32)), .val (.int (0 : Int32)), .val (.int (0 : Int32))]) rfl ?_
        show Steps p.tables e below (s₁.setTop (mkF m 61 #[.val (.long q1), .second, .val (.int p2), .val (.long q3), .second, .val (.long q4), .second, .val (.int (0 : Int32)), .val (.int (0 : Int32)), .val (.int (0 : Int32))] [])) _
        refine XS.iload X0.here hx rfl (hb hby d3_61) rfl ?_
        show Steps p.tables e below (s₁.setTop (mkF m 63 #[.val (.long q1), .second, .val (.int p2), .val (.long q3), .second, .val (.long q4), .second, .val (.int (0 : Int32)), .val (.int (0 : Int32)), .val (.int (0 : Int32))] [(.int (0 : Int32))])) _
        refine XS.iload X0.here hx rfl (hb hby d3_63) rfl ?_
        show Steps p.tables e below (s₁.setTop (mkF m 65 #[.val (.long q1), .second, .val (.int p2), .val (.long q3), .second, .val (.long q4), .second, .val (.int (0 : Int32)), .val (.int (0 : Int32)), .val (.int (0 : Int32))] [(.int (0 : Int32)), (.int (0 : Int32))])) _
        refine XS.icmpNo X0.here hx rfl (hb hby d3_65) rfl (teq (by decide : (0 : Int32) = (0 : Int32))).2 ?_
        show Steps p.tables e below (s₁.setTop (mkF m 68 #[.val (.long q1), .second, .val (.int p2), .val (.long q3), .second, .val (.long q4), .second, .val (.int (0 : Int32)), .val (.int (0 : Int32)), .val (.int (0 : Int32))] [])) _
        refine XS.iconst X0.here hx rfl (hb hby d3_68) ?_
        show Steps p.tables e below (s₁.setTop (mkF m 69 #[.val (.long q1), .second, .val (.int p2), .val (.long q3), .second, .val (.long q4), .second, .val (.int (0 : Int32)), .val (.int (0 : Int32)), .val (.int (0 : Int32))] [(.int (1 : Int32))])) _
        refine XS.goto X0.here hx rfl (pc0 := 69) (pc' := 73) rfl (hb hby d3_69) (by decide) (by decide) ?_
        show Steps p.tables e below (s₁.setTop (mkF m 73 #[.val (.long q1), .second, .val (.int p2), .val (.long q3), .second, .val (.long q4), .second, .val (.int (0 : Int32)), .val (.int (0 : Int32)), .val (.int (0 : Int32))] [(.int (1 : Int32))])) _
        exact retN X0 hx (t := .boolean) Bd.returns (by simp) (hb hby d3_73) hr
      · show Q3_0 Z q1 p2 q3 q4 w_STEPS kv_STEPS w_LANDINGS kv_LANDINGS h0 n0 _ s₁.heap _
        rw [e0]
        exact ⟨rfl, N0, rfl⟩
  ·
    have k5 : ∀ t, Steps p.tables e below (s₁.setTop (mkF m 27 #[.val (.long q1), .second, .val (.int p2), .val (.long q3), .second, .val (.long q4), .second, .val (.int (1 : Int32)), .unset, .unset] [(.int (lcmpW ((((q3 ||| q4).toUInt64 >>> (p2 &&& 0x3f).toInt64.toUInt64).toInt64) &&& (1 : Int64)) (0 : Int64)))])) t → Steps p.tables e below (s₁.setTop (entryFrame m #[(.long q1), (.int p2), (.long q3), (.long q4)] 10)) t := by
      intro t k
      refine k1 t ?_
      show Steps p.tables e below (s₁.setTop (mkF m 7 #[.val (.long q1), .second, .val (.int p2), .val (.long q3), .second, .val (.long q4), .second, .unset, .unset, .unset] [(.int (lcmpW (((q1.toUInt64 >>> (p2 &&& 0x3f).toInt64.toUInt64).toInt64) &&& (1 : Int64)) (0 : Int64)))])) _
      refine XS.ifNo X0.here hx rfl (hb hby d3_7) rfl ((if0 _ _).trans (feq hc7_1).1) ?_
      show Steps p.tables e below (s₁.setTop (mkF m 10 #[.val (.long q1), .second, .val (.int p2), .val (.long q3), .second, .val (.long q4), .second, .unset, .unset, .unset] [])) _
      refine XS.iconst X0.here hx rfl (hb hby d3_10) ?_
      show Steps p.tables e below (s₁.setTop (mkF m 11 #[.val (.long q1), .second, .val (.int p2), .val (.long q3), .second, .val (.long q4), .second, .unset, .unset, .unset] [(.int (1 : Int32))])) _
      refine XS.goto X0.here hx rfl (pc0 := 11) (pc' := 15) rfl (hb hby d3_11) (by decide) (by decide) ?_
      show Steps p.tables e below (s₁.setTop (mkF m 15 #[.val (.long q1), .second, .val (.int p2), .val (.long q3), .second, .val (.long q4), .second, .unset, .unset, .unset] [(.int (1 : Int32))])) _
      refine XS.istore X0.here hx rfl (hb hby d3_15) rfl (l' := #[.val (.long q1), .second, .val (.int p2), .val (.long q3), .second, .val (.long q4), .second, .val (.int (1 : Int32)), .unset, .unset]) rfl ?_
      show Steps p.tables e below (s₁.setTop (mkF m 17 #[.val (.long q1), .second, .val (.int p2), .val (.long q3), .second, .val (.long q4), .second, .val (.int (1 : Int32)), .unset, .unset] [])) _
      refine XS.lloadN X0.here hx rfl (hb hby d3_17) rfl ?_
      show Steps p.tables e below (s₁.setTop (mkF m 18 #[.val (.long q1), .second, .val (.int p2), .val (.long q3), .second, .val (.long q4), .second, .val (.int (1 : Int32)), .unset, .unset] [(.long q3)])) _
      refine XS.lload X0.here hx rfl (hb hby d3_18) rfl ?_
      show Steps p.tables e below (s₁.setTop (mkF m 20 #[.val (.long q1), .second, .val (.int p2), .val (.long q3), .second, .val (.long q4), .second, .val (.int (1 : Int32)), .unset, .unset] [(.long q4), (.long q3)])) _
      refine XS.lor X0.here hx rfl (hb hby d3_20) rfl ?_
      show Steps p.tables e below (s₁.setTop (mkF m 21 #[.val (.long q1), .second, .val (.int p2), .val (.long q3), .second, .val (.long q4), .second, .val (.int (1 : Int32)), .unset, .unset] [(.long (q3 ||| q4))])) _
      refine XS.iloadN X0.here hx rfl (hb hby d3_21) rfl ?_
      show Steps p.tables e below (s₁.setTop (mkF m 22 #[.val (.long q1), .second, .val (.int p2), .val (.long q3), .second, .val (.long q4), .second, .val (.int (1 : Int32)), .unset, .unset] [(.int p2), (.long (q3 ||| q4))])) _
      refine XS.lushr X0.here hx rfl (hb hby d3_22) rfl ?_
      show Steps p.tables e below (s₁.setTop (mkF m 23 #[.val (.long q1), .second, .val (.int p2), .val (.long q3), .second, .val (.long q4), .second, .val (.int (1 : Int32)), .unset, .unset] [(.long (((q3 ||| q4).toUInt64 >>> (p2 &&& 0x3f).toInt64.toUInt64).toInt64))])) _
      refine XS.lconst X0.here hx rfl (hb hby d3_23) ?_
      show Steps p.tables e below (s₁.setTop (mkF m 24 #[.val (.long q1), .second, .val (.int p2), .val (.long q3), .second, .val (.long q4), .second, .val (.int (1 : Int32)), .unset, .unset] [(.long (1 : Int64)), (.long (((q3 ||| q4).toUInt64 >>> (p2 &&& 0x3f).toInt64.toUInt64).toInt64))])) _
      refine XS.land X0.here hx rfl (hb hby d3_24) rfl ?_
      show Steps p.tables e below (s₁.setTop (mkF m 25 #[.val (.long q1), .second, .val (.int p2), .val (.long q3), .second, .val (.long q4), .second, .val (.int (1 : Int32)), .unset, .unset] [(.long ((((q3 ||| q4).toUInt64 >>> (p2 &&& 0x3f).toInt64.toUInt64).toInt64) &&& (1 : Int64)))])) _
      refine XS.lconst X0.here hx rfl (hb hby d3_25) ?_
      show Steps p.tables e below (s₁.setTop (mkF m 26 #[.val (.long q1), .second, .val (.int p2), .val (.long q3), .second, .val (.long q4), .second, .val (.int (1 : Int32)), .unset, .unset] [(.long (0 : Int64)), (.long ((((q3 ||| q4).toUInt64 >>> (p2 &&& 0x3f).toInt64.toUInt64).toInt64) &&& (1 : Int64)))])) _
      refine XS.lcmp X0.here hx rfl (hb hby d3_26) rfl ?_
      exact k
    by_cases hc27_4 : (lcmpW ((((q3 ||| q4).toUInt64 >>> (p2 &&& 0x3f).toInt64.toUInt64).toInt64) &&& (1 : Int64)) (0 : Int64)) = (0 : Int32)
    ·
      obtain ⟨_, _, ⟨T6, L6, k6, n6⟩, -, X6, ⟨Lc6, hQ6, l6, y6, z6⟩, st6⟩ := Jvm.LawKit.callS X0 hx (y := (⟨"com/example/counterply/counterply/othello/Board", "flips", "(IJJ)J"⟩ : MethodName)) hown (mvT hZ (hw _ (List.mem_of_getElem? (i := 17) rfl))) (mvT hZ (hw _ (List.mem_of_getElem? (i := 18) rfl))) (mvT hZ (hw _ (List.mem_of_getElem? (i := 3) rfl))) (mvT hZ (hw _ (List.mem_of_getElem? (i := 19) rfl))) (by decide) (backOf (W := 0) (rm4_0 l Z a0 hw [] p2 q3 q4 w_STEPS kv_STEPS w_LANDINGS kv_LANDINGS h0 n0 Z0 S_STEPS V_STEPS S_LANDINGS V_LANDINGS) hZ (hw _ (List.mem_of_getElem? (i := 19) rfl)) (hw _ (List.mem_of_getElem? (i := 3) rfl)) (by decide) (by decide)) (g := (mkF m 46 #[.val (.long q1), .second, .val (.int p2), .val (.long q3), .second, .val (.long q4), .second, .val (.int (1 : Int32)), .val (.int (1 : Int32)), .unset] [(.long q4), (.long q3), (.int p2)])) rfl (by rw [hml]; rfl) (argsL := [(.int p2), (.long q3), (.long q4)]) (rest := []) (lenOf pd_2 rfl) rfl (by show 2 * 0 + _ ≤ _; exact Nat.le_of_eq rfl) (hb hby d3_46) (fun _ _ => ⟨rfl, e0, (by decide : 0 + 0 ≤ _), (by decide : 0 + 0 ≤ _)⟩)
      dsimp only [Pt.U, Pt.locs, Pt.cells, Pt.slots] at X6 l6 y6 z6 st6 hQ6
      subst l6 y6 z6
      obtain ⟨rfl, N6q, e6⟩ := hQ6
      have N6 := Fr.app N0 N6q
      have k7 : ∀ t, Steps p.tables e below (T6.setTop (mkF m 51 #[.val (.long q1), .second, .val (.int p2), .val (.long q3), .second, .val (.long q4), .second, .val (.int (1 : Int32)), .val (.int (1 : Int32)), .unset] [(.int (lcmpW (own_flips p2 q3 q4) (0 : Int64)))])) t → Steps p.tables e below (s₁.setTop (entryFrame m #[(.long q1), (.int p2), (.long q3), (.long q4)] 10)) t := by
        intro t k
        refine k5 t ?_
        show Steps p.tables e below (s₁.setTop (mkF m 27 #[.val (.long q1), .second, .val (.int p2), .val (.long q3), .second, .val (.long q4), .second, .val (.int (1 : Int32)), .unset, .unset] [(.int (lcmpW ((((q3 ||| q4).toUInt64 >>> (p2 &&& 0x3f).toInt64.toUInt64).toInt64) &&& (1 : Int64)) (0 : Int64)))])) _
        refine XS.ifNo X0.here hx rfl (hb hby d3_27) rfl ((if0 _ _).trans (teq hc27_4).2) ?_
        show Steps p.tables e below (s₁.setTop (mkF m 30 #[.val (.long q1), .second, .val (.int p2), .val (.long q3), .second, .val (.long q4), .second, .val (.int (1 : Int32)), .unset, .unset] [])) _
        refine XS.iconst X0.here hx rfl (hb hby d3_30) ?_
        show Steps p.tables e below (s₁.setTop (mkF m 31 #[.val (.long q1), .second, .val (.int p2), .val (.long q3), .second, .val (.long q4), .second, .val (.int (1 : Int32)), .unset, .unset] [(.int (1 : Int32))])) _
        refine XS.goto X0.here hx rfl (pc0 := 31) (pc' := 35) rfl (hb hby d3_31) (by decide) (by decide) ?_
        show Steps p.tables e below (s₁.setTop (mkF m 35 #[.val (.long q1), .second, .val (.int p2), .val (.long q3), .second, .val (.long q4), .second, .val (.int (1 : Int32)), .unset, .unset] [(.int (1 : Int32))])) _
        refine XS.istore X0.here hx rfl (hb hby d3_35) rfl (l' := #[.val (.long q1), .second, .val (.int p2), .val (.long q3), .second, .val (.long q4), .second, .val (.int (1 : Int32)), .val (.int (1 : Int32)), .unset]) rfl ?_
        show Steps p.tables e below (s₁.setTop (mkF m 37 #[.val (.long q1), .second, .val (.int p2), .val (.long q3), .second, .val (.long q4), .second, .val (.int (1 : Int32)), .val (.int (1 : Int32)), .unset] [])) _
        refine XS.iload X0.here hx rfl (hb hby d3_37) rfl ?_
        show Steps p.tables e below (s₁.setTop (mkF m 39 #[.val (.long q1), .second, .val (.int p2), .val (.long q3), .second, .val (.long q4), .second, .val (.int (1 : Int32)), .val (.int (1 : Int32)), .unset] [(.int (1 : Int32))])) _
        refine XS.ifNo X0.here hx rfl (hb hby d3_39) rfl ((if0 _ _).trans (feq (by decide : ¬ ((1 : Int32) = (0 : Int32)))).1) ?_
        show Steps p.tables e below (s₁.setTop (mkF m 42 #[.val (.long q1), .second, .val (.int p2), .val (.long q3), .second, .val (.long q4), .second, .val (.int (1 : Int32)), .val (.int (1 : Int32)), .unset] [])) _
        refine XS.iloadN X0.here hx rfl (hb hby d3_42) rfl ?_
        show Steps p.tables e below (s₁.setTop (mkF m 43 #[.val (.long q1), .second, .val (.int p2), .val (.long q3), .second, .val (.long q4), .second, .val (.int (1 : Int32)), .val (.int (1 : Int32)), .unset] [(.int p2)])) _
        refine XS.lloadN X0.here hx rfl (hb hby d3_43) rfl ?_
        show Steps p.tables e below (s₁.setTop (mkF m 44 #[.val (.long q1), .second, .val (.int p2), .val (.long q3), .second, .val (.long q4), .second, .val (.int (1 : Int32)), .val (.int (1 : Int32)), .unset] [(.long q3), (.int p2)])) _
        refine XS.lload X0.here hx rfl (hb hby d3_44) rfl ?_
        show Steps p.tables e below (s₁.setTop (mkF m 46 #[.val (.long q1), .second, .val (.int p2), .val (.long q3), .second, .val (.long q4), .second, .val (.int (1 : Int32)), .val (.int (1 : Int32)), .unset] [(.long q4), (.long q3), (.int p2)])) _
        refine st6 _ ?_
        show Steps p.tables e below (T6.setTop (mkF m 49 #[.val (.long q1), .second, .val (.int p2), .val (.long q3), .second, .val (.long q4), .second, .val (.int (1 : Int32)), .val (.int (1 : Int32)), .unset] [(.long (own_flips p2 q3 q4))])) _
        refine XS.lconst X6.here hx rfl (hb hby d3_49) ?_
        show Steps p.tables e below (T6.setTop (mkF m 50 #[.val (.long q1), .second, .val (.int p2), .val (.long q3), .second, .val (.long q4), .second, .val (.int (1 : Int32)), .val (.int (1 : Int32)), .unset] [(.long (0 : Int64)), (.long (own_flips p2 q3 q4))])) _
        refine XS.lcmp X6.here hx rfl (hb hby d3_50) rfl ?_
        exact k
      by_cases hc51_5 : (lcmpW (own_flips p2 q3 q4) (0 : Int64)) = (0 : Int32)
      ·
        exact absurd hc51_5 (HP.mp hc7_1).2
      ·
        obtain ⟨fs, hr, hrun, hended, hW, hsame⟩ := X6.leave (v := some (.int (1 : Int32))) (fun h => by rw [Bd.returns] at h; cases h)
        refine ⟨_, _, k7 _ ?_, hrun, hended, _, _, rfl, ?_, ⟨_, rfl⟩, hW, hsame.mono (by decide) (by decide)⟩
        ·
          show Steps p.tables e below (T6.setTop (mkF m 51 #[.val (.long q1), .second, .val (.int p2), .val (.long q3), .second, .val (.long q4), .second, .val (.int (1 : Int32)), .val (.int (1 : Int32)), .unset] [(.int (lcmpW (own_flips p2 q3 q4) (0 : Int64)))])) _
          refine XS.ifNo X6.here hx rfl (hb hby d3_51) rfl ((if0 _ _).trans (feq hc51_5).1) ?_
          show Steps p.tables e below (T6.setTop (mkF m 54 #[.val (.long q1), .second, .val (.int p2), .val (.long q3), .second, .val (.long q4), .second, .val (.int (1 : Int32)), .val (.int (1 : Int32)), .unset] [])) _
          refine XS.iconst X6.here hx rfl (hb hby d3_54) ?_
          show Steps p.tables e below (T6.setTop (mkF m 55 #[.val (.long q1), .second, .val (.int p2), .val (.long q3), .second, .val (.long q4), .second, .val (.int (1 : Int32)), .val (.int (1 : Int32)), .unset] [(.int (1 : Int32))])) _
          refine XS.goto X6.here hx rfl (pc0 := 55) (pc' := 59) rfl (hb hby d3_55) (by decide) (by decide) ?_
          show Steps p.tables e below (T6.setTop (mkF m 59 #[.val (.long q1), .second, .val (.int p2), .val (.long q3), .second, .val (.long q4), .second, .val (.int (1 : Int32)), .val (.int (1 : Int32)), .unset] [(.int (1 : Int32))])) _
          refine XS.istore X6.here hx rfl (hb hby d3_59) rfl (l' := #[.val (.long q1), .second, .val (.int p2), .val (.long q3), .second, .val (.long q4), .second, .val (.int (1 : Int32)), .val (.int (1 : Int32)), .val (.int (1 : Int32))]) rfl ?_
          show Steps p.tables e below (T6.setTop (mkF m 61 #[.val (.long q1), .second, .val (.int p2), .val (.long q3), .second, .val (.long q4), .second, .val (.int (1 : Int32)), .val (.int (1 : Int32)), .val (.int (1 : Int32))] [])) _
          refine XS.iload X6.here hx rfl (hb hby d3_61) rfl ?_
          show Steps p.tables e below (T6.setTop (mkF m 63 #[.val (.long q1), .second, .val (.int p2), .val (.long q3), .second, .val (.long q4), .second, .val (.int (1 : Int32)), .val (.int (1 : Int32)), .val (.int (1 : Int32))] [(.int (1 : Int32))])) _
          refine XS.iload X6.here hx rfl (hb hby d3_63) rfl ?_
          show Steps p.tables e below (T6.setTop (mkF m 65 #[.val (.long q1), .second, .val (.int p2), .val (.long q3), .second, .val (.long q4), .second, .val (.int (1 : Int32)), .val (.int (1 : Int32)), .val (.int (1 : Int32))] [(.int (1 : Int32)), (.int (1 : Int32))])) _
          refine XS.icmpNo X6.here hx rfl (hb hby d3_65) rfl (teq (by decide : (1 : Int32) = (1 : Int32))).2 ?_
          show Steps p.tables e below (T6.setTop (mkF m 68 #[.val (.long q1), .second, .val (.int p2), .val (.long q3), .second, .val (.long q4), .second, .val (.int (1 : Int32)), .val (.int (1 : Int32)), .val (.int (1 : Int32))] [])) _
          refine XS.iconst X6.here hx rfl (hb hby d3_68) ?_
          show Steps p.tables e below (T6.setTop (mkF m 69 #[.val (.long q1), .second, .val (.int p2), .val (.long q3), .second, .val (.long q4), .second, .val (.int (1 : Int32)), .val (.int (1 : Int32)), .val (.int (1 : Int32))] [(.int (1 : Int32))])) _
          refine XS.goto X6.here hx rfl (pc0 := 69) (pc' := 73) rfl (hb hby d3_69) (by decide) (by decide) ?_
          show Steps p.tables e below (T6.setTop (mkF m 73 #[.val (.long q1), .second, .val (.int p2), .val (.long q3), .second, .val (.long q4), .second, .val (.int (1 : Int32)), .val (.int (1 : Int32)), .val (.int (1 : Int32))] [(.int (1 : Int32))])) _
          exact retN X6 hx (t := .boolean) Bd.returns (by simp) (hb hby d3_73) hr
        · show Q3_0 Z q1 p2 q3 q4 w_STEPS kv_STEPS w_LANDINGS kv_LANDINGS h0 n0 _ T6.heap _
          rw [e6]
          exact ⟨rfl, N6, rfl⟩
    ·
      exact absurd (HP.mp hc7_1).1 hc27_4
theorem pd_3 : parseMethodDescriptor "(JIJJ)Z" = some ⟨[.long, .int, .long, .long], some .boolean⟩ := by decide +kernel
theorem ef_rm0_0 (m : MethodId) (x0 : Int64) (x1 : Int64) (x2 : Int32) (x3 : Int32) : entryFrame m #[(.long x0), (.long x1), (.int x2), (.int x3)] maxLocals = mkF m 0 #[.val (.long x0), .second, .val (.long x1), .second, .val (.int x2), .val (.int x3), .unset, .unset, .unset, .unset] [] := by first | (simp [entryFrame, mkF, argsToLocals, Value.category, maxLocals]; done) | rfl
def Q0_0 (Z : State) (q1 : Int64) (q2 : Int64) (p3 : Int32) (p4 : Int32) (w_STEPS : Addr) (kv_STEPS : ClassId) (w_LANDINGS : Addr) (kv_LANDINGS : ClassId) (h0 : Heap) (n0 : Nat) (v : Option Value) (h : Heap) (L : List Loc) : Prop := v = some (.int (1 : Int32)) ∧ Fr n0 L
set_option maxRecDepth 65536 in
set_option maxHeartbeats 40000000 in
theorem rm0_0 (l : Launch) (Z : State) (a0 : Array Value) (hw : ∀ d ∈ tables_1, d.before a0 Z = true) (ws : List Jvm.Cond) (q1 : Int64) (q2 : Int64) (p3 : Int32) (p4 : Int32) (w_STEPS : Addr) (kv_STEPS : ClassId) (w_LANDINGS : Addr) (kv_LANDINGS : ClassId) (h0 : Heap) (n0 : Nat) (Z0 : n0 ≤ h0.size) (S_STEPS : Sta Z h0 "com/example/counterply/counterply/othello/Board" "STEPS" "[I" (.ref w_STEPS)) (V_STEPS : Arv Z h0 w_STEPS kv_STEPS .int (8 : Int32) [(.int (1 : Int32)), (.int (-1 : Int32)), (.int (8 : Int32)), (.int (-8 : Int32)), (.int (9 : Int32)), (.int (-9 : Int32)), (.int (7 : Int32)), (.int (-7 : Int32))] (.int (0 : Int32))) (S_LANDINGS : Sta Z h0 "com/example/counterply/counterply/othello/Board" "LANDINGS" "[J" (.ref w_LANDINGS)) (V_LANDINGS : Arv Z h0 w_LANDINGS kv_LANDINGS .long (8 : Int32) [(.long (-72340172838076674 : Int64)), (.long (9187201950435737471 : Int64)), (.long (-1 : Int64)), (.long (-1 : Int64)), (.long (-72340172838076674 : Int64)), (.long (9187201950435737471 : Int64)), (.long (9187201950435737471 : Int64)), (.long (-72340172838076674 : Int64))] (.long (0 : Int64))) :
    MetFree l x (head1 (Jvm.Cond.code x code maxLocals ret :: ws) room_1) (fun a U => a = #[(.long q1), (.long q2), (.int p3), (.int p4)] ∧ Z.Warmed39 U.vm ∧ U.heap = h0) (fun _ _ _ _ _ => True) (fun _ U o U' => ∃ v L, o = .returned v ∧ Q0_0 Z q1 q2 p3 p4 w_STEPS kv_STEPS w_LANDINGS kv_LANDINGS h0 n0 v U'.heap L ∧ FrameEnd U o U' L room_1.cells room_1.slots) := by
  refine MetFree.of_bodySF (plainFor_of_name pn_1) hisR ?_
  intro p e s m args below meth c s₁ Bd hml0 hP hK
  obtain ⟨rfl, hZ, hh⟩ := hP
  have hx := Bd.exec
  have hby := Bd.bytes
  have hml : c.maxLocals = 10 := hml0
  have hown : s.vm.findClass "com/example/counterply/counterply/othello/BoardMovesPinLaw" = some m.cls := findClass_of_methodNamed Bd.named
  have hnm := (name_of_methodNamed Bd.named Bd.method).1
  have X0 : Stand p l e room_1 s m #[(.long q1), (.long q2), (.int p3), (.int p4)] below meth c s₁ [] 0 0 := Stand.of_body Bd
  have e0 : s₁.heap = h0 := by rw [← hh, Bd.state]; rfl
  have N0 := Fr.nil n0
  have pre0 : ∀ t, Steps p.tables e below (s₁.setTop (mkF m 0 #[.val (.long q1), .second, .val (.long q2), .second, .val (.int p3), .val (.int p4), .unset, .unset, .unset, .unset] [])) t → Steps p.tables e below (s₁.setTop (entryFrame m #[(.long q1), (.long q2), (.int p3), (.int p4)] maxLocals)) t := fun t k => castTop (ef_rm0_0 m q1 q2 p3 p4) k
  obtain ⟨_, _, ⟨T1, L1, k1, n1⟩, -, X1, ⟨Lc1, hQ1, l1, y1, z1⟩, st1⟩ := Jvm.LawKit.callS X0 hx (y := (⟨"com/example/counterply/counterply/othello/Board", "moves", "(JJ)J"⟩ : MethodName)) hown (mvT hZ (hw _ (List.mem_of_getElem? (i := 1) rfl))) (mvT hZ (hw _ (List.mem_of_getElem? (i := 2) rfl))) (mvT hZ (hw _ (List.mem_of_getElem? (i := 3) rfl))) (mvT hZ (hw _ (List.mem_of_getElem? (i := 4) rfl))) (by decide) (backOf (W := 0) (rm1_0 l Z a0 hw [] q1 (q2 &&& (q1 ^^^ (-1 : Int64))) w_STEPS kv_STEPS w_LANDINGS kv_LANDINGS h0 n0 Z0 S_STEPS V_STEPS S_LANDINGS V_LANDINGS) hZ (hw _ (List.mem_of_getElem? (i := 4) rfl)) (hw _ (List.mem_of_getElem? (i := 3) rfl)) (by decide) (by decide)) (g := (mkF m 12 #[.val (.long q1), .second, .val (.long q2), .second, .val (.int p3), .val (.int p4), .val (.long (q2 &&& (q1 ^^^ (-1 : Int64)))), .second, .unset, .unset] [(.long (q2 &&& (q1 ^^^ (-1 : Int64)))), (.long q1)])) rfl (by rw [hml]; rfl) (argsL := [(.long q1), (.long (q2 &&& (q1 ^^^ (-1 : Int64))))]) (rest := []) (lenOf pd_1 rfl) rfl (by show 2 * 0 + _ ≤ _; exact Nat.le_of_eq rfl) (hb hby at_12) (fun _ _ => ⟨rfl, e0, (by decide : 0 + 0 ≤ _), (by decide : 0 + 0 ≤ _)⟩)
  dsimp only [Pt.U, Pt.locs, Pt.cells, Pt.slots] at X1 l1 y1 z1 st1 hQ1
  subst l1 y1 z1
  obtain ⟨rfl, N1q, e1⟩ := hQ1
  have N1 := Fr.app N0 N1q
  obtain ⟨_, _, ⟨T2, L2, k2, n2⟩, -, X2, ⟨Lc2, hQ2, l2, y2, z2⟩, st2⟩ := Jvm.LawKit.callS X1 hx (y := (⟨"com/example/counterply/counterply/othello/BoardMovesPinLaw", "agrees", "(JIJJ)Z"⟩ : MethodName)) hown (mvT hZ (hw _ (List.mem_of_getElem? (i := 13) rfl))) (mvT hZ (hw _ (List.mem_of_getElem? (i := 14) rfl))) (mvT hZ (hw _ (List.mem_of_getElem? (i := 15) rfl))) (mvT hZ (hw _ (List.mem_of_getElem? (i := 16) rfl))) (by decide) (backOf (W := 0) (rm3_0 l Z a0 hw [] (own_moves q1 (q2 &&& (q1 ^^^ (-1 : Int64)))) (p3 &&& (63 : Int32)) q1 (q2 &&& (q1 ^^^ (-1 : Int64))) w_STEPS kv_STEPS w_LANDINGS kv_LANDINGS h0 n0 Z0 S_STEPS V_STEPS S_LANDINGS V_LANDINGS (own_board q1 q2 (p3 &&& (63 : Int32)))) hZ (hw _ (List.mem_of_getElem? (i := 16) rfl)) (hw _ (List.mem_of_getElem? (i := 15) rfl)) (by decide) (by decide)) (g := (mkF m 27 #[.val (.long q1), .second, .val (.long q2), .second, .val (.int p3), .val (.int p4), .val (.long (q2 &&& (q1 ^^^ (-1 : Int64)))), .second, .val (.long (own_moves q1 (q2 &&& (q1 ^^^ (-1 : Int64))))), .second] [(.long (q2 &&& (q1 ^^^ (-1 : Int64)))), (.long q1), (.int (p3 &&& (63 : Int32))), (.long (own_moves q1 (q2 &&& (q1 ^^^ (-1 : Int64)))))])) rfl (by rw [hml]; rfl) (argsL := [(.long (own_moves q1 (q2 &&& (q1 ^^^ (-1 : Int64))))), (.int (p3 &&& (63 : Int32))), (.long q1), (.long (q2 &&& (q1 ^^^ (-1 : Int64))))]) (rest := []) (lenOf pd_3 rfl) rfl (by show 2 * 0 + _ ≤ _; exact Nat.le_of_eq rfl) (hb hby at_27) (fun _ _ => ⟨rfl, e1, (by decide : 0 + 0 ≤ _), (by decide : 0 + 0 ≤ _)⟩)
  dsimp only [Pt.U, Pt.locs, Pt.cells, Pt.slots] at X2 l2 y2 z2 st2 hQ2
  subst l2 y2 z2
  obtain ⟨rfl, N2q, e2⟩ := hQ2
  have N2 := Fr.app N1 N2q
  obtain ⟨_, _, ⟨T3, L3, k3, n3⟩, -, X3, ⟨Lc3, hQ3, l3, y3, z3⟩, st3⟩ := Jvm.LawKit.callS X2 hx (y := (⟨"com/example/counterply/counterply/othello/BoardMovesPinLaw", "agrees", "(JIJJ)Z"⟩ : MethodName)) hown (mvT hZ (hw _ (List.mem_of_getElem? (i := 13) rfl))) (mvT hZ (hw _ (List.mem_of_getElem? (i := 14) rfl))) (mvT hZ (hw _ (List.mem_of_getElem? (i := 15) rfl))) (mvT hZ (hw _ (List.mem_of_getElem? (i := 16) rfl))) (by decide) (backOf (W := 0) (rm3_0 l Z a0 hw [] (own_moves q1 (q2 &&& (q1 ^^^ (-1 : Int64)))) (p4 &&& (63 : Int32)) q1 (q2 &&& (q1 ^^^ (-1 : Int64))) w_STEPS kv_STEPS w_LANDINGS kv_LANDINGS h0 n0 Z0 S_STEPS V_STEPS S_LANDINGS V_LANDINGS (own_board q1 q2 (p4 &&& (63 : Int32)))) hZ (hw _ (List.mem_of_getElem? (i := 16) rfl)) (hw _ (List.mem_of_getElem? (i := 15) rfl)) (by decide) (by decide)) (g := (mkF m 43 #[.val (.long q1), .second, .val (.long q2), .second, .val (.int p3), .val (.int p4), .val (.long (q2 &&& (q1 ^^^ (-1 : Int64)))), .second, .val (.long (own_moves q1 (q2 &&& (q1 ^^^ (-1 : Int64))))), .second] [(.long (q2 &&& (q1 ^^^ (-1 : Int64)))), (.long q1), (.int (p4 &&& (63 : Int32))), (.long (own_moves q1 (q2 &&& (q1 ^^^ (-1 : Int64)))))])) rfl (by rw [hml]; rfl) (argsL := [(.long (own_moves q1 (q2 &&& (q1 ^^^ (-1 : Int64))))), (.int (p4 &&& (63 : Int32))), (.long q1), (.long (q2 &&& (q1 ^^^ (-1 : Int64))))]) (rest := []) (lenOf pd_3 rfl) rfl (by show 2 * 0 + _ ≤ _; exact Nat.le_of_eq rfl) (hb hby at_43) (fun _ _ => ⟨rfl, e2, (by decide : 0 + 0 ≤ _), (by decide : 0 + 0 ≤ _)⟩)
  dsimp only [Pt.U, Pt.locs, Pt.cells, Pt.slots] at X3 l3 y3 z3 st3 hQ3
  subst l3 y3 z3
  obtain ⟨rfl, N3q, e3⟩ := hQ3
  have N3 := Fr.app N2 N3q
  obtain ⟨fs, hr, hrun, hended, hW, hsame⟩ := X3.leave (v := some (.int (1 : Int32))) (fun h => by rw [Bd.returns] at h; cases h)
  refine ⟨_, _, pre0 _ ?_, hrun, hended, _, _, rfl, ?_, ⟨_, rfl⟩, hW, hsame.mono (by decide) (by decide)⟩
  ·
    show Steps p.tables e below (s₁.setTop (mkF m 0 #[.val (.long q1), .second, .val (.long q2), .second, .val (.int p3), .val (.int p4), .unset, .unset, .unset, .unset] [])) _
    refine XS.lloadN X0.here hx rfl (hb hby at_0) rfl ?_
    show Steps p.tables e below (s₁.setTop (mkF m 1 #[.val (.long q1), .second, .val (.long q2), .second, .val (.int p3), .val (.int p4), .unset, .unset, .unset, .unset] [(.long q2)])) _
    refine XS.lloadN X0.here hx rfl (hb hby at_1) rfl ?_
    show Steps p.tables e below (s₁.setTop (mkF m 2 #[.val (.long q1), .second, .val (.long q2), .second, .val (.int p3), .val (.int p4), .unset, .unset, .unset, .unset] [(.long q1), (.long q2)])) _
    refine X0.ldc2Long hx hown (mvT hZ (hw _ (List.mem_of_getElem? (i := 0) rfl))) (g := (mkF m 2 #[.val (.long q1), .second, .val (.long q2), .second, .val (.int p3), .val (.int p4), .unset, .unset, .unset, .unset] [(.long q1), (.long q2)])) rfl (hb hby at_2) _ ?_
    show Steps p.tables e below (s₁.setTop (mkF m 5 #[.val (.long q1), .second, .val (.long q2), .second, .val (.int p3), .val (.int p4), .unset, .unset, .unset, .unset] [(.long (-1 : Int64)), (.long q1), (.long q2)])) _
    refine XS.lxor X0.here hx rfl (hb hby at_5) rfl ?_
    show Steps p.tables e below (s₁.setTop (mkF m 6 #[.val (.long q1), .second, .val (.long q2), .second, .val (.int p3), .val (.int p4), .unset, .unset, .unset, .unset] [(.long (q1 ^^^ (-1 : Int64))), (.long q2)])) _
    refine XS.land X0.here hx rfl (hb hby at_6) rfl ?_
    show Steps p.tables e below (s₁.setTop (mkF m 7 #[.val (.long q1), .second, .val (.long q2), .second, .val (.int p3), .val (.int p4), .unset, .unset, .unset, .unset] [(.long (q2 &&& (q1 ^^^ (-1 : Int64))))])) _
    refine XS.lstore X0.here hx rfl (hb hby at_7) rfl (l' := #[.val (.long q1), .second, .val (.long q2), .second, .val (.int p3), .val (.int p4), .val (.long (q2 &&& (q1 ^^^ (-1 : Int64)))), .second, .unset, .unset]) rfl ?_
    show Steps p.tables e below (s₁.setTop (mkF m 9 #[.val (.long q1), .second, .val (.long q2), .second, .val (.int p3), .val (.int p4), .val (.long (q2 &&& (q1 ^^^ (-1 : Int64)))), .second, .unset, .unset] [])) _
    refine XS.lloadN X0.here hx rfl (hb hby at_9) rfl ?_
    show Steps p.tables e below (s₁.setTop (mkF m 10 #[.val (.long q1), .second, .val (.long q2), .second, .val (.int p3), .val (.int p4), .val (.long (q2 &&& (q1 ^^^ (-1 : Int64)))), .second, .unset, .unset] [(.long q1)])) _
    refine XS.lload X0.here hx rfl (hb hby at_10) rfl ?_
    show Steps p.tables e below (s₁.setTop (mkF m 12 #[.val (.long q1), .second, .val (.long q2), .second, .val (.int p3), .val (.int p4), .val (.long (q2 &&& (q1 ^^^ (-1 : Int64)))), .second, .unset, .unset] [(.long (q2 &&& (q1 ^^^ (-1 : Int64)))), (.long q1)])) _
    refine st1 _ ?_
    show Steps p.tables e below (T1.setTop (mkF m 15 #[.val (.long q1), .second, .val (.long q2), .second, .val (.int p3), .val (.int p4), .val (.long (q2 &&& (q1 ^^^ (-1 : Int64)))), .second, .unset, .unset] [(.long (own_moves q1 (q2 &&& (q1 ^^^ (-1 : Int64)))))])) _
    refine XS.lstore X1.here hx rfl (hb hby at_15) rfl (l' := #[.val (.long q1), .second, .val (.long q2), .second, .val (.int p3), .val (.int p4), .val (.long (q2 &&& (q1 ^^^ (-1 : Int64)))), .second, .val (.long (own_moves q1 (q2 &&& (q1 ^^^ (-1 : Int64))))), .second]) rfl ?_
    show Steps p.tables e below (T1.setTop (mkF m 17 #[.val (.long q1), .second, .val (.long q2), .second, .val (.int p3), .val (.int p4), .val (.long (q2 &&& (q1 ^^^ (-1 : Int64)))), .second, .val (.long (own_moves q1 (q2 &&& (q1 ^^^ (-1 : Int64))))), .second] [])) _
    refine XS.lload X1.here hx rfl (hb hby at_17) rfl ?_
    show Steps p.tables e below (T1.setTop (mkF m 19 #[.val (.long q1), .second, .val (.long q2), .second, .val (.int p3), .val (.int p4), .val (.long (q2 &&& (q1 ^^^ (-1 : Int64)))), .second, .val (.long (own_moves q1 (q2 &&& (q1 ^^^ (-1 : Int64))))), .second] [(.long (own_moves q1 (q2 &&& (q1 ^^^ (-1 : Int64)))))])) _
    refine XS.iload X1.here hx rfl (hb hby at_19) rfl ?_
    show Steps p.tables e below (T1.setTop (mkF m 21 #[.val (.long q1), .second, .val (.long q2), .second, .val (.int p3), .val (.int p4), .val (.long (q2 &&& (q1 ^^^ (-1 : Int64)))), .second, .val (.long (own_moves q1 (q2 &&& (q1 ^^^ (-1 : Int64))))), .second] [(.int p3), (.long (own_moves q1 (q2 &&& (q1 ^^^ (-1 : Int64)))))])) _
    refine XS.bipush X1.here hx rfl (hb hby at_21) ?_
    show Steps p.tables e below (T1.setTop (mkF m 23 #[.val (.long q1), .second, .val (.long q2), .second, .val (.int p3), .val (.int p4), .val (.long (q2 &&& (q1 ^^^ (-1 : Int64)))), .second, .val (.long (own_moves q1 (q2 &&& (q1 ^^^ (-1 : Int64))))), .second] [(.int (63 : Int32)), (.int p3), (.long (own_moves q1 (q2 &&& (q1 ^^^ (-1 : Int64)))))])) _
    refine XS.iand X1.here hx rfl (hb hby at_23) rfl ?_
    show Steps p.tables e below (T1.setTop (mkF m 24 #[.val (.long q1), .second, .val (.long q2), .second, .val (.int p3), .val (.int p4), .val (.long (q2 &&& (q1 ^^^ (-1 : Int64)))), .second, .val (.long (own_moves q1 (q2 &&& (q1 ^^^ (-1 : Int64))))), .second] [(.int (p3 &&& (63 : Int32))), (.long (own_moves q1 (q2 &&& (q1 ^^^ (-1 : Int64)))))])) _
    refine XS.lloadN X1.here hx rfl (hb hby at_24) rfl ?_
    show Steps p.tables e below (T1.setTop (mkF m 25 #[.val (.long q1), .second, .val (.long q2), .second, .val (.int p3), .val (.int p4), .val (.long (q2 &&& (q1 ^^^ (-1 : Int64)))), .second, .val (.long (own_moves q1 (q2 &&& (q1 ^^^ (-1 : Int64))))), .second] [(.long q1), (.int (p3 &&& (63 : Int32))), (.long (own_moves q1 (q2 &&& (q1 ^^^ (-1 : Int64)))))])) _
    refine XS.lload X1.here hx rfl (hb hby at_25) rfl ?_
    show Steps p.tables e below (T1.setTop (mkF m 27 #[.val (.long q1), .second, .val (.long q2), .second, .val (.int p3), .val (.int p4), .val (.long (q2 &&& (q1 ^^^ (-1 : Int64)))), .second, .val (.long (own_moves q1 (q2 &&& (q1 ^^^ (-1 : Int64))))), .second] [(.long (q2 &&& (q1 ^^^ (-1 : Int64)))), (.long q1), (.int (p3 &&& (63 : Int32))), (.long (own_moves q1 (q2 &&& (q1 ^^^ (-1 : Int64)))))])) _
    refine st2 _ ?_
    show Steps p.tables e below (T2.setTop (mkF m 30 #[.val (.long q1), .second, .val (.long q2), .second, .val (.int p3), .val (.int p4), .val (.long (q2 &&& (q1 ^^^ (-1 : Int64)))), .second, .val (.long (own_moves q1 (q2 &&& (q1 ^^^ (-1 : Int64))))), .second] [(.int (1 : Int32))])) _
    refine XS.ifNo X2.here hx rfl (hb hby at_30) rfl ((if0 _ _).trans (feq (by decide : ¬ ((1 : Int32) = (0 : Int32)))).1) ?_
    show Steps p.tables e below (T2.setTop (mkF m 33 #[.val (.long q1), .second, .val (.long q2), .second, .val (.int p3), .val (.int p4), .val (.long (q2 &&& (q1 ^^^ (-1 : Int64)))), .second, .val (.long (own_moves q1 (q2 &&& (q1 ^^^ (-1 : Int64))))), .second] [])) _
    refine XS.lload X2.here hx rfl (hb hby at_33) rfl ?_
    show Steps p.tables e below (T2.setTop (mkF m 35 #[.val (.long q1), .second, .val (.long q2), .second, .val (.int p3), .val (.int p4), .val (.long (q2 &&& (q1 ^^^ (-1 : Int64)))), .second, .val (.long (own_moves q1 (q2 &&& (q1 ^^^ (-1 : Int64))))), .second] [(.long (own_moves q1 (q2 &&& (q1 ^^^ (-1 : Int64)))))])) _
    refine XS.iload X2.here hx rfl (hb hby at_35) rfl ?_
    show Steps p.tables e below (T2.setTop (mkF m 37 #[.val (.long q1), .second, .val (.long q2), .second, .val (.int p3), .val (.int p4), .val (.long (q2 &&& (q1 ^^^ (-1 : Int64)))), .second, .val (.long (own_moves q1 (q2 &&& (q1 ^^^ (-1 : Int64))))), .second] [(.int p4), (.long (own_moves q1 (q2 &&& (q1 ^^^ (-1 : Int64)))))])) _
    refine XS.bipush X2.here hx rfl (hb hby at_37) ?_
    show Steps p.tables e below (T2.setTop (mkF m 39 #[.val (.long q1), .second, .val (.long q2), .second, .val (.int p3), .val (.int p4), .val (.long (q2 &&& (q1 ^^^ (-1 : Int64)))), .second, .val (.long (own_moves q1 (q2 &&& (q1 ^^^ (-1 : Int64))))), .second] [(.int (63 : Int32)), (.int p4), (.long (own_moves q1 (q2 &&& (q1 ^^^ (-1 : Int64)))))])) _
    refine XS.iand X2.here hx rfl (hb hby at_39) rfl ?_
    show Steps p.tables e below (T2.setTop (mkF m 40 #[.val (.long q1), .second, .val (.long q2), .second, .val (.int p3), .val (.int p4), .val (.long (q2 &&& (q1 ^^^ (-1 : Int64)))), .second, .val (.long (own_moves q1 (q2 &&& (q1 ^^^ (-1 : Int64))))), .second] [(.int (p4 &&& (63 : Int32))), (.long (own_moves q1 (q2 &&& (q1 ^^^ (-1 : Int64)))))])) _
    refine XS.lloadN X2.here hx rfl (hb hby at_40) rfl ?_
    show Steps p.tables e below (T2.setTop (mkF m 41 #[.val (.long q1), .second, .val (.long q2), .second, .val (.int p3), .val (.int p4), .val (.long (q2 &&& (q1 ^^^ (-1 : Int64)))), .second, .val (.long (own_moves q1 (q2 &&& (q1 ^^^ (-1 : Int64))))), .second] [(.long q1), (.int (p4 &&& (63 : Int32))), (.long (own_moves q1 (q2 &&& (q1 ^^^ (-1 : Int64)))))])) _
    refine XS.lload X2.here hx rfl (hb hby at_41) rfl ?_
    show Steps p.tables e below (T2.setTop (mkF m 43 #[.val (.long q1), .second, .val (.long q2), .second, .val (.int p3), .val (.int p4), .val (.long (q2 &&& (q1 ^^^ (-1 : Int64)))), .second, .val (.long (own_moves q1 (q2 &&& (q1 ^^^ (-1 : Int64))))), .second] [(.long (q2 &&& (q1 ^^^ (-1 : Int64)))), (.long q1), (.int (p4 &&& (63 : Int32))), (.long (own_moves q1 (q2 &&& (q1 ^^^ (-1 : Int64)))))])) _
    refine st3 _ ?_
    show Steps p.tables e below (T3.setTop (mkF m 46 #[.val (.long q1), .second, .val (.long q2), .second, .val (.int p3), .val (.int p4), .val (.long (q2 &&& (q1 ^^^ (-1 : Int64)))), .second, .val (.long (own_moves q1 (q2 &&& (q1 ^^^ (-1 : Int64))))), .second] [(.int (1 : Int32))])) _
    refine XS.ifNo X3.here hx rfl (hb hby at_46) rfl ((if0 _ _).trans (feq (by decide : ¬ ((1 : Int32) = (0 : Int32)))).1) ?_
    show Steps p.tables e below (T3.setTop (mkF m 49 #[.val (.long q1), .second, .val (.long q2), .second, .val (.int p3), .val (.int p4), .val (.long (q2 &&& (q1 ^^^ (-1 : Int64)))), .second, .val (.long (own_moves q1 (q2 &&& (q1 ^^^ (-1 : Int64))))), .second] [])) _
    refine XS.iconst X3.here hx rfl (hb hby at_49) ?_
    show Steps p.tables e below (T3.setTop (mkF m 50 #[.val (.long q1), .second, .val (.long q2), .second, .val (.int p3), .val (.int p4), .val (.long (q2 &&& (q1 ^^^ (-1 : Int64)))), .second, .val (.long (own_moves q1 (q2 &&& (q1 ^^^ (-1 : Int64))))), .second] [(.int (1 : Int32))])) _
    refine XS.goto X3.here hx rfl (pc0 := 50) (pc' := 54) rfl (hb hby at_50) (by decide) (by decide) ?_
    show Steps p.tables e below (T3.setTop (mkF m 54 #[.val (.long q1), .second, .val (.long q2), .second, .val (.int p3), .val (.int p4), .val (.long (q2 &&& (q1 ^^^ (-1 : Int64)))), .second, .val (.long (own_moves q1 (q2 &&& (q1 ^^^ (-1 : Int64))))), .second] [(.int (1 : Int32))])) _
    exact retN X3 hx (t := .boolean) Bd.returns (by simp) (hb hby at_54) hr
  · show Q0_0 Z q1 q2 p3 p4 w_STEPS kv_STEPS w_LANDINGS kv_LANDINGS h0 n0 _ T3.heap _
    rw [e3]
    exact ⟨rfl, N3⟩
set_option maxRecDepth 65536 in
set_option maxHeartbeats 40000000 in
theorem comes_1 {Post : Tables → Env → Array Value → State → Outcome → State → Prop} (hpost : ∀ tb e args s v u, (limb_1_1.after args s (.returned v) u = true ∧ limb_1_2.after args s (.returned v) u = true ∧ True) → FrameEnd s (.returned v) u (Jvm.fieldLocs frame_1_writes args s ++ Jvm.arrayLocs frame_1_arrays args s ++ Jvm.staticLocs frame_1_statics s) 0 0 → Post tb e args s (.returned v) u) :
    ArmFor flags0 classFile x code maxLocals ret World_1 tables_1 room_1 Calls_1 rest_1 Pre_1 Post := by
  intro l hfl _ _ p e ha hc hk s m args below hf hA hF happ hP
  obtain ⟨hcalls, hrest, hpre⟩ := hP
  obtain ⟨-, -, -, hnamed, -, -, -, hat⟩ := (Spec.applies_iff hf).mp happ
  obtain ⟨hg, hn⟩ := and_e (Cond.before_iff.mp (show (Jvm.Cond.and given_1 narrow_1).before args s = true from hpre))
  obtain ⟨g1a, g1b⟩ := and_e hg
  obtain ⟨g2a, g2b⟩ := and_e g1b
  obtain ⟨g3a, g3b⟩ := and_e g2b
  obtain ⟨g4a, g4b⟩ := and_e g3b
  obtain ⟨a0w, a1w, a2w, a3w, rfl⟩ : ∃ a0w a1w a2w a3w : Value, args = #[a0w, a1w, a2w, a3w] := by
    have hs : args.size = 4 := by simpa [Cond.value, given_1] using g1a
    obtain ⟨L⟩ := args
    match L, hs with
    | [a0w, a1w, a2w, a3w], _ => exact ⟨a0w, a1w, a2w, a3w, rfl⟩
  have hw := fun d (hd : d ∈ tables_1) => atoms_spec (ws := Jvm.Cond.code x code maxLocals ret :: tables_1) hat d (List.mem_cons_of_mem _ hd)
  have hfit : Fit s := fun {y c} hc i hi => by
    obtain ⟨ha, rfl⟩ := Array.getElem?_eq_some_iff.mp hc
    have q := List.all_eq_true.mp ((Array.all_eq_true_iff_forall_mem.mp hF) _ (Array.getElem_mem ha)) i (List.mem_range.mpr hi)
    simpa [Array.getElem?_eq_getElem hi] using q
  obtain ⟨i0, ei0⟩ := isL_v g2a
  obtain rfl : a0w = (.long i0) := Option.some.inj ei0
  obtain ⟨i1, ei1⟩ := isL_v g3a
  obtain rfl : a1w = (.long i1) := Option.some.inj ei1
  obtain ⟨i2, ei2⟩ := is_v g4a
  obtain rfl : a2w = (.int i2) := Option.some.inj ei2
  obtain ⟨i3, ei3⟩ := is_v g4b
  obtain rfl : a3w = (.int i3) := Option.some.inj ei3
  obtain ⟨hn0, hm0⟩ := and_e hn
  obtain ⟨hn1, hm1⟩ := and_e hm0
  obtain ⟨hn2, hm2⟩ := and_e hm1
  obtain ⟨hn3, hm3⟩ := and_e hm2
  obtain ⟨hn4, hm4⟩ := and_e hm3
  obtain ⟨hn5, hm5⟩ := and_e hm4
  obtain ⟨hn6, hm6⟩ := and_e hm5
  obtain ⟨hn7, hm7⟩ := and_e hm6
  obtain ⟨hn8, hm8⟩ := and_e hm7
  obtain ⟨hn9, hm9⟩ := and_e hm8
  obtain ⟨hn10, hm10⟩ := and_e hm9
  obtain ⟨hn11, hm11⟩ := and_e hm10
  obtain ⟨hn12, hm12⟩ := and_e hm11
  obtain ⟨hn13, hm13⟩ := and_e hm12
  obtain ⟨hn14, hm14⟩ := and_e hm13
  obtain ⟨hn15, hm15⟩ := and_e hm14
  obtain ⟨hn16, hm16⟩ := and_e hm15
  obtain ⟨hn17, hm17⟩ := and_e hm16
  obtain ⟨hn18, hm18⟩ := and_e hm17
  obtain ⟨w_STEPS, v_STEPS⟩ := arr_v hn0
  have S_STEPS := Sta.start v_STEPS (Or.inr ⟨(hw _ (List.mem_of_getElem? (i := 3) rfl)), (hw _ (List.mem_of_getElem? (i := 7) rfl))⟩)
  obtain ⟨cl_STEPS, A_STEPS⟩ := Arr.start v_STEPS hn0
  have L_STEPS := own_len v_STEPS (A_STEPS.fin (Vm.Alike.refl _)) hn1
  have el_STEPS_0 : cl_STEPS.slots[0]? = some (.int (1 : Int32)) := (elem_in (own_eqI hn4) v_STEPS (Term.int_eval 0) A_STEPS.1).2
  have el_STEPS_1 : cl_STEPS.slots[1]? = some (.int (-1 : Int32)) := (elem_in (own_eqI hn5) v_STEPS (Term.int_eval 1) A_STEPS.1).2
  have el_STEPS_2 : cl_STEPS.slots[2]? = some (.int (8 : Int32)) := (elem_in (own_eqI hn6) v_STEPS (Term.int_eval 2) A_STEPS.1).2
  have el_STEPS_3 : cl_STEPS.slots[3]? = some (.int (-8 : Int32)) := (elem_in (own_eqI hn7) v_STEPS (Term.int_eval 3) A_STEPS.1).2
  have el_STEPS_4 : cl_STEPS.slots[4]? = some (.int (9 : Int32)) := (elem_in (own_eqI hn8) v_STEPS (Term.int_eval 4) A_STEPS.1).2
  have el_STEPS_5 : cl_STEPS.slots[5]? = some (.int (-9 : Int32)) := (elem_in (own_eqI hn9) v_STEPS (Term.int_eval 5) A_STEPS.1).2
  have el_STEPS_6 : cl_STEPS.slots[6]? = some (.int (7 : Int32)) := (elem_in (own_eqI hn10) v_STEPS (Term.int_eval 6) A_STEPS.1).2
  have el_STEPS_7 : cl_STEPS.slots[7]? = some (.int (-7 : Int32)) := (elem_in (own_eqI hn11) v_STEPS (Term.int_eval 7) A_STEPS.1).2
  have V_STEPS : Arv s s.heap w_STEPS cl_STEPS.cls .int (8 : Int32) [(.int (1 : Int32)), (.int (-1 : Int32)), (.int (8 : Int32)), (.int (-8 : Int32)), (.int (9 : Int32)), (.int (-9 : Int32)), (.int (7 : Int32)), (.int (-7 : Int32))] (.int (0 : Int32)) := Arv.start hfit A_STEPS L_STEPS.1 L_STEPS.2 (by decide) rfl ⟨el_STEPS_0, el_STEPS_1, el_STEPS_2, el_STEPS_3, el_STEPS_4, el_STEPS_5, el_STEPS_6, el_STEPS_7, trivial⟩
  obtain ⟨kv_STEPS, hkv_STEPS⟩ : ∃ z, z = cl_STEPS.cls := ⟨_, rfl⟩
  rw [← hkv_STEPS] at V_STEPS
  obtain ⟨w_LANDINGS, v_LANDINGS⟩ := arr_v hn2
  have S_LANDINGS := Sta.start v_LANDINGS (Or.inr ⟨(hw _ (List.mem_of_getElem? (i := 3) rfl)), (hw _ (List.mem_of_getElem? (i := 12) rfl))⟩)
  obtain ⟨cl_LANDINGS, A_LANDINGS⟩ := Arr.start v_LANDINGS hn2
  have L_LANDINGS := own_len v_LANDINGS (A_LANDINGS.fin (Vm.Alike.refl _)) hn3
  have el_LANDINGS_0 : cl_LANDINGS.slots[0]? = some (.long (-72340172838076674 : Int64)) := (elem_in (own_eqL hn12) v_LANDINGS (Term.int_eval 0) A_LANDINGS.1).2
  have el_LANDINGS_1 : cl_LANDINGS.slots[1]? = some (.long (9187201950435737471 : Int64)) := (elem_in (own_eqL hn13) v_LANDINGS (Term.int_eval 1) A_LANDINGS.1).2
  have el_LANDINGS_2 : cl_LANDINGS.slots[2]? = some (.long (-1 : Int64)) := (elem_in (own_eqL hn14) v_LANDINGS (Term.int_eval 2) A_LANDINGS.1).2
  have el_LANDINGS_3 : cl_LANDINGS.slots[3]? = some (.long (-1 : Int64)) := (elem_in (own_eqL hn15) v_LANDINGS (Term.int_eval 3) A_LANDINGS.1).2
  have el_LANDINGS_4 : cl_LANDINGS.slots[4]? = some (.long (-72340172838076674 : Int64)) := (elem_in (own_eqL hn16) v_LANDINGS (Term.int_eval 4) A_LANDINGS.1).2
  have el_LANDINGS_5 : cl_LANDINGS.slots[5]? = some (.long (9187201950435737471 : Int64)) := (elem_in (own_eqL hn17) v_LANDINGS (Term.int_eval 5) A_LANDINGS.1).2
  have el_LANDINGS_6 : cl_LANDINGS.slots[6]? = some (.long (9187201950435737471 : Int64)) := (elem_in (own_eqL hn18) v_LANDINGS (Term.int_eval 6) A_LANDINGS.1).2
  have el_LANDINGS_7 : cl_LANDINGS.slots[7]? = some (.long (-72340172838076674 : Int64)) := (elem_in (own_eqL hm18) v_LANDINGS (Term.int_eval 7) A_LANDINGS.1).2
  have V_LANDINGS : Arv s s.heap w_LANDINGS cl_LANDINGS.cls .long (8 : Int32) [(.long (-72340172838076674 : Int64)), (.long (9187201950435737471 : Int64)), (.long (-1 : Int64)), (.long (-1 : Int64)), (.long (-72340172838076674 : Int64)), (.long (9187201950435737471 : Int64)), (.long (9187201950435737471 : Int64)), (.long (-72340172838076674 : Int64))] (.long (0 : Int64)) := Arv.start hfit A_LANDINGS L_LANDINGS.1 L_LANDINGS.2 (by decide) rfl ⟨el_LANDINGS_0, el_LANDINGS_1, el_LANDINGS_2, el_LANDINGS_3, el_LANDINGS_4, el_LANDINGS_5, el_LANDINGS_6, el_LANDINGS_7, trivial⟩
  obtain ⟨kv_LANDINGS, hkv_LANDINGS⟩ : ∃ z, z = cl_LANDINGS.cls := ⟨_, rfl⟩
  rw [← hkv_LANDINGS] at V_LANDINGS
  obtain ⟨n, o, h1, h2, h3, _, L, rfl, ⟨rfl, N⟩, hq⟩ := rm0_0 l s _ hw tables_1 i0 i1 i2 i3 w_STEPS kv_STEPS w_LANDINGS kv_LANDINGS s.heap s.heap.size (Nat.le_refl _) S_STEPS V_STEPS S_LANDINGS V_LANDINGS p e ha hc hk s m _ below hf ((Spec.applies_iff_loose hf).mp happ).1 ⟨rfl, State.Warmed39.refl s, rfl⟩ trivial
  refine ⟨n, _, h1, h2, h3, hpost _ _ _ _ _ _ ⟨Cond.after_iff.mpr rfl, Cond.after_iff.mpr (eq_i res_at (Term.int_eval (1)) rfl), trivial⟩ ⟨hq.1, hq.2.1, (hq.2.2.sift fun y hy => Or.inr (N y hy)).mono (by decide) (by decide)⟩⟩
theorem main_1_1 : Claimed_1_1 := comes_1 fun _ _ _ _ _ _ h hF => ⟨h.1, hF⟩
theorem main_1_2 : Claimed_1_2 := comes_1 fun _ _ _ _ _ _ h hF => ⟨h.2.1, hF⟩
end Jvm.Pilot.@@N@@
namespace Jvm.Pilot.@@N@@
open Jvm Jvm.ClassFile Sem Op Lib Jvm.Free Jvm.Stand Jvm.Pilot.@@N@@.Jvm.D
/-! MADE BY PROGRAM (witnessworld.py) out of the Statement's table words and the real class files: 11 classes; the members and pool entries that the words name. The judged class is class 1, her method 1. -/
namespace start1
open Jvm.ClassFile
def u (s : String) : CpInfo := .utf8 (stringToUtf16 s)
/-- a pool by its gaps: so many unusable entries, then the entry; so many at the end -/
def gap : Nat → List CpInfo → List CpInfo
  | 0, r => r
  | n + 1, r => .unusable :: gap n r
def poolList (es : List (Nat × CpInfo)) (last : Nat) : List CpInfo := es.foldr (fun e r => gap e.1 (e.2 :: r)) (gap last [])
def pool (es : List (Nat × CpInfo)) (last : Nat) : Array CpInfo := ⟨poolList es last⟩
def fileOf (pool : Array CpInfo) (this : Nat) (attrs : Array Attribute := #[]) (ms : Array MethodInfo := #[]) (fl : Nat := 33) (sup : Nat := 0) (ifs : Array Nat := #[]) (fds : Array FieldInfo := #[]) : ClassFile where
  minorVersion := 0
  majorVersion := 65
  constantPool := pool
  accessFlags := fl
  thisClass := this
  superClass := sup
  interfaces := ifs
  fields := fds
  methods := ms
  attributes := attrs
def plain (name : String) (sup : Option ClassId) : Class where
  name := name
  kind := .ordinary
  loader := none
  accessFlags := 33
  super := sup
  interfaces := #[]
  cf := none
  fields := #[]
  methods := #[]
  instanceTypes := #[]
  staticTypes := #[]
  resolved := #[]
  callSites := []
  init := .initialized
  statics := none
  mirror := none

def pool0 : Array CpInfo := pool [(5, u "<init>"), (0, u "()V"), (1, .class_ 10), (1, u "java/lang/Object")] 113

def k0m0 : Method := { name := "<init>", desc := "()V", sig := { parameters := [], returnType := none }, accessFlags := 1, code := none }
/-- java/lang/Object -/
def k0 : Class := { plain "java/lang/Object" none with
  accessFlags := 33
  interfaces := #[]
  cf := some (fileOf pool0 8 #[] #[{ accessFlags := 1, nameIndex := 5, descriptorIndex := 6, attributes := #[] }] 33 0 #[] #[])
  fields := #[]
  methods := #[k0m0]
  instanceTypes := #[]
  staticTypes := #[]
  resolved := Array.replicate 124 none
  statics := none }

def pool1 : Array CpInfo := pool [(2, .class_ 4), (1, u "java/lang/Object"), (0, u "<init>"), (0, u "()V"), (0, .long 18446744073709551615), (1, .methodref 10 11), (0, .class_ 12), (0, .nameAndType 13 14), (0, u "com/example/counterply/counterply/othello/Board"), (0, u "moves"), (0, u "(JJ)J"), (0, .methodref 16 17), (0, .class_ 18), (0, .nameAndType 19 20), (0, u "com/example/counterply/counterply/othello/BoardMovesPinLaw"), (0, u "agrees"), (0, u "(JIJJ)Z"), (0, .methodref 10 22), (0, .nameAndType 23 24), (0, u "flips"), (0, u "(IJJ)J"), (2, u "law"), (0, u "(JJII)Z")] 3

def k1m0 : Method := { name := "<init>", desc := "()V", sig := { parameters := [], returnType := none }, accessFlags := 2, code := none }
def k1c1 : Code := { maxStack := 7, maxLocals := 10, code := code, exceptionTable := #[], attributes := #[] }
def k1m1 : Method := { name := "law", desc := "(JJII)Z", sig := { parameters := [.long, .long, .int, .int], returnType := some .boolean }, accessFlags := 9, code := some k1c1 }
def k1c2 : Code := { maxStack := 5, maxLocals := 10, code := method_3_code, exceptionTable := #[], attributes := #[] }
def k1m2 : Method := { name := "agrees", desc := "(JIJJ)Z", sig := { parameters := [.long, .int, .long, .long], returnType := some .boolean }, accessFlags := 10, code := some k1c2 }
/-- com/example/counterply/counterply/othello/BoardMovesPinLaw -/
def k1 : Class := { plain "com/example/counterply/counterply/othello/BoardMovesPinLaw" (some 0) with
  accessFlags := 49
  interfaces := #[]
  cf := some (fileOf pool1 16 #[] #[{ accessFlags := 2, nameIndex := 5, descriptorIndex := 6, attributes := #[] }, { accessFlags := 9, nameIndex := 27, descriptorIndex := 28, attributes := #[] }, { accessFlags := 10, nameIndex := 19, descriptorIndex := 20, attributes := #[] }] 49 2 #[] #[])
  fields := #[]
  methods := #[k1m0, k1m1, k1m2]
  instanceTypes := #[]
  staticTypes := #[]
  resolved := Array.replicate 32 none
  statics := none }

def pool2 : Array CpInfo := pool [(1, .class_ 2), (0, u "com/example/counterply/counterply/othello/Board"), (1, .class_ 6), (1, u "java/lang/Object"), (0, u "<init>"), (0, u "()V"), (0, .long 18446744073709551615), (1, .fieldref 1 12), (0, .nameAndType 13 14), (0, u "STEPS"), (0, u "[I"), (0, .methodref 1 16), (0, .nameAndType 17 18), (0, u "step"), (0, u "(JI)J"), (18, .fieldref 1 38), (0, .nameAndType 39 40), (0, u "LANDINGS"), (0, u "[J"), (4, u "SQUARES"), (0, u "I"), (2, u "CORNERS"), (0, u "J"), (2, u "FIRST_ROW"), (2, u "LAST_ROW"), (4, u "moves"), (0, u "(JJ)J"), (1, u "flips"), (0, u "(IJJ)J")] 21

def k2m0 : Method := { name := "<init>", desc := "()V", sig := { parameters := [], returnType := none }, accessFlags := 2, code := none }
def k2c1 : Code := { maxStack := 6, maxLocals := 12, code := prog_43_method_2_code, exceptionTable := #[], attributes := #[] }
def k2m1 : Method := { name := "moves", desc := "(JJ)J", sig := { parameters := [.long, .long], returnType := some .long }, accessFlags := 8, code := some k2c1 }
def k2c2 : Code := { maxStack := 4, maxLocals := 12, code := prog_43_method_3_code, exceptionTable := #[], attributes := #[] }
def k2m2 : Method := { name := "flips", desc := "(IJJ)J", sig := { parameters := [.int, .long, .long], returnType := some .long }, accessFlags := 8, code := some k2c2 }
def k2c3 : Code := { maxStack := 4, maxLocals := 6, code := prog_43_method_6_code, exceptionTable := #[], attributes := #[] }
def k2m3 : Method := { name := "step", desc := "(JI)J", sig := { parameters := [.long, .int], returnType := some .long }, accessFlags := 10, code := some k2c3 }
/-- com/example/counterply/counterply/othello/Board -/
def k2 : Class := { plain "com/example/counterply/counterply/othello/Board" (some 0) with
  accessFlags := 48
  interfaces := #[]
  cf := some (fileOf pool2 1 #[] #[{ accessFlags := 2, nameIndex := 7, descriptorIndex := 8, attributes := #[] }, { accessFlags := 8, nameIndex := 61, descriptorIndex := 62, attributes := #[] }, { accessFlags := 8, nameIndex := 64, descriptorIndex := 65, attributes := #[] }, { accessFlags := 10, nameIndex := 17, descriptorIndex := 18, attributes := #[] }] 48 4 #[] #[{ accessFlags := 24, nameIndex := 45, descriptorIndex := 46, attributes := #[] }, { accessFlags := 24, nameIndex := 49, descriptorIndex := 50, attributes := #[] }, { accessFlags := 26, nameIndex := 53, descriptorIndex := 50, attributes := #[] }, { accessFlags := 26, nameIndex := 56, descriptorIndex := 50, attributes := #[] }, { accessFlags := 26, nameIndex := 13, descriptorIndex := 14, attributes := #[] }, { accessFlags := 26, nameIndex := 39, descriptorIndex := 40, attributes := #[] }])
  fields := #[{ name := "SQUARES", type := .int, accessFlags := 24, slot := 0, constantValue := 0 }, { name := "CORNERS", type := .long, accessFlags := 24, slot := 1, constantValue := 0 }, { name := "FIRST_ROW", type := .long, accessFlags := 26, slot := 2, constantValue := 0 }, { name := "LAST_ROW", type := .long, accessFlags := 26, slot := 3, constantValue := 0 }, { name := "STEPS", type := (.array .int), accessFlags := 26, slot := 4, constantValue := 0 }, { name := "LANDINGS", type := (.array .long), accessFlags := 26, slot := 5, constantValue := 0 }]
  methods := #[k2m0, k2m1, k2m2, k2m3]
  instanceTypes := #[]
  staticTypes := #[.int, .long, .long, .long, (.array .int), (.array .long)]
  resolved := Array.replicate 87 none
  statics := some 0 }

def pool3 : Array CpInfo := pool [(1, u "java/lang/Cloneable"), (0, .class_ 1), (0, u "java/lang/Object"), (0, .class_ 3)] 3

/-- java/lang/Cloneable -/
def k3 : Class := { plain "java/lang/Cloneable" (some 0) with
  accessFlags := 1537
  interfaces := #[]
  cf := some (fileOf pool3 2 #[] #[] 1537 4 #[] #[])
  fields := #[]
  methods := #[]
  instanceTypes := #[]
  staticTypes := #[]
  resolved := Array.replicate 8 none
  statics := none }

def pool4 : Array CpInfo := pool [(1, u "java/io/Serializable"), (0, .class_ 1), (0, u "java/lang/Object"), (0, .class_ 3)] 3

/-- java/io/Serializable -/
def k4 : Class := { plain "java/io/Serializable" (some 0) with
  accessFlags := 1537
  interfaces := #[]
  cf := some (fileOf pool4 2 #[] #[] 1537 4 #[] #[])
  fields := #[]
  methods := #[]
  instanceTypes := #[]
  staticTypes := #[]
  resolved := Array.replicate 8 none
  statics := none }

/-- the primitive byte -/
def k5 : Class := { plain "byte" none with kind := .primitive 'B', accessFlags := 0x411 }
/-- [B -/
def k6 : Class := { plain "[B" (some 0) with kind := .array 5 .byte, interfaces := #[3, 4], accessFlags := 1041 }

/-- the primitive int -/
def k7 : Class := { plain "int" none with kind := .primitive 'I', accessFlags := 0x411 }
/-- [I -/
def k8 : Class := { plain "[I" (some 0) with kind := .array 7 .int, interfaces := #[3, 4], accessFlags := 1041 }

/-- the primitive long -/
def k9 : Class := { plain "long" none with kind := .primitive 'J', accessFlags := 0x411 }
/-- [J -/
def k10 : Class := { plain "[J" (some 0) with kind := .array 9 .long, interfaces := #[3, 4], accessFlags := 1041 }

def heap : Heap := #[{ cls := 2, slots := #[.int 0, .long 0, .long 0, .long 0, .ref 1, .ref 2], vm := .statics 2 },
  { cls := 8, slots := #[.int (1), .int (-1), .int (8), .int (-8), .int (9), .int (-9), .int (7), .int (-7)], vm := .none },
  { cls := 10, slots := #[.long (-72340172838076674), .long (9187201950435737471), .long (-1), .long (-1), .long (-72340172838076674), .long (9187201950435737471), .long (9187201950435737471), .long (-72340172838076674)], vm := .none }]
def classes : Array Class := #[k0, k1, k2, k3, k4, k5, k6, k7, k8, k9, k10]
def interned : List (Array UInt16 × Addr) := []
def slotsUsed : Nat := 22
def theMethod : MethodId := ⟨1, 1⟩
def args0 : Array Value := #[.long 34628173824, .long 68853694464, .int 19, .int 5]
def aboutOver (below : List Frame) : State where
  vm := { classes := classes, interned := interned.toArray }
  heap := heap
  slotsUsed := slotsUsed
  threads := #[{ frames := .invoking theMethod args0 :: below }]
def below0 : List Frame := [.native { method := ⟨0, 0⟩, args := #[] }]
def about1 : State := aboutOver below0
def p0 : Program := .bare "" "" ""
def e0 : Env := launch0.env 0 0 0
theorem w_frames : about1.frames = Frame.invoking theMethod args0 :: below0 := rfl
set_option maxRecDepth 65536 in
theorem w_args : argsFit about1.vm theMethod args0 = true := by decide +kernel
set_option maxRecDepth 65536 in
theorem w_heap : heapFits about1 = true := by decide +kernel
set_option maxRecDepth 65536 in
theorem w_runnable : about1.curStatus? = some .runnable := by decide +kernel
set_option maxRecDepth 65536 in
theorem w_alone : about1.alone = true := by decide +kernel
set_option maxRecDepth 65536 in
theorem w_named : about1.methodNamed? x = some theMethod := by decide +kernel
set_option maxRecDepth 65536 in
theorem w_hears : about1.hears theMethod below0 = true := by decide +kernel
set_option maxRecDepth 65536 in
theorem w_ripe : about1.ripe theMethod args0 below0 = true := by decide +kernel
theorem w_running : about1.status = .running := rfl
set_option maxRecDepth 65536 in
theorem w_room : about1.hasRoom e0.platform room_1 = true :=
  launch0.hasRoom_least _ room_1 (by decide +kernel) (by decide +kernel) (by decide +kernel) (by decide +kernel) (by decide +kernel) (by decide +kernel)
theorem allAtoms_all (ts : List Jvm.Cond) (a : Array Jvm.Value) (st : Jvm.State) : (allAtoms ts).before a st = ts.all (fun c => c.before a st) := by
  induction ts with
  | nil => rfl
  | cons c t ih =>
    show (Jvm.Cond.and c (allAtoms t)).before a st = _
    rw [Jvm.Cond.before_and, ih, List.all_cons]
def words1 : List Jvm.Cond := Jvm.Cond.code x code maxLocals ret :: tables_1
/-- a 'code' word, met by the world's own term for the bytes: nothing is compared byte by byte -/
theorem code_word {y : MethodName} {bytes : ByteArray} {mx : Nat} {rt : Option FieldType} {a : Array Value} {s : State} {m : MethodId} {meth : Method} {c : Code} (h1 : s.methodNamed? y = some m) (h2 : s.vm.method? m = some meth) (h3 : meth.code = some c) (h4 : c.code = bytes)
    (h5 : (c.maxLocals == mx && c.exceptionTable.isEmpty && decide (c.maxStack ≤ mostOperands) && decide (meth.sig.returnType = rt) && !meth.locks && decide (parseMethodDescriptor y.desc = some meth.sig)) = true) : (Jvm.Cond.code y bytes mx rt).before a s = true := by
  simp only [Bool.and_eq_true, beq_iff_eq, Bool.not_eq_true', decide_eq_true_eq] at h5
  obtain ⟨⟨⟨⟨⟨g1, g2⟩, g3⟩, g4⟩, g5⟩, g6⟩ := h5
  simp [Cond.before, Cond.holds, Cond.value, h1, h2, h3, h4, g1, g2, g3, g4, g5, g6]
def isCode : Jvm.Cond → Bool
  | .code _ _ _ _ => true
  | _ => false
theorem all_split {L : List Jvm.Cond} {P : Jvm.Cond → Bool} (h1 : L.all (fun c => isCode c || P c) = true) (h2 : ∀ c ∈ L.filter isCode, P c = true) : L.all P = true := by
  refine List.all_eq_true.mpr fun c hc => ?_
  have h := List.all_eq_true.mp h1 c hc
  rcases Bool.eq_false_or_eq_true (isCode c) with hi | hi
  · exact h2 c (List.mem_filter.mpr ⟨hc, hi⟩)
  · simpa [hi] using h
set_option maxRecDepth 65536 in
theorem w_c0 : (Jvm.Cond.code x code maxLocals ret).before args0 about1 = true := code_word (m := ⟨1, 1⟩) (meth := k1m1) (c := k1c1) (by decide +kernel) rfl rfl rfl (by decide +kernel)
set_option maxRecDepth 65536 in
theorem w_c1 : (Jvm.Cond.code ({ cls := "com/example/counterply/counterply/othello/Board", name := "moves", desc := "(JJ)J" } : Jvm.MethodName) prog_43_method_2_code (12 : Nat) (Option.some Jvm.ClassFile.FieldType.long)).before args0 about1 = true := code_word (m := ⟨2, 1⟩) (meth := k2m1) (c := k2c1) (by decide +kernel) rfl rfl rfl (by decide +kernel)
set_option maxRecDepth 65536 in
theorem w_c2 : (Jvm.Cond.code ({ cls := "com/example/counterply/counterply/othello/Board", name := "step", desc := "(JI)J" } : Jvm.MethodName) prog_43_method_6_code (6 : Nat) (Option.some Jvm.ClassFile.FieldType.long)).before args0 about1 = true := code_word (m := ⟨2, 3⟩) (meth := k2m3) (c := k2c3) (by decide +kernel) rfl rfl rfl (by decide +kernel)
set_option maxRecDepth 65536 in
theorem w_c3 : (Jvm.Cond.code ({ cls := "com/example/counterply/counterply/othello/BoardMovesPinLaw", name := "agrees", desc := "(JIJJ)Z" } : Jvm.MethodName) method_3_code (10 : Nat) (Option.some Jvm.ClassFile.FieldType.boolean)).before args0 about1 = true := code_word (m := ⟨1, 2⟩) (meth := k1m2) (c := k1c2) (by decide +kernel) rfl rfl rfl (by decide +kernel)
set_option maxRecDepth 65536 in
theorem w_c4 : (Jvm.Cond.code ({ cls := "com/example/counterply/counterply/othello/Board", name := "flips", desc := "(IJJ)J" } : Jvm.MethodName) prog_43_method_3_code (12 : Nat) (Option.some Jvm.ClassFile.FieldType.long)).before args0 about1 = true := code_word (m := ⟨2, 2⟩) (meth := k2m2) (c := k2c2) (by decide +kernel) rfl rfl rfl (by decide +kernel)
def codes1 : List Jvm.Cond := [Jvm.Cond.code x code maxLocals ret, Jvm.Cond.code ({ cls := "com/example/counterply/counterply/othello/Board", name := "moves", desc := "(JJ)J" } : Jvm.MethodName) prog_43_method_2_code (12 : Nat) (Option.some Jvm.ClassFile.FieldType.long), Jvm.Cond.code ({ cls := "com/example/counterply/counterply/othello/Board", name := "step", desc := "(JI)J" } : Jvm.MethodName) prog_43_method_6_code (6 : Nat) (Option.some Jvm.ClassFile.FieldType.long), Jvm.Cond.code ({ cls := "com/example/counterply/counterply/othello/BoardMovesPinLaw", name := "agrees", desc := "(JIJJ)Z" } : Jvm.MethodName) method_3_code (10 : Nat) (Option.some Jvm.ClassFile.FieldType.boolean), Jvm.Cond.code ({ cls := "com/example/counterply/counterply/othello/Board", name := "flips", desc := "(IJJ)J" } : Jvm.MethodName) prog_43_method_3_code (12 : Nat) (Option.some Jvm.ClassFile.FieldType.long)]
set_option maxRecDepth 65536 in
theorem codes_eq : words1.filter isCode = codes1 := rfl
theorem w_codes : ∀ c ∈ words1.filter isCode, c.before args0 about1 = true := by
  rw [codes_eq]
  intro c hc
  simp only [codes1, List.mem_cons, List.not_mem_nil, or_false] at hc
  rcases hc with rfl | rfl | rfl | rfl | rfl
  · exact w_c0
  · exact w_c1
  · exact w_c2
  · exact w_c3
  · exact w_c4
set_option maxRecDepth 65536 in
theorem w_t1 : words1.all (fun c => isCode c || c.before args0 about1) = true := by decide +kernel
theorem w_tables : (allAtoms (Jvm.Cond.code x code maxLocals ret :: tables_1)).before args0 about1 = true := by
  rw [allAtoms_all]
  show words1.all (fun c => c.before args0 about1) = true
  refine all_split ?_ w_codes
  rw [w_t1]
set_option maxRecDepth 65536 in
theorem w_case : (Jvm.Cond.and given_1 narrow_1).before args0 about1 = true := by decide +kernel
theorem w_applies : (headSpec (Jvm.Cond.code x code maxLocals ret :: tables_1) room_1).applies x e0.platform about1 = true :=
  (Spec.applies_iff w_frames).mpr ⟨w_running, w_runnable, w_alone, w_named, w_hears, w_ripe, w_room, w_tables⟩
theorem atStart : AtStart classFile x code maxLocals ret World_1 tables_1 room_1 Calls_1 rest_1 Pre_1 launch0 p0 e0 about1 theMethod args0 below0 :=
  ⟨lists_1, trivial, launch0.admits_env _ _ _, launch0.least_env, fairChoices_fair.cas, fairChoices_fair.clock, w_frames, w_args, w_heap, w_applies, trivial, trivial, w_case⟩
end start1
theorem witness_1 : WitnessClaimed_1 := ⟨start1.p0, start1.e0, start1.about1, start1.theMethod, start1.args0, start1.below0, start1.atStart⟩
end Jvm.Pilot.@@N@@
