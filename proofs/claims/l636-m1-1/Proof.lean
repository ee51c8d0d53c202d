import JvmDerived
import JvmDerived.Pilot.@@N@@Statement
import JvmDerived.Pilot.@@N@@Code
set_option linter.unusedVariables false
set_option linter.unusedSimpArgs false
namespace Jvm.RoadKit
open Sem ClassFile Op Lib Jvm.Stand Jvm.Free Jvm.LawKit
section New
variable {p : Program} {l : Launch} {e : Env} {R : Room} {s : State} {m : MethodId} {args : Array Value} {below : List Frame} {meth : Method} {c : Code} {T : State} {locs : List Loc} {cells slots : Nat}
theorem retI (X : Stand p l e R s m args below meth c T locs cells slots) (hx : p.tables.exec = Jvm.exec) {pc : Nat} {Ls : Array Slot} {z : Int32} {rest : List Value} (hret : meth.sig.returnType = some .int) (hd : decode c.code pc = .ok (.ireturn, 1)) {fs : List Frame}
    (hl : ∀ (f : JFrame) (acts : List Action), f.method = m → f.locked = none → f.entered = [] → (doReturn e (T.setTop f) acts (some (.int z))).1 = T.setFrames fs) : Steps p.tables e below (T.setTop (mkF m pc Ls (.int z :: rest))) (T.setFrames fs) := by
  have hm' : T.vm.method? m = some meth := X.method'
  have hn : narrow .int (.int z) = .int z := rfl
  show Steps p.tables e below (T.setTop { method := m, pc := pc, locals := Ls, stack := _ :: rest, locked := none }) _
  jvm_step X.here [X.here.top, hx, hd, hm', hret, hn]
  first | (intro acts; rw [hl _ acts rfl rfl rfl]) | rw [hl _ _ rfl rfl rfl]
  exact Steps.refl _
end New
end Jvm.RoadKit
namespace Jvm.Pilot.@@N@@
open Jvm Jvm.ClassFile Sem Op Lib Jvm.Free Jvm.Stand Jvm.LawKit Jvm.RoadKit Bundle Jvm.Pilot.@@N@@.Jvm.D
theorem own_staK {Z : State} {h h' : Heap} {C n d : String} {v : Value} {ws : List Addr} (F : Sta Z h C n d v) (K : Keep h h' ws) (q : ∀ x ∈ ws, ∃ C', Exa Z h x C') : Sta Z h' C n d v := by
  obtain ⟨cf, i, k, f, st, cell, h1, h2, h3, h4, h5, h6, r⟩ := F
  refine ⟨cf, i, k, f, st, cell, h1, h2, h3, h4, K.2.1 _ _ h5 (fun hm => ?_), h6, r⟩
  obtain ⟨C', cell', k', e1, -, -, e4, -⟩ := q _ hm
  cases h5.symm.trans e1
  rw [h6] at e4; cases e4
theorem own_eqI {args : Array Value} {first s : State} {o : Option Outcome} {idx : List Nat} {a : Term} {n : Int32} (h : (Jvm.Cond.eq a (Term.int n)).value args first o s idx = some true) : a.eval args first o idx s = some (.int n) := by
  obtain ⟨x, y, h1, h2, -, -⟩ := cmp_v (Or.inl h)
  cases h2.symm.trans (Term.int_eval n)
  cases x <;> simp [Cond.value, h1, h2] at h
  rw [h1, h]
theorem own_eqR {args : Array Value} {first s : State} {o : Option Outcome} {idx : List Nat} {a b : Term} {x : Addr} (h : (Jvm.Cond.eq a b).value args first o s idx = some true) (hb : b.eval args first o idx s = some (.ref x)) : a.eval args first o idx s = some (.ref x) := by
  obtain ⟨u, y, h1, h2, -, -⟩ := cmp_v (Or.inl h)
  cases h2.symm.trans hb
  cases u <;> simp [Cond.value, h1, h2] at h
  rw [h1, h]
theorem own_eqL {args : Array Value} {first s : State} {o : Option Outcome} {idx : List Nat} {a : Term} {n : Int64} (h : (Jvm.Cond.eq a (Term.long n)).value args first o s idx = some true) : a.eval args first o idx s = some (.long n) := by
  obtain ⟨x, y, h1, h2, -, -⟩ := cmp_v (Or.inl h)
  cases h2.symm.trans (long_at n)
  cases x <;> simp [Cond.value, h1, h2] at h
  rw [h1, h]
theorem own_and (x : Int32) : 0 ≤ (x &&& (2147483647 : Int32)).toInt := (c_and x (2147483647 : Int32) (by decide)).1
theorem own_one : (1 : Int64).toInt = 1 := by decide
theorem own_plus (a : Int32) (h : 0 ≤ a.toInt) : ((a.toInt64) + (1 : Int64)).toInt = a.toInt + 1 := by
  have h1 := c_ladd a.toInt64 1
  have h2 := c_i2l a
  have h3 := rng32 a
  have h4 := rng64 (a.toInt64 + 1)
  have h5 := own_one
  omega
theorem own_nz (a : Int32) (h : 0 ≤ a.toInt) : ((a.toInt64) + (1 : Int64)) ≠ 0 := fun e => by
  have h1 := own_plus a h
  rw [e] at h1
  have h2 : (0 : Int64).toInt = 0 := by decide
  omega
theorem own_r (y : Int64) (a : Int32) (h : 0 ≤ a.toInt) : 0 ≤ (((y &&& (2147483647 : Int64)) - (y &&& (2147483647 : Int64)) / ((a.toInt64) + (1 : Int64)) * ((a.toInt64) + (1 : Int64))).toInt32).toInt := by
  have h1 : (y &&& (2147483647 : Int64)).toInt = y.toInt % 2147483648 := c_maskL y 2147483647 31 (by decide) (by decide)
  have h2 := (c_lrem (y &&& (2147483647 : Int64)) ((a.toInt64) + (1 : Int64)) (a.toInt + 1) (own_plus a h)).1 (by omega)
  have h3 := c_l2i ((y &&& (2147483647 : Int64)) - (y &&& (2147483647 : Int64)) / ((a.toInt64) + (1 : Int64)) * ((a.toInt64) + (1 : Int64)))
  have h4 := rng32 (((y &&& (2147483647 : Int64)) - (y &&& (2147483647 : Int64)) / ((a.toInt64) + (1 : Int64)) * ((a.toInt64) + (1 : Int64))).toInt32)
  rw [h2] at h3
  have h5 := Int.emod_nonneg (y &&& (2147483647 : Int64)).toInt (show a.toInt + 1 ≠ 0 by omega)
  have h6 := Int.emod_lt_of_pos (y &&& (2147483647 : Int64)).toInt (show 0 < a.toInt + 1 by omega)
  have h7 := rng32 a
  omega
theorem own_mul (r a : Int32) (hr : 0 ≤ r.toInt) (ha : 0 ≤ a.toInt) : ((r.toInt64) * (a.toInt64)).toInt = r.toInt * a.toInt := by
  have h1 := c_lmul r.toInt64 a.toInt64
  rw [c_i2l, c_i2l] at h1
  have h2 := rng64 (r.toInt64 * a.toInt64)
  have h3 := rng32 r
  have h4 := rng32 a
  have h5 : 0 ≤ r.toInt * a.toInt := Int.mul_nonneg hr ha
  have h6 : r.toInt * a.toInt ≤ 2147483647 * 2147483647 := Int.mul_le_mul (by omega) (by omega) ha (by omega)
  omega
theorem own_cmp {r q a b : Int32} (e : r = q) (hr : 0 ≤ r.toInt) (ha : 0 ≤ a.toInt) (hb : 0 ≤ b.toInt) : ((0 : Int32) < (lcmpW ((r.toInt64) * (b.toInt64)) ((q.toInt64) * (a.toInt64)))) ↔ ((0 : Int32) < r ∧ a < b) := by
  subst e
  rw [lw_gt, Int64.lt_iff_toInt_lt, own_mul r a hr ha, own_mul r b hr hb, Int32.lt_iff_toInt_lt, Int32.lt_iff_toInt_lt, show (0 : Int32).toInt = 0 from by decide]
  constructor
  · intro h
    rcases Int.lt_or_eq_of_le hr with h1 | h1
    · exact ⟨h1, Int.lt_of_mul_lt_mul_left h hr⟩
    · rw [← h1] at h; simp at h
  · rintro ⟨h1, h2⟩
    exact Int.mul_lt_mul_of_pos_left h2 h1
theorem d1_0 : decode jdk_29_method_65_code 0 = .ok (.iload_n 0, 1) := by decide +kernel
theorem d1_1 : decode jdk_29_method_65_code 1 = .ok (.iload_n 1, 1) := by decide +kernel
theorem d1_2 : decode jdk_29_method_65_code 2 = .ok (.if_icmp .lt 7, 3) := by decide +kernel
theorem d1_9 : decode jdk_29_method_65_code 9 = .ok (.iload_n 1, 1) := by decide +kernel
theorem d1_10 : decode jdk_29_method_65_code 10 = .ok (.ireturn, 1) := by decide +kernel
theorem d1_5 : decode jdk_29_method_65_code 5 = .ok (.iload_n 0, 1) := by decide +kernel
theorem d1_6 : decode jdk_29_method_65_code 6 = .ok (.goto 4, 3) := by decide +kernel
theorem ef_rm1_0 (m : MethodId) (x0 : Int32) (x1 : Int32) : entryFrame m #[(.int x0), (.int x1)] 2 = mkF m 0 #[.val (.int x0), .val (.int x1)] [] := by first | (simp [entryFrame, mkF, argsToLocals, Value.category]; done) | rfl
def Q1_0 (Z : State) (p1 : Int32) (p2 : Int32) (h0 : Heap) (n0 : Nat) (v : Option Value) (h : Heap) (L : List Loc) : Prop := v = some (.int (if p1 < p2 then p2 else p1)) ∧ Fr n0 L ∧ h = h0
set_option maxRecDepth 65536 in
set_option maxHeartbeats 40000000 in
theorem rm1_0 (l : Launch) (Z : State) (a0 : Array Value) (hw : ∀ d ∈ tables_1, d.before a0 Z = true) (ws : List Jvm.Cond) (p1 : Int32) (p2 : Int32) (h0 : Heap) (n0 : Nat) (Z0 : n0 ≤ h0.size) :
    MetFree l (⟨"java/lang/Math", "max", "(II)I"⟩ : MethodName) (head1 (Jvm.Cond.code (⟨"java/lang/Math", "max", "(II)I"⟩ : MethodName) jdk_29_method_65_code 2 (some .int) :: ws) ({ frames := 0, cells := 0, slots := 0, locals := 0 } : Room)) (fun a U => a = #[(.int p1), (.int p2)] ∧ Z.Warmed39 U.vm ∧ U.heap = h0) (fun _ _ _ _ _ => True) (fun _ U o U' => ∃ v L, o = .returned v ∧ Q1_0 Z p1 p2 h0 n0 v U'.heap L ∧ FrameEnd U o U' L ({ frames := 0, cells := 0, slots := 0, locals := 0 } : Room).cells ({ frames := 0, cells := 0, slots := 0, locals := 0 } : Room).slots) := by
  refine MetFree.of_bodySF (Jvm.Free.JP.mathPlain rfl (by decide +kernel)) hisR ?_
  intro p e s m args below meth c s₁ Bd hml0 hP hK
  obtain ⟨rfl, hZ, hh⟩ := hP
  have hx := Bd.exec
  have hby := Bd.bytes
  have hml : c.maxLocals = 2 := hml0
  have hown : s.vm.findClass "java/lang/Math" = some m.cls := findClass_of_methodNamed Bd.named
  have hnm := (name_of_methodNamed Bd.named Bd.method).1
  have X0 : Stand p l e ({ frames := 0, cells := 0, slots := 0, locals := 0 } : Room) s m #[(.int p1), (.int p2)] below meth c s₁ [] 0 0 := Stand.of_body Bd
  have e0 : s₁.heap = h0 := by rw [← hh, Bd.state]; rfl
  have N0 := Fr.nil n0
  have pre0 : ∀ t, Steps p.tables e below (s₁.setTop (mkF m 0 #[.val (.int p1), .val (.int p2)] [])) t → Steps p.tables e below (s₁.setTop (entryFrame m #[(.int p1), (.int p2)] 2)) t := fun t k => castTop (ef_rm1_0 m p1 p2) k
  have k1 : ∀ t, Steps p.tables e below (s₁.setTop (mkF m 2 #[.val (.int p1), .val (.int p2)] [(.int p2), (.int p1)])) t → Steps p.tables e below (s₁.setTop (entryFrame m #[(.int p1), (.int p2)] 2)) t := by
    intro t k
    refine pre0 t ?_
    show Steps p.tables e below (s₁.setTop (mkF m 0 #[.val (.int p1), .val (.int p2)] [])) _
    refine XS.iloadN X0.here hx rfl (hb hby d1_0) rfl ?_
    show Steps p.tables e below (s₁.setTop (mkF m 1 #[.val (.int p1), .val (.int p2)] [(.int p1)])) _
    refine XS.iloadN X0.here hx rfl (hb hby d1_1) rfl ?_
    exact k
  by_cases hc2_1 : p1 < p2
  ·
    obtain ⟨fs, hr, hrun, hended, hW, hsame⟩ := X0.leave (v := some (.int p2)) (fun h => by rw [Bd.returns] at h; cases h)
    refine ⟨_, _, k1 _ ?_, hrun, hended, _, _, rfl, ?_, ⟨_, rfl⟩, hW, hsame.mono (by decide) (by decide)⟩
    ·
      show Steps p.tables e below (s₁.setTop (mkF m 2 #[.val (.int p1), .val (.int p2)] [(.int p2), (.int p1)])) _
      refine XS.icmpYes X0.here hx rfl (pc0 := 2) (pc' := 9) rfl (hb hby d1_2) rfl (tlt hc2_1).1 (by decide) (by decide) ?_
      show Steps p.tables e below (s₁.setTop (mkF m 9 #[.val (.int p1), .val (.int p2)] [])) _
      refine XS.iloadN X0.here hx rfl (hb hby d1_9) rfl ?_
      show Steps p.tables e below (s₁.setTop (mkF m 10 #[.val (.int p1), .val (.int p2)] [(.int p2)])) _
      exact retI X0 hx Bd.returns (hb hby d1_10) hr
    · show Q1_0 Z p1 p2 h0 n0 _ s₁.heap _
      rw [e0]
      exact ⟨(by rw [if_pos hc2_1]), N0, rfl⟩
  ·
    obtain ⟨fs, hr, hrun, hended, hW, hsame⟩ := X0.leave (v := some (.int p1)) (fun h => by rw [Bd.returns] at h; cases h)
    refine ⟨_, _, k1 _ ?_, hrun, hended, _, _, rfl, ?_, ⟨_, rfl⟩, hW, hsame.mono (by decide) (by decide)⟩
    ·
      show Steps p.tables e below (s₁.setTop (mkF m 2 #[.val (.int p1), .val (.int p2)] [(.int p2), (.int p1)])) _
      refine XS.icmpNo X0.here hx rfl (hb hby d1_2) rfl (flt hc2_1).1 ?_
      show Steps p.tables e below (s₁.setTop (mkF m 5 #[.val (.int p1), .val (.int p2)] [])) _
      refine XS.iloadN X0.here hx rfl (hb hby d1_5) rfl ?_
      show Steps p.tables e below (s₁.setTop (mkF m 6 #[.val (.int p1), .val (.int p2)] [(.int p1)])) _
      refine XS.goto X0.here hx rfl (pc0 := 6) (pc' := 10) rfl (hb hby d1_6) (by decide) (by decide) ?_
      show Steps p.tables e below (s₁.setTop (mkF m 10 #[.val (.int p1), .val (.int p2)] [(.int p1)])) _
      exact retI X0 hx Bd.returns (hb hby d1_10) hr
    · show Q1_0 Z p1 p2 h0 n0 _ s₁.heap _
      rw [e0]
      exact ⟨(by rw [if_neg hc2_1]), N0, rfl⟩
theorem pd_0 : parseMethodDescriptor "(II)I" = some ⟨[.int, .int], some .int⟩ := by decide +kernel
theorem d2_0 : decode prog_58_method_1_code 0 = .ok (.aload_n 0, 1) := by decide +kernel
theorem d2_1 : decode prog_58_method_1_code 1 = .ok (.invokespecial 1, 3) := by decide +kernel
theorem d2_4 : decode prog_58_method_1_code 4 = .ok (.aload_n 0, 1) := by decide +kernel
theorem d2_5 : decode prog_58_method_1_code 5 = .ok (.iload_n 1, 1) := by decide +kernel
theorem d2_6 : decode prog_58_method_1_code 6 = .ok (.putfield 7, 3) := by decide +kernel
theorem d2_9 : decode prog_58_method_1_code 9 = .ok (.aload_n 0, 1) := by decide +kernel
theorem d2_10 : decode prog_58_method_1_code 10 = .ok (.aload_n 2, 1) := by decide +kernel
theorem d2_11 : decode prog_58_method_1_code 11 = .ok (.putfield 13, 3) := by decide +kernel
theorem d2_14 : decode prog_58_method_1_code 14 = .ok (.aload_n 0, 1) := by decide +kernel
theorem d2_15 : decode prog_58_method_1_code 15 = .ok (.iload_n 3, 1) := by decide +kernel
theorem d2_16 : decode prog_58_method_1_code 16 = .ok (.putfield 17, 3) := by decide +kernel
theorem d2_19 : decode prog_58_method_1_code 19 = .ok (.aload_n 0, 1) := by decide +kernel
theorem d2_20 : decode prog_58_method_1_code 20 = .ok (.iload 4, 2) := by decide +kernel
theorem d2_22 : decode prog_58_method_1_code 22 = .ok (.putfield 20, 3) := by decide +kernel
theorem d2_25 : decode prog_58_method_1_code 25 = .ok (.return_, 1) := by decide +kernel
theorem pn_0 : plainName "com/example/cotejo/cotejo/optimize/OptimalQuery" = true := by first | (simp [plainName, overriddenIn]; done) | decide +kernel
theorem ef_rm2_0 (m : MethodId) (x0 : Addr) (x1 : Int32) (x2 : Addr) (x3 : Int32) (x4 : Int32) : entryFrame m #[(.ref x0), (.int x1), (.ref x2), (.int x3), (.int x4)] 5 = mkF m 0 #[.val (.ref x0), .val (.int x1), .val (.ref x2), .val (.int x3), .val (.int x4)] [] := by first | (simp [entryFrame, mkF, argsToLocals, Value.category]; done) | rfl
def Q2_0 (Z : State) (a1 : Addr) (p2 : Int32) (a3 : Addr) (p4 : Int32) (p5 : Int32) (h0 : Heap) (n0 : Nat) (v : Option Value) (h : Heap) (L : List Loc) : Prop := v = none ∧ Fr n0 L ∧ Keep h0 h [a1] ∧ Exa Z h a1 "com/example/cotejo/cotejo/optimize/OptimalQuery" ∧ Fld Z h a1 "com/example/cotejo/cotejo/optimize/OptimalQuery" "exhaustivity" "I" (.int p2) ∧ Fld Z h a1 "com/example/cotejo/cotejo/optimize/OptimalQuery" "mode" "Lcom/example/cotejo/cotejo/optimize/Mode;" (.ref a3) ∧ Fld Z h a1 "com/example/cotejo/cotejo/optimize/OptimalQuery" "retrieved" "I" (.int p4) ∧ Fld Z h a1 "com/example/cotejo/cotejo/optimize/OptimalQuery" "relevant" "I" (.int p5)
set_option maxRecDepth 65536 in
set_option maxHeartbeats 40000000 in
theorem rm2_0 (l : Launch) (Z : State) (a0 : Array Value) (hw : ∀ d ∈ tables_1, d.before a0 Z = true) (ws : List Jvm.Cond) (a1 : Addr) (p2 : Int32) (a3 : Addr) (p4 : Int32) (p5 : Int32) (h0 : Heap) (n0 : Nat) (Z0 : n0 ≤ h0.size) (E_a1 : Exa Z h0 a1 "com/example/cotejo/cotejo/optimize/OptimalQuery") (F_exhaustivity_a1 : Fld Z h0 a1 "com/example/cotejo/cotejo/optimize/OptimalQuery" "exhaustivity" "I" (.int (0 : Int32))) (F_mode_a1 : Fld Z h0 a1 "com/example/cotejo/cotejo/optimize/OptimalQuery" "mode" "Lcom/example/cotejo/cotejo/optimize/Mode;" .null) (F_retrieved_a1 : Fld Z h0 a1 "com/example/cotejo/cotejo/optimize/OptimalQuery" "retrieved" "I" (.int (0 : Int32))) (F_relevant_a1 : Fld Z h0 a1 "com/example/cotejo/cotejo/optimize/OptimalQuery" "relevant" "I" (.int (0 : Int32))) (g_a1 : n0 ≤ a1) :
    MetFree l (⟨"com/example/cotejo/cotejo/optimize/OptimalQuery", "<init>", "(ILcom/example/cotejo/cotejo/optimize/Mode;II)V"⟩ : MethodName) (head1 (Jvm.Cond.code (⟨"com/example/cotejo/cotejo/optimize/OptimalQuery", "<init>", "(ILcom/example/cotejo/cotejo/optimize/Mode;II)V"⟩ : MethodName) prog_58_method_1_code 5 none :: ws) ({ frames := 1, cells := 0, slots := 0, locals := 12 } : Room)) (fun a U => a = #[(.ref a1), (.int p2), (.ref a3), (.int p4), (.int p5)] ∧ Z.Warmed39 U.vm ∧ U.heap = h0) (fun _ _ _ _ _ => True) (fun _ U o U' => ∃ v L, o = .returned v ∧ Q2_0 Z a1 p2 a3 p4 p5 h0 n0 v U'.heap L ∧ FrameEnd U o U' L ({ frames := 1, cells := 0, slots := 0, locals := 12 } : Room).cells ({ frames := 1, cells := 0, slots := 0, locals := 12 } : Room).slots) := by
  refine MetFree.of_bodySF (plainFor_of_name pn_0) hisR ?_
  intro p e s m args below meth c s₁ Bd hml0 hP hK
  obtain ⟨rfl, hZ, hh⟩ := hP
  have hx := Bd.exec
  have hby := Bd.bytes
  have hml : c.maxLocals = 5 := hml0
  have hown : s.vm.findClass "com/example/cotejo/cotejo/optimize/OptimalQuery" = some m.cls := findClass_of_methodNamed Bd.named
  have hnm := (name_of_methodNamed Bd.named Bd.method).1
  have X0 : Stand p l e ({ frames := 1, cells := 0, slots := 0, locals := 12 } : Room) s m #[(.ref a1), (.int p2), (.ref a3), (.int p4), (.int p5)] below meth c s₁ [] 0 0 := Stand.of_body Bd
  have e0 : s₁.heap = h0 := by rw [← hh, Bd.state]; rfl
  have N0 := Fr.nil n0
  have pre0 : ∀ t, Steps p.tables e below (s₁.setTop (mkF m 0 #[.val (.ref a1), .val (.int p2), .val (.ref a3), .val (.int p4), .val (.int p5)] [])) t → Steps p.tables e below (s₁.setTop (entryFrame m #[(.ref a1), (.int p2), (.ref a3), (.int p4), (.int p5)] 5)) t := fun t k => castTop (ef_rm2_0 m a1 p2 a3 p4 p5) k
  obtain ⟨T1, X1, e1, st1⟩ := initO X0 hx hZ hown (hw _ (List.mem_of_getElem? (i := 17) rfl)) (hw _ (List.mem_of_getElem? (i := 18) rfl)) (hw _ (List.mem_of_getElem? (i := 19) rfl)) e0 (g := (mkF m 1 #[.val (.ref a1), .val (.int p2), .val (.ref a3), .val (.int p4), .val (.int p5)] [(.ref a1)])) rfl (by rw [hml]; rfl) rfl (hb hby d2_1) (by decide) (W := 0) (by show 2 * 0 + _ ≤ _; exact Nat.le_of_eq rfl) (by decide)
  obtain ⟨T2, h2, X2, e2, W2, st2⟩ := putF X1 hx hZ hown (host := "") (Or.inl (hw _ (List.mem_of_getElem? (i := 20) rfl))) Via.refl e1 F_exhaustivity_a1 E_a1 (Or.inr ⟨(hw _ (List.mem_of_getElem? (i := 21) rfl)), rfl, hnm⟩) (hw _ (List.mem_of_getElem? (i := 12) rfl)) (ty := .int) (by decide) rfl rfl (g := (mkF m 6 #[.val (.ref a1), .val (.int p2), .val (.ref a3), .val (.int p4), .val (.int p5)] [(.int p2), (.ref a1)])) rfl rfl (hb hby d2_6)
  have K2 : Keep h0 h2 [a1] := (Keep.refl h0 [a1]).wr W2 (Or.inl (List.mem_of_getElem? (i := 0) rfl))
  have N2 := Fr.snoc X2 N0 g_a1
  have cf3 := (F_mode_a1.other W2 (Or.inr (slot_ne (Or.inr (hw _ (List.mem_of_getElem? (i := 23) rfl))) (Or.inr (hw _ (List.mem_of_getElem? (i := 21) rfl))) (by decide) (t := (.object "com/example/cotejo/cotejo/optimize/Mode")) (t' := .int) (by decide) (by decide))))
  have cf4 := (F_retrieved_a1.other W2 (Or.inr (slot_ne (Or.inr (hw _ (List.mem_of_getElem? (i := 25) rfl))) (Or.inr (hw _ (List.mem_of_getElem? (i := 21) rfl))) (by decide) (t := .int) (t' := .int) (by decide) (by decide))))
  have cf5 := (F_relevant_a1.other W2 (Or.inr (slot_ne (Or.inr (hw _ (List.mem_of_getElem? (i := 27) rfl))) (Or.inr (hw _ (List.mem_of_getElem? (i := 21) rfl))) (by decide) (t := .int) (t' := .int) (by decide) (by decide))))
  have Fw2 := F_exhaustivity_a1.same W2
  obtain ⟨T6, h6, X6, e6, W6, st6⟩ := putF X2 hx hZ hown (host := "") (Or.inl (hw _ (List.mem_of_getElem? (i := 22) rfl))) Via.refl e2 cf3 (E_a1.wr W2) (Or.inr ⟨(hw _ (List.mem_of_getElem? (i := 23) rfl)), rfl, hnm⟩) (hw _ (List.mem_of_getElem? (i := 12) rfl)) (ty := (.object "com/example/cotejo/cotejo/optimize/Mode")) (by decide) rfl rfl (g := (mkF m 11 #[.val (.ref a1), .val (.int p2), .val (.ref a3), .val (.int p4), .val (.int p5)] [(.ref a3), (.ref a1)])) rfl rfl (hb hby d2_11)
  have K6 : Keep h0 h6 [a1] := K2.wr W6 (Or.inl (List.mem_of_getElem? (i := 0) rfl))
  have N6 := Fr.snoc X6 N2 g_a1
  have cf7 := (Fw2.other W6 (Or.inr (slot_ne (Or.inr (hw _ (List.mem_of_getElem? (i := 21) rfl))) (Or.inr (hw _ (List.mem_of_getElem? (i := 23) rfl))) (by decide) (t := .int) (t' := (.object "com/example/cotejo/cotejo/optimize/Mode")) (by decide) (by decide))))
  have cf8 := (cf4.other W6 (Or.inr (slot_ne (Or.inr (hw _ (List.mem_of_getElem? (i := 25) rfl))) (Or.inr (hw _ (List.mem_of_getElem? (i := 23) rfl))) (by decide) (t := .int) (t' := (.object "com/example/cotejo/cotejo/optimize/Mode")) (by decide) (by decide))))
  have cf9 := (cf5.other W6 (Or.inr (slot_ne (Or.inr (hw _ (List.mem_of_getElem? (i := 27) rfl))) (Or.inr (hw _ (List.mem_of_getElem? (i := 23) rfl))) (by decide) (t := .int) (t' := (.object "com/example/cotejo/cotejo/optimize/Mode")) (by decide) (by decide))))
  have Fw6 := cf3.same W6
  obtain ⟨T10, h10, X10, e10, W10, st10⟩ := putF X6 hx hZ hown (host := "") (Or.inl (hw _ (List.mem_of_getElem? (i := 24) rfl))) Via.refl e6 cf8 ((E_a1.wr W2).wr W6) (Or.inr ⟨(hw _ (List.mem_of_getElem? (i := 25) rfl)), rfl, hnm⟩) (hw _ (List.mem_of_getElem? (i := 12) rfl)) (ty := .int) (by decide) rfl rfl (g := (mkF m 16 #[.val (.ref a1), .val (.int p2), .val (.ref a3), .val (.int p4), .val (.int p5)] [(.int p4), (.ref a1)])) rfl rfl (hb hby d2_16)
  have K10 : Keep h0 h10 [a1] := K6.wr W10 (Or.inl (List.mem_of_getElem? (i := 0) rfl))
  have N10 := Fr.snoc X10 N6 g_a1
  have cf11 := (cf7.other W10 (Or.inr (slot_ne (Or.inr (hw _ (List.mem_of_getElem? (i := 21) rfl))) (Or.inr (hw _ (List.mem_of_getElem? (i := 25) rfl))) (by decide) (t := .int) (t' := .int) (by decide) (by decide))))
  have cf12 := (Fw6.other W10 (Or.inr (slot_ne (Or.inr (hw _ (List.mem_of_getElem? (i := 23) rfl))) (Or.inr (hw _ (List.mem_of_getElem? (i := 25) rfl))) (by decide) (t := (.object "com/example/cotejo/cotejo/optimize/Mode")) (t' := .int) (by decide) (by decide))))
  have cf13 := (cf9.other W10 (Or.inr (slot_ne (Or.inr (hw _ (List.mem_of_getElem? (i := 27) rfl))) (Or.inr (hw _ (List.mem_of_getElem? (i := 25) rfl))) (by decide) (t := .int) (t' := .int) (by decide) (by decide))))
  have cf14 := (((E_a1.wr W2).wr W6).wr W10)
  have Fw10 := cf8.same W10
  obtain ⟨T15, h15, X15, e15, W15, st15⟩ := putF X10 hx hZ hown (host := "") (Or.inl (hw _ (List.mem_of_getElem? (i := 26) rfl))) Via.refl e10 cf13 cf14 (Or.inr ⟨(hw _ (List.mem_of_getElem? (i := 27) rfl)), rfl, hnm⟩) (hw _ (List.mem_of_getElem? (i := 12) rfl)) (ty := .int) (by decide) rfl rfl (g := (mkF m 22 #[.val (.ref a1), .val (.int p2), .val (.ref a3), .val (.int p4), .val (.int p5)] [(.int p5), (.ref a1)])) rfl rfl (hb hby d2_22)
  have K15 : Keep h0 h15 [a1] := K10.wr W15 (Or.inl (List.mem_of_getElem? (i := 0) rfl))
  have N15 := Fr.snoc X15 N10 g_a1
  have cf16 := (cf11.other W15 (Or.inr (slot_ne (Or.inr (hw _ (List.mem_of_getElem? (i := 21) rfl))) (Or.inr (hw _ (List.mem_of_getElem? (i := 27) rfl))) (by decide) (t := .int) (t' := .int) (by decide) (by decide))))
  have cf17 := (cf12.other W15 (Or.inr (slot_ne (Or.inr (hw _ (List.mem_of_getElem? (i := 23) rfl))) (Or.inr (hw _ (List.mem_of_getElem? (i := 27) rfl))) (by decide) (t := (.object "com/example/cotejo/cotejo/optimize/Mode")) (t' := .int) (by decide) (by decide))))
  have cf18 := (Fw10.other W15 (Or.inr (slot_ne (Or.inr (hw _ (List.mem_of_getElem? (i := 25) rfl))) (Or.inr (hw _ (List.mem_of_getElem? (i := 27) rfl))) (by decide) (t := .int) (t' := .int) (by decide) (by decide))))
  have Fw15 := cf13.same W15
  obtain ⟨fs, hr, hrun, hended, hW, hsame⟩ := X15.leave (v := none) (fun _ => rfl)
  refine ⟨_, _, pre0 _ ?_, hrun, hended, _, _, rfl, ?_, ⟨_, rfl⟩, hW, hsame.mono (by decide) (by decide)⟩
  ·
    show Steps p.tables e below (s₁.setTop (mkF m 0 #[.val (.ref a1), .val (.int p2), .val (.ref a3), .val (.int p4), .val (.int p5)] [])) _
    refine XS.aloadN X0.here hx rfl (hb hby d2_0) rfl rfl ?_
    show Steps p.tables e below (s₁.setTop (mkF m 1 #[.val (.ref a1), .val (.int p2), .val (.ref a3), .val (.int p4), .val (.int p5)] [(.ref a1)])) _
    refine st1 _ ?_
    show Steps p.tables e below (T1.setTop (mkF m 4 #[.val (.ref a1), .val (.int p2), .val (.ref a3), .val (.int p4), .val (.int p5)] [])) _
    refine XS.aloadN X1.here hx rfl (hb hby d2_4) rfl rfl ?_
    show Steps p.tables e below (T1.setTop (mkF m 5 #[.val (.ref a1), .val (.int p2), .val (.ref a3), .val (.int p4), .val (.int p5)] [(.ref a1)])) _
    refine XS.iloadN X1.here hx rfl (hb hby d2_5) rfl ?_
    show Steps p.tables e below (T1.setTop (mkF m 6 #[.val (.ref a1), .val (.int p2), .val (.ref a3), .val (.int p4), .val (.int p5)] [(.int p2), (.ref a1)])) _
    refine st2 _ ?_
    show Steps p.tables e below (T2.setTop (mkF m 9 #[.val (.ref a1), .val (.int p2), .val (.ref a3), .val (.int p4), .val (.int p5)] [])) _
    refine XS.aloadN X2.here hx rfl (hb hby d2_9) rfl rfl ?_
    show Steps p.tables e below (T2.setTop (mkF m 10 #[.val (.ref a1), .val (.int p2), .val (.ref a3), .val (.int p4), .val (.int p5)] [(.ref a1)])) _
    refine XS.aloadN X2.here hx rfl (hb hby d2_10) rfl rfl ?_
    show Steps p.tables e below (T2.setTop (mkF m 11 #[.val (.ref a1), .val (.int p2), .val (.ref a3), .val (.int p4), .val (.int p5)] [(.ref a3), (.ref a1)])) _
    refine st6 _ ?_
    show Steps p.tables e below (T6.setTop (mkF m 14 #[.val (.ref a1), .val (.int p2), .val (.ref a3), .val (.int p4), .val (.int p5)] [])) _
    refine XS.aloadN X6.here hx rfl (hb hby d2_14) rfl rfl ?_
    show Steps p.tables e below (T6.setTop (mkF m 15 #[.val (.ref a1), .val (.int p2), .val (.ref a3), .val (.int p4), .val (.int p5)] [(.ref a1)])) _
    refine XS.iloadN X6.here hx rfl (hb hby d2_15) rfl ?_
    show Steps p.tables e below (T6.setTop (mkF m 16 #[.val (.ref a1), .val (.int p2), .val (.ref a3), .val (.int p4), .val (.int p5)] [(.int p4), (.ref a1)])) _
    refine st10 _ ?_
    show Steps p.tables e below (T10.setTop (mkF m 19 #[.val (.ref a1), .val (.int p2), .val (.ref a3), .val (.int p4), .val (.int p5)] [])) _
    refine XS.aloadN X10.here hx rfl (hb hby d2_19) rfl rfl ?_
    show Steps p.tables e below (T10.setTop (mkF m 20 #[.val (.ref a1), .val (.int p2), .val (.ref a3), .val (.int p4), .val (.int p5)] [(.ref a1)])) _
    refine XS.iload X10.here hx rfl (hb hby d2_20) rfl ?_
    show Steps p.tables e below (T10.setTop (mkF m 22 #[.val (.ref a1), .val (.int p2), .val (.ref a3), .val (.int p4), .val (.int p5)] [(.int p5), (.ref a1)])) _
    refine st15 _ ?_
    show Steps p.tables e below (T15.setTop (mkF m 25 #[.val (.ref a1), .val (.int p2), .val (.ref a3), .val (.int p4), .val (.int p5)] [])) _
    exact X15.returnOut hx Bd.returns (hb hby d2_25) hr
  · show Q2_0 Z a1 p2 a3 p4 p5 h0 n0 _ T15.heap _
    rw [e15]
    exact ⟨rfl, N15, K15, (cf14.wr W15), cf16, cf17, cf18, Fw15⟩
theorem pd_1 : parseMethodDescriptor "(ILcom/example/cotejo/cotejo/optimize/Mode;II)V" = some ⟨[.int, (.object "com/example/cotejo/cotejo/optimize/Mode"), .int, .int], none⟩ := by decide +kernel
theorem d4_0 : decode prog_58_method_7_code 0 = .ok (.aload_n 0, 1) := by decide +kernel
theorem d4_1 : decode prog_58_method_7_code 1 = .ok (.getfield 20, 3) := by decide +kernel
theorem d4_4 : decode prog_58_method_7_code 4 = .ok (.aload_n 1, 1) := by decide +kernel
theorem d4_5 : decode prog_58_method_7_code 5 = .ok (.getfield 20, 3) := by decide +kernel
theorem d4_8 : decode prog_58_method_7_code 8 = .ok (.if_icmp .eq 20, 3) := by decide +kernel
theorem d4_28 : decode prog_58_method_7_code 28 = .ok (.aload_n 0, 1) := by decide +kernel
theorem d4_29 : decode prog_58_method_7_code 29 = .ok (.getfield 20, 3) := by decide +kernel
theorem d4_32 : decode prog_58_method_7_code 32 = .ok (.i2l, 1) := by decide +kernel
theorem d4_33 : decode prog_58_method_7_code 33 = .ok (.aload_n 1, 1) := by decide +kernel
theorem d4_34 : decode prog_58_method_7_code 34 = .ok (.getfield 17, 3) := by decide +kernel
theorem d4_37 : decode prog_58_method_7_code 37 = .ok (.i2l, 1) := by decide +kernel
theorem d4_38 : decode prog_58_method_7_code 38 = .ok (.lmul, 1) := by decide +kernel
theorem d4_39 : decode prog_58_method_7_code 39 = .ok (.aload_n 1, 1) := by decide +kernel
theorem d4_40 : decode prog_58_method_7_code 40 = .ok (.getfield 20, 3) := by decide +kernel
theorem d4_43 : decode prog_58_method_7_code 43 = .ok (.i2l, 1) := by decide +kernel
theorem d4_44 : decode prog_58_method_7_code 44 = .ok (.aload_n 0, 1) := by decide +kernel
theorem d4_45 : decode prog_58_method_7_code 45 = .ok (.getfield 17, 3) := by decide +kernel
theorem d4_48 : decode prog_58_method_7_code 48 = .ok (.i2l, 1) := by decide +kernel
theorem d4_49 : decode prog_58_method_7_code 49 = .ok (.lmul, 1) := by decide +kernel
theorem d4_50 : decode prog_58_method_7_code 50 = .ok (.lcmp, 1) := by decide +kernel
theorem d4_51 : decode prog_58_method_7_code 51 = .ok (.ifCond .le 7, 3) := by decide +kernel
theorem d4_54 : decode prog_58_method_7_code 54 = .ok (.iconst 1, 1) := by decide +kernel
theorem d4_55 : decode prog_58_method_7_code 55 = .ok (.goto 4, 3) := by decide +kernel
theorem d4_59 : decode prog_58_method_7_code 59 = .ok (.ireturn, 1) := by decide +kernel
theorem ef_rm4_0 (m : MethodId) (x0 : Addr) (x1 : Addr) : entryFrame m #[(.ref x0), (.ref x1)] 2 = mkF m 0 #[.val (.ref x0), .val (.ref x1)] [] := by first | (simp [entryFrame, mkF, argsToLocals, Value.category]; done) | rfl
def Q4_0 (Z : State) (a1 : Addr) (a2 : Addr) (p5 : Int32) (p6 : Int32) (p9 : Int32) (p10 : Int32) (h0 : Heap) (n0 : Nat) (v : Option Value) (h : Heap) (L : List Loc) : Prop := v = some (.int (1 : Int32)) ∧ Fr n0 L ∧ h = h0
set_option maxRecDepth 65536 in
set_option maxHeartbeats 40000000 in
theorem rm4_0 (l : Launch) (Z : State) (a0 : Array Value) (hw : ∀ d ∈ tables_1, d.before a0 Z = true) (ws : List Jvm.Cond) (a1 : Addr) (a2 : Addr) (p5 : Int32) (p6 : Int32) (p9 : Int32) (p10 : Int32) (h0 : Heap) (n0 : Nat) (Z0 : n0 ≤ h0.size) (F_relevant_a1 : Fld Z h0 a1 "com/example/cotejo/cotejo/optimize/OptimalQuery" "relevant" "I" (.int p6)) (F_relevant_a2 : Fld Z h0 a2 "com/example/cotejo/cotejo/optimize/OptimalQuery" "relevant" "I" (.int p10)) (hq0 : p6 = p10) (F_retrieved_a2 : Fld Z h0 a2 "com/example/cotejo/cotejo/optimize/OptimalQuery" "retrieved" "I" (.int p9)) (F_retrieved_a1 : Fld Z h0 a1 "com/example/cotejo/cotejo/optimize/OptimalQuery" "retrieved" "I" (.int p5)) (hq3 : (0 : Int32) < (lcmpW ((p6.toInt64) * (p9.toInt64)) ((p10.toInt64) * (p5.toInt64)))) :
    MetFree l (⟨"com/example/cotejo/cotejo/optimize/OptimalQuery", "isBetterThan", "(Lcom/example/cotejo/cotejo/optimize/OptimalQuery;)Z"⟩ : MethodName) (head1 (Jvm.Cond.code (⟨"com/example/cotejo/cotejo/optimize/OptimalQuery", "isBetterThan", "(Lcom/example/cotejo/cotejo/optimize/OptimalQuery;)Z"⟩ : MethodName) prog_58_method_7_code 2 (some .boolean) :: ws) ({ frames := 0, cells := 0, slots := 0, locals := 0 } : Room)) (fun a U => a = #[(.ref a1), (.ref a2)] ∧ Z.Warmed39 U.vm ∧ U.heap = h0) (fun _ _ _ _ _ => True) (fun _ U o U' => ∃ v L, o = .returned v ∧ Q4_0 Z a1 a2 p5 p6 p9 p10 h0 n0 v U'.heap L ∧ FrameEnd U o U' L ({ frames := 0, cells := 0, slots := 0, locals := 0 } : Room).cells ({ frames := 0, cells := 0, slots := 0, locals := 0 } : Room).slots) := by
  refine MetFree.of_bodySF (plainFor_of_name pn_0) hisR ?_
  intro p e s m args below meth c s₁ Bd hml0 hP hK
  obtain ⟨rfl, hZ, hh⟩ := hP
  have hx := Bd.exec
  have hby := Bd.bytes
  have hml : c.maxLocals = 2 := hml0
  have hown : s.vm.findClass "com/example/cotejo/cotejo/optimize/OptimalQuery" = some m.cls := findClass_of_methodNamed Bd.named
  have hnm := (name_of_methodNamed Bd.named Bd.method).1
  have X0 : Stand p l e ({ frames := 0, cells := 0, slots := 0, locals := 0 } : Room) s m #[(.ref a1), (.ref a2)] below meth c s₁ [] 0 0 := Stand.of_body Bd
  have e0 : s₁.heap = h0 := by rw [← hh, Bd.state]; rfl
  have N0 := Fr.nil n0
  have pre0 : ∀ t, Steps p.tables e below (s₁.setTop (mkF m 0 #[.val (.ref a1), .val (.ref a2)] [])) t → Steps p.tables e below (s₁.setTop (entryFrame m #[(.ref a1), (.ref a2)] 2)) t := fun t k => castTop (ef_rm4_0 m a1 a2) k
  obtain ⟨T1, X1, e1, st1⟩ := getF X0 hx hZ hown (host := "") (Or.inl (hw _ (List.mem_of_getElem? (i := 26) rfl))) Via.refl e0 F_relevant_a1 (g := (mkF m 1 #[.val (.ref a1), .val (.ref a2)] [(.ref a1)])) rfl rfl (hb hby d4_1)
  obtain ⟨T2, X2, e2, st2⟩ := getF X1 hx hZ hown (host := "") (Or.inl (hw _ (List.mem_of_getElem? (i := 26) rfl))) Via.refl e1 F_relevant_a2 (g := (mkF m 5 #[.val (.ref a1), .val (.ref a2)] [(.ref a2), (.int p6)])) rfl rfl (hb hby d4_5)
  obtain ⟨T3, X3, e3, st3⟩ := getF X2 hx hZ hown (host := "") (Or.inl (hw _ (List.mem_of_getElem? (i := 26) rfl))) Via.refl e2 F_relevant_a1 (g := (mkF m 29 #[.val (.ref a1), .val (.ref a2)] [(.ref a1)])) rfl rfl (hb hby d4_29)
  obtain ⟨T4, X4, e4, st4⟩ := getF X3 hx hZ hown (host := "") (Or.inl (hw _ (List.mem_of_getElem? (i := 24) rfl))) Via.refl e3 F_retrieved_a2 (g := (mkF m 34 #[.val (.ref a1), .val (.ref a2)] [(.ref a2), (.long (p6.toInt64))])) rfl rfl (hb hby d4_34)
  obtain ⟨T5, X5, e5, st5⟩ := getF X4 hx hZ hown (host := "") (Or.inl (hw _ (List.mem_of_getElem? (i := 26) rfl))) Via.refl e4 F_relevant_a2 (g := (mkF m 40 #[.val (.ref a1), .val (.ref a2)] [(.ref a2), (.long ((p6.toInt64) * (p9.toInt64)))])) rfl rfl (hb hby d4_40)
  obtain ⟨T6, X6, e6, st6⟩ := getF X5 hx hZ hown (host := "") (Or.inl (hw _ (List.mem_of_getElem? (i := 24) rfl))) Via.refl e5 F_retrieved_a1 (g := (mkF m 45 #[.val (.ref a1), .val (.ref a2)] [(.ref a1), (.long (p10.toInt64)), (.long ((p6.toInt64) * (p9.toInt64)))])) rfl rfl (hb hby d4_45)
  obtain ⟨fs, hr, hrun, hended, hW, hsame⟩ := X6.leave (v := some (.int (1 : Int32))) (fun h => by rw [Bd.returns] at h; cases h)
  refine ⟨_, _, pre0 _ ?_, hrun, hended, _, _, rfl, ?_, ⟨_, rfl⟩, hW, hsame.mono (by decide) (by decide)⟩
  ·
    show Steps p.tables e below (s₁.setTop (mkF m 0 #[.val (.ref a1), .val (.ref a2)] [])) _
    refine XS.aloadN X0.here hx rfl (hb hby d4_0) rfl rfl ?_
    show Steps p.tables e below (s₁.setTop (mkF m 1 #[.val (.ref a1), .val (.ref a2)] [(.ref a1)])) _
    refine st1 _ ?_
    show Steps p.tables e below (T1.setTop (mkF m 4 #[.val (.ref a1), .val (.ref a2)] [(.int p6)])) _
    refine XS.aloadN X1.here hx rfl (hb hby d4_4) rfl rfl ?_
    show Steps p.tables e below (T1.setTop (mkF m 5 #[.val (.ref a1), .val (.ref a2)] [(.ref a2), (.int p6)])) _
    refine st2 _ ?_
    show Steps p.tables e below (T2.setTop (mkF m 8 #[.val (.ref a1), .val (.ref a2)] [(.int p10), (.int p6)])) _
    refine XS.icmpYes X2.here hx rfl (pc0 := 8) (pc' := 28) rfl (hb hby d4_8) rfl (teq hq0).1 (by decide) (by decide) ?_
    show Steps p.tables e below (T2.setTop (mkF m 28 #[.val (.ref a1), .val (.ref a2)] [])) _
    refine XS.aloadN X2.here hx rfl (hb hby d4_28) rfl rfl ?_
    show Steps p.tables e below (T2.setTop (mkF m 29 #[.val (.ref a1), .val (.ref a2)] [(.ref a1)])) _
    refine st3 _ ?_
    show Steps p.tables e below (T3.setTop (mkF m 32 #[.val (.ref a1), .val (.ref a2)] [(.int p6)])) _
    refine XS.i2l X3.here hx rfl (hb hby d4_32) rfl ?_
    show Steps p.tables e below (T3.setTop (mkF m 33 #[.val (.ref a1), .val (.ref a2)] [(.long (p6.toInt64))])) _
    refine XS.aloadN X3.here hx rfl (hb hby d4_33) rfl rfl ?_
    show Steps p.tables e below (T3.setTop (mkF m 34 #[.val (.ref a1), .val (.ref a2)] [(.ref a2), (.long (p6.toInt64))])) _
    refine st4 _ ?_
    show Steps p.tables e below (T4.setTop (mkF m 37 #[.val (.ref a1), .val (.ref a2)] [(.int p9), (.long (p6.toInt64))])) _
    refine XS.i2l X4.here hx rfl (hb hby d4_37) rfl ?_
    show Steps p.tables e below (T4.setTop (mkF m 38 #[.val (.ref a1), .val (.ref a2)] [(.long (p9.toInt64)), (.long (p6.toInt64))])) _
    refine XS.lmul X4.here hx rfl (hb hby d4_38) rfl ?_
    show Steps p.tables e below (T4.setTop (mkF m 39 #[.val (.ref a1), .val (.ref a2)] [(.long ((p6.toInt64) * (p9.toInt64)))])) _
    refine XS.aloadN X4.here hx rfl (hb hby d4_39) rfl rfl ?_
    show Steps p.tables e below (T4.setTop (mkF m 40 #[.val (.ref a1), .val (.ref a2)] [(.ref a2), (.long ((p6.toInt64) * (p9.toInt64)))])) _
    refine st5 _ ?_
    show Steps p.tables e below (T5.setTop (mkF m 43 #[.val (.ref a1), .val (.ref a2)] [(.int p10), (.long ((p6.toInt64) * (p9.toInt64)))])) _
    refine XS.i2l X5.here hx rfl (hb hby d4_43) rfl ?_
    show Steps p.tables e below (T5.setTop (mkF m 44 #[.val (.ref a1), .val (.ref a2)] [(.long (p10.toInt64)), (.long ((p6.toInt64) * (p9.toInt64)))])) _
    refine XS.aloadN X5.here hx rfl (hb hby d4_44) rfl rfl ?_
    show Steps p.tables e below (T5.setTop (mkF m 45 #[.val (.ref a1), .val (.ref a2)] [(.ref a1), (.long (p10.toInt64)), (.long ((p6.toInt64) * (p9.toInt64)))])) _
    refine st6 _ ?_
    show Steps p.tables e below (T6.setTop (mkF m 48 #[.val (.ref a1), .val (.ref a2)] [(.int p5), (.long (p10.toInt64)), (.long ((p6.toInt64) * (p9.toInt64)))])) _
    refine XS.i2l X6.here hx rfl (hb hby d4_48) rfl ?_
    show Steps p.tables e below (T6.setTop (mkF m 49 #[.val (.ref a1), .val (.ref a2)] [(.long (p5.toInt64)), (.long (p10.toInt64)), (.long ((p6.toInt64) * (p9.toInt64)))])) _
    refine XS.lmul X6.here hx rfl (hb hby d4_49) rfl ?_
    show Steps p.tables e below (T6.setTop (mkF m 50 #[.val (.ref a1), .val (.ref a2)] [(.long ((p10.toInt64) * (p5.toInt64))), (.long ((p6.toInt64) * (p9.toInt64)))])) _
    refine XS.lcmp X6.here hx rfl (hb hby d4_50) rfl ?_
    show Steps p.tables e below (T6.setTop (mkF m 51 #[.val (.ref a1), .val (.ref a2)] [(.int (lcmpW ((p6.toInt64) * (p9.toInt64)) ((p10.toInt64) * (p5.toInt64))))])) _
    refine XS.ifNo X6.here hx rfl (hb hby d4_51) rfl ((if0 _ _).trans (tlt hq3).2.2.2) ?_
    show Steps p.tables e below (T6.setTop (mkF m 54 #[.val (.ref a1), .val (.ref a2)] [])) _
    refine XS.iconst X6.here hx rfl (hb hby d4_54) ?_
    show Steps p.tables e below (T6.setTop (mkF m 55 #[.val (.ref a1), .val (.ref a2)] [(.int (1 : Int32))])) _
    refine XS.goto X6.here hx rfl (pc0 := 55) (pc' := 59) rfl (hb hby d4_55) (by decide) (by decide) ?_
    show Steps p.tables e below (T6.setTop (mkF m 59 #[.val (.ref a1), .val (.ref a2)] [(.int (1 : Int32))])) _
    exact retN X6 hx (t := .boolean) Bd.returns (by simp) (hb hby d4_59) hr
  · show Q4_0 Z a1 a2 p5 p6 p9 p10 h0 n0 _ T6.heap _
    rw [e6]
    exact ⟨rfl, N0, rfl⟩
theorem pd_2 : parseMethodDescriptor "(Lcom/example/cotejo/cotejo/optimize/OptimalQuery;)Z" = some ⟨[(.object "com/example/cotejo/cotejo/optimize/OptimalQuery")], some .boolean⟩ := by decide +kernel
theorem d4_58 : decode prog_58_method_7_code 58 = .ok (.iconst 0, 1) := by decide +kernel
theorem ef_rm4_1 (m : MethodId) (x0 : Addr) (x1 : Addr) : entryFrame m #[(.ref x0), (.ref x1)] 2 = mkF m 0 #[.val (.ref x0), .val (.ref x1)] [] := by first | (simp [entryFrame, mkF, argsToLocals, Value.category]; done) | rfl
def Q4_1 (Z : State) (a1 : Addr) (a2 : Addr) (p5 : Int32) (p6 : Int32) (p9 : Int32) (p10 : Int32) (h0 : Heap) (n0 : Nat) (v : Option Value) (h : Heap) (L : List Loc) : Prop := v = some (.int (0 : Int32)) ∧ Fr n0 L ∧ h = h0
set_option maxRecDepth 65536 in
set_option maxHeartbeats 40000000 in
theorem rm4_1 (l : Launch) (Z : State) (a0 : Array Value) (hw : ∀ d ∈ tables_1, d.before a0 Z = true) (ws : List Jvm.Cond) (a1 : Addr) (a2 : Addr) (p5 : Int32) (p6 : Int32) (p9 : Int32) (p10 : Int32) (h0 : Heap) (n0 : Nat) (Z0 : n0 ≤ h0.size) (F_relevant_a1 : Fld Z h0 a1 "com/example/cotejo/cotejo/optimize/OptimalQuery" "relevant" "I" (.int p6)) (F_relevant_a2 : Fld Z h0 a2 "com/example/cotejo/cotejo/optimize/OptimalQuery" "relevant" "I" (.int p10)) (hq0 : p6 = p10) (F_retrieved_a2 : Fld Z h0 a2 "com/example/cotejo/cotejo/optimize/OptimalQuery" "retrieved" "I" (.int p9)) (F_retrieved_a1 : Fld Z h0 a1 "com/example/cotejo/cotejo/optimize/OptimalQuery" "retrieved" "I" (.int p5)) (hq3 : ¬ ((0 : Int32) < (lcmpW ((p6.toInt64) * (p9.toInt64)) ((p10.toInt64) * (p5.toInt64))))) :
    MetFree l (⟨"com/example/cotejo/cotejo/optimize/OptimalQuery", "isBetterThan", "(Lcom/example/cotejo/cotejo/optimize/OptimalQuery;)Z"⟩ : MethodName) (head1 (Jvm.Cond.code (⟨"com/example/cotejo/cotejo/optimize/OptimalQuery", "isBetterThan", "(Lcom/example/cotejo/cotejo/optimize/OptimalQuery;)Z"⟩ : MethodName) prog_58_method_7_code 2 (some .boolean) :: ws) ({ frames := 0, cells := 0, slots := 0, locals := 0 } : Room)) (fun a U => a = #[(.ref a1), (.ref a2)] ∧ Z.Warmed39 U.vm ∧ U.heap = h0) (fun _ _ _ _ _ => True) (fun _ U o U' => ∃ v L, o = .returned v ∧ Q4_1 Z a1 a2 p5 p6 p9 p10 h0 n0 v U'.heap L ∧ FrameEnd U o U' L ({ frames := 0, cells := 0, slots := 0, locals := 0 } : Room).cells ({ frames := 0, cells := 0, slots := 0, locals := 0 } : Room).slots) := by
  refine MetFree.of_bodySF (plainFor_of_name pn_0) hisR ?_
  intro p e s m args below meth c s₁ Bd hml0 hP hK
  obtain ⟨rfl, hZ, hh⟩ := hP
  have hx := Bd.exec
  have hby := Bd.bytes
  have hml : c.maxLocals = 2 := hml0
  have hown : s.vm.findClass "com/example/cotejo/cotejo/optimize/OptimalQuery" = some m.cls := findClass_of_methodNamed Bd.named
  have hnm := (name_of_methodNamed Bd.named Bd.method).1
  have X0 : Stand p l e ({ frames := 0, cells := 0, slots := 0, locals := 0 } : Room) s m #[(.ref a1), (.ref a2)] below meth c s₁ [] 0 0 := Stand.of_body Bd
  have e0 : s₁.heap = h0 := by rw [← hh, Bd.state]; rfl
  have N0 := Fr.nil n0
  have pre0 : ∀ t, Steps p.tables e below (s₁.setTop (mkF m 0 #[.val (.ref a1), .val (.ref a2)] [])) t → Steps p.tables e below (s₁.setTop (entryFrame m #[(.ref a1), (.ref a2)] 2)) t := fun t k => castTop (ef_rm4_1 m a1 a2) k
  obtain ⟨T1, X1, e1, st1⟩ := getF X0 hx hZ hown (host := "") (Or.inl (hw _ (List.mem_of_getElem? (i := 26) rfl))) Via.refl e0 F_relevant_a1 (g := (mkF m 1 #[.val (.ref a1), .val (.ref a2)] [(.ref a1)])) rfl rfl (hb hby d4_1)
  obtain ⟨T2, X2, e2, st2⟩ := getF X1 hx hZ hown (host := "") (Or.inl (hw _ (List.mem_of_getElem? (i := 26) rfl))) Via.refl e1 F_relevant_a2 (g := (mkF m 5 #[.val (.ref a1), .val (.ref a2)] [(.ref a2), (.int p6)])) rfl rfl (hb hby d4_5)
  obtain ⟨T3, X3, e3, st3⟩ := getF X2 hx hZ hown (host := "") (Or.inl (hw _ (List.mem_of_getElem? (i := 26) rfl))) Via.refl e2 F_relevant_a1 (g := (mkF m 29 #[.val (.ref a1), .val (.ref a2)] [(.ref a1)])) rfl rfl (hb hby d4_29)
  obtain ⟨T4, X4, e4, st4⟩ := getF X3 hx hZ hown (host := "") (Or.inl (hw _ (List.mem_of_getElem? (i := 24) rfl))) Via.refl e3 F_retrieved_a2 (g := (mkF m 34 #[.val (.ref a1), .val (.ref a2)] [(.ref a2), (.long (p6.toInt64))])) rfl rfl (hb hby d4_34)
  obtain ⟨T5, X5, e5, st5⟩ := getF X4 hx hZ hown (host := "") (Or.inl (hw _ (List.mem_of_getElem? (i := 26) rfl))) Via.refl e4 F_relevant_a2 (g := (mkF m 40 #[.val (.ref a1), .val (.ref a2)] [(.ref a2), (.long ((p6.toInt64) * (p9.toInt64)))])) rfl rfl (hb hby d4_40)
  obtain ⟨T6, X6, e6, st6⟩ := getF X5 hx hZ hown (host := "") (Or.inl (hw _ (List.mem_of_getElem? (i := 24) rfl))) Via.refl e5 F_retrieved_a1 (g := (mkF m 45 #[.val (.ref a1), .val (.ref a2)] [(.ref a1), (.long (p10.toInt64)), (.long ((p6.toInt64) * (p9.toInt64)))])) rfl rfl (hb hby d4_45)
  obtain ⟨fs, hr, hrun, hended, hW, hsame⟩ := X6.leave (v := some (.int (0 : Int32))) (fun h => by rw [Bd.returns] at h; cases h)
  refine ⟨_, _, pre0 _ ?_, hrun, hended, _, _, rfl, ?_, ⟨_, rfl⟩, hW, hsame.mono (by decide) (by decide)⟩
  ·
    show Steps p.tables e below (s₁.setTop (mkF m 0 #[.val (.ref a1), .val (.ref a2)] [])) _
    refine XS.aloadN X0.here hx rfl (hb hby d4_0) rfl rfl ?_
    show Steps p.tables e below (s₁.setTop (mkF m 1 #[.val (.ref a1), .val (.ref a2)] [(.ref a1)])) _
    refine st1 _ ?_
    show Steps p.tables e below (T1.setTop (mkF m 4 #[.val (.ref a1), .val (.ref a2)] [(.int p6)])) _
    refine XS.aloadN X1.here hx rfl (hb hby d4_4) rfl rfl ?_
    show Steps p.tables e below (T1.setTop (mkF m 5 #[.val (.ref a1), .val (.ref a2)] [(.ref a2), (.int p6)])) _
    refine st2 _ ?_
    show Steps p.tables e below (T2.setTop (mkF m 8 #[.val (.ref a1), .val (.ref a2)] [(.int p10), (.int p6)])) _
    refine XS.icmpYes X2.here hx rfl (pc0 := 8) (pc' := 28) rfl (hb hby d4_8) rfl (teq hq0).1 (by decide) (by decide) ?_
    show Steps p.tables e below (T2.setTop (mkF m 28 #[.val (.ref a1), .val (.ref a2)] [])) _
    refine XS.aloadN X2.here hx rfl (hb hby d4_28) rfl rfl ?_
    show Steps p.tables e below (T2.setTop (mkF m 29 #[.val (.ref a1), .val (.ref a2)] [(.ref a1)])) _
    refine st3 _ ?_
    show Steps p.tables e below (T3.setTop (mkF m 32 #[.val (.ref a1), .val (.ref a2)] [(.int p6)])) _
    refine XS.i2l X3.here hx rfl (hb hby d4_32) rfl ?_
    show Steps p.tables e below (T3.setTop (mkF m 33 #[.val (.ref a1), .val (.ref a2)] [(.long (p6.toInt64))])) _
    refine XS.aloadN X3.here hx rfl (hb hby d4_33) rfl rfl ?_
    show Steps p.tables e below (T3.setTop (mkF m 34 #[.val (.ref a1), .val (.ref a2)] [(.ref a2), (.long (p6.toInt64))])) _
    refine st4 _ ?_
    show Steps p.tables e below (T4.setTop (mkF m 37 #[.val (.ref a1), .val (.ref a2)] [(.int p9), (.long (p6.toInt64))])) _
    refine XS.i2l X4.here hx rfl (hb hby d4_37) rfl ?_
    show Steps p.tables e below (T4.setTop (mkF m 38 #[.val (.ref a1), .val (.ref a2)] [(.long (p9.toInt64)), (.long (p6.toInt64))])) _
    refine XS.lmul X4.here hx rfl (hb hby d4_38) rfl ?_
    show Steps p.tables e below (T4.setTop (mkF m 39 #[.val (.ref a1), .val (.ref a2)] [(.long ((p6.toInt64) * (p9.toInt64)))])) _
    refine XS.aloadN X4.here hx rfl (hb hby d4_39) rfl rfl ?_
    show Steps p.tables e below (T4.setTop (mkF m 40 #[.val (.ref a1), .val (.ref a2)] [(.ref a2), (.long ((p6.toInt64) * (p9.toInt64)))])) _
    refine st5 _ ?_
    show Steps p.tables e below (T5.setTop (mkF m 43 #[.val (.ref a1), .val (.ref a2)] [(.int p10), (.long ((p6.toInt64) * (p9.toInt64)))])) _
    refine XS.i2l X5.here hx rfl (hb hby d4_43) rfl ?_
    show Steps p.tables e below (T5.setTop (mkF m 44 #[.val (.ref a1), .val (.ref a2)] [(.long (p10.toInt64)), (.long ((p6.toInt64) * (p9.toInt64)))])) _
    refine XS.aloadN X5.here hx rfl (hb hby d4_44) rfl rfl ?_
    show Steps p.tables e below (T5.setTop (mkF m 45 #[.val (.ref a1), .val (.ref a2)] [(.ref a1), (.long (p10.toInt64)), (.long ((p6.toInt64) * (p9.toInt64)))])) _
    refine st6 _ ?_
    show Steps p.tables e below (T6.setTop (mkF m 48 #[.val (.ref a1), .val (.ref a2)] [(.int p5), (.long (p10.toInt64)), (.long ((p6.toInt64) * (p9.toInt64)))])) _
    refine XS.i2l X6.here hx rfl (hb hby d4_48) rfl ?_
    show Steps p.tables e below (T6.setTop (mkF m 49 #[.val (.ref a1), .val (.ref a2)] [(.long (p5.toInt64)), (.long (p10.toInt64)), (.long ((p6.toInt64) * (p9.toInt64)))])) _
    refine XS.lmul X6.here hx rfl (hb hby d4_49) rfl ?_
    show Steps p.tables e below (T6.setTop (mkF m 50 #[.val (.ref a1), .val (.ref a2)] [(.long ((p10.toInt64) * (p5.toInt64))), (.long ((p6.toInt64) * (p9.toInt64)))])) _
    refine XS.lcmp X6.here hx rfl (hb hby d4_50) rfl ?_
    show Steps p.tables e below (T6.setTop (mkF m 51 #[.val (.ref a1), .val (.ref a2)] [(.int (lcmpW ((p6.toInt64) * (p9.toInt64)) ((p10.toInt64) * (p5.toInt64))))])) _
    refine XS.ifYes X6.here hx rfl (pc0 := 51) (pc' := 58) rfl (hb hby d4_51) rfl ((if0 _ _).trans (flt hq3).2.2.2) (by decide) (by decide) ?_
    show Steps p.tables e below (T6.setTop (mkF m 58 #[.val (.ref a1), .val (.ref a2)] [])) _
    refine XS.iconst X6.here hx rfl (hb hby d4_58) ?_
    show Steps p.tables e below (T6.setTop (mkF m 59 #[.val (.ref a1), .val (.ref a2)] [(.int (0 : Int32))])) _
    exact retN X6 hx (t := .boolean) Bd.returns (by simp) (hb hby d4_59) hr
  · show Q4_1 Z a1 a2 p5 p6 p9 p10 h0 n0 _ T6.heap _
    rw [e6]
    exact ⟨rfl, N0, rfl⟩
theorem d4_11 : decode prog_58_method_7_code 11 = .ok (.aload_n 0, 1) := by decide +kernel
theorem d4_12 : decode prog_58_method_7_code 12 = .ok (.getfield 20, 3) := by decide +kernel
theorem d4_15 : decode prog_58_method_7_code 15 = .ok (.aload_n 1, 1) := by decide +kernel
theorem d4_16 : decode prog_58_method_7_code 16 = .ok (.getfield 20, 3) := by decide +kernel
theorem d4_19 : decode prog_58_method_7_code 19 = .ok (.if_icmp .le 7, 3) := by decide +kernel
theorem d4_22 : decode prog_58_method_7_code 22 = .ok (.iconst 1, 1) := by decide +kernel
theorem d4_23 : decode prog_58_method_7_code 23 = .ok (.goto 4, 3) := by decide +kernel
theorem d4_27 : decode prog_58_method_7_code 27 = .ok (.ireturn, 1) := by decide +kernel
theorem ef_rm4_2 (m : MethodId) (x0 : Addr) (x1 : Addr) : entryFrame m #[(.ref x0), (.ref x1)] 2 = mkF m 0 #[.val (.ref x0), .val (.ref x1)] [] := by first | (simp [entryFrame, mkF, argsToLocals, Value.category]; done) | rfl
def Q4_2 (Z : State) (a1 : Addr) (a2 : Addr) (p6 : Int32) (p10 : Int32) (h0 : Heap) (n0 : Nat) (v : Option Value) (h : Heap) (L : List Loc) : Prop := v = some (.int (1 : Int32)) ∧ Fr n0 L ∧ h = h0
set_option maxRecDepth 65536 in
set_option maxHeartbeats 40000000 in
theorem rm4_2 (l : Launch) (Z : State) (a0 : Array Value) (hw : ∀ d ∈ tables_1, d.before a0 Z = true) (ws : List Jvm.Cond) (a1 : Addr) (a2 : Addr) (p6 : Int32) (p10 : Int32) (h0 : Heap) (n0 : Nat) (Z0 : n0 ≤ h0.size) (F_relevant_a1 : Fld Z h0 a1 "com/example/cotejo/cotejo/optimize/OptimalQuery" "relevant" "I" (.int p6)) (F_relevant_a2 : Fld Z h0 a2 "com/example/cotejo/cotejo/optimize/OptimalQuery" "relevant" "I" (.int p10)) (hq0 : ¬ (p6 = p10)) (hq1 : p10 < p6) :
    MetFree l (⟨"com/example/cotejo/cotejo/optimize/OptimalQuery", "isBetterThan", "(Lcom/example/cotejo/cotejo/optimize/OptimalQuery;)Z"⟩ : MethodName) (head1 (Jvm.Cond.code (⟨"com/example/cotejo/cotejo/optimize/OptimalQuery", "isBetterThan", "(Lcom/example/cotejo/cotejo/optimize/OptimalQuery;)Z"⟩ : MethodName) prog_58_method_7_code 2 (some .boolean) :: ws) ({ frames := 0, cells := 0, slots := 0, locals := 0 } : Room)) (fun a U => a = #[(.ref a1), (.ref a2)] ∧ Z.Warmed39 U.vm ∧ U.heap = h0) (fun _ _ _ _ _ => True) (fun _ U o U' => ∃ v L, o = .returned v ∧ Q4_2 Z a1 a2 p6 p10 h0 n0 v U'.heap L ∧ FrameEnd U o U' L ({ frames := 0, cells := 0, slots := 0, locals := 0 } : Room).cells ({ frames := 0, cells := 0, slots := 0, locals := 0 } : Room).slots) := by
  refine MetFree.of_bodySF (plainFor_of_name pn_0) hisR ?_
  intro p e s m args below meth c s₁ Bd hml0 hP hK
  obtain ⟨rfl, hZ, hh⟩ := hP
  have hx := Bd.exec
  have hby := Bd.bytes
  have hml : c.maxLocals = 2 := hml0
  have hown : s.vm.findClass "com/example/cotejo/cotejo/optimize/OptimalQuery" = some m.cls := findClass_of_methodNamed Bd.named
  have hnm := (name_of_methodNamed Bd.named Bd.method).1
  have X0 : Stand p l e ({ frames := 0, cells := 0, slots := 0, locals := 0 } : Room) s m #[(.ref a1), (.ref a2)] below meth c s₁ [] 0 0 := Stand.of_body Bd
  have e0 : s₁.heap = h0 := by rw [← hh, Bd.state]; rfl
  have N0 := Fr.nil n0
  have pre0 : ∀ t, Steps p.tables e below (s₁.setTop (mkF m 0 #[.val (.ref a1), .val (.ref a2)] [])) t → Steps p.tables e below (s₁.setTop (entryFrame m #[(.ref a1), (.ref a2)] 2)) t := fun t k => castTop (ef_rm4_2 m a1 a2) k
  obtain ⟨T1, X1, e1, st1⟩ := getF X0 hx hZ hown (host := "") (Or.inl (hw _ (List.mem_of_getElem? (i := 26) rfl))) Via.refl e0 F_relevant_a1 (g := (mkF m 1 #[.val (.ref a1), .val (.ref a2)] [(.ref a1)])) rfl rfl (hb hby d4_1)
  obtain ⟨T2, X2, e2, st2⟩ := getF X1 hx hZ hown (host := "") (Or.inl (hw _ (List.mem_of_getElem? (i := 26) rfl))) Via.refl e1 F_relevant_a2 (g := (mkF m 5 #[.val (.ref a1), .val (.ref a2)] [(.ref a2), (.int p6)])) rfl rfl (hb hby d4_5)
  obtain ⟨T3, X3, e3, st3⟩ := getF X2 hx hZ hown (host := "") (Or.inl (hw _ (List.mem_of_getElem? (i := 26) rfl))) Via.refl e2 F_relevant_a1 (g := (mkF m 12 #[.val (.ref a1), .val (.ref a2)] [(.ref a1)])) rfl rfl (hb hby d4_12)
  obtain ⟨T4, X4, e4, st4⟩ := getF X3 hx hZ hown (host := "") (Or.inl (hw _ (List.mem_of_getElem? (i := 26) rfl))) Via.refl e3 F_relevant_a2 (g := (mkF m 16 #[.val (.ref a1), .val (.ref a2)] [(.ref a2), (.int p6)])) rfl rfl (hb hby d4_16)
  obtain ⟨fs, hr, hrun, hended, hW, hsame⟩ := X4.leave (v := some (.int (1 : Int32))) (fun h => by rw [Bd.returns] at h; cases h)
  refine ⟨_, _, pre0 _ ?_, hrun, hended, _, _, rfl, ?_, ⟨_, rfl⟩, hW, hsame.mono (by decide) (by decide)⟩
  ·
    show Steps p.tables e below (s₁.setTop (mkF m 0 #[.val (.ref a1), .val (.ref a2)] [])) _
    refine XS.aloadN X0.here hx rfl (hb hby d4_0) rfl rfl ?_
    show Steps p.tables e below (s₁.setTop (mkF m 1 #[.val (.ref a1), .val (.ref a2)] [(.ref a1)])) _
    refine st1 _ ?_
    show Steps p.tables e below (T1.setTop (mkF m 4 #[.val (.ref a1), .val (.ref a2)] [(.int p6)])) _
    refine XS.aloadN X1.here hx rfl (hb hby d4_4) rfl rfl ?_
    show Steps p.tables e below (T1.setTop (mkF m 5 #[.val (.ref a1), .val (.ref a2)] [(.ref a2), (.int p6)])) _
    refine st2 _ ?_
    show Steps p.tables e below (T2.setTop (mkF m 8 #[.val (.ref a1), .val (.ref a2)] [(.int p10), (.int p6)])) _
    refine XS.icmpNo X2.here hx rfl (hb hby d4_8) rfl (feq hq0).1 ?_
    show Steps p.tables e below (T2.setTop (mkF m 11 #[.val (.ref a1), .val (.ref a2)] [])) _
    refine XS.aloadN X2.here hx rfl (hb hby d4_11) rfl rfl ?_
    show Steps p.tables e below (T2.setTop (mkF m 12 #[.val (.ref a1), .val (.ref a2)] [(.ref a1)])) _
    refine st3 _ ?_
    show Steps p.tables e below (T3.setTop (mkF m 15 #[.val (.ref a1), .val (.ref a2)] [(.int p6)])) _
    refine XS.aloadN X3.here hx rfl (hb hby d4_15) rfl rfl ?_
    show Steps p.tables e below (T3.setTop (mkF m 16 #[.val (.ref a1), .val (.ref a2)] [(.ref a2), (.int p6)])) _
    refine st4 _ ?_
    show Steps p.tables e below (T4.setTop (mkF m 19 #[.val (.ref a1), .val (.ref a2)] [(.int p10), (.int p6)])) _
    refine XS.icmpNo X4.here hx rfl (hb hby d4_19) rfl (tlt hq1).2.2.2 ?_
    show Steps p.tables e below (T4.setTop (mkF m 22 #[.val (.ref a1), .val (.ref a2)] [])) _
    refine XS.iconst X4.here hx rfl (hb hby d4_22) ?_
    show Steps p.tables e below (T4.setTop (mkF m 23 #[.val (.ref a1), .val (.ref a2)] [(.int (1 : Int32))])) _
    refine XS.goto X4.here hx rfl (pc0 := 23) (pc' := 27) rfl (hb hby d4_23) (by decide) (by decide) ?_
    show Steps p.tables e below (T4.setTop (mkF m 27 #[.val (.ref a1), .val (.ref a2)] [(.int (1 : Int32))])) _
    exact retN X4 hx (t := .boolean) Bd.returns (by simp) (hb hby d4_27) hr
  · show Q4_2 Z a1 a2 p6 p10 h0 n0 _ T4.heap _
    rw [e4]
    exact ⟨rfl, N0, rfl⟩
theorem d4_26 : decode prog_58_method_7_code 26 = .ok (.iconst 0, 1) := by decide +kernel
theorem ef_rm4_3 (m : MethodId) (x0 : Addr) (x1 : Addr) : entryFrame m #[(.ref x0), (.ref x1)] 2 = mkF m 0 #[.val (.ref x0), .val (.ref x1)] [] := by first | (simp [entryFrame, mkF, argsToLocals, Value.category]; done) | rfl
def Q4_3 (Z : State) (a1 : Addr) (a2 : Addr) (p6 : Int32) (p10 : Int32) (h0 : Heap) (n0 : Nat) (v : Option Value) (h : Heap) (L : List Loc) : Prop := v = some (.int (0 : Int32)) ∧ Fr n0 L ∧ h = h0
set_option maxRecDepth 65536 in
set_option maxHeartbeats 40000000 in
theorem rm4_3 (l : Launch) (Z : State) (a0 : Array Value) (hw : ∀ d ∈ tables_1, d.before a0 Z = true) (ws : List Jvm.Cond) (a1 : Addr) (a2 : Addr) (p6 : Int32) (p10 : Int32) (h0 : Heap) (n0 : Nat) (Z0 : n0 ≤ h0.size) (F_relevant_a1 : Fld Z h0 a1 "com/example/cotejo/cotejo/optimize/OptimalQuery" "relevant" "I" (.int p6)) (F_relevant_a2 : Fld Z h0 a2 "com/example/cotejo/cotejo/optimize/OptimalQuery" "relevant" "I" (.int p10)) (hq0 : ¬ (p6 = p10)) (hq1 : ¬ (p10 < p6)) :
    MetFree l (⟨"com/example/cotejo/cotejo/optimize/OptimalQuery", "isBetterThan", "(Lcom/example/cotejo/cotejo/optimize/OptimalQuery;)Z"⟩ : MethodName) (head1 (Jvm.Cond.code (⟨"com/example/cotejo/cotejo/optimize/OptimalQuery", "isBetterThan", "(Lcom/example/cotejo/cotejo/optimize/OptimalQuery;)Z"⟩ : MethodName) prog_58_method_7_code 2 (some .boolean) :: ws) ({ frames := 0, cells := 0, slots := 0, locals := 0 } : Room)) (fun a U => a = #[(.ref a1), (.ref a2)] ∧ Z.Warmed39 U.vm ∧ U.heap = h0) (fun _ _ _ _ _ => True) (fun _ U o U' => ∃ v L, o = .returned v ∧ Q4_3 Z a1 a2 p6 p10 h0 n0 v U'.heap L ∧ FrameEnd U o U' L ({ frames := 0, cells := 0, slots := 0, locals := 0 } : Room).cells ({ frames := 0, cells := 0, slots := 0, locals := 0 } : Room).slots) := by
  refine MetFree.of_bodySF (plainFor_of_name pn_0) hisR ?_
  intro p e s m args below meth c s₁ Bd hml0 hP hK
  obtain ⟨rfl, hZ, hh⟩ := hP
  have hx := Bd.exec
  have hby := Bd.bytes
  have hml : c.maxLocals = 2 := hml0
  have hown : s.vm.findClass "com/example/cotejo/cotejo/optimize/OptimalQuery" = some m.cls := findClass_of_methodNamed Bd.named
  have hnm := (name_of_methodNamed Bd.named Bd.method).1
  have X0 : Stand p l e ({ frames := 0, cells := 0, slots := 0, locals := 0 } : Room) s m #[(.ref a1), (.ref a2)] below meth c s₁ [] 0 0 := Stand.of_body Bd
  have e0 : s₁.heap = h0 := by rw [← hh, Bd.state]; rfl
  have N0 := Fr.nil n0
  have pre0 : ∀ t, Steps p.tables e below (s₁.setTop (mkF m 0 #[.val (.ref a1), .val (.ref a2)] [])) t → Steps p.tables e below (s₁.setTop (entryFrame m #[(.ref a1), (.ref a2)] 2)) t := fun t k => castTop (ef_rm4_3 m a1 a2) k
  obtain ⟨T1, X1, e1, st1⟩ := getF X0 hx hZ hown (host := "") (Or.inl (hw _ (List.mem_of_getElem? (i := 26) rfl))) Via.refl e0 F_relevant_a1 (g := (mkF m 1 #[.val (.ref a1), .val (.ref a2)] [(.ref a1)])) rfl rfl (hb hby d4_1)
  obtain ⟨T2, X2, e2, st2⟩ := getF X1 hx hZ hown (host := "") (Or.inl (hw _ (List.mem_of_getElem? (i := 26) rfl))) Via.refl e1 F_relevant_a2 (g := (mkF m 5 #[.val (.ref a1), .val (.ref a2)] [(.ref a2), (.int p6)])) rfl rfl (hb hby d4_5)
  obtain ⟨T3, X3, e3, st3⟩ := getF X2 hx hZ hown (host := "") (Or.inl (hw _ (List.mem_of_getElem? (i := 26) rfl))) Via.refl e2 F_relevant_a1 (g := (mkF m 12 #[.val (.ref a1), .val (.ref a2)] [(.ref a1)])) rfl rfl (hb hby d4_12)
  obtain ⟨T4, X4, e4, st4⟩ := getF X3 hx hZ hown (host := "") (Or.inl (hw _ (List.mem_of_getElem? (i := 26) rfl))) Via.refl e3 F_relevant_a2 (g := (mkF m 16 #[.val (.ref a1), .val (.ref a2)] [(.ref a2), (.int p6)])) rfl rfl (hb hby d4_16)
  obtain ⟨fs, hr, hrun, hended, hW, hsame⟩ := X4.leave (v := some (.int (0 : Int32))) (fun h => by rw [Bd.returns] at h; cases h)
  refine ⟨_, _, pre0 _ ?_, hrun, hended, _, _, rfl, ?_, ⟨_, rfl⟩, hW, hsame.mono (by decide) (by decide)⟩
  ·
    show Steps p.tables e below (s₁.setTop (mkF m 0 #[.val (.ref a1), .val (.ref a2)] [])) _
    refine XS.aloadN X0.here hx rfl (hb hby d4_0) rfl rfl ?_
    show Steps p.tables e below (s₁.setTop (mkF m 1 #[.val (.ref a1), .val (.ref a2)] [(.ref a1)])) _
    refine st1 _ ?_
    show Steps p.tables e below (T1.setTop (mkF m 4 #[.val (.ref a1), .val (.ref a2)] [(.int p6)])) _
    refine XS.aloadN X1.here hx rfl (hb hby d4_4) rfl rfl ?_
    show Steps p.tables e below (T1.setTop (mkF m 5 #[.val (.ref a1), .val (.ref a2)] [(.ref a2), (.int p6)])) _
    refine st2 _ ?_
    show Steps p.tables e below (T2.setTop (mkF m 8 #[.val (.ref a1), .val (.ref a2)] [(.int p10), (.int p6)])) _
    refine XS.icmpNo X2.here hx rfl (hb hby d4_8) rfl (feq hq0).1 ?_
    show Steps p.tables e below (T2.setTop (mkF m 11 #[.val (.ref a1), .val (.ref a2)] [])) _
    refine XS.aloadN X2.here hx rfl (hb hby d4_11) rfl rfl ?_
    show Steps p.tables e below (T2.setTop (mkF m 12 #[.val (.ref a1), .val (.ref a2)] [(.ref a1)])) _
    refine st3 _ ?_
    show Steps p.tables e below (T3.setTop (mkF m 15 #[.val (.ref a1), .val (.ref a2)] [(.int p6)])) _
    refine XS.aloadN X3.here hx rfl (hb hby d4_15) rfl rfl ?_
    show Steps p.tables e below (T3.setTop (mkF m 16 #[.val (.ref a1), .val (.ref a2)] [(.ref a2), (.int p6)])) _
    refine st4 _ ?_
    show Steps p.tables e below (T4.setTop (mkF m 19 #[.val (.ref a1), .val (.ref a2)] [(.int p10), (.int p6)])) _
    refine XS.icmpYes X4.here hx rfl (pc0 := 19) (pc' := 26) rfl (hb hby d4_19) rfl (flt hq1).2.2.2 (by decide) (by decide) ?_
    show Steps p.tables e below (T4.setTop (mkF m 26 #[.val (.ref a1), .val (.ref a2)] [])) _
    refine XS.iconst X4.here hx rfl (hb hby d4_26) ?_
    show Steps p.tables e below (T4.setTop (mkF m 27 #[.val (.ref a1), .val (.ref a2)] [(.int (0 : Int32))])) _
    exact retN X4 hx (t := .boolean) Bd.returns (by simp) (hb hby d4_27) hr
  · show Q4_3 Z a1 a2 p6 p10 h0 n0 _ T4.heap _
    rw [e4]
    exact ⟨rfl, N0, rfl⟩
theorem pn_1 : plainName "com/example/cotejo/cotejo/optimize/OptimalQueryIsBetterThanPinLaw" = true := by first | (simp [plainName, overriddenIn]; done) | decide +kernel
theorem ef_rm0_0 (m : MethodId) (x0 : Int32) (x1 : Int32) (x2 : Int32) (x3 : Int32) (x4 : Int32) (x5 : Int32) : entryFrame m #[(.int x0), (.int x1), (.int x2), (.int x3), (.int x4), (.int x5)] maxLocals = mkF m 0 #[.val (.int x0), .val (.int x1), .val (.int x2), .val (.int x3), .val (.int x4), .val (.int x5), .unset, .unset, .unset, .unset, .unset, .unset, .unset, .unset, .unset] [] := by first | (simp [entryFrame, mkF, argsToLocals, Value.category, maxLocals]; done) | rfl
def Q0_0 (Z : State) (p1 : Int32) (p2 : Int32) (p3 : Int32) (p4 : Int32) (p5 : Int32) (p6 : Int32) (w_LARGEST : Addr) (w_PRECISION : Addr) (h0 : Heap) (n0 : Nat) (v : Option Value) (h : Heap) (L : List Loc) : Prop := v = some (.int (1 : Int32)) ∧ Fr n0 L
set_option maxRecDepth 65536 in
set_option maxHeartbeats 40000000 in
theorem rm0_0 (l : Launch) (Z : State) (a0 : Array Value) (hw : ∀ d ∈ tables_1, d.before a0 Z = true) (ws : List Jvm.Cond) (p1 : Int32) (p2 : Int32) (p3 : Int32) (p4 : Int32) (p5 : Int32) (p6 : Int32) (w_LARGEST : Addr) (w_PRECISION : Addr) (h0 : Heap) (n0 : Nat) (Z0 : n0 ≤ h0.size) (S_PRECISION : Sta Z h0 "com/example/cotejo/cotejo/optimize/Mode" "PRECISION" "Lcom/example/cotejo/cotejo/optimize/Mode;" (.ref w_PRECISION)) (S_LARGEST : Sta Z h0 "com/example/cotejo/cotejo/optimize/Mode" "LARGEST" "Lcom/example/cotejo/cotejo/optimize/Mode;" (.ref w_LARGEST)) :
    MetFree l x (head1 (Jvm.Cond.code x code maxLocals ret :: ws) room_1) (fun a U => a = #[(.int p1), (.int p2), (.int p3), (.int p4), (.int p5), (.int p6)] ∧ Z.Warmed39 U.vm ∧ U.heap = h0) (fun _ _ _ _ _ => True) (fun _ U o U' => ∃ v L, o = .returned v ∧ Q0_0 Z p1 p2 p3 p4 p5 p6 w_LARGEST w_PRECISION h0 n0 v U'.heap L ∧ FrameEnd U o U' L room_1.cells room_1.slots) := by
  refine MetFree.of_bodySF (plainFor_of_name pn_1) hisR ?_
  intro p e s m args below meth c s₁ Bd hml0 hP hK
  obtain ⟨rfl, hZ, hh⟩ := hP
  have hx := Bd.exec
  have hby := Bd.bytes
  have hml : c.maxLocals = 15 := hml0
  have hown : s.vm.findClass "com/example/cotejo/cotejo/optimize/OptimalQueryIsBetterThanPinLaw" = some m.cls := findClass_of_methodNamed Bd.named
  have hnm := (name_of_methodNamed Bd.named Bd.method).1
  have X0 : Stand p l e room_1 s m #[(.int p1), (.int p2), (.int p3), (.int p4), (.int p5), (.int p6)] below meth c s₁ [] 0 0 := Stand.of_body Bd
  have e0 : s₁.heap = h0 := by rw [← hh, Bd.state]; rfl
  have N0 := Fr.nil n0
  have pre0 : ∀ t, Steps p.tables e below (s₁.setTop (mkF m 0 #[.val (.int p1), .val (.int p2), .val (.int p3), .val (.int p4), .val (.int p5), .val (.int p6), .unset, .unset, .unset, .unset, .unset, .unset, .unset, .unset, .unset] [])) t → Steps p.tables e below (s₁.setTop (entryFrame m #[(.int p1), (.int p2), (.int p3), (.int p4), (.int p5), (.int p6)] maxLocals)) t := fun t k => castTop (ef_rm0_0 m p1 p2 p3 p4 p5 p6) k
  have k1 : ∀ t, Steps p.tables e below (s₁.setTop (mkF m 6 #[.val (.int p1), .val (.int p2), .val (.int p3), .val (.int p4), .val (.int p5), .val (.int p6), .val (.int (p2 &&& (2147483647 : Int32))), .unset, .unset, .unset, .unset, .unset, .unset, .unset, .unset] [])) t → Steps p.tables e below (s₁.setTop (entryFrame m #[(.int p1), (.int p2), (.int p3), (.int p4), (.int p5), (.int p6)] maxLocals)) t := by
    intro t k
    refine pre0 t ?_
    show Steps p.tables e below (s₁.setTop (mkF m 0 #[.val (.int p1), .val (.int p2), .val (.int p3), .val (.int p4), .val (.int p5), .val (.int p6), .unset, .unset, .unset, .unset, .unset, .unset, .unset, .unset, .unset] [])) _
    refine XS.iloadN X0.here hx rfl (hb hby at_0) rfl ?_
    show Steps p.tables e below (s₁.setTop (mkF m 1 #[.val (.int p1), .val (.int p2), .val (.int p3), .val (.int p4), .val (.int p5), .val (.int p6), .unset, .unset, .unset, .unset, .unset, .unset, .unset, .unset, .unset] [(.int p2)])) _
    refine X0.ldcInt hx hown (mvT hZ (hw _ (List.mem_of_getElem? (i := 0) rfl))) (g := (mkF m 1 #[.val (.int p1), .val (.int p2), .val (.int p3), .val (.int p4), .val (.int p5), .val (.int p6), .unset, .unset, .unset, .unset, .unset, .unset, .unset, .unset, .unset] [(.int p2)])) rfl (hb hby at_1) _ ?_
    show Steps p.tables e below (s₁.setTop (mkF m 3 #[.val (.int p1), .val (.int p2), .val (.int p3), .val (.int p4), .val (.int p5), .val (.int p6), .unset, .unset, .unset, .unset, .unset, .unset, .unset, .unset, .unset] [(.int (2147483647 : Int32)), (.int p2)])) _
    refine XS.iand X0.here hx rfl (hb hby at_3) rfl ?_
    show Steps p.tables e below (s₁.setTop (mkF m 4 #[.val (.int p1), .val (.int p2), .val (.int p3), .val (.int p4), .val (.int p5), .val (.int p6), .unset, .unset, .unset, .unset, .unset, .unset, .unset, .unset, .unset] [(.int (p2 &&& (2147483647 : Int32)))])) _
    refine XS.istore X0.here hx rfl (hb hby at_4) rfl (l' := #[.val (.int p1), .val (.int p2), .val (.int p3), .val (.int p4), .val (.int p5), .val (.int p6), .val (.int (p2 &&& (2147483647 : Int32))), .unset, .unset, .unset, .unset, .unset, .unset, .unset, .unset]) rfl ?_
    exact k
  obtain ⟨av1, hg_av1⟩ : ∃ z : Int32, z = (p2 &&& (2147483647 : Int32)) := ⟨_, rfl⟩
  rw [← hg_av1] at k1
  have ha_av1 : 0 ≤ av1.toInt := by rw [hg_av1]; exact own_and _
  have k2 : ∀ t, Steps p.tables e below (s₁.setTop (mkF m 21 #[.val (.int p1), .val (.int p2), .val (.int p3), .val (.int p4), .val (.int p5), .val (.int p6), .val (.int av1), .val (.int ((((p3.toInt64) &&& (2147483647 : Int64)) - ((p3.toInt64) &&& (2147483647 : Int64)) / ((av1.toInt64) + (1 : Int64)) * ((av1.toInt64) + (1 : Int64))).toInt32)), .unset, .unset, .unset, .unset, .unset, .unset, .unset] [])) t → Steps p.tables e below (s₁.setTop (entryFrame m #[(.int p1), (.int p2), (.int p3), (.int p4), (.int p5), (.int p6)] maxLocals)) t := by
    intro t k
    refine k1 t ?_
    show Steps p.tables e below (s₁.setTop (mkF m 6 #[.val (.int p1), .val (.int p2), .val (.int p3), .val (.int p4), .val (.int p5), .val (.int p6), .val (.int av1), .unset, .unset, .unset, .unset, .unset, .unset, .unset, .unset] [])) _
    refine XS.iloadN X0.here hx rfl (hb hby at_6) rfl ?_
    show Steps p.tables e below (s₁.setTop (mkF m 7 #[.val (.int p1), .val (.int p2), .val (.int p3), .val (.int p4), .val (.int p5), .val (.int p6), .val (.int av1), .unset, .unset, .unset, .unset, .unset, .unset, .unset, .unset] [(.int p3)])) _
    refine XS.i2l X0.here hx rfl (hb hby at_7) rfl ?_
    show Steps p.tables e below (s₁.setTop (mkF m 8 #[.val (.int p1), .val (.int p2), .val (.int p3), .val (.int p4), .val (.int p5), .val (.int p6), .val (.int av1), .unset, .unset, .unset, .unset, .unset, .unset, .unset, .unset] [(.long (p3.toInt64))])) _
    refine X0.ldc2Long hx hown (mvT hZ (hw _ (List.mem_of_getElem? (i := 1) rfl))) (g := (mkF m 8 #[.val (.int p1), .val (.int p2), .val (.int p3), .val (.int p4), .val (.int p5), .val (.int p6), .val (.int av1), .unset, .unset, .unset, .unset, .unset, .unset, .unset, .unset] [(.long (p3.toInt64))])) rfl (hb hby at_8) _ ?_
    show Steps p.tables e below (s₁.setTop (mkF m 11 #[.val (.int p1), .val (.int p2), .val (.int p3), .val (.int p4), .val (.int p5), .val (.int p6), .val (.int av1), .unset, .unset, .unset, .unset, .unset, .unset, .unset, .unset] [(.long (2147483647 : Int64)), (.long (p3.toInt64))])) _
    refine XS.land X0.here hx rfl (hb hby at_11) rfl ?_
    show Steps p.tables e below (s₁.setTop (mkF m 12 #[.val (.int p1), .val (.int p2), .val (.int p3), .val (.int p4), .val (.int p5), .val (.int p6), .val (.int av1), .unset, .unset, .unset, .unset, .unset, .unset, .unset, .unset] [(.long ((p3.toInt64) &&& (2147483647 : Int64)))])) _
    refine XS.iload X0.here hx rfl (hb hby at_12) rfl ?_
    show Steps p.tables e below (s₁.setTop (mkF m 14 #[.val (.int p1), .val (.int p2), .val (.int p3), .val (.int p4), .val (.int p5), .val (.int p6), .val (.int av1), .unset, .unset, .unset, .unset, .unset, .unset, .unset, .unset] [(.int av1), (.long ((p3.toInt64) &&& (2147483647 : Int64)))])) _
    refine XS.i2l X0.here hx rfl (hb hby at_14) rfl ?_
    show Steps p.tables e below (s₁.setTop (mkF m 15 #[.val (.int p1), .val (.int p2), .val (.int p3), .val (.int p4), .val (.int p5), .val (.int p6), .val (.int av1), .unset, .unset, .unset, .unset, .unset, .unset, .unset, .unset] [(.long (av1.toInt64)), (.long ((p3.toInt64) &&& (2147483647 : Int64)))])) _
    refine XS.lconst X0.here hx rfl (hb hby at_15) ?_
    show Steps p.tables e below (s₁.setTop (mkF m 16 #[.val (.int p1), .val (.int p2), .val (.int p3), .val (.int p4), .val (.int p5), .val (.int p6), .val (.int av1), .unset, .unset, .unset, .unset, .unset, .unset, .unset, .unset] [(.long (1 : Int64)), (.long (av1.toInt64)), (.long ((p3.toInt64) &&& (2147483647 : Int64)))])) _
    refine XS.ladd X0.here hx rfl (hb hby at_16) rfl ?_
    show Steps p.tables e below (s₁.setTop (mkF m 17 #[.val (.int p1), .val (.int p2), .val (.int p3), .val (.int p4), .val (.int p5), .val (.int p6), .val (.int av1), .unset, .unset, .unset, .unset, .unset, .unset, .unset, .unset] [(.long ((av1.toInt64) + (1 : Int64))), (.long ((p3.toInt64) &&& (2147483647 : Int64)))])) _
    refine XS.lrem X0.here hx rfl (hb hby at_17) rfl (own_nz _ ha_av1) ?_
    show Steps p.tables e below (s₁.setTop (mkF m 18 #[.val (.int p1), .val (.int p2), .val (.int p3), .val (.int p4), .val (.int p5), .val (.int p6), .val (.int av1), .unset, .unset, .unset, .unset, .unset, .unset, .unset, .unset] [(.long (((p3.toInt64) &&& (2147483647 : Int64)) - ((p3.toInt64) &&& (2147483647 : Int64)) / ((av1.toInt64) + (1 : Int64)) * ((av1.toInt64) + (1 : Int64))))])) _
    refine XS.l2i X0.here hx rfl (hb hby at_18) rfl ?_
    show Steps p.tables e below (s₁.setTop (mkF m 19 #[.val (.int p1), .val (.int p2), .val (.int p3), .val (.int p4), .val (.int p5), .val (.int p6), .val (.int av1), .unset, .unset, .unset, .unset, .unset, .unset, .unset, .unset] [(.int ((((p3.toInt64) &&& (2147483647 : Int64)) - ((p3.toInt64) &&& (2147483647 : Int64)) / ((av1.toInt64) + (1 : Int64)) * ((av1.toInt64) + (1 : Int64))).toInt32))])) _
    refine XS.istore X0.here hx rfl (hb hby at_19) rfl (l' := #[.val (.int p1), .val (.int p2), .val (.int p3), .val (.int p4), .val (.int p5), .val (.int p6), .val (.int av1), .val (.int ((((p3.toInt64) &&& (2147483647 : Int64)) - ((p3.toInt64) &&& (2147483647 : Int64)) / ((av1.toInt64) + (1 : Int64)) * ((av1.toInt64) + (1 : Int64))).toInt32)), .unset, .unset, .unset, .unset, .unset, .unset, .unset]) rfl ?_
    exact k
  obtain ⟨rv1, hg_rv1⟩ : ∃ z : Int32, z = ((((p3.toInt64) &&& (2147483647 : Int64)) - ((p3.toInt64) &&& (2147483647 : Int64)) / ((av1.toInt64) + (1 : Int64)) * ((av1.toInt64) + (1 : Int64))).toInt32) := ⟨_, rfl⟩
  rw [← hg_rv1] at k2
  have hr_rv1 : 0 ≤ rv1.toInt := by rw [hg_rv1]; exact own_r _ _ ha_av1
  have k3 : ∀ t, Steps p.tables e below (s₁.setTop (mkF m 25 #[.val (.int p1), .val (.int p2), .val (.int p3), .val (.int p4), .val (.int p5), .val (.int p6), .val (.int av1), .val (.int rv1), .unset, .unset, .unset, .unset, .unset, .unset, .unset] [(.int (p6 &&& (1 : Int32)))])) t → Steps p.tables e below (s₁.setTop (entryFrame m #[(.int p1), (.int p2), (.int p3), (.int p4), (.int p5), (.int p6)] maxLocals)) t := by
    intro t k
    refine k2 t ?_
    show Steps p.tables e below (s₁.setTop (mkF m 21 #[.val (.int p1), .val (.int p2), .val (.int p3), .val (.int p4), .val (.int p5), .val (.int p6), .val (.int av1), .val (.int rv1), .unset, .unset, .unset, .unset, .unset, .unset, .unset] [])) _
    refine XS.iload X0.here hx rfl (hb hby at_21) rfl ?_
    show Steps p.tables e below (s₁.setTop (mkF m 23 #[.val (.int p1), .val (.int p2), .val (.int p3), .val (.int p4), .val (.int p5), .val (.int p6), .val (.int av1), .val (.int rv1), .unset, .unset, .unset, .unset, .unset, .unset, .unset] [(.int p6)])) _
    refine XS.iconst X0.here hx rfl (hb hby at_23) ?_
    show Steps p.tables e below (s₁.setTop (mkF m 24 #[.val (.int p1), .val (.int p2), .val (.int p3), .val (.int p4), .val (.int p5), .val (.int p6), .val (.int av1), .val (.int rv1), .unset, .unset, .unset, .unset, .unset, .unset, .unset] [(.int (1 : Int32)), (.int p6)])) _
    refine XS.iand X0.here hx rfl (hb hby at_24) rfl ?_
    exact k
  obtain ⟨j4_0, j4_1, T4, L4, X4, e4, N4, hp4, k4⟩ : ∃ (j4_0 : Int32) (j4_1 : Int32) (T' : State) (L' : List Loc), Stand p l e room_1 s m #[(.int p1), (.int p2), (.int p3), (.int p4), (.int p5), (.int p6)] below meth c T' L' 0 0 ∧ T'.heap = h0 ∧ Fr n0 L' ∧ (0 ≤ j4_0.toInt) ∧ ∀ t, Steps p.tables e below (T'.setTop (mkF m 68 #[.val (.int p1), .val (.int p2), .val (.int p3), .val (.int p4), .val (.int p5), .val (.int p6), .val (.int av1), .val (.int rv1), .val (.int j4_0), .val (.int j4_1), .unset, .unset, .unset, .unset, .unset] [])) t → Steps p.tables e below (s₁.setTop (entryFrame m #[(.int p1), (.int p2), (.int p3), (.int p4), (.int p5), (.int p6)] maxLocals)) t := by
    by_cases hc25_1 : (p6 &&& (1 : Int32)) = (0 : Int32)
    ·
      have k5 : ∀ t, Steps p.tables e below (s₁.setTop (mkF m 68 #[.val (.int p1), .val (.int p2), .val (.int p3), .val (.int p4), .val (.int p5), .val (.int p6), .val (.int av1), .val (.int rv1), .val (.int (p4 &&& (2147483647 : Int32))), .val (.int ((((p5.toInt64) &&& (2147483647 : Int64)) - ((p5.toInt64) &&& (2147483647 : Int64)) / (((p4 &&& (2147483647 : Int32)).toInt64) + (1 : Int64)) * (((p4 &&& (2147483647 : Int32)).toInt64) + (1 : Int64))).toInt32)), .unset, .unset, .unset, .unset, .unset] [])) t → Steps p.tables e below (s₁.setTop (entryFrame m #[(.int p1), (.int p2), (.int p3), (.int p4), (.int p5), (.int p6)] maxLocals)) t := by
        intro t k
        refine k3 t ?_
        show Steps p.tables e below (s₁.setTop (mkF m 25 #[.val (.int p1), .val (.int p2), .val (.int p3), .val (.int p4), .val (.int p5), .val (.int p6), .val (.int av1), .val (.int rv1), .unset, .unset, .unset, .unset, .unset, .unset, .unset] [(.int (p6 &&& (1 : Int32)))])) _
        refine XS.ifYes X0.here hx rfl (pc0 := 25) (pc' := 46) rfl (hb hby at_25) rfl ((if0 _ _).trans (teq hc25_1).1) (by decide) (by decide) ?_
        show Steps p.tables e below (s₁.setTop (mkF m 46 #[.val (.int p1), .val (.int p2), .val (.int p3), .val (.int p4), .val (.int p5), .val (.int p6), .val (.int av1), .val (.int rv1), .unset, .unset, .unset, .unset, .unset, .unset, .unset] [])) _
        refine XS.iloadN X0.here hx rfl (hb hby at_46) rfl ?_
        show Steps p.tables e below (s₁.setTop (mkF m 47 #[.val (.int p1), .val (.int p2), .val (.int p3), .val (.int p4), .val (.int p5), .val (.int p6), .val (.int av1), .val (.int rv1), .unset, .unset, .unset, .unset, .unset, .unset, .unset] [(.int p4)])) _
        refine X0.ldcInt hx hown (mvT hZ (hw _ (List.mem_of_getElem? (i := 0) rfl))) (g := (mkF m 47 #[.val (.int p1), .val (.int p2), .val (.int p3), .val (.int p4), .val (.int p5), .val (.int p6), .val (.int av1), .val (.int rv1), .unset, .unset, .unset, .unset, .unset, .unset, .unset] [(.int p4)])) rfl (hb hby at_47) _ ?_
        show Steps p.tables e below (s₁.setTop (mkF m 49 #[.val (.int p1), .val (.int p2), .val (.int p3), .val (.int p4), .val (.int p5), .val (.int p6), .val (.int av1), .val (.int rv1), .unset, .unset, .unset, .unset, .unset, .unset, .unset] [(.int (2147483647 : Int32)), (.int p4)])) _
        refine XS.iand X0.here hx rfl (hb hby at_49) rfl ?_
        show Steps p.tables e below (s₁.setTop (mkF m 50 #[.val (.int p1), .val (.int p2), .val (.int p3), .val (.int p4), .val (.int p5), .val (.int p6), .val (.int av1), .val (.int rv1), .unset, .unset, .unset, .unset, .unset, .unset, .unset] [(.int (p4 &&& (2147483647 : Int32)))])) _
        refine XS.istore X0.here hx rfl (hb hby at_50) rfl (l' := #[.val (.int p1), .val (.int p2), .val (.int p3), .val (.int p4), .val (.int p5), .val (.int p6), .val (.int av1), .val (.int rv1), .val (.int (p4 &&& (2147483647 : Int32))), .unset, .unset, .unset, .unset, .unset, .unset]) rfl ?_
        show Steps p.tables e below (s₁.setTop (mkF m 52 #[.val (.int p1), .val (.int p2), .val (.int p3), .val (.int p4), .val (.int p5), .val (.int p6), .val (.int av1), .val (.int rv1), .val (.int (p4 &&& (2147483647 : Int32))), .unset, .unset, .unset, .unset, .unset, .unset] [])) _
        refine XS.iload X0.here hx rfl (hb hby at_52) rfl ?_
        show Steps p.tables e below (s₁.setTop (mkF m 54 #[.val (.int p1), .val (.int p2), .val (.int p3), .val (.int p4), .val (.int p5), .val (.int p6), .val (.int av1), .val (.int rv1), .val (.int (p4 &&& (2147483647 : Int32))), .unset, .unset, .unset, .unset, .unset, .unset] [(.int p5)])) _
        refine XS.i2l X0.here hx rfl (hb hby at_54) rfl ?_
        show Steps p.tables e below (s₁.setTop (mkF m 55 #[.val (.int p1), .val (.int p2), .val (.int p3), .val (.int p4), .val (.int p5), .val (.int p6), .val (.int av1), .val (.int rv1), .val (.int (p4 &&& (2147483647 : Int32))), .unset, .unset, .unset, .unset, .unset, .unset] [(.long (p5.toInt64))])) _
        refine X0.ldc2Long hx hown (mvT hZ (hw _ (List.mem_of_getElem? (i := 1) rfl))) (g := (mkF m 55 #[.val (.int p1), .val (.int p2), .val (.int p3), .val (.int p4), .val (.int p5), .val (.int p6), .val (.int av1), .val (.int rv1), .val (.int (p4 &&& (2147483647 : Int32))), .unset, .unset, .unset, .unset, .unset, .unset] [(.long (p5.toInt64))])) rfl (hb hby at_55) _ ?_
        show Steps p.tables e below (s₁.setTop (mkF m 58 #[.val (.int p1), .val (.int p2), .val (.int p3), .val (.int p4), .val (.int p5), .val (.int p6), .val (.int av1), .val (.int rv1), .val (.int (p4 &&& (2147483647 : Int32))), .unset, .unset, .unset, .unset, .unset, .unset] [(.long (2147483647 : Int64)), (.long (p5.toInt64))])) _
        refine XS.land X0.here hx rfl (hb hby at_58) rfl ?_
        show Steps p.tables e below (s₁.setTop (mkF m 59 #[.val (.int p1), .val (.int p2), .val (.int p3), .val (.int p4), .val (.int p5), .val (.int p6), .val (.int av1), .val (.int rv1), .val (.int (p4 &&& (2147483647 : Int32))), .unset, .unset, .unset, .unset, .unset, .unset] [(.long ((p5.toInt64) &&& (2147483647 : Int64)))])) _
        refine XS.iload X0.here hx rfl (hb hby at_59) rfl ?_
        show Steps p.tables e below (s₁.setTop (mkF m 61 #[.val (.int p1), .val (.int p2), .val (.int p3), .val (.int p4), .val (.int p5), .val (.int p6), .val (.int av1), .val (.int rv1), .val (.int (p4 &&& (2147483647 : Int32))), .unset, .unset, .unset, .unset, .unset, .unset] [(.int (p4 &&& (2147483647 : Int32))), (.long ((p5.toInt64) &&& (2147483647 : Int64)))])) _
        refine XS.i2l X0.here hx rfl (hb hby at_61) rfl ?_
        show Steps p.tables e below (s₁.setTop (mkF m 62 #[.val (.int p1), .val (.int p2), .val (.int p3), .val (.int p4), .val (.int p5), .val (.int p6), .val (.int av1), .val (.int rv1), .val (.int (p4 &&& (2147483647 : Int32))), .unset, .unset, .unset, .unset, .unset, .unset] [(.long ((p4 &&& (2147483647 : Int32)).toInt64)), (.long ((p5.toInt64) &&& (2147483647 : Int64)))])) _
        refine XS.lconst X0.here hx rfl (hb hby at_62) ?_
        show Steps p.tables e below (s₁.setTop (mkF m 63 #[.val (.int p1), .val (.int p2), .val (.int p3), .val (.int p4), .val (.int p5), .val (.int p6), .val (.int av1), .val (.int rv1), .val (.int (p4 &&& (2147483647 : Int32))), .unset, .unset, .unset, .unset, .unset, .unset] [(.long (1 : Int64)), (.long ((p4 &&& (2147483647 : Int32)).toInt64)), (.long ((p5.toInt64) &&& (2147483647 : Int64)))])) _
        refine XS.ladd X0.here hx rfl (hb hby at_63) rfl ?_
        show Steps p.tables e below (s₁.setTop (mkF m 64 #[.val (.int p1), .val (.int p2), .val (.int p3), .val (.int p4), .val (.int p5), .val (.int p6), .val (.int av1), .val (.int rv1), .val (.int (p4 &&& (2147483647 : Int32))), .unset, .unset, .unset, .unset, .unset, .unset] [(.long (((p4 &&& (2147483647 : Int32)).toInt64) + (1 : Int64))), (.long ((p5.toInt64) &&& (2147483647 : Int64)))])) _
        refine XS.lrem X0.here hx rfl (hb hby at_64) rfl (own_nz _ (own_and _)) ?_
        show Steps p.tables e below (s₁.setTop (mkF m 65 #[.val (.int p1), .val (.int p2), .val (.int p3), .val (.int p4), .val (.int p5), .val (.int p6), .val (.int av1), .val (.int rv1), .val (.int (p4 &&& (2147483647 : Int32))), .unset, .unset, .unset, .unset, .unset, .unset] [(.long (((p5.toInt64) &&& (2147483647 : Int64)) - ((p5.toInt64) &&& (2147483647 : Int64)) / (((p4 &&& (2147483647 : Int32)).toInt64) + (1 : Int64)) * (((p4 &&& (2147483647 : Int32)).toInt64) + (1 : Int64))))])) _
        refine XS.l2i X0.here hx rfl (hb hby at_65) rfl ?_
        show Steps p.tables e below (s₁.setTop (mkF m 66 #[.val (.int p1), .val (.int p2), .val (.int p3), .val (.int p4), .val (.int p5), .val (.int p6), .val (.int av1), .val (.int rv1), .val (.int (p4 &&& (2147483647 : Int32))), .unset, .unset, .unset, .unset, .unset, .unset] [(.int ((((p5.toInt64) &&& (2147483647 : Int64)) - ((p5.toInt64) &&& (2147483647 : Int64)) / (((p4 &&& (2147483647 : Int32)).toInt64) + (1 : Int64)) * (((p4 &&& (2147483647 : Int32)).toInt64) + (1 : Int64))).toInt32))])) _
        refine XS.istore X0.here hx rfl (hb hby at_66) rfl (l' := #[.val (.int p1), .val (.int p2), .val (.int p3), .val (.int p4), .val (.int p5), .val (.int p6), .val (.int av1), .val (.int rv1), .val (.int (p4 &&& (2147483647 : Int32))), .val (.int ((((p5.toInt64) &&& (2147483647 : Int64)) - ((p5.toInt64) &&& (2147483647 : Int64)) / (((p4 &&& (2147483647 : Int32)).toInt64) + (1 : Int64)) * (((p4 &&& (2147483647 : Int32)).toInt64) + (1 : Int64))).toInt32)), .unset, .unset, .unset, .unset, .unset]) rfl ?_
        exact k
      exact ⟨(p4 &&& (2147483647 : Int32)), ((((p5.toInt64) &&& (2147483647 : Int64)) - ((p5.toInt64) &&& (2147483647 : Int64)) / (((p4 &&& (2147483647 : Int32)).toInt64) + (1 : Int64)) * (((p4 &&& (2147483647 : Int32)).toInt64) + (1 : Int64))).toInt32), s₁, _, X0, e0, N0, (by first | (split <;> first | assumption | exact own_and _) | exact own_and _), k5⟩
    ·
      obtain ⟨_, _, ⟨T6, L6, k6, n6⟩, -, X6, ⟨Lc6, hQ6, l6, y6, z6⟩, st6⟩ := Jvm.LawKit.callS X0 hx (y := (⟨"java/lang/Math", "max", "(II)I"⟩ : MethodName)) hown (mvT hZ (hw _ (List.mem_of_getElem? (i := 2) rfl))) (mvT hZ (hw _ (List.mem_of_getElem? (i := 3) rfl))) (mvT hZ (hw _ (List.mem_of_getElem? (i := 4) rfl))) (mvT hZ (hw _ (List.mem_of_getElem? (i := 5) rfl))) (by decide) (backOf (W := 0) (rm1_0 l Z a0 hw [] rv1 (p4 &&& (2147483647 : Int32)) h0 n0 Z0 ) hZ (hw _ (List.mem_of_getElem? (i := 5) rfl)) (hw _ (List.mem_of_getElem? (i := 4) rfl)) (by decide) (by decide)) (g := (mkF m 38 #[.val (.int p1), .val (.int p2), .val (.int p3), .val (.int p4), .val (.int p5), .val (.int p6), .val (.int av1), .val (.int rv1), .unset, .val (.int rv1), .unset, .unset, .unset, .unset, .unset] [(.int (p4 &&& (2147483647 : Int32))), (.int rv1)])) rfl (by rw [hml]; rfl) (argsL := [(.int rv1), (.int (p4 &&& (2147483647 : Int32)))]) (rest := []) (lenOf pd_0 rfl) rfl (by show 2 * 0 + _ ≤ _; exact Nat.le_of_eq rfl) (hb hby at_38) (fun _ _ => ⟨rfl, e0, (by decide : 0 + 0 ≤ _), (by decide : 0 + 0 ≤ _)⟩)
      dsimp only [Pt.U, Pt.locs, Pt.cells, Pt.slots] at X6 l6 y6 z6 st6 hQ6
      subst l6 y6 z6
      obtain ⟨rfl, N6q, e6⟩ := hQ6
      have N6 := Fr.app N0 N6q
      have k7 : ∀ t, Steps p.tables e below (T6.setTop (mkF m 68 #[.val (.int p1), .val (.int p2), .val (.int p3), .val (.int p4), .val (.int p5), .val (.int p6), .val (.int av1), .val (.int rv1), .val (.int (if rv1 < (p4 &&& (2147483647 : Int32)) then (p4 &&& (2147483647 : Int32)) else rv1)), .val (.int rv1), .unset, .unset, .unset, .unset, .unset] [])) t → Steps p.tables e below (s₁.setTop (entryFrame m #[(.int p1), (.int p2), (.int p3), (.int p4), (.int p5), (.int p6)] maxLocals)) t := by
        intro t k
        refine k3 t ?_
        show Steps p.tables e below (s₁.setTop (mkF m 25 #[.val (.int p1), .val (.int p2), .val (.int p3), .val (.int p4), .val (.int p5), .val (.int p6), .val (.int av1), .val (.int rv1), .unset, .unset, .unset, .unset, .unset, .unset, .unset] [(.int (p6 &&& (1 : Int32)))])) _
        refine XS.ifNo X0.here hx rfl (hb hby at_25) rfl ((if0 _ _).trans (feq hc25_1).1) ?_
        show Steps p.tables e below (s₁.setTop (mkF m 28 #[.val (.int p1), .val (.int p2), .val (.int p3), .val (.int p4), .val (.int p5), .val (.int p6), .val (.int av1), .val (.int rv1), .unset, .unset, .unset, .unset, .unset, .unset, .unset] [])) _
        refine XS.iload X0.here hx rfl (hb hby at_28) rfl ?_
        show Steps p.tables e below (s₁.setTop (mkF m 30 #[.val (.int p1), .val (.int p2), .val (.int p3), .val (.int p4), .val (.int p5), .val (.int p6), .val (.int av1), .val (.int rv1), .unset, .unset, .unset, .unset, .unset, .unset, .unset] [(.int rv1)])) _
        refine XS.istore X0.here hx rfl (hb hby at_30) rfl (l' := #[.val (.int p1), .val (.int p2), .val (.int p3), .val (.int p4), .val (.int p5), .val (.int p6), .val (.int av1), .val (.int rv1), .unset, .val (.int rv1), .unset, .unset, .unset, .unset, .unset]) rfl ?_
        show Steps p.tables e below (s₁.setTop (mkF m 32 #[.val (.int p1), .val (.int p2), .val (.int p3), .val (.int p4), .val (.int p5), .val (.int p6), .val (.int av1), .val (.int rv1), .unset, .val (.int rv1), .unset, .unset, .unset, .unset, .unset] [])) _
        refine XS.iload X0.here hx rfl (hb hby at_32) rfl ?_
        show Steps p.tables e below (s₁.setTop (mkF m 34 #[.val (.int p1), .val (.int p2), .val (.int p3), .val (.int p4), .val (.int p5), .val (.int p6), .val (.int av1), .val (.int rv1), .unset, .val (.int rv1), .unset, .unset, .unset, .unset, .unset] [(.int rv1)])) _
        refine XS.iloadN X0.here hx rfl (hb hby at_34) rfl ?_
        show Steps p.tables e below (s₁.setTop (mkF m 35 #[.val (.int p1), .val (.int p2), .val (.int p3), .val (.int p4), .val (.int p5), .val (.int p6), .val (.int av1), .val (.int rv1), .unset, .val (.int rv1), .unset, .unset, .unset, .unset, .unset] [(.int p4), (.int rv1)])) _
        refine X0.ldcInt hx hown (mvT hZ (hw _ (List.mem_of_getElem? (i := 0) rfl))) (g := (mkF m 35 #[.val (.int p1), .val (.int p2), .val (.int p3), .val (.int p4), .val (.int p5), .val (.int p6), .val (.int av1), .val (.int rv1), .unset, .val (.int rv1), .unset, .unset, .unset, .unset, .unset] [(.int p4), (.int rv1)])) rfl (hb hby at_35) _ ?_
        show Steps p.tables e below (s₁.setTop (mkF m 37 #[.val (.int p1), .val (.int p2), .val (.int p3), .val (.int p4), .val (.int p5), .val (.int p6), .val (.int av1), .val (.int rv1), .unset, .val (.int rv1), .unset, .unset, .unset, .unset, .unset] [(.int (2147483647 : Int32)), (.int p4), (.int rv1)])) _
        refine XS.iand X0.here hx rfl (hb hby at_37) rfl ?_
        show Steps p.tables e below (s₁.setTop (mkF m 38 #[.val (.int p1), .val (.int p2), .val (.int p3), .val (.int p4), .val (.int p5), .val (.int p6), .val (.int av1), .val (.int rv1), .unset, .val (.int rv1), .unset, .unset, .unset, .unset, .unset] [(.int (p4 &&& (2147483647 : Int32))), (.int rv1)])) _
        refine st6 _ ?_
        show Steps p.tables e below (T6.setTop (mkF m 41 #[.val (.int p1), .val (.int p2), .val (.int p3), .val (.int p4), .val (.int p5), .val (.int p6), .val (.int av1), .val (.int rv1), .unset, .val (.int rv1), .unset, .unset, .unset, .unset, .unset] [(.int (if rv1 < (p4 &&& (2147483647 : Int32)) then (p4 &&& (2147483647 : Int32)) else rv1))])) _
        refine XS.istore X6.here hx rfl (hb hby at_41) rfl (l' := #[.val (.int p1), .val (.int p2), .val (.int p3), .val (.int p4), .val (.int p5), .val (.int p6), .val (.int av1), .val (.int rv1), .val (.int (if rv1 < (p4 &&& (2147483647 : Int32)) then (p4 &&& (2147483647 : Int32)) else rv1)), .val (.int rv1), .unset, .unset, .unset, .unset, .unset]) rfl ?_
        show Steps p.tables e below (T6.setTop (mkF m 43 #[.val (.int p1), .val (.int p2), .val (.int p3), .val (.int p4), .val (.int p5), .val (.int p6), .val (.int av1), .val (.int rv1), .val (.int (if rv1 < (p4 &&& (2147483647 : Int32)) then (p4 &&& (2147483647 : Int32)) else rv1)), .val (.int rv1), .unset, .unset, .unset, .unset, .unset] [])) _
        refine XS.goto X6.here hx rfl (pc0 := 43) (pc' := 68) rfl (hb hby at_43) (by decide) (by decide) ?_
        exact k
      exact ⟨(if rv1 < (p4 &&& (2147483647 : Int32)) then (p4 &&& (2147483647 : Int32)) else rv1), rv1, T6, _, X6, e6, N6, (by first | (split <;> first | assumption | exact own_and _) | exact own_and _), k7⟩
  have hpj := hp4
  have k8 : ∀ t, Steps p.tables e below (T4.setTop (mkF m 72 #[.val (.int p1), .val (.int p2), .val (.int p3), .val (.int p4), .val (.int p5), .val (.int p6), .val (.int av1), .val (.int rv1), .val (.int j4_0), .val (.int j4_1), .unset, .unset, .unset, .unset, .unset] [(.int (p6 &&& (2 : Int32)))])) t → Steps p.tables e below (s₁.setTop (entryFrame m #[(.int p1), (.int p2), (.int p3), (.int p4), (.int p5), (.int p6)] maxLocals)) t := by
    intro t k
    refine k4 t ?_
    show Steps p.tables e below (T4.setTop (mkF m 68 #[.val (.int p1), .val (.int p2), .val (.int p3), .val (.int p4), .val (.int p5), .val (.int p6), .val (.int av1), .val (.int rv1), .val (.int j4_0), .val (.int j4_1), .unset, .unset, .unset, .unset, .unset] [])) _
    refine XS.iload X4.here hx rfl (hb hby at_68) rfl ?_
    show Steps p.tables e below (T4.setTop (mkF m 70 #[.val (.int p1), .val (.int p2), .val (.int p3), .val (.int p4), .val (.int p5), .val (.int p6), .val (.int av1), .val (.int rv1), .val (.int j4_0), .val (.int j4_1), .unset, .unset, .unset, .unset, .unset] [(.int p6)])) _
    refine XS.iconst X4.here hx rfl (hb hby at_70) ?_
    show Steps p.tables e below (T4.setTop (mkF m 71 #[.val (.int p1), .val (.int p2), .val (.int p3), .val (.int p4), .val (.int p5), .val (.int p6), .val (.int av1), .val (.int rv1), .val (.int j4_0), .val (.int j4_1), .unset, .unset, .unset, .unset, .unset] [(.int (2 : Int32)), (.int p6)])) _
    refine XS.iand X4.here hx rfl (hb hby at_71) rfl ?_
    exact k
  obtain ⟨j9_0, T9, L9, X9, e9, N9, k9⟩ : ∃ (j9_0 : Addr) (T' : State) (L' : List Loc), Stand p l e room_1 s m #[(.int p1), (.int p2), (.int p3), (.int p4), (.int p5), (.int p6)] below meth c T' L' 0 0 ∧ T'.heap = h0 ∧ Fr n0 L' ∧ ∀ t, Steps p.tables e below (T'.setTop (mkF m 84 #[.val (.int p1), .val (.int p2), .val (.int p3), .val (.int p4), .val (.int p5), .val (.int p6), .val (.int av1), .val (.int rv1), .val (.int j4_0), .val (.int j4_1), .unset, .unset, .unset, .unset, .unset] [(.ref j9_0)])) t → Steps p.tables e below (s₁.setTop (entryFrame m #[(.int p1), (.int p2), (.int p3), (.int p4), (.int p5), (.int p6)] maxLocals)) t := by
    by_cases hc72_2 : (p6 &&& (2 : Int32)) = (0 : Int32)
    ·
      obtain ⟨T10, X10, e10, st10⟩ := getS2 X4 hx hZ hown (host := "") (Or.inl (hw _ (List.mem_of_getElem? (i := 9) rfl))) Via.refl e4 S_PRECISION (g := (mkF m 81 #[.val (.int p1), .val (.int p2), .val (.int p3), .val (.int p4), .val (.int p5), .val (.int p6), .val (.int av1), .val (.int rv1), .val (.int j4_0), .val (.int j4_1), .unset, .unset, .unset, .unset, .unset] [])) rfl (hb hby at_81)
      have k11 : ∀ t, Steps p.tables e below (T10.setTop (mkF m 84 #[.val (.int p1), .val (.int p2), .val (.int p3), .val (.int p4), .val (.int p5), .val (.int p6), .val (.int av1), .val (.int rv1), .val (.int j4_0), .val (.int j4_1), .unset, .unset, .unset, .unset, .unset] [(.ref w_PRECISION)])) t → Steps p.tables e below (s₁.setTop (entryFrame m #[(.int p1), (.int p2), (.int p3), (.int p4), (.int p5), (.int p6)] maxLocals)) t := by
        intro t k
        refine k8 t ?_
        show Steps p.tables e below (T4.setTop (mkF m 72 #[.val (.int p1), .val (.int p2), .val (.int p3), .val (.int p4), .val (.int p5), .val (.int p6), .val (.int av1), .val (.int rv1), .val (.int j4_0), .val (.int j4_1), .unset, .unset, .unset, .unset, .unset] [(.int (p6 &&& (2 : Int32)))])) _
        refine XS.ifYes X4.here hx rfl (pc0 := 72) (pc' := 81) rfl (hb hby at_72) rfl ((if0 _ _).trans (teq hc72_2).1) (by decide) (by decide) ?_
        show Steps p.tables e below (T4.setTop (mkF m 81 #[.val (.int p1), .val (.int p2), .val (.int p3), .val (.int p4), .val (.int p5), .val (.int p6), .val (.int av1), .val (.int rv1), .val (.int j4_0), .val (.int j4_1), .unset, .unset, .unset, .unset, .unset] [])) _
        refine st10 _ ?_
        exact k
      exact ⟨w_PRECISION, T10, _, X10, e10, N4, k11⟩
    ·
      obtain ⟨T12, X12, e12, st12⟩ := getS2 X4 hx hZ hown (host := "") (Or.inl (hw _ (List.mem_of_getElem? (i := 6) rfl))) Via.refl e4 S_LARGEST (g := (mkF m 75 #[.val (.int p1), .val (.int p2), .val (.int p3), .val (.int p4), .val (.int p5), .val (.int p6), .val (.int av1), .val (.int rv1), .val (.int j4_0), .val (.int j4_1), .unset, .unset, .unset, .unset, .unset] [])) rfl (hb hby at_75)
      have k13 : ∀ t, Steps p.tables e below (T12.setTop (mkF m 84 #[.val (.int p1), .val (.int p2), .val (.int p3), .val (.int p4), .val (.int p5), .val (.int p6), .val (.int av1), .val (.int rv1), .val (.int j4_0), .val (.int j4_1), .unset, .unset, .unset, .unset, .unset] [(.ref w_LARGEST)])) t → Steps p.tables e below (s₁.setTop (entryFrame m #[(.int p1), (.int p2), (.int p3), (.int p4), (.int p5), (.int p6)] maxLocals)) t := by
        intro t k
        refine k8 t ?_
        show Steps p.tables e below (T4.setTop (mkF m 72 #[.val (.int p1), .val (.int p2), .val (.int p3), .val (.int p4), .val (.int p5), .val (.int p6), .val (.int av1), .val (.int rv1), .val (.int j4_0), .val (.int j4_1), .unset, .unset, .unset, .unset, .unset] [(.int (p6 &&& (2 : Int32)))])) _
        refine XS.ifNo X4.here hx rfl (hb hby at_72) rfl ((if0 _ _).trans (feq hc72_2).1) ?_
        show Steps p.tables e below (T4.setTop (mkF m 75 #[.val (.int p1), .val (.int p2), .val (.int p3), .val (.int p4), .val (.int p5), .val (.int p6), .val (.int av1), .val (.int rv1), .val (.int j4_0), .val (.int j4_1), .unset, .unset, .unset, .unset, .unset] [])) _
        refine st12 _ ?_
        show Steps p.tables e below (T12.setTop (mkF m 78 #[.val (.int p1), .val (.int p2), .val (.int p3), .val (.int p4), .val (.int p5), .val (.int p6), .val (.int av1), .val (.int rv1), .val (.int j4_0), .val (.int j4_1), .unset, .unset, .unset, .unset, .unset] [(.ref w_LARGEST)])) _
        refine XS.goto X12.here hx rfl (pc0 := 78) (pc' := 84) rfl (hb hby at_78) (by decide) (by decide) ?_
        exact k
      exact ⟨w_LARGEST, T12, _, X12, e12, N4, k13⟩
  have k14 : ∀ t, Steps p.tables e below (T9.setTop (mkF m 90 #[.val (.int p1), .val (.int p2), .val (.int p3), .val (.int p4), .val (.int p5), .val (.int p6), .val (.int av1), .val (.int rv1), .val (.int j4_0), .val (.int j4_1), .val (.ref j9_0), .unset, .unset, .unset, .unset] [(.int (p6 &&& (4 : Int32)))])) t → Steps p.tables e below (s₁.setTop (entryFrame m #[(.int p1), (.int p2), (.int p3), (.int p4), (.int p5), (.int p6)] maxLocals)) t := by
    intro t k
    refine k9 t ?_
    show Steps p.tables e below (T9.setTop (mkF m 84 #[.val (.int p1), .val (.int p2), .val (.int p3), .val (.int p4), .val (.int p5), .val (.int p6), .val (.int av1), .val (.int rv1), .val (.int j4_0), .val (.int j4_1), .unset, .unset, .unset, .unset, .unset] [(.ref j9_0)])) _
    refine XS.astore X9.here hx rfl (hb hby at_84) rfl rfl (l' := #[.val (.int p1), .val (.int p2), .val (.int p3), .val (.int p4), .val (.int p5), .val (.int p6), .val (.int av1), .val (.int rv1), .val (.int j4_0), .val (.int j4_1), .val (.ref j9_0), .unset, .unset, .unset, .unset]) rfl ?_
    show Steps p.tables e below (T9.setTop (mkF m 86 #[.val (.int p1), .val (.int p2), .val (.int p3), .val (.int p4), .val (.int p5), .val (.int p6), .val (.int av1), .val (.int rv1), .val (.int j4_0), .val (.int j4_1), .val (.ref j9_0), .unset, .unset, .unset, .unset] [])) _
    refine XS.iload X9.here hx rfl (hb hby at_86) rfl ?_
    show Steps p.tables e below (T9.setTop (mkF m 88 #[.val (.int p1), .val (.int p2), .val (.int p3), .val (.int p4), .val (.int p5), .val (.int p6), .val (.int av1), .val (.int rv1), .val (.int j4_0), .val (.int j4_1), .val (.ref j9_0), .unset, .unset, .unset, .unset] [(.int p6)])) _
    refine XS.iconst X9.here hx rfl (hb hby at_88) ?_
    show Steps p.tables e below (T9.setTop (mkF m 89 #[.val (.int p1), .val (.int p2), .val (.int p3), .val (.int p4), .val (.int p5), .val (.int p6), .val (.int av1), .val (.int rv1), .val (.int j4_0), .val (.int j4_1), .val (.ref j9_0), .unset, .unset, .unset, .unset] [(.int (4 : Int32)), (.int p6)])) _
    refine XS.iand X9.here hx rfl (hb hby at_89) rfl ?_
    exact k
  obtain ⟨j15_0, T15, L15, X15, e15, N15, k15⟩ : ∃ (j15_0 : Addr) (T' : State) (L' : List Loc), Stand p l e room_1 s m #[(.int p1), (.int p2), (.int p3), (.int p4), (.int p5), (.int p6)] below meth c T' L' 0 0 ∧ T'.heap = h0 ∧ Fr n0 L' ∧ ∀ t, Steps p.tables e below (T'.setTop (mkF m 102 #[.val (.int p1), .val (.int p2), .val (.int p3), .val (.int p4), .val (.int p5), .val (.int p6), .val (.int av1), .val (.int rv1), .val (.int j4_0), .val (.int j4_1), .val (.ref j9_0), .unset, .unset, .unset, .unset] [(.ref j15_0)])) t → Steps p.tables e below (s₁.setTop (entryFrame m #[(.int p1), (.int p2), (.int p3), (.int p4), (.int p5), (.int p6)] maxLocals)) t := by
    by_cases hc90_3 : (p6 &&& (4 : Int32)) = (0 : Int32)
    ·
      obtain ⟨T16, X16, e16, st16⟩ := getS2 X9 hx hZ hown (host := "") (Or.inl (hw _ (List.mem_of_getElem? (i := 9) rfl))) Via.refl e9 S_PRECISION (g := (mkF m 99 #[.val (.int p1), .val (.int p2), .val (.int p3), .val (.int p4), .val (.int p5), .val (.int p6), .val (.int av1), .val (.int rv1), .val (.int j4_0), .val (.int j4_1), .val (.ref j9_0), .unset, .unset, .unset, .unset] [])) rfl (hb hby at_99)
      have k17 : ∀ t, Steps p.tables e below (T16.setTop (mkF m 102 #[.val (.int p1), .val (.int p2), .val (.int p3), .val (.int p4), .val (.int p5), .val (.int p6), .val (.int av1), .val (.int rv1), .val (.int j4_0), .val (.int j4_1), .val (.ref j9_0), .unset, .unset, .unset, .unset] [(.ref w_PRECISION)])) t → Steps p.tables e below (s₁.setTop (entryFrame m #[(.int p1), (.int p2), (.int p3), (.int p4), (.int p5), (.int p6)] maxLocals)) t := by
        intro t k
        refine k14 t ?_
        show Steps p.tables e below (T9.setTop (mkF m 90 #[.val (.int p1), .val (.int p2), .val (.int p3), .val (.int p4), .val (.int p5), .val (.int p6), .val (.int av1), .val (.int rv1), .val (.int j4_0), .val (.int j4_1), .val (.ref j9_0), .unset, .unset, .unset, .unset] [(.int (p6 &&& (4 : Int32)))])) _
        refine XS.ifYes X9.here hx rfl (pc0 := 90) (pc' := 99) rfl (hb hby at_90) rfl ((if0 _ _).trans (teq hc90_3).1) (by decide) (by decide) ?_
        show Steps p.tables e below (T9.setTop (mkF m 99 #[.val (.int p1), .val (.int p2), .val (.int p3), .val (.int p4), .val (.int p5), .val (.int p6), .val (.int av1), .val (.int rv1), .val (.int j4_0), .val (.int j4_1), .val (.ref j9_0), .unset, .unset, .unset, .unset] [])) _
        refine st16 _ ?_
        exact k
      exact ⟨w_PRECISION, T16, _, X16, e16, N9, k17⟩
    ·
      obtain ⟨T18, X18, e18, st18⟩ := getS2 X9 hx hZ hown (host := "") (Or.inl (hw _ (List.mem_of_getElem? (i := 6) rfl))) Via.refl e9 S_LARGEST (g := (mkF m 93 #[.val (.int p1), .val (.int p2), .val (.int p3), .val (.int p4), .val (.int p5), .val (.int p6), .val (.int av1), .val (.int rv1), .val (.int j4_0), .val (.int j4_1), .val (.ref j9_0), .unset, .unset, .unset, .unset] [])) rfl (hb hby at_93)
      have k19 : ∀ t, Steps p.tables e below (T18.setTop (mkF m 102 #[.val (.int p1), .val (.int p2), .val (.int p3), .val (.int p4), .val (.int p5), .val (.int p6), .val (.int av1), .val (.int rv1), .val (.int j4_0), .val (.int j4_1), .val (.ref j9_0), .unset, .unset, .unset, .unset] [(.ref w_LARGEST)])) t → Steps p.tables e below (s₁.setTop (entryFrame m #[(.int p1), (.int p2), (.int p3), (.int p4), (.int p5), (.int p6)] maxLocals)) t := by
        intro t k
        refine k14 t ?_
        show Steps p.tables e below (T9.setTop (mkF m 90 #[.val (.int p1), .val (.int p2), .val (.int p3), .val (.int p4), .val (.int p5), .val (.int p6), .val (.int av1), .val (.int rv1), .val (.int j4_0), .val (.int j4_1), .val (.ref j9_0), .unset, .unset, .unset, .unset] [(.int (p6 &&& (4 : Int32)))])) _
        refine XS.ifNo X9.here hx rfl (hb hby at_90) rfl ((if0 _ _).trans (feq hc90_3).1) ?_
        show Steps p.tables e below (T9.setTop (mkF m 93 #[.val (.int p1), .val (.int p2), .val (.int p3), .val (.int p4), .val (.int p5), .val (.int p6), .val (.int av1), .val (.int rv1), .val (.int j4_0), .val (.int j4_1), .val (.ref j9_0), .unset, .unset, .unset, .unset] [])) _
        refine st18 _ ?_
        show Steps p.tables e below (T18.setTop (mkF m 96 #[.val (.int p1), .val (.int p2), .val (.int p3), .val (.int p4), .val (.int p5), .val (.int p6), .val (.int av1), .val (.int rv1), .val (.int j4_0), .val (.int j4_1), .val (.ref j9_0), .unset, .unset, .unset, .unset] [(.ref w_LARGEST)])) _
        refine XS.goto X18.here hx rfl (pc0 := 96) (pc' := 102) rfl (hb hby at_96) (by decide) (by decide) ?_
        exact k
      exact ⟨w_LARGEST, T18, _, X18, e18, N9, k19⟩
  obtain ⟨T20, h20, X20, e20, E20, A20, D20, -, st20⟩ := newO X15 hx hZ hown (hw _ (List.mem_of_getElem? (i := 11) rfl)) (hw _ (List.mem_of_getElem? (i := 12) rfl)) (hw _ (List.mem_of_getElem? (i := 13) rfl)) e15 (g := (mkF m 104 #[.val (.int p1), .val (.int p2), .val (.int p3), .val (.int p4), .val (.int p5), .val (.int p6), .val (.int av1), .val (.int rv1), .val (.int j4_0), .val (.int j4_1), .val (.ref j9_0), .val (.ref j15_0), .unset, .unset, .unset] [])) rfl (hb hby at_104) (by decide) (by decide)
  obtain ⟨b20, g20⟩ : ∃ z, z = h0.size := ⟨_, rfl⟩
  rw [← g20] at A20 D20 st20
  have g_b20 : n0 ≤ b20 := Nat.le_trans Z0 (Nat.le_of_eq g20.symm)
  have sz_b20 : h0.size ≤ b20 := Nat.le_of_eq g20.symm
  have K20 : Keep h0 h20 [] := (Keep.refl h0 []).ext E20
  have F_exhaustivity_b20 : Fld Z h20 b20 "com/example/cotejo/cotejo/optimize/OptimalQuery" "exhaustivity" "I" (.int (0 : Int32)) := D20 (Or.inr (hw _ (List.mem_of_getElem? (i := 21) rfl))) (ty := .int) (by decide)
  have F_mode_b20 : Fld Z h20 b20 "com/example/cotejo/cotejo/optimize/OptimalQuery" "mode" "Lcom/example/cotejo/cotejo/optimize/Mode;" .null := D20 (Or.inr (hw _ (List.mem_of_getElem? (i := 23) rfl))) (ty := (.object "com/example/cotejo/cotejo/optimize/Mode")) (by decide)
  have F_retrieved_b20 : Fld Z h20 b20 "com/example/cotejo/cotejo/optimize/OptimalQuery" "retrieved" "I" (.int (0 : Int32)) := D20 (Or.inr (hw _ (List.mem_of_getElem? (i := 25) rfl))) (ty := .int) (by decide)
  have F_relevant_b20 : Fld Z h20 b20 "com/example/cotejo/cotejo/optimize/OptimalQuery" "relevant" "I" (.int (0 : Int32)) := D20 (Or.inr (hw _ (List.mem_of_getElem? (i := 27) rfl))) (ty := .int) (by decide)
  obtain ⟨_, _, ⟨T21, L21, k21, n21⟩, -, X21, ⟨Lc21, hQ21, l21, y21, z21⟩, st21⟩ := X20.specialBack hx (y := (⟨"com/example/cotejo/cotejo/optimize/OptimalQuery", "<init>", "(ILcom/example/cotejo/cotejo/optimize/Mode;II)V"⟩ : MethodName)) rfl hown (mvT hZ (hw _ (List.mem_of_getElem? (i := 14) rfl))) (mvT hZ (hw _ (List.mem_of_getElem? (i := 15) rfl))) (mvT hZ (hw _ (List.mem_of_getElem? (i := 16) rfl))) (by decide) (backOf (W := 1) (rm2_0 l Z a0 hw [] b20 p1 j9_0 av1 rv1 h20 n0 (Nat.le_trans Z0 K20.1) A20 F_exhaustivity_b20 F_mode_b20 F_retrieved_b20 F_relevant_b20 g_b20) hZ (hw _ (List.mem_of_getElem? (i := 16) rfl)) (hw _ (List.mem_of_getElem? (i := 13) rfl)) (by decide) (by decide)) (g := (mkF m 115 #[.val (.int p1), .val (.int p2), .val (.int p3), .val (.int p4), .val (.int p5), .val (.int p6), .val (.int av1), .val (.int rv1), .val (.int j4_0), .val (.int j4_1), .val (.ref j9_0), .val (.ref j15_0), .unset, .unset, .unset] [(.int rv1), (.int av1), (.ref j9_0), (.int p1), (.ref b20), (.ref b20)])) rfl (by rw [hml]; rfl) (Steps.refl _) (a := b20) (argsL := [(.int p1), (.ref j9_0), (.int av1), (.int rv1)]) (rest := [(.ref b20)]) (lenOf pd_1 rfl) rfl (by show 2 * 0 + _ ≤ _; exact Nat.le_of_eq rfl) (hb hby at_115) (fun _ _ => ⟨rfl, e20, (by decide : 1 + 0 ≤ _), (by decide : 4 + 0 ≤ _)⟩)
  dsimp only [Pt.U, Pt.locs, Pt.cells, Pt.slots] at X21 l21 y21 z21 st21 hQ21
  subst l21 y21 z21
  obtain ⟨rfl, N21q, K21q, Fq21_0, Fq21_1, Fq21_2, Fq21_3, Fq21_4⟩ := hQ21
  have N21 := Fr.app N15 N21q
  have K21 : Keep h0 T21.heap [] := Keep.trans K20 K21q (allS (Or.inr sz_b20) all0)
  obtain ⟨T22, h22, X22, e22, E22, A22, D22, -, st22⟩ := newO X21 hx hZ hown (hw _ (List.mem_of_getElem? (i := 11) rfl)) (hw _ (List.mem_of_getElem? (i := 12) rfl)) (hw _ (List.mem_of_getElem? (i := 13) rfl)) rfl (g := (mkF m 120 #[.val (.int p1), .val (.int p2), .val (.int p3), .val (.int p4), .val (.int p5), .val (.int p6), .val (.int av1), .val (.int rv1), .val (.int j4_0), .val (.int j4_1), .val (.ref j9_0), .val (.ref j15_0), .val (.ref b20), .unset, .unset] [])) rfl (hb hby at_120) (by decide) (by decide)
  obtain ⟨b22, g22⟩ : ∃ z, z = T21.heap.size := ⟨_, rfl⟩
  rw [← g22] at A22 D22 st22
  have g_b22 : n0 ≤ b22 := Nat.le_trans (Nat.le_trans Z0 K21.1) (Nat.le_of_eq g22.symm)
  have sz_b22 : h0.size ≤ b22 := Nat.le_trans K21.1 (Nat.le_of_eq g22.symm)
  have ne_b20_b22 : b20 ≠ b22 := Nat.ne_of_lt (Nat.lt_of_lt_of_le Fq21_0.lt (Nat.le_of_eq g22.symm))
  have K22 : Keep h0 h22 [] := K21.ext E22
  have F_exhaustivity_b22 : Fld Z h22 b22 "com/example/cotejo/cotejo/optimize/OptimalQuery" "exhaustivity" "I" (.int (0 : Int32)) := D22 (Or.inr (hw _ (List.mem_of_getElem? (i := 21) rfl))) (ty := .int) (by decide)
  have F_mode_b22 : Fld Z h22 b22 "com/example/cotejo/cotejo/optimize/OptimalQuery" "mode" "Lcom/example/cotejo/cotejo/optimize/Mode;" .null := D22 (Or.inr (hw _ (List.mem_of_getElem? (i := 23) rfl))) (ty := (.object "com/example/cotejo/cotejo/optimize/Mode")) (by decide)
  have F_retrieved_b22 : Fld Z h22 b22 "com/example/cotejo/cotejo/optimize/OptimalQuery" "retrieved" "I" (.int (0 : Int32)) := D22 (Or.inr (hw _ (List.mem_of_getElem? (i := 25) rfl))) (ty := .int) (by decide)
  have F_relevant_b22 : Fld Z h22 b22 "com/example/cotejo/cotejo/optimize/OptimalQuery" "relevant" "I" (.int (0 : Int32)) := D22 (Or.inr (hw _ (List.mem_of_getElem? (i := 27) rfl))) (ty := .int) (by decide)
  obtain ⟨_, _, ⟨T23, L23, k23, n23⟩, -, X23, ⟨Lc23, hQ23, l23, y23, z23⟩, st23⟩ := X22.specialBack hx (y := (⟨"com/example/cotejo/cotejo/optimize/OptimalQuery", "<init>", "(ILcom/example/cotejo/cotejo/optimize/Mode;II)V"⟩ : MethodName)) rfl hown (mvT hZ (hw _ (List.mem_of_getElem? (i := 14) rfl))) (mvT hZ (hw _ (List.mem_of_getElem? (i := 15) rfl))) (mvT hZ (hw _ (List.mem_of_getElem? (i := 16) rfl))) (by decide) (backOf (W := 1) (rm2_0 l Z a0 hw [] b22 (p1 ^^^ p6) j15_0 j4_0 j4_1 h22 n0 (Nat.le_trans Z0 K22.1) A22 F_exhaustivity_b22 F_mode_b22 F_retrieved_b22 F_relevant_b22 g_b22) hZ (hw _ (List.mem_of_getElem? (i := 16) rfl)) (hw _ (List.mem_of_getElem? (i := 13) rfl)) (by decide) (by decide)) (g := (mkF m 134 #[.val (.int p1), .val (.int p2), .val (.int p3), .val (.int p4), .val (.int p5), .val (.int p6), .val (.int av1), .val (.int rv1), .val (.int j4_0), .val (.int j4_1), .val (.ref j9_0), .val (.ref j15_0), .val (.ref b20), .unset, .unset] [(.int j4_1), (.int j4_0), (.ref j15_0), (.int (p1 ^^^ p6)), (.ref b22), (.ref b22)])) rfl (by rw [hml]; rfl) (Steps.refl _) (a := b22) (argsL := [(.int (p1 ^^^ p6)), (.ref j15_0), (.int j4_0), (.int j4_1)]) (rest := [(.ref b22)]) (lenOf pd_1 rfl) rfl (by show 2 * 0 + _ ≤ _; exact Nat.le_of_eq rfl) (hb hby at_134) (fun _ _ => ⟨rfl, e22, (by decide : 2 + 0 ≤ _), (by decide : 8 + 0 ≤ _)⟩)
  dsimp only [Pt.U, Pt.locs, Pt.cells, Pt.slots] at X23 l23 y23 z23 st23 hQ23
  subst l23 y23 z23
  obtain ⟨rfl, N23q, K23q, Fq23_0, Fq23_1, Fq23_2, Fq23_3, Fq23_4⟩ := hQ23
  have N23 := Fr.app N21 N23q
  have K23 : Keep h0 T23.heap [] := Keep.trans K22 K23q (allS (Or.inr sz_b22) all0)
  have cf24 := ((Fq21_1.ext E22).keep K23q (ninS ne_b20_b22 nin0))
  have cf25 := ((Fq21_2.ext E22).keep K23q (ninS ne_b20_b22 nin0))
  have cf26 := ((Fq21_3.ext E22).keep K23q (ninS ne_b20_b22 nin0))
  have cf27 := ((Fq21_4.ext E22).keep K23q (ninS ne_b20_b22 nin0))
  have k28 : ∀ t, Steps p.tables e below (T23.setTop (mkF m 143 #[.val (.int p1), .val (.int p2), .val (.int p3), .val (.int p4), .val (.int p5), .val (.int p6), .val (.int av1), .val (.int rv1), .val (.int j4_0), .val (.int j4_1), .val (.ref j9_0), .val (.ref j15_0), .val (.ref b20), .val (.ref b22), .unset] [(.int j4_1), (.int rv1)])) t → Steps p.tables e below (s₁.setTop (entryFrame m #[(.int p1), (.int p2), (.int p3), (.int p4), (.int p5), (.int p6)] maxLocals)) t := by
    intro t k
    refine k15 t ?_
    show Steps p.tables e below (T15.setTop (mkF m 102 #[.val (.int p1), .val (.int p2), .val (.int p3), .val (.int p4), .val (.int p5), .val (.int p6), .val (.int av1), .val (.int rv1), .val (.int j4_0), .val (.int j4_1), .val (.ref j9_0), .unset, .unset, .unset, .unset] [(.ref j15_0)])) _
    refine XS.astore X15.here hx rfl (hb hby at_102) rfl rfl (l' := #[.val (.int p1), .val (.int p2), .val (.int p3), .val (.int p4), .val (.int p5), .val (.int p6), .val (.int av1), .val (.int rv1), .val (.int j4_0), .val (.int j4_1), .val (.ref j9_0), .val (.ref j15_0), .unset, .unset, .unset]) rfl ?_
    show Steps p.tables e below (T15.setTop (mkF m 104 #[.val (.int p1), .val (.int p2), .val (.int p3), .val (.int p4), .val (.int p5), .val (.int p6), .val (.int av1), .val (.int rv1), .val (.int j4_0), .val (.int j4_1), .val (.ref j9_0), .val (.ref j15_0), .unset, .unset, .unset] [])) _
    refine st20 _ ?_
    show Steps p.tables e below (T20.setTop (mkF m 107 #[.val (.int p1), .val (.int p2), .val (.int p3), .val (.int p4), .val (.int p5), .val (.int p6), .val (.int av1), .val (.int rv1), .val (.int j4_0), .val (.int j4_1), .val (.ref j9_0), .val (.ref j15_0), .unset, .unset, .unset] [(.ref b20)])) _
    refine XS.dup X20.here hx rfl (hb hby at_107) rfl rfl ?_
    show Steps p.tables e below (T20.setTop (mkF m 108 #[.val (.int p1), .val (.int p2), .val (.int p3), .val (.int p4), .val (.int p5), .val (.int p6), .val (.int av1), .val (.int rv1), .val (.int j4_0), .val (.int j4_1), .val (.ref j9_0), .val (.ref j15_0), .unset, .unset, .unset] [(.ref b20), (.ref b20)])) _
    refine XS.iloadN X20.here hx rfl (hb hby at_108) rfl ?_
    show Steps p.tables e below (T20.setTop (mkF m 109 #[.val (.int p1), .val (.int p2), .val (.int p3), .val (.int p4), .val (.int p5), .val (.int p6), .val (.int av1), .val (.int rv1), .val (.int j4_0), .val (.int j4_1), .val (.ref j9_0), .val (.ref j15_0), .unset, .unset, .unset] [(.int p1), (.ref b20), (.ref b20)])) _
    refine XS.aload X20.here hx rfl (hb hby at_109) rfl rfl ?_
    show Steps p.tables e below (T20.setTop (mkF m 111 #[.val (.int p1), .val (.int p2), .val (.int p3), .val (.int p4), .val (.int p5), .val (.int p6), .val (.int av1), .val (.int rv1), .val (.int j4_0), .val (.int j4_1), .val (.ref j9_0), .val (.ref j15_0), .unset, .unset, .unset] [(.ref j9_0), (.int p1), (.ref b20), (.ref b20)])) _
    refine XS.iload X20.here hx rfl (hb hby at_111) rfl ?_
    show Steps p.tables e below (T20.setTop (mkF m 113 #[.val (.int p1), .val (.int p2), .val (.int p3), .val (.int p4), .val (.int p5), .val (.int p6), .val (.int av1), .val (.int rv1), .val (.int j4_0), .val (.int j4_1), .val (.ref j9_0), .val (.ref j15_0), .unset, .unset, .unset] [(.int av1), (.ref j9_0), (.int p1), (.ref b20), (.ref b20)])) _
    refine XS.iload X20.here hx rfl (hb hby at_113) rfl ?_
    show Steps p.tables e below (T20.setTop (mkF m 115 #[.val (.int p1), .val (.int p2), .val (.int p3), .val (.int p4), .val (.int p5), .val (.int p6), .val (.int av1), .val (.int rv1), .val (.int j4_0), .val (.int j4_1), .val (.ref j9_0), .val (.ref j15_0), .unset, .unset, .unset] [(.int rv1), (.int av1), (.ref j9_0), (.int p1), (.ref b20), (.ref b20)])) _
    refine st21.trans ?_
    show Steps p.tables e below (T21.setTop (mkF m 118 #[.val (.int p1), .val (.int p2), .val (.int p3), .val (.int p4), .val (.int p5), .val (.int p6), .val (.int av1), .val (.int rv1), .val (.int j4_0), .val (.int j4_1), .val (.ref j9_0), .val (.ref j15_0), .unset, .unset, .unset] [(.ref b20)])) _
    refine XS.astore X21.here hx rfl (hb hby at_118) rfl rfl (l' := #[.val (.int p1), .val (.int p2), .val (.int p3), .val (.int p4), .val (.int p5), .val (.int p6), .val (.int av1), .val (.int rv1), .val (.int j4_0), .val (.int j4_1), .val (.ref j9_0), .val (.ref j15_0), .val (.ref b20), .unset, .unset]) rfl ?_
    show Steps p.tables e below (T21.setTop (mkF m 120 #[.val (.int p1), .val (.int p2), .val (.int p3), .val (.int p4), .val (.int p5), .val (.int p6), .val (.int av1), .val (.int rv1), .val (.int j4_0), .val (.int j4_1), .val (.ref j9_0), .val (.ref j15_0), .val (.ref b20), .unset, .unset] [])) _
    refine st22 _ ?_
    show Steps p.tables e below (T22.setTop (mkF m 123 #[.val (.int p1), .val (.int p2), .val (.int p3), .val (.int p4), .val (.int p5), .val (.int p6), .val (.int av1), .val (.int rv1), .val (.int j4_0), .val (.int j4_1), .val (.ref j9_0), .val (.ref j15_0), .val (.ref b20), .unset, .unset] [(.ref b22)])) _
    refine XS.dup X22.here hx rfl (hb hby at_123) rfl rfl ?_
    show Steps p.tables e below (T22.setTop (mkF m 124 #[.val (.int p1), .val (.int p2), .val (.int p3), .val (.int p4), .val (.int p5), .val (.int p6), .val (.int av1), .val (.int rv1), .val (.int j4_0), .val (.int j4_1), .val (.ref j9_0), .val (.ref j15_0), .val (.ref b20), .unset, .unset] [(.ref b22), (.ref b22)])) _
    refine XS.iloadN X22.here hx rfl (hb hby at_124) rfl ?_
    show Steps p.tables e below (T22.setTop (mkF m 125 #[.val (.int p1), .val (.int p2), .val (.int p3), .val (.int p4), .val (.int p5), .val (.int p6), .val (.int av1), .val (.int rv1), .val (.int j4_0), .val (.int j4_1), .val (.ref j9_0), .val (.ref j15_0), .val (.ref b20), .unset, .unset] [(.int p1), (.ref b22), (.ref b22)])) _
    refine XS.iload X22.here hx rfl (hb hby at_125) rfl ?_
    show Steps p.tables e below (T22.setTop (mkF m 127 #[.val (.int p1), .val (.int p2), .val (.int p3), .val (.int p4), .val (.int p5), .val (.int p6), .val (.int av1), .val (.int rv1), .val (.int j4_0), .val (.int j4_1), .val (.ref j9_0), .val (.ref j15_0), .val (.ref b20), .unset, .unset] [(.int p6), (.int p1), (.ref b22), (.ref b22)])) _
    refine XS.ixor X22.here hx rfl (hb hby at_127) rfl ?_
    show Steps p.tables e below (T22.setTop (mkF m 128 #[.val (.int p1), .val (.int p2), .val (.int p3), .val (.int p4), .val (.int p5), .val (.int p6), .val (.int av1), .val (.int rv1), .val (.int j4_0), .val (.int j4_1), .val (.ref j9_0), .val (.ref j15_0), .val (.ref b20), .unset, .unset] [(.int (p1 ^^^ p6)), (.ref b22), (.ref b22)])) _
    refine XS.aload X22.here hx rfl (hb hby at_128) rfl rfl ?_
    show Steps p.tables e below (T22.setTop (mkF m 130 #[.val (.int p1), .val (.int p2), .val (.int p3), .val (.int p4), .val (.int p5), .val (.int p6), .val (.int av1), .val (.int rv1), .val (.int j4_0), .val (.int j4_1), .val (.ref j9_0), .val (.ref j15_0), .val (.ref b20), .unset, .unset] [(.ref j15_0), (.int (p1 ^^^ p6)), (.ref b22), (.ref b22)])) _
    refine XS.iload X22.here hx rfl (hb hby at_130) rfl ?_
    show Steps p.tables e below (T22.setTop (mkF m 132 #[.val (.int p1), .val (.int p2), .val (.int p3), .val (.int p4), .val (.int p5), .val (.int p6), .val (.int av1), .val (.int rv1), .val (.int j4_0), .val (.int j4_1), .val (.ref j9_0), .val (.ref j15_0), .val (.ref b20), .unset, .unset] [(.int j4_0), (.ref j15_0), (.int (p1 ^^^ p6)), (.ref b22), (.ref b22)])) _
    refine XS.iload X22.here hx rfl (hb hby at_132) rfl ?_
    show Steps p.tables e below (T22.setTop (mkF m 134 #[.val (.int p1), .val (.int p2), .val (.int p3), .val (.int p4), .val (.int p5), .val (.int p6), .val (.int av1), .val (.int rv1), .val (.int j4_0), .val (.int j4_1), .val (.ref j9_0), .val (.ref j15_0), .val (.ref b20), .unset, .unset] [(.int j4_1), (.int j4_0), (.ref j15_0), (.int (p1 ^^^ p6)), (.ref b22), (.ref b22)])) _
    refine st23.trans ?_
    show Steps p.tables e below (T23.setTop (mkF m 137 #[.val (.int p1), .val (.int p2), .val (.int p3), .val (.int p4), .val (.int p5), .val (.int p6), .val (.int av1), .val (.int rv1), .val (.int j4_0), .val (.int j4_1), .val (.ref j9_0), .val (.ref j15_0), .val (.ref b20), .unset, .unset] [(.ref b22)])) _
    refine XS.astore X23.here hx rfl (hb hby at_137) rfl rfl (l' := #[.val (.int p1), .val (.int p2), .val (.int p3), .val (.int p4), .val (.int p5), .val (.int p6), .val (.int av1), .val (.int rv1), .val (.int j4_0), .val (.int j4_1), .val (.ref j9_0), .val (.ref j15_0), .val (.ref b20), .val (.ref b22), .unset]) rfl ?_
    show Steps p.tables e below (T23.setTop (mkF m 139 #[.val (.int p1), .val (.int p2), .val (.int p3), .val (.int p4), .val (.int p5), .val (.int p6), .val (.int av1), .val (.int rv1), .val (.int j4_0), .val (.int j4_1), .val (.ref j9_0), .val (.ref j15_0), .val (.ref b20), .val (.ref b22), .unset] [])) _
    refine XS.iload X23.here hx rfl (hb hby at_139) rfl ?_
    show Steps p.tables e below (T23.setTop (mkF m 141 #[.val (.int p1), .val (.int p2), .val (.int p3), .val (.int p4), .val (.int p5), .val (.int p6), .val (.int av1), .val (.int rv1), .val (.int j4_0), .val (.int j4_1), .val (.ref j9_0), .val (.ref j15_0), .val (.ref b20), .val (.ref b22), .unset] [(.int rv1)])) _
    refine XS.iload X23.here hx rfl (hb hby at_141) rfl ?_
    exact k
  by_cases hc143_4 : rv1 = j4_1
  ·
    have k29 : ∀ t, Steps p.tables e below (T23.setTop (mkF m 165 #[.val (.int p1), .val (.int p2), .val (.int p3), .val (.int p4), .val (.int p5), .val (.int p6), .val (.int av1), .val (.int rv1), .val (.int j4_0), .val (.int j4_1), .val (.ref j9_0), .val (.ref j15_0), .val (.ref b20), .val (.ref b22), .unset] [(.int rv1)])) t → Steps p.tables e below (s₁.setTop (entryFrame m #[(.int p1), (.int p2), (.int p3), (.int p4), (.int p5), (.int p6)] maxLocals)) t := by
      intro t k
      refine k28 t ?_
      show Steps p.tables e below (T23.setTop (mkF m 143 #[.val (.int p1), .val (.int p2), .val (.int p3), .val (.int p4), .val (.int p5), .val (.int p6), .val (.int av1), .val (.int rv1), .val (.int j4_0), .val (.int j4_1), .val (.ref j9_0), .val (.ref j15_0), .val (.ref b20), .val (.ref b22), .unset] [(.int j4_1), (.int rv1)])) _
      refine XS.icmpYes X23.here hx rfl (pc0 := 143) (pc' := 163) rfl (hb hby at_143) rfl (teq hc143_4).1 (by decide) (by decide) ?_
      show Steps p.tables e below (T23.setTop (mkF m 163 #[.val (.int p1), .val (.int p2), .val (.int p3), .val (.int p4), .val (.int p5), .val (.int p6), .val (.int av1), .val (.int rv1), .val (.int j4_0), .val (.int j4_1), .val (.ref j9_0), .val (.ref j15_0), .val (.ref b20), .val (.ref b22), .unset] [])) _
      refine XS.iload X23.here hx rfl (hb hby at_163) rfl ?_
      exact k
    by_cases hc165_5 : (0 : Int32) < rv1
    ·
      have k30 : ∀ t, Steps p.tables e below (T23.setTop (mkF m 172 #[.val (.int p1), .val (.int p2), .val (.int p3), .val (.int p4), .val (.int p5), .val (.int p6), .val (.int av1), .val (.int rv1), .val (.int j4_0), .val (.int j4_1), .val (.ref j9_0), .val (.ref j15_0), .val (.ref b20), .val (.ref b22), .unset] [(.int j4_0), (.int av1)])) t → Steps p.tables e below (s₁.setTop (entryFrame m #[(.int p1), (.int p2), (.int p3), (.int p4), (.int p5), (.int p6)] maxLocals)) t := by
        intro t k
        refine k29 t ?_
        show Steps p.tables e below (T23.setTop (mkF m 165 #[.val (.int p1), .val (.int p2), .val (.int p3), .val (.int p4), .val (.int p5), .val (.int p6), .val (.int av1), .val (.int rv1), .val (.int j4_0), .val (.int j4_1), .val (.ref j9_0), .val (.ref j15_0), .val (.ref b20), .val (.ref b22), .unset] [(.int rv1)])) _
        refine XS.ifNo X23.here hx rfl (hb hby at_165) rfl ((if0 _ _).trans (tlt hc165_5).2.2.2) ?_
        show Steps p.tables e below (T23.setTop (mkF m 168 #[.val (.int p1), .val (.int p2), .val (.int p3), .val (.int p4), .val (.int p5), .val (.int p6), .val (.int av1), .val (.int rv1), .val (.int j4_0), .val (.int j4_1), .val (.ref j9_0), .val (.ref j15_0), .val (.ref b20), .val (.ref b22), .unset] [])) _
        refine XS.iload X23.here hx rfl (hb hby at_168) rfl ?_
        show Steps p.tables e below (T23.setTop (mkF m 170 #[.val (.int p1), .val (.int p2), .val (.int p3), .val (.int p4), .val (.int p5), .val (.int p6), .val (.int av1), .val (.int rv1), .val (.int j4_0), .val (.int j4_1), .val (.ref j9_0), .val (.ref j15_0), .val (.ref b20), .val (.ref b22), .unset] [(.int av1)])) _
        refine XS.iload X23.here hx rfl (hb hby at_170) rfl ?_
        exact k
      by_cases hc172_6 : av1 < j4_0
      ·
        have k31 : ∀ t, Steps p.tables e below (T23.setTop (mkF m 186 #[.val (.int p1), .val (.int p2), .val (.int p3), .val (.int p4), .val (.int p5), .val (.int p6), .val (.int av1), .val (.int rv1), .val (.int j4_0), .val (.int j4_1), .val (.ref j9_0), .val (.ref j15_0), .val (.ref b20), .val (.ref b22), .val (.int (1 : Int32))] [(.ref b22), (.ref b20)])) t → Steps p.tables e below (s₁.setTop (entryFrame m #[(.int p1), (.int p2), (.int p3), (.int p4), (.int p5), (.int p6)] maxLocals)) t := by
          intro t k
          refine k30 t ?_
          show Steps p.tables e below (T23.setTop (mkF m 172 #[.val (.int p1), .val (.int p2), .val (.int p3), .val (.int p4), .val (.int p5), .val (.int p6), .val (.int av1), .val (.int rv1), .val (.int j4_0), .val (.int j4_1), .val (.ref j9_0), .val (.ref j15_0), .val (.ref b20), .val (.ref b22), .unset] [(.int j4_0), (.int av1)])) _
          refine XS.icmpNo X23.here hx rfl (hb hby at_172) rfl (tlt hc172_6).2.1 ?_
          show Steps p.tables e below (T23.setTop (mkF m 175 #[.val (.int p1), .val (.int p2), .val (.int p3), .val (.int p4), .val (.int p5), .val (.int p6), .val (.int av1), .val (.int rv1), .val (.int j4_0), .val (.int j4_1), .val (.ref j9_0), .val (.ref j15_0), .val (.ref b20), .val (.ref b22), .unset] [])) _
          refine XS.iconst X23.here hx rfl (hb hby at_175) ?_
          show Steps p.tables e below (T23.setTop (mkF m 176 #[.val (.int p1), .val (.int p2), .val (.int p3), .val (.int p4), .val (.int p5), .val (.int p6), .val (.int av1), .val (.int rv1), .val (.int j4_0), .val (.int j4_1), .val (.ref j9_0), .val (.ref j15_0), .val (.ref b20), .val (.ref b22), .unset] [(.int (1 : Int32))])) _
          refine XS.goto X23.here hx rfl (pc0 := 176) (pc' := 180) rfl (hb hby at_176) (by decide) (by decide) ?_
          show Steps p.tables e below (T23.setTop (mkF m 180 #[.val (.int p1), .val (.int p2), .val (.int p3), .val (.int p4), .val (.int p5), .val (.int p6), .val (.int av1), .val (.int rv1), .val (.int j4_0), .val (.int j4_1), .val (.ref j9_0), .val (.ref j15_0), .val (.ref b20), .val (.ref b22), .unset] [(.int (1 : Int32))])) _
          refine XS.istore X23.here hx rfl (hb hby at_180) rfl (l' := #[.val (.int p1), .val (.int p2), .val (.int p3), .val (.int p4), .val (.int p5), .val (.int p6), .val (.int av1), .val (.int rv1), .val (.int j4_0), .val (.int j4_1), .val (.ref j9_0), .val (.ref j15_0), .val (.ref b20), .val (.ref b22), .val (.int (1 : Int32))]) rfl ?_
          show Steps p.tables e below (T23.setTop (mkF m 182 #[.val (.int p1), .val (.int p2), .val (.int p3), .val (.int p4), .val (.int p5), .val (.int p6), .val (.int av1), .val (.int rv1), .val (.int j4_0), .val (.int j4_1), .val (.ref j9_0), .val (.ref j15_0), .val (.ref b20), .val (.ref b22), .val (.int (1 : Int32))] [])) _
          refine XS.aload X23.here hx rfl (hb hby at_182) rfl rfl ?_
          show Steps p.tables e below (T23.setTop (mkF m 184 #[.val (.int p1), .val (.int p2), .val (.int p3), .val (.int p4), .val (.int p5), .val (.int p6), .val (.int av1), .val (.int rv1), .val (.int j4_0), .val (.int j4_1), .val (.ref j9_0), .val (.ref j15_0), .val (.ref b20), .val (.ref b22), .val (.int (1 : Int32))] [(.ref b20)])) _
          refine XS.aload X23.here hx rfl (hb hby at_184) rfl rfl ?_
          exact k
        have hL32 : (0 : Int32) < (lcmpW ((rv1.toInt64) * (j4_0.toInt64)) ((j4_1.toInt64) * (av1.toInt64))) := (own_cmp hc143_4 hr_rv1 ha_av1 hpj).mpr ⟨hc165_5, hc172_6⟩
        obtain ⟨cq33, kq33, q33a, q33b, q33c⟩ := isOf hZ rfl ((Fq21_0.ext E22).keep K23q)
        obtain ⟨_, _, ⟨T33, L33, k33, n33⟩, -, X33, ⟨Lc33, hQ33, l33, y33, z33⟩, st33⟩ := X23.virtualBack hx (y := (⟨"com/example/cotejo/cotejo/optimize/OptimalQuery", "isBetterThan", "(Lcom/example/cotejo/cotejo/optimize/OptimalQuery;)Z"⟩ : MethodName)) (z := (⟨"com/example/cotejo/cotejo/optimize/OptimalQuery", "isBetterThan", "(Lcom/example/cotejo/cotejo/optimize/OptimalQuery;)Z"⟩ : MethodName)) hown (mvT hZ (hw _ (List.mem_of_getElem? (i := 28) rfl))) (mvT hZ (hw _ (List.mem_of_getElem? (i := 29) rfl))) (notFace_of_selects (args := #[]) (mvT hZ (hw _ (List.mem_of_getElem? (i := 31) rfl)))) (mvT hZ (hw _ (List.mem_of_getElem? (i := 31) rfl))) (mvT hZ (hw _ (List.mem_of_getElem? (i := 30) rfl))) (by decide) (backOf (W := 0) (rm4_0 l Z a0 hw [] b20 b22 av1 rv1 j4_0 j4_1 T23.heap n0 (Nat.le_trans Z0 K23.1) cf27 Fq23_4 hc143_4 Fq23_3 cf26 hL32) hZ (hw _ (List.mem_of_getElem? (i := 32) rfl)) (hw _ (List.mem_of_getElem? (i := 13) rfl)) (by decide) (by decide)) q33a q33c (g := (mkF m 186 #[.val (.int p1), .val (.int p2), .val (.int p3), .val (.int p4), .val (.int p5), .val (.int p6), .val (.int av1), .val (.int rv1), .val (.int j4_0), .val (.int j4_1), .val (.ref j9_0), .val (.ref j15_0), .val (.ref b20), .val (.ref b22), .val (.int (1 : Int32))] [(.ref b22), (.ref b20)])) rfl (by rw [hml]; rfl) (Steps.refl _) (argsL := [(.ref b22)]) (rest := []) (lenOf pd_2 rfl) rfl (by show 2 * 0 + _ ≤ _; exact Nat.le_of_eq rfl) (hb hby at_186) (fun _ _ => ⟨rfl, rfl, (by decide : 2 + 0 ≤ _), (by decide : 8 + 0 ≤ _)⟩)
        dsimp only [Pt.U, Pt.locs, Pt.cells, Pt.slots] at X33 l33 y33 z33 st33 hQ33
        subst l33 y33 z33
        obtain ⟨rfl, N33q, e33⟩ := hQ33
        have N33 := Fr.app N23 N33q
        obtain ⟨fs, hr, hrun, hended, hW, hsame⟩ := X33.leave (v := some (.int (1 : Int32))) (fun h => by rw [Bd.returns] at h; cases h)
        refine ⟨_, _, k31 _ ?_, hrun, hended, _, _, rfl, ?_, ⟨_, rfl⟩, hW, hsame.mono (by decide) (by decide)⟩
        ·
          show Steps p.tables e below (T23.setTop (mkF m 186 #[.val (.int p1), .val (.int p2), .val (.int p3), .val (.int p4), .val (.int p5), .val (.int p6), .val (.int av1), .val (.int rv1), .val (.int j4_0), .val (.int j4_1), .val (.ref j9_0), .val (.ref j15_0), .val (.ref b20), .val (.ref b22), .val (.int (1 : Int32))] [(.ref b22), (.ref b20)])) _
          refine st33.trans ?_
          show Steps p.tables e below (T33.setTop (mkF m 189 #[.val (.int p1), .val (.int p2), .val (.int p3), .val (.int p4), .val (.int p5), .val (.int p6), .val (.int av1), .val (.int rv1), .val (.int j4_0), .val (.int j4_1), .val (.ref j9_0), .val (.ref j15_0), .val (.ref b20), .val (.ref b22), .val (.int (1 : Int32))] [(.int (1 : Int32))])) _
          refine XS.iload X33.here hx rfl (hb hby at_189) rfl ?_
          show Steps p.tables e below (T33.setTop (mkF m 191 #[.val (.int p1), .val (.int p2), .val (.int p3), .val (.int p4), .val (.int p5), .val (.int p6), .val (.int av1), .val (.int rv1), .val (.int j4_0), .val (.int j4_1), .val (.ref j9_0), .val (.ref j15_0), .val (.ref b20), .val (.ref b22), .val (.int (1 : Int32))] [(.int (1 : Int32)), (.int (1 : Int32))])) _
          refine XS.icmpNo X33.here hx rfl (hb hby at_191) rfl (teq (by decide : (1 : Int32) = (1 : Int32))).2 ?_
          show Steps p.tables e below (T33.setTop (mkF m 194 #[.val (.int p1), .val (.int p2), .val (.int p3), .val (.int p4), .val (.int p5), .val (.int p6), .val (.int av1), .val (.int rv1), .val (.int j4_0), .val (.int j4_1), .val (.ref j9_0), .val (.ref j15_0), .val (.ref b20), .val (.ref b22), .val (.int (1 : Int32))] [])) _
          refine XS.iconst X33.here hx rfl (hb hby at_194) ?_
          show Steps p.tables e below (T33.setTop (mkF m 195 #[.val (.int p1), .val (.int p2), .val (.int p3), .val (.int p4), .val (.int p5), .val (.int p6), .val (.int av1), .val (.int rv1), .val (.int j4_0), .val (.int j4_1), .val (.ref j9_0), .val (.ref j15_0), .val (.ref b20), .val (.ref b22), .val (.int (1 : Int32))] [(.int (1 : Int32))])) _
          refine XS.goto X33.here hx rfl (pc0 := 195) (pc' := 199) rfl (hb hby at_195) (by decide) (by decide) ?_
          show Steps p.tables e below (T33.setTop (mkF m 199 #[.val (.int p1), .val (.int p2), .val (.int p3), .val (.int p4), .val (.int p5), .val (.int p6), .val (.int av1), .val (.int rv1), .val (.int j4_0), .val (.int j4_1), .val (.ref j9_0), .val (.ref j15_0), .val (.ref b20), .val (.ref b22), .val (.int (1 : Int32))] [(.int (1 : Int32))])) _
          exact retN X33 hx (t := .boolean) Bd.returns (by simp) (hb hby at_199) hr
        · show Q0_0 Z p1 p2 p3 p4 p5 p6 w_LARGEST w_PRECISION h0 n0 _ T33.heap _
          rw [e33]
          exact ⟨rfl, N33⟩
      ·
        have k34 : ∀ t, Steps p.tables e below (T23.setTop (mkF m 186 #[.val (.int p1), .val (.int p2), .val (.int p3), .val (.int p4), .val (.int p5), .val (.int p6), .val (.int av1), .val (.int rv1), .val (.int j4_0), .val (.int j4_1), .val (.ref j9_0), .val (.ref j15_0), .val (.ref b20), .val (.ref b22), .val (.int (0 : Int32))] [(.ref b22), (.ref b20)])) t → Steps p.tables e below (s₁.setTop (entryFrame m #[(.int p1), (.int p2), (.int p3), (.int p4), (.int p5), (.int p6)] maxLocals)) t := by
          intro t k
          refine k30 t ?_
          show Steps p.tables e below (T23.setTop (mkF m 172 #[.val (.int p1), .val (.int p2), .val (.int p3), .val (.int p4), .val (.int p5), .val (.int p6), .val (.int av1), .val (.int rv1), .val (.int j4_0), .val (.int j4_1), .val (.ref j9_0), .val (.ref j15_0), .val (.ref b20), .val (.ref b22), .unset] [(.int j4_0), (.int av1)])) _
          refine XS.icmpYes X23.here hx rfl (pc0 := 172) (pc' := 179) rfl (hb hby at_172) rfl (flt hc172_6).2.1 (by decide) (by decide) ?_
          show Steps p.tables e below (T23.setTop (mkF m 179 #[.val (.int p1), .val (.int p2), .val (.int p3), .val (.int p4), .val (.int p5), .val (.int p6), .val (.int av1), .val (.int rv1), .val (.int j4_0), .val (.int j4_1), .val (.ref j9_0), .val (.ref j15_0), .val (.ref b20), .val (.ref b22), .unset] [])) _
          refine XS.iconst X23.here hx rfl (hb hby at_179) ?_
          show Steps p.tables e below (T23.setTop (mkF m 180 #[.val (.int p1), .val (.int p2), .val (.int p3), .val (.int p4), .val (.int p5), .val (.int p6), .val (.int av1), .val (.int rv1), .val (.int j4_0), .val (.int j4_1), .val (.ref j9_0), .val (.ref j15_0), .val (.ref b20), .val (.ref b22), .unset] [(.int (0 : Int32))])) _
          refine XS.istore X23.here hx rfl (hb hby at_180) rfl (l' := #[.val (.int p1), .val (.int p2), .val (.int p3), .val (.int p4), .val (.int p5), .val (.int p6), .val (.int av1), .val (.int rv1), .val (.int j4_0), .val (.int j4_1), .val (.ref j9_0), .val (.ref j15_0), .val (.ref b20), .val (.ref b22), .val (.int (0 : Int32))]) rfl ?_
          show Steps p.tables e below (T23.setTop (mkF m 182 #[.val (.int p1), .val (.int p2), .val (.int p3), .val (.int p4), .val (.int p5), .val (.int p6), .val (.int av1), .val (.int rv1), .val (.int j4_0), .val (.int j4_1), .val (.ref j9_0), .val (.ref j15_0), .val (.ref b20), .val (.ref b22), .val (.int (0 : Int32))] [])) _
          refine XS.aload X23.here hx rfl (hb hby at_182) rfl rfl ?_
          show Steps p.tables e below (T23.setTop (mkF m 184 #[.val (.int p1), .val (.int p2), .val (.int p3), .val (.int p4), .val (.int p5), .val (.int p6), .val (.int av1), .val (.int rv1), .val (.int j4_0), .val (.int j4_1), .val (.ref j9_0), .val (.ref j15_0), .val (.ref b20), .val (.ref b22), .val (.int (0 : Int32))] [(.ref b20)])) _
          refine XS.aload X23.here hx rfl (hb hby at_184) rfl rfl ?_
          exact k
        have hL35 : ¬ ((0 : Int32) < (lcmpW ((rv1.toInt64) * (j4_0.toInt64)) ((j4_1.toInt64) * (av1.toInt64)))) := fun q => hc172_6 ((own_cmp hc143_4 hr_rv1 ha_av1 hpj).mp q).2
        obtain ⟨cq36, kq36, q36a, q36b, q36c⟩ := isOf hZ rfl ((Fq21_0.ext E22).keep K23q)
        obtain ⟨_, _, ⟨T36, L36, k36, n36⟩, -, X36, ⟨Lc36, hQ36, l36, y36, z36⟩, st36⟩ := X23.virtualBack hx (y := (⟨"com/example/cotejo/cotejo/optimize/OptimalQuery", "isBetterThan", "(Lcom/example/cotejo/cotejo/optimize/OptimalQuery;)Z"⟩ : MethodName)) (z := (⟨"com/example/cotejo/cotejo/optimize/OptimalQuery", "isBetterThan", "(Lcom/example/cotejo/cotejo/optimize/OptimalQuery;)Z"⟩ : MethodName)) hown (mvT hZ (hw _ (List.mem_of_getElem? (i := 28) rfl))) (mvT hZ (hw _ (List.mem_of_getElem? (i := 29) rfl))) (notFace_of_selects (args := #[]) (mvT hZ (hw _ (List.mem_of_getElem? (i := 31) rfl)))) (mvT hZ (hw _ (List.mem_of_getElem? (i := 31) rfl))) (mvT hZ (hw _ (List.mem_of_getElem? (i := 30) rfl))) (by decide) (backOf (W := 0) (rm4_1 l Z a0 hw [] b20 b22 av1 rv1 j4_0 j4_1 T23.heap n0 (Nat.le_trans Z0 K23.1) cf27 Fq23_4 hc143_4 Fq23_3 cf26 hL35) hZ (hw _ (List.mem_of_getElem? (i := 32) rfl)) (hw _ (List.mem_of_getElem? (i := 13) rfl)) (by decide) (by decide)) q36a q36c (g := (mkF m 186 #[.val (.int p1), .val (.int p2), .val (.int p3), .val (.int p4), .val (.int p5), .val (.int p6), .val (.int av1), .val (.int rv1), .val (.int j4_0), .val (.int j4_1), .val (.ref j9_0), .val (.ref j15_0), .val (.ref b20), .val (.ref b22), .val (.int (0 : Int32))] [(.ref b22), (.ref b20)])) rfl (by rw [hml]; rfl) (Steps.refl _) (argsL := [(.ref b22)]) (rest := []) (lenOf pd_2 rfl) rfl (by show 2 * 0 + _ ≤ _; exact Nat.le_of_eq rfl) (hb hby at_186) (fun _ _ => ⟨rfl, rfl, (by decide : 2 + 0 ≤ _), (by decide : 8 + 0 ≤ _)⟩)
        dsimp only [Pt.U, Pt.locs, Pt.cells, Pt.slots] at X36 l36 y36 z36 st36 hQ36
        subst l36 y36 z36
        obtain ⟨rfl, N36q, e36⟩ := hQ36
        have N36 := Fr.app N23 N36q
        obtain ⟨fs, hr, hrun, hended, hW, hsame⟩ := X36.leave (v := some (.int (1 : Int32))) (fun h => by rw [Bd.returns] at h; cases h)
        refine ⟨_, _, k34 _ ?_, hrun, hended, _, _, rfl, ?_, ⟨_, rfl⟩, hW, hsame.mono (by decide) (by decide)⟩
        ·
          show Steps p.tables e below (T23.setTop (mkF m 186 #[.val (.int p1), .val (.int p2), .val (.int p3), .val (.int p4), .val (.int p5), .val (.int p6), .val (.int av1), .val (.int rv1), .val (.int j4_0), .val (.int j4_1), .val (.ref j9_0), .val (.ref j15_0), .val (.ref b20), .val (.ref b22), .val (.int (0 : Int32))] [(.ref b22), (.ref b20)])) _
          refine st36.trans ?_
          show Steps p.tables e below (T36.setTop (mkF m 189 #[.val (.int p1), .val (.int p2), .val (.int p3), .val (.int p4), .val (.int p5), .val (.int p6), .val (.int av1), .val (.int rv1), .val (.int j4_0), .val (.int j4_1), .val (.ref j9_0), .val (.ref j15_0), .val (.ref b20), .val (.ref b22), .val (.int (0 : Int32))] [(.int (0 : Int32))])) _
          refine XS.iload X36.here hx rfl (hb hby at_189) rfl ?_
          show Steps p.tables e below (T36.setTop (mkF m 191 #[.val (.int p1), .val (.int p2), .val (.int p3), .val (.int p4), .val (.int p5), .val (.int p6), .val (.int av1), .val (.int rv1), .val (.int j4_0), .val (.int j4_1), .val (.ref j9_0), .val (.ref j15_0), .val (.ref b20), .val (.ref b22), .val (.int (0 : Int32))] [(.int (0 : Int32)), (.int (0 : Int32))])) _
          refine XS.icmpNo X36.here hx rfl (hb hby at_191) rfl (teq (by decide : (0 : Int32) = (0 : Int32))).2 ?_
          show Steps p.tables e below (T36.setTop (mkF m 194 #[.val (.int p1), .val (.int p2), .val (.int p3), .val (.int p4), .val (.int p5), .val (.int p6), .val (.int av1), .val (.int rv1), .val (.int j4_0), .val (.int j4_1), .val (.ref j9_0), .val (.ref j15_0), .val (.ref b20), .val (.ref b22), .val (.int (0 : Int32))] [])) _
          refine XS.iconst X36.here hx rfl (hb hby at_194) ?_
          show Steps p.tables e below (T36.setTop (mkF m 195 #[.val (.int p1), .val (.int p2), .val (.int p3), .val (.int p4), .val (.int p5), .val (.int p6), .val (.int av1), .val (.int rv1), .val (.int j4_0), .val (.int j4_1), .val (.ref j9_0), .val (.ref j15_0), .val (.ref b20), .val (.ref b22), .val (.int (0 : Int32))] [(.int (1 : Int32))])) _
          refine XS.goto X36.here hx rfl (pc0 := 195) (pc' := 199) rfl (hb hby at_195) (by decide) (by decide) ?_
          show Steps p.tables e below (T36.setTop (mkF m 199 #[.val (.int p1), .val (.int p2), .val (.int p3), .val (.int p4), .val (.int p5), .val (.int p6), .val (.int av1), .val (.int rv1), .val (.int j4_0), .val (.int j4_1), .val (.ref j9_0), .val (.ref j15_0), .val (.ref b20), .val (.ref b22), .val (.int (0 : Int32))] [(.int (1 : Int32))])) _
          exact retN X36 hx (t := .boolean) Bd.returns (by simp) (hb hby at_199) hr
        · show Q0_0 Z p1 p2 p3 p4 p5 p6 w_LARGEST w_PRECISION h0 n0 _ T36.heap _
          rw [e36]
          exact ⟨rfl, N36⟩
    ·
      have k37 : ∀ t, Steps p.tables e below (T23.setTop (mkF m 186 #[.val (.int p1), .val (.int p2), .val (.int p3), .val (.int p4), .val (.int p5), .val (.int p6), .val (.int av1), .val (.int rv1), .val (.int j4_0), .val (.int j4_1), .val (.ref j9_0), .val (.ref j15_0), .val (.ref b20), .val (.ref b22), .val (.int (0 : Int32))] [(.ref b22), (.ref b20)])) t → Steps p.tables e below (s₁.setTop (entryFrame m #[(.int p1), (.int p2), (.int p3), (.int p4), (.int p5), (.int p6)] maxLocals)) t := by
        intro t k
        refine k29 t ?_
        show Steps p.tables e below (T23.setTop (mkF m 165 #[.val (.int p1), .val (.int p2), .val (.int p3), .val (.int p4), .val (.int p5), .val (.int p6), .val (.int av1), .val (.int rv1), .val (.int j4_0), .val (.int j4_1), .val (.ref j9_0), .val (.ref j15_0), .val (.ref b20), .val (.ref b22), .unset] [(.int rv1)])) _
        refine XS.ifYes X23.here hx rfl (pc0 := 165) (pc' := 179) rfl (hb hby at_165) rfl ((if0 _ _).trans (flt hc165_5).2.2.2) (by decide) (by decide) ?_
        show Steps p.tables e below (T23.setTop (mkF m 179 #[.val (.int p1), .val (.int p2), .val (.int p3), .val (.int p4), .val (.int p5), .val (.int p6), .val (.int av1), .val (.int rv1), .val (.int j4_0), .val (.int j4_1), .val (.ref j9_0), .val (.ref j15_0), .val (.ref b20), .val (.ref b22), .unset] [])) _
        refine XS.iconst X23.here hx rfl (hb hby at_179) ?_
        show Steps p.tables e below (T23.setTop (mkF m 180 #[.val (.int p1), .val (.int p2), .val (.int p3), .val (.int p4), .val (.int p5), .val (.int p6), .val (.int av1), .val (.int rv1), .val (.int j4_0), .val (.int j4_1), .val (.ref j9_0), .val (.ref j15_0), .val (.ref b20), .val (.ref b22), .unset] [(.int (0 : Int32))])) _
        refine XS.istore X23.here hx rfl (hb hby at_180) rfl (l' := #[.val (.int p1), .val (.int p2), .val (.int p3), .val (.int p4), .val (.int p5), .val (.int p6), .val (.int av1), .val (.int rv1), .val (.int j4_0), .val (.int j4_1), .val (.ref j9_0), .val (.ref j15_0), .val (.ref b20), .val (.ref b22), .val (.int (0 : Int32))]) rfl ?_
        show Steps p.tables e below (T23.setTop (mkF m 182 #[.val (.int p1), .val (.int p2), .val (.int p3), .val (.int p4), .val (.int p5), .val (.int p6), .val (.int av1), .val (.int rv1), .val (.int j4_0), .val (.int j4_1), .val (.ref j9_0), .val (.ref j15_0), .val (.ref b20), .val (.ref b22), .val (.int (0 : Int32))] [])) _
        refine XS.aload X23.here hx rfl (hb hby at_182) rfl rfl ?_
        show Steps p.tables e below (T23.setTop (mkF m 184 #[.val (.int p1), .val (.int p2), .val (.int p3), .val (.int p4), .val (.int p5), .val (.int p6), .val (.int av1), .val (.int rv1), .val (.int j4_0), .val (.int j4_1), .val (.ref j9_0), .val (.ref j15_0), .val (.ref b20), .val (.ref b22), .val (.int (0 : Int32))] [(.ref b20)])) _
        refine XS.aload X23.here hx rfl (hb hby at_184) rfl rfl ?_
        exact k
      have hL38 : ¬ ((0 : Int32) < (lcmpW ((rv1.toInt64) * (j4_0.toInt64)) ((j4_1.toInt64) * (av1.toInt64)))) := fun q => hc165_5 ((own_cmp hc143_4 hr_rv1 ha_av1 hpj).mp q).1
      obtain ⟨cq39, kq39, q39a, q39b, q39c⟩ := isOf hZ rfl ((Fq21_0.ext E22).keep K23q)
      obtain ⟨_, _, ⟨T39, L39, k39, n39⟩, -, X39, ⟨Lc39, hQ39, l39, y39, z39⟩, st39⟩ := X23.virtualBack hx (y := (⟨"com/example/cotejo/cotejo/optimize/OptimalQuery", "isBetterThan", "(Lcom/example/cotejo/cotejo/optimize/OptimalQuery;)Z"⟩ : MethodName)) (z := (⟨"com/example/cotejo/cotejo/optimize/OptimalQuery", "isBetterThan", "(Lcom/example/cotejo/cotejo/optimize/OptimalQuery;)Z"⟩ : MethodName)) hown (mvT hZ (hw _ (List.mem_of_getElem? (i := 28) rfl))) (mvT hZ (hw _ (List.mem_of_getElem? (i := 29) rfl))) (notFace_of_selects (args := #[]) (mvT hZ (hw _ (List.mem_of_getElem? (i := 31) rfl)))) (mvT hZ (hw _ (List.mem_of_getElem? (i := 31) rfl))) (mvT hZ (hw _ (List.mem_of_getElem? (i := 30) rfl))) (by decide) (backOf (W := 0) (rm4_1 l Z a0 hw [] b20 b22 av1 rv1 j4_0 j4_1 T23.heap n0 (Nat.le_trans Z0 K23.1) cf27 Fq23_4 hc143_4 Fq23_3 cf26 hL38) hZ (hw _ (List.mem_of_getElem? (i := 32) rfl)) (hw _ (List.mem_of_getElem? (i := 13) rfl)) (by decide) (by decide)) q39a q39c (g := (mkF m 186 #[.val (.int p1), .val (.int p2), .val (.int p3), .val (.int p4), .val (.int p5), .val (.int p6), .val (.int av1), .val (.int rv1), .val (.int j4_0), .val (.int j4_1), .val (.ref j9_0), .val (.ref j15_0), .val (.ref b20), .val (.ref b22), .val (.int (0 : Int32))] [(.ref b22), (.ref b20)])) rfl (by rw [hml]; rfl) (Steps.refl _) (argsL := [(.ref b22)]) (rest := []) (lenOf pd_2 rfl) rfl (by show 2 * 0 + _ ≤ _; exact Nat.le_of_eq rfl) (hb hby at_186) (fun _ _ => ⟨rfl, rfl, (by decide : 2 + 0 ≤ _), (by decide : 8 + 0 ≤ _)⟩)
      dsimp only [Pt.U, Pt.locs, Pt.cells, Pt.slots] at X39 l39 y39 z39 st39 hQ39
      subst l39 y39 z39
      obtain ⟨rfl, N39q, e39⟩ := hQ39
      have N39 := Fr.app N23 N39q
      obtain ⟨fs, hr, hrun, hended, hW, hsame⟩ := X39.leave (v := some (.int (1 : Int32))) (fun h => by rw [Bd.returns] at h; cases h)
      refine ⟨_, _, k37 _ ?_, hrun, hended, _, _, rfl, ?_, ⟨_, rfl⟩, hW, hsame.mono (by decide) (by decide)⟩
      ·
        show Steps p.tables e below (T23.setTop (mkF m 186 #[.val (.int p1), .val (.int p2), .val (.int p3), .val (.int p4), .val (.int p5), .val (.int p6), .val (.int av1), .val (.int rv1), .val (.int j4_0), .val (.int j4_1), .val (.ref j9_0), .val (.ref j15_0), .val (.ref b20), .val (.ref b22), .val (.int (0 : Int32))] [(.ref b22), (.ref b20)])) _
        refine st39.trans ?_
        show Steps p.tables e below (T39.setTop (mkF m 189 #[.val (.int p1), .val (.int p2), .val (.int p3), .val (.int p4), .val (.int p5), .val (.int p6), .val (.int av1), .val (.int rv1), .val (.int j4_0), .val (.int j4_1), .val (.ref j9_0), .val (.ref j15_0), .val (.ref b20), .val (.ref b22), .val (.int (0 : Int32))] [(.int (0 : Int32))])) _
        refine XS.iload X39.here hx rfl (hb hby at_189) rfl ?_
        show Steps p.tables e below (T39.setTop (mkF m 191 #[.val (.int p1), .val (.int p2), .val (.int p3), .val (.int p4), .val (.int p5), .val (.int p6), .val (.int av1), .val (.int rv1), .val (.int j4_0), .val (.int j4_1), .val (.ref j9_0), .val (.ref j15_0), .val (.ref b20), .val (.ref b22), .val (.int (0 : Int32))] [(.int (0 : Int32)), (.int (0 : Int32))])) _
        refine XS.icmpNo X39.here hx rfl (hb hby at_191) rfl (teq (by decide : (0 : Int32) = (0 : Int32))).2 ?_
        show Steps p.tables e below (T39.setTop (mkF m 194 #[.val (.int p1), .val (.int p2), .val (.int p3), .val (.int p4), .val (.int p5), .val (.int p6), .val (.int av1), .val (.int rv1), .val (.int j4_0), .val (.int j4_1), .val (.ref j9_0), .val (.ref j15_0), .val (.ref b20), .val (.ref b22), .val (.int (0 : Int32))] [])) _
        refine XS.iconst X39.here hx rfl (hb hby at_194) ?_
        show Steps p.tables e below (T39.setTop (mkF m 195 #[.val (.int p1), .val (.int p2), .val (.int p3), .val (.int p4), .val (.int p5), .val (.int p6), .val (.int av1), .val (.int rv1), .val (.int j4_0), .val (.int j4_1), .val (.ref j9_0), .val (.ref j15_0), .val (.ref b20), .val (.ref b22), .val (.int (0 : Int32))] [(.int (1 : Int32))])) _
        refine XS.goto X39.here hx rfl (pc0 := 195) (pc' := 199) rfl (hb hby at_195) (by decide) (by decide) ?_
        show Steps p.tables e below (T39.setTop (mkF m 199 #[.val (.int p1), .val (.int p2), .val (.int p3), .val (.int p4), .val (.int p5), .val (.int p6), .val (.int av1), .val (.int rv1), .val (.int j4_0), .val (.int j4_1), .val (.ref j9_0), .val (.ref j15_0), .val (.ref b20), .val (.ref b22), .val (.int (0 : Int32))] [(.int (1 : Int32))])) _
        exact retN X39 hx (t := .boolean) Bd.returns (by simp) (hb hby at_199) hr
      · show Q0_0 Z p1 p2 p3 p4 p5 p6 w_LARGEST w_PRECISION h0 n0 _ T39.heap _
        rw [e39]
        exact ⟨rfl, N39⟩
  ·
    have k40 : ∀ t, Steps p.tables e below (T23.setTop (mkF m 150 #[.val (.int p1), .val (.int p2), .val (.int p3), .val (.int p4), .val (.int p5), .val (.int p6), .val (.int av1), .val (.int rv1), .val (.int j4_0), .val (.int j4_1), .val (.ref j9_0), .val (.ref j15_0), .val (.ref b20), .val (.ref b22), .unset] [(.int j4_1), (.int rv1)])) t → Steps p.tables e below (s₁.setTop (entryFrame m #[(.int p1), (.int p2), (.int p3), (.int p4), (.int p5), (.int p6)] maxLocals)) t := by
      intro t k
      refine k28 t ?_
      show Steps p.tables e below (T23.setTop (mkF m 143 #[.val (.int p1), .val (.int p2), .val (.int p3), .val (.int p4), .val (.int p5), .val (.int p6), .val (.int av1), .val (.int rv1), .val (.int j4_0), .val (.int j4_1), .val (.ref j9_0), .val (.ref j15_0), .val (.ref b20), .val (.ref b22), .unset] [(.int j4_1), (.int rv1)])) _
      refine XS.icmpNo X23.here hx rfl (hb hby at_143) rfl (feq hc143_4).1 ?_
      show Steps p.tables e below (T23.setTop (mkF m 146 #[.val (.int p1), .val (.int p2), .val (.int p3), .val (.int p4), .val (.int p5), .val (.int p6), .val (.int av1), .val (.int rv1), .val (.int j4_0), .val (.int j4_1), .val (.ref j9_0), .val (.ref j15_0), .val (.ref b20), .val (.ref b22), .unset] [])) _
      refine XS.iload X23.here hx rfl (hb hby at_146) rfl ?_
      show Steps p.tables e below (T23.setTop (mkF m 148 #[.val (.int p1), .val (.int p2), .val (.int p3), .val (.int p4), .val (.int p5), .val (.int p6), .val (.int av1), .val (.int rv1), .val (.int j4_0), .val (.int j4_1), .val (.ref j9_0), .val (.ref j15_0), .val (.ref b20), .val (.ref b22), .unset] [(.int rv1)])) _
      refine XS.iload X23.here hx rfl (hb hby at_148) rfl ?_
      exact k
    by_cases hc150_7 : j4_1 < rv1
    ·
      obtain ⟨cq41, kq41, q41a, q41b, q41c⟩ := isOf hZ rfl ((Fq21_0.ext E22).keep K23q)
      obtain ⟨_, _, ⟨T41, L41, k41, n41⟩, -, X41, ⟨Lc41, hQ41, l41, y41, z41⟩, st41⟩ := X23.virtualBack hx (y := (⟨"com/example/cotejo/cotejo/optimize/OptimalQuery", "isBetterThan", "(Lcom/example/cotejo/cotejo/optimize/OptimalQuery;)Z"⟩ : MethodName)) (z := (⟨"com/example/cotejo/cotejo/optimize/OptimalQuery", "isBetterThan", "(Lcom/example/cotejo/cotejo/optimize/OptimalQuery;)Z"⟩ : MethodName)) hown (mvT hZ (hw _ (List.mem_of_getElem? (i := 28) rfl))) (mvT hZ (hw _ (List.mem_of_getElem? (i := 29) rfl))) (notFace_of_selects (args := #[]) (mvT hZ (hw _ (List.mem_of_getElem? (i := 31) rfl)))) (mvT hZ (hw _ (List.mem_of_getElem? (i := 31) rfl))) (mvT hZ (hw _ (List.mem_of_getElem? (i := 30) rfl))) (by decide) (backOf (W := 0) (rm4_2 l Z a0 hw [] b20 b22 rv1 j4_1 T23.heap n0 (Nat.le_trans Z0 K23.1) cf27 Fq23_4 hc143_4 hc150_7) hZ (hw _ (List.mem_of_getElem? (i := 32) rfl)) (hw _ (List.mem_of_getElem? (i := 13) rfl)) (by decide) (by decide)) q41a q41c (g := (mkF m 186 #[.val (.int p1), .val (.int p2), .val (.int p3), .val (.int p4), .val (.int p5), .val (.int p6), .val (.int av1), .val (.int rv1), .val (.int j4_0), .val (.int j4_1), .val (.ref j9_0), .val (.ref j15_0), .val (.ref b20), .val (.ref b22), .val (.int (1 : Int32))] [(.ref b22), (.ref b20)])) rfl (by rw [hml]; rfl) (Steps.refl _) (argsL := [(.ref b22)]) (rest := []) (lenOf pd_2 rfl) rfl (by show 2 * 0 + _ ≤ _; exact Nat.le_of_eq rfl) (hb hby at_186) (fun _ _ => ⟨rfl, rfl, (by decide : 2 + 0 ≤ _), (by decide : 8 + 0 ≤ _)⟩)
      dsimp only [Pt.U, Pt.locs, Pt.cells, Pt.slots] at X41 l41 y41 z41 st41 hQ41
      subst l41 y41 z41
      obtain ⟨rfl, N41q, e41⟩ := hQ41
      have N41 := Fr.app N23 N41q
      obtain ⟨fs, hr, hrun, hended, hW, hsame⟩ := X41.leave (v := some (.int (1 : Int32))) (fun h => by rw [Bd.returns] at h; cases h)
      refine ⟨_, _, k40 _ ?_, hrun, hended, _, _, rfl, ?_, ⟨_, rfl⟩, hW, hsame.mono (by decide) (by decide)⟩
      ·
        show Steps p.tables e below (T23.setTop (mkF m 150 #[.val (.int p1), .val (.int p2), .val (.int p3), .val (.int p4), .val (.int p5), .val (.int p6), .val (.int av1), .val (.int rv1), .val (.int j4_0), .val (.int j4_1), .val (.ref j9_0), .val (.ref j15_0), .val (.ref b20), .val (.ref b22), .unset] [(.int j4_1), (.int rv1)])) _
        refine XS.icmpNo X23.here hx rfl (hb hby at_150) rfl (tlt hc150_7).2.2.2 ?_
        show Steps p.tables e below (T23.setTop (mkF m 153 #[.val (.int p1), .val (.int p2), .val (.int p3), .val (.int p4), .val (.int p5), .val (.int p6), .val (.int av1), .val (.int rv1), .val (.int j4_0), .val (.int j4_1), .val (.ref j9_0), .val (.ref j15_0), .val (.ref b20), .val (.ref b22), .unset] [])) _
        refine XS.iconst X23.here hx rfl (hb hby at_153) ?_
        show Steps p.tables e below (T23.setTop (mkF m 154 #[.val (.int p1), .val (.int p2), .val (.int p3), .val (.int p4), .val (.int p5), .val (.int p6), .val (.int av1), .val (.int rv1), .val (.int j4_0), .val (.int j4_1), .val (.ref j9_0), .val (.ref j15_0), .val (.ref b20), .val (.ref b22), .unset] [(.int (1 : Int32))])) _
        refine XS.goto X23.here hx rfl (pc0 := 154) (pc' := 158) rfl (hb hby at_154) (by decide) (by decide) ?_
        show Steps p.tables e below (T23.setTop (mkF m 158 #[.val (.int p1), .val (.int p2), .val (.int p3), .val (.int p4), .val (.int p5), .val (.int p6), .val (.int av1), .val (.int rv1), .val (.int j4_0), .val (.int j4_1), .val (.ref j9_0), .val (.ref j15_0), .val (.ref b20), .val (.ref b22), .unset] [(.int (1 : Int32))])) _
        refine XS.istore X23.here hx rfl (hb hby at_158) rfl (l' := #[.val (.int p1), .val (.int p2), .val (.int p3), .val (.int p4), .val (.int p5), .val (.int p6), .val (.int av1), .val (.int rv1), .val (.int j4_0), .val (.int j4_1), .val (.ref j9_0), .val (.ref j15_0), .val (.ref b20), .val (.ref b22), .val (.int (1 : Int32))]) rfl ?_
        show Steps p.tables e below (T23.setTop (mkF m 160 #[.val (.int p1), .val (.int p2), .val (.int p3), .val (.int p4), .val (.int p5), .val (.int p6), .val (.int av1), .val (.int rv1), .val (.int j4_0), .val (.int j4_1), .val (.ref j9_0), .val (.ref j15_0), .val (.ref b20), .val (.ref b22), .val (.int (1 : Int32))] [])) _
        refine XS.goto X23.here hx rfl (pc0 := 160) (pc' := 182) rfl (hb hby at_160) (by decide) (by decide) ?_
        show Steps p.tables e below (T23.setTop (mkF m 182 #[.val (.int p1), .val (.int p2), .val (.int p3), .val (.int p4), .val (.int p5), .val (.int p6), .val (.int av1), .val (.int rv1), .val (.int j4_0), .val (.int j4_1), .val (.ref j9_0), .val (.ref j15_0), .val (.ref b20), .val (.ref b22), .val (.int (1 : Int32))] [])) _
        refine XS.aload X23.here hx rfl (hb hby at_182) rfl rfl ?_
        show Steps p.tables e below (T23.setTop (mkF m 184 #[.val (.int p1), .val (.int p2), .val (.int p3), .val (.int p4), .val (.int p5), .val (.int p6), .val (.int av1), .val (.int rv1), .val (.int j4_0), .val (.int j4_1), .val (.ref j9_0), .val (.ref j15_0), .val (.ref b20), .val (.ref b22), .val (.int (1 : Int32))] [(.ref b20)])) _
        refine XS.aload X23.here hx rfl (hb hby at_184) rfl rfl ?_
        show Steps p.tables e below (T23.setTop (mkF m 186 #[.val (.int p1), .val (.int p2), .val (.int p3), .val (.int p4), .val (.int p5), .val (.int p6), .val (.int av1), .val (.int rv1), .val (.int j4_0), .val (.int j4_1), .val (.ref j9_0), .val (.ref j15_0), .val (.ref b20), .val (.ref b22), .val (.int (1 : Int32))] [(.ref b22), (.ref b20)])) _
        refine st41.trans ?_
        show Steps p.tables e below (T41.setTop (mkF m 189 #[.val (.int p1), .val (.int p2), .val (.int p3), .val (.int p4), .val (.int p5), .val (.int p6), .val (.int av1), .val (.int rv1), .val (.int j4_0), .val (.int j4_1), .val (.ref j9_0), .val (.ref j15_0), .val (.ref b20), .val (.ref b22), .val (.int (1 : Int32))] [(.int (1 : Int32))])) _
        refine XS.iload X41.here hx rfl (hb hby at_189) rfl ?_
        show Steps p.tables e below (T41.setTop (mkF m 191 #[.val (.int p1), .val (.int p2), .val (.int p3), .val (.int p4), .val (.int p5), .val (.int p6), .val (.int av1), .val (.int rv1), .val (.int j4_0), .val (.int j4_1), .val (.ref j9_0), .val (.ref j15_0), .val (.ref b20), .val (.ref b22), .val (.int (1 : Int32))] [(.int (1 : Int32)), (.int (1 : Int32))])) _
        refine XS.icmpNo X41.here hx rfl (hb hby at_191) rfl (teq (by decide : (1 : Int32) = (1 : Int32))).2 ?_
        show Steps p.tables e below (T41.setTop (mkF m 194 #[.val (.int p1), .val (.int p2), .val (.int p3), .val (.int p4), .val (.int p5), .val (.int p6), .val (.int av1), .val (.int rv1), .val (.int j4_0), .val (.int j4_1), .val (.ref j9_0), .val (.ref j15_0), .val (.ref b20), .val (.ref b22), .val (.int (1 : Int32))] [])) _
        refine XS.iconst X41.here hx rfl (hb hby at_194) ?_
        show Steps p.tables e below (T41.setTop (mkF m 195 #[.val (.int p1), .val (.int p2), .val (.int p3), .val (.int p4), .val (.int p5), .val (.int p6), .val (.int av1), .val (.int rv1), .val (.int j4_0), .val (.int j4_1), .val (.ref j9_0), .val (.ref j15_0), .val (.ref b20), .val (.ref b22), .val (.int (1 : Int32))] [(.int (1 : Int32))])) _
        refine XS.goto X41.here hx rfl (pc0 := 195) (pc' := 199) rfl (hb hby at_195) (by decide) (by decide) ?_
        show Steps p.tables e below (T41.setTop (mkF m 199 #[.val (.int p1), .val (.int p2), .val (.int p3), .val (.int p4), .val (.int p5), .val (.int p6), .val (.int av1), .val (.int rv1), .val (.int j4_0), .val (.int j4_1), .val (.ref j9_0), .val (.ref j15_0), .val (.ref b20), .val (.ref b22), .val (.int (1 : Int32))] [(.int (1 : Int32))])) _
        exact retN X41 hx (t := .boolean) Bd.returns (by simp) (hb hby at_199) hr
      · show Q0_0 Z p1 p2 p3 p4 p5 p6 w_LARGEST w_PRECISION h0 n0 _ T41.heap _
        rw [e41]
        exact ⟨rfl, N41⟩
    ·
      obtain ⟨cq42, kq42, q42a, q42b, q42c⟩ := isOf hZ rfl ((Fq21_0.ext E22).keep K23q)
      obtain ⟨_, _, ⟨T42, L42, k42, n42⟩, -, X42, ⟨Lc42, hQ42, l42, y42, z42⟩, st42⟩ := X23.virtualBack hx (y := (⟨"com/example/cotejo/cotejo/optimize/OptimalQuery", "isBetterThan", "(Lcom/example/cotejo/cotejo/optimize/OptimalQuery;)Z"⟩ : MethodName)) (z := (⟨"com/example/cotejo/cotejo/optimize/OptimalQuery", "isBetterThan", "(Lcom/example/cotejo/cotejo/optimize/OptimalQuery;)Z"⟩ : MethodName)) hown (mvT hZ (hw _ (List.mem_of_getElem? (i := 28) rfl))) (mvT hZ (hw _ (List.mem_of_getElem? (i := 29) rfl))) (notFace_of_selects (args := #[]) (mvT hZ (hw _ (List.mem_of_getElem? (i := 31) rfl)))) (mvT hZ (hw _ (List.mem_of_getElem? (i := 31) rfl))) (mvT hZ (hw _ (List.mem_of_getElem? (i := 30) rfl))) (by decide) (backOf (W := 0) (rm4_3 l Z a0 hw [] b20 b22 rv1 j4_1 T23.heap n0 (Nat.le_trans Z0 K23.1) cf27 Fq23_4 hc143_4 hc150_7) hZ (hw _ (List.mem_of_getElem? (i := 32) rfl)) (hw _ (List.mem_of_getElem? (i := 13) rfl)) (by decide) (by decide)) q42a q42c (g := (mkF m 186 #[.val (.int p1), .val (.int p2), .val (.int p3), .val (.int p4), .val (.int p5), .val (.int p6), .val (.int av1), .val (.int rv1), .val (.int j4_0), .val (.int j4_1), .val (.ref j9_0), .val (.ref j15_0), .val (.ref b20), .val (.ref b22), .val (.int (0 : Int32))] [(.ref b22), (.ref b20)])) rfl (by rw [hml]; rfl) (Steps.refl _) (argsL := [(.ref b22)]) (rest := []) (lenOf pd_2 rfl) rfl (by show 2 * 0 + _ ≤ _; exact Nat.le_of_eq rfl) (hb hby at_186) (fun _ _ => ⟨rfl, rfl, (by decide : 2 + 0 ≤ _), (by decide : 8 + 0 ≤ _)⟩)
      dsimp only [Pt.U, Pt.locs, Pt.cells, Pt.slots] at X42 l42 y42 z42 st42 hQ42
      subst l42 y42 z42
      obtain ⟨rfl, N42q, e42⟩ := hQ42
      have N42 := Fr.app N23 N42q
      obtain ⟨fs, hr, hrun, hended, hW, hsame⟩ := X42.leave (v := some (.int (1 : Int32))) (fun h => by rw [Bd.returns] at h; cases h)
      refine ⟨_, _, k40 _ ?_, hrun, hended, _, _, rfl, ?_, ⟨_, rfl⟩, hW, hsame.mono (by decide) (by decide)⟩
      ·
        show Steps p.tables e below (T23.setTop (mkF m 150 #[.val (.int p1), .val (.int p2), .val (.int p3), .val (.int p4), .val (.int p5), .val (.int p6), .val (.int av1), .val (.int rv1), .val (.int j4_0), .val (.int j4_1), .val (.ref j9_0), .val (.ref j15_0), .val (.ref b20), .val (.ref b22), .unset] [(.int j4_1), (.int rv1)])) _
        refine XS.icmpYes X23.here hx rfl (pc0 := 150) (pc' := 157) rfl (hb hby at_150) rfl (flt hc150_7).2.2.2 (by decide) (by decide) ?_
        show Steps p.tables e below (T23.setTop (mkF m 157 #[.val (.int p1), .val (.int p2), .val (.int p3), .val (.int p4), .val (.int p5), .val (.int p6), .val (.int av1), .val (.int rv1), .val (.int j4_0), .val (.int j4_1), .val (.ref j9_0), .val (.ref j15_0), .val (.ref b20), .val (.ref b22), .unset] [])) _
        refine XS.iconst X23.here hx rfl (hb hby at_157) ?_
        show Steps p.tables e below (T23.setTop (mkF m 158 #[.val (.int p1), .val (.int p2), .val (.int p3), .val (.int p4), .val (.int p5), .val (.int p6), .val (.int av1), .val (.int rv1), .val (.int j4_0), .val (.int j4_1), .val (.ref j9_0), .val (.ref j15_0), .val (.ref b20), .val (.ref b22), .unset] [(.int (0 : Int32))])) _
        refine XS.istore X23.here hx rfl (hb hby at_158) rfl (l' := #[.val (.int p1), .val (.int p2), .val (.int p3), .val (.int p4), .val (.int p5), .val (.int p6), .val (.int av1), .val (.int rv1), .val (.int j4_0), .val (.int j4_1), .val (.ref j9_0), .val (.ref j15_0), .val (.ref b20), .val (.ref b22), .val (.int (0 : Int32))]) rfl ?_
        show Steps p.tables e below (T23.setTop (mkF m 160 #[.val (.int p1), .val (.int p2), .val (.int p3), .val (.int p4), .val (.int p5), .val (.int p6), .val (.int av1), .val (.int rv1), .val (.int j4_0), .val (.int j4_1), .val (.ref j9_0), .val (.ref j15_0), .val (.ref b20), .val (.ref b22), .val (.int (0 : Int32))] [])) _
        refine XS.goto X23.here hx rfl (pc0 := 160) (pc' := 182) rfl (hb hby at_160) (by decide) (by decide) ?_
        show Steps p.tables e below (T23.setTop (mkF m 182 #[.val (.int p1), .val (.int p2), .val (.int p3), .val (.int p4), .val (.int p5), .val (.int p6), .val (.int av1), .val (.int rv1), .val (.int j4_0), .val (.int j4_1), .val (.ref j9_0), .val (.ref j15_0), .val (.ref b20), .val (.ref b22), .val (.int (0 : Int32))] [])) _
        refine XS.aload X23.here hx rfl (hb hby at_182) rfl rfl ?_
        show Steps p.tables e below (T23.setTop (mkF m 184 #[.val (.int p1), .val (.int p2), .val (.int p3), .val (.int p4), .val (.int p5), .val (.int p6), .val (.int av1), .val (.int rv1), .val (.int j4_0), .val (.int j4_1), .val (.ref j9_0), .val (.ref j15_0), .val (.ref b20), .val (.ref b22), .val (.int (0 : Int32))] [(.ref b20)])) _
        refine XS.aload X23.here hx rfl (hb hby at_184) rfl rfl ?_
        show Steps p.tables e below (T23.setTop (mkF m 186 #[.val (.int p1), .val (.int p2), .val (.int p3), .val (.int p4), .val (.int p5), .val (.int p6), .val (.int av1), .val (.int rv1), .val (.int j4_0), .val (.int j4_1), .val (.ref j9_0), .val (.ref j15_0), .val (.ref b20), .val (.ref b22), .val (.int (0 : Int32))] [(.ref b22), (.ref b20)])) _
        refine st42.trans ?_
        show Steps p.tables e below (T42.setTop (mkF m 189 #[.val (.int p1), .val (.int p2), .val (.int p3), .val (.int p4), .val (.int p5), .val (.int p6), .val (.int av1), .val (.int rv1), .val (.int j4_0), .val (.int j4_1), .val (.ref j9_0), .val (.ref j15_0), .val (.ref b20), .val (.ref b22), .val (.int (0 : Int32))] [(.int (0 : Int32))])) _
        refine XS.iload X42.here hx rfl (hb hby at_189) rfl ?_
        show Steps p.tables e below (T42.setTop (mkF m 191 #[.val (.int p1), .val (.int p2), .val (.int p3), .val (.int p4), .val (.int p5), .val (.int p6), .val (.int av1), .val (.int rv1), .val (.int j4_0), .val (.int j4_1), .val (.ref j9_0), .val (.ref j15_0), .val (.ref b20), .val (.ref b22), .val (.int (0 : Int32))] [(.int (0 : Int32)), (.int (0 : Int32))])) _
        refine XS.icmpNo X42.here hx rfl (hb hby at_191) rfl (teq (by decide : (0 : Int32) = (0 : Int32))).2 ?_
        show Steps p.tables e below (T42.setTop (mkF m 194 #[.val (.int p1), .val (.int p2), .val (.int p3), .val (.int p4), .val (.int p5), .val (.int p6), .val (.int av1), .val (.int rv1), .val (.int j4_0), .val (.int j4_1), .val (.ref j9_0), .val (.ref j15_0), .val (.ref b20), .val (.ref b22), .val (.int (0 : Int32))] [])) _
        refine XS.iconst X42.here hx rfl (hb hby at_194) ?_
        show Steps p.tables e below (T42.setTop (mkF m 195 #[.val (.int p1), .val (.int p2), .val (.int p3), .val (.int p4), .val (.int p5), .val (.int p6), .val (.int av1), .val (.int rv1), .val (.int j4_0), .val (.int j4_1), .val (.ref j9_0), .val (.ref j15_0), .val (.ref b20), .val (.ref b22), .val (.int (0 : Int32))] [(.int (1 : Int32))])) _
        refine XS.goto X42.here hx rfl (pc0 := 195) (pc' := 199) rfl (hb hby at_195) (by decide) (by decide) ?_
        show Steps p.tables e below (T42.setTop (mkF m 199 #[.val (.int p1), .val (.int p2), .val (.int p3), .val (.int p4), .val (.int p5), .val (.int p6), .val (.int av1), .val (.int rv1), .val (.int j4_0), .val (.int j4_1), .val (.ref j9_0), .val (.ref j15_0), .val (.ref b20), .val (.ref b22), .val (.int (0 : Int32))] [(.int (1 : Int32))])) _
        exact retN X42 hx (t := .boolean) Bd.returns (by simp) (hb hby at_199) hr
      · show Q0_0 Z p1 p2 p3 p4 p5 p6 w_LARGEST w_PRECISION h0 n0 _ T42.heap _
        rw [e42]
        exact ⟨rfl, N42⟩
set_option maxRecDepth 65536 in
set_option maxHeartbeats 40000000 in
theorem comes_1 {Post : Tables → Env → Array Value → State → Outcome → State → Prop} (hpost : ∀ tb e args s v u, (limb_1_1.after args s (.returned v) u = true ∧ limb_1_2.after args s (.returned v) u = true ∧ True) → FrameEnd s (.returned v) u (Jvm.fieldLocs frame_1_writes args s ++ Jvm.arrayLocs frame_1_arrays args s ++ Jvm.staticLocs frame_1_statics s) 16 128 → Post tb e args s (.returned v) u) :
    ArmFor flags0 classFile x code maxLocals ret World_1 tables_1 room_1 Calls_1 rest_1 Pre_1 Post := by
  intro l hfl _ _ p e ha hc hk s m args below hf hA hF happ hP
  obtain ⟨hcalls, hrest, hpre⟩ := hP
  obtain ⟨-, -, -, hnamed, -, -, -, hat⟩ := (Spec.applies_iff hf).mp happ
  obtain ⟨hg, hn⟩ := and_e (Cond.before_iff.mp (show (Jvm.Cond.and given_1 narrow_1).before args s = true from hpre))
  obtain ⟨g1a, g1b⟩ := and_e hg
  obtain ⟨g2a, g2b⟩ := and_e g1b
  obtain ⟨g3a, g3b⟩ := and_e g2b
  obtain ⟨g4a, g4b⟩ := and_e g3b
  obtain ⟨g5a, g5b⟩ := and_e g4b
  obtain ⟨g6a, g6b⟩ := and_e g5b
  obtain ⟨a0w, a1w, a2w, a3w, a4w, a5w, rfl⟩ : ∃ a0w a1w a2w a3w a4w a5w : Value, args = #[a0w, a1w, a2w, a3w, a4w, a5w] := by
    have hs : args.size = 6 := by simpa [Cond.value, given_1] using g1a
    obtain ⟨L⟩ := args
    match L, hs with
    | [a0w, a1w, a2w, a3w, a4w, a5w], _ => exact ⟨a0w, a1w, a2w, a3w, a4w, a5w, rfl⟩
  have hw := fun d (hd : d ∈ tables_1) => atoms_spec (ws := Jvm.Cond.code x code maxLocals ret :: tables_1) hat d (List.mem_cons_of_mem _ hd)
  have hfit : Fit s := fun {y c} hc i hi => by
    obtain ⟨ha, rfl⟩ := Array.getElem?_eq_some_iff.mp hc
    have q := List.all_eq_true.mp ((Array.all_eq_true_iff_forall_mem.mp hF) _ (Array.getElem_mem ha)) i (List.mem_range.mpr hi)
    simpa [Array.getElem?_eq_getElem hi] using q
  obtain ⟨i0, ei0⟩ := is_v g2a
  obtain rfl : a0w = (.int i0) := Option.some.inj ei0
  obtain ⟨i1, ei1⟩ := is_v g3a
  obtain rfl : a1w = (.int i1) := Option.some.inj ei1
  obtain ⟨i2, ei2⟩ := is_v g4a
  obtain rfl : a2w = (.int i2) := Option.some.inj ei2
  obtain ⟨i3, ei3⟩ := is_v g5a
  obtain rfl : a3w = (.int i3) := Option.some.inj ei3
  obtain ⟨i4, ei4⟩ := is_v g6a
  obtain rfl : a4w = (.int i4) := Option.some.inj ei4
  obtain ⟨i5, ei5⟩ := is_v g6b
  obtain rfl : a5w = (.int i5) := Option.some.inj ei5
  obtain ⟨hn0, hm0⟩ := and_e hn
  obtain ⟨w_LARGEST, v_LARGEST⟩ := exa_v hn0
  have S_LARGEST := Sta.start v_LARGEST (Or.inr ⟨(hw _ (List.mem_of_getElem? (i := 7) rfl)), (hw _ (List.mem_of_getElem? (i := 8) rfl))⟩)
  have E_LARGEST := Exa.start v_LARGEST hn0
  obtain ⟨w_PRECISION, v_PRECISION⟩ := exa_v hm0
  have S_PRECISION := Sta.start v_PRECISION (Or.inr ⟨(hw _ (List.mem_of_getElem? (i := 7) rfl)), (hw _ (List.mem_of_getElem? (i := 10) rfl))⟩)
  have E_PRECISION := Exa.start v_PRECISION hm0
  obtain ⟨n, o, h1, h2, h3, _, L, rfl, ⟨rfl, N⟩, hq⟩ := rm0_0 l s _ hw tables_1 i0 i1 i2 i3 i4 i5 w_LARGEST w_PRECISION s.heap s.heap.size (Nat.le_refl _) S_PRECISION S_LARGEST p e ha hc hk s m _ below hf ((Spec.applies_iff_loose hf).mp happ).1 ⟨rfl, State.Warmed39.refl s, rfl⟩ trivial
  refine ⟨n, _, h1, h2, h3, hpost _ _ _ _ _ _ ⟨Cond.after_iff.mpr rfl, Cond.after_iff.mpr (eq_i res_at (Term.int_eval (1)) rfl), trivial⟩ ⟨hq.1, hq.2.1, (hq.2.2.sift fun y hy => Or.inr (N y hy)).mono (by decide) (by decide)⟩⟩
theorem main_1_1 : Claimed_1_1 := comes_1 fun _ _ _ _ _ _ h hF => ⟨h.1, hF⟩
theorem main_1_2 : Claimed_1_2 := comes_1 fun _ _ _ _ _ _ h hF => ⟨h.2.1, hF⟩
end Jvm.Pilot.@@N@@
namespace Jvm.Pilot.@@N@@
open Jvm Jvm.ClassFile Sem Op Lib Jvm.Free Jvm.Stand Jvm.Pilot.@@N@@.Jvm.D
/-! MADE BY PROGRAM (witnessworld.py) out of the Statement's table words and the real class files: 14 classes; the members and pool entries that the words name. The judged class is class 1, her method 1. -/
namespace start1
open Jvm.ClassFile
def u (s : String) : CpInfo := .utf8 (stringToUtf16 s)
/-- a pool by its gaps: so many unusable entries, then the entry; so many at the end -/
def gap : Nat → List CpInfo → List CpInfo
  | 0, r => r
  | n + 1, r => .unusable :: gap n r
def poolList (es : List (Nat × CpInfo)) (last : Nat) : List CpInfo := es.foldr (fun e r => gap e.1 (e.2 :: r)) (gap last [])
def pool (es : List (Nat × CpInfo)) (last : Nat) : Array CpInfo := ⟨poolList es last⟩
def fileOf (pool : Array CpInfo) (this : Nat) (attrs : Array Attribute := #[]) (ms : Array MethodInfo := #[]) (fl : Nat := 33) (sup : Nat := 0) (ifs : Array Nat := #[]) (fds : Array FieldInfo := #[]) : ClassFile where
  minorVersion := 0
  majorVersion := 65
  constantPool := pool
  accessFlags := fl
  thisClass := this
  superClass := sup
  interfaces := ifs
  fields := fds
  methods := ms
  attributes := attrs
def plain (name : String) (sup : Option ClassId) : Class where
  name := name
  kind := .ordinary
  loader := none
  accessFlags := 33
  super := sup
  interfaces := #[]
  cf := none
  fields := #[]
  methods := #[]
  instanceTypes := #[]
  staticTypes := #[]
  resolved := #[]
  callSites := []
  init := .initialized
  statics := none
  mirror := none

def pool0 : Array CpInfo := pool [(5, u "<init>"), (0, u "()V"), (1, .class_ 10), (1, u "java/lang/Object")] 113

def k0c0 : Code := { maxStack := 0, maxLocals := 1, code := object_method_1_code, exceptionTable := #[], attributes := #[] }
def k0m0 : Method := { name := "<init>", desc := "()V", sig := { parameters := [], returnType := none }, accessFlags := 1, code := some k0c0 }
/-- java/lang/Object -/
def k0 : Class := { plain "java/lang/Object" none with
  accessFlags := 33
  interfaces := #[]
  cf := some (fileOf pool0 8 #[] #[{ accessFlags := 1, nameIndex := 5, descriptorIndex := 6, attributes := #[] }] 33 0 #[] #[])
  fields := #[]
  methods := #[k0m0]
  instanceTypes := #[]
  staticTypes := #[]
  resolved := Array.replicate 124 none
  statics := none }

def pool1 : Array CpInfo := pool [(2, .class_ 4), (1, u "java/lang/Object"), (0, u "<init>"), (0, u "()V"), (0, .integer 2147483647), (0, .long 2147483647), (1, .methodref 11 12), (0, .class_ 13), (0, .nameAndType 14 15), (0, u "java/lang/Math"), (0, u "max"), (0, u "(II)I"), (0, .fieldref 17 18), (0, .class_ 19), (0, .nameAndType 20 21), (0, u "com/example/cotejo/cotejo/optimize/Mode"), (0, u "LARGEST"), (0, u "Lcom/example/cotejo/cotejo/optimize/Mode;"), (0, .fieldref 17 23), (0, .nameAndType 24 21), (0, u "PRECISION"), (0, .class_ 26), (0, u "com/example/cotejo/cotejo/optimize/OptimalQuery"), (0, .methodref 25 28), (0, .nameAndType 5 29), (0, u "(ILcom/example/cotejo/cotejo/optimize/Mode;II)V"), (0, .methodref 25 31), (0, .nameAndType 32 33), (0, u "isBetterThan"), (0, u "(Lcom/example/cotejo/cotejo/optimize/OptimalQuery;)Z"), (0, .class_ 35), (0, u "com/example/cotejo/cotejo/optimize/OptimalQueryIsBetterThanPinLaw"), (2, u "law"), (0, u "(IIIIII)Z")] 3

def k1m0 : Method := { name := "<init>", desc := "()V", sig := { parameters := [], returnType := none }, accessFlags := 1, code := none }
def k1c1 : Code := { maxStack := 6, maxLocals := 15, code := code, exceptionTable := #[], attributes := #[] }
def k1m1 : Method := { name := "law", desc := "(IIIIII)Z", sig := { parameters := [.int, .int, .int, .int, .int, .int], returnType := some .boolean }, accessFlags := 9, code := some k1c1 }
/-- com/example/cotejo/cotejo/optimize/OptimalQueryIsBetterThanPinLaw -/
def k1 : Class := { plain "com/example/cotejo/cotejo/optimize/OptimalQueryIsBetterThanPinLaw" (some 0) with
  accessFlags := 49
  interfaces := #[]
  cf := some (fileOf pool1 34 #[] #[{ accessFlags := 1, nameIndex := 5, descriptorIndex := 6, attributes := #[] }, { accessFlags := 9, nameIndex := 38, descriptorIndex := 39, attributes := #[] }] 49 2 #[] #[])
  fields := #[]
  methods := #[k1m0, k1m1]
  instanceTypes := #[]
  staticTypes := #[]
  resolved := Array.replicate 43 none
  statics := none }

def pool2 : Array CpInfo := pool [(1, .class_ 2), (0, u "java/lang/Math"), (1, .class_ 6), (1, u "java/lang/Object"), (0, u "<init>"), (0, u "()V"), (89, .class_ 100), (1, u "java/lang/Math$RandomNumberGeneratorHolder"), (71, u "negativeZeroFloatBits"), (0, u "J"), (2, u "negativeZeroDoubleBits"), (21, u "max"), (46, u "$assertionsDisabled"), (0, u "Z"), (88, u "(II)I"), (2, u "twoToTheDoubleScaleDown"), (0, u "D"), (4, u "twoToTheDoubleScaleUp"), (9, u "E"), (3, u "PI"), (2, u "TAU"), (2, u "DEGREES_TO_RADIANS"), (0, u "RADIANS_TO_DEGREES")] 94

def k2m0 : Method := { name := "<init>", desc := "()V", sig := { parameters := [], returnType := none }, accessFlags := 2, code := none }
def k2c1 : Code := { maxStack := 2, maxLocals := 2, code := jdk_29_method_65_code, exceptionTable := #[], attributes := #[] }
def k2m1 : Method := { name := "max", desc := "(II)I", sig := { parameters := [.int, .int], returnType := some .int }, accessFlags := 9, code := some k2c1 }
/-- java/lang/Math -/
def k2 : Class := { plain "java/lang/Math" (some 0) with
  accessFlags := 49
  interfaces := #[]
  cf := some (fileOf pool2 1 #[.nestMembers #[98]] #[{ accessFlags := 2, nameIndex := 7, descriptorIndex := 8, attributes := #[] }, { accessFlags := 9, nameIndex := 198, descriptorIndex := 335, attributes := #[] }] 49 4 #[] #[{ accessFlags := 25, nameIndex := 354, descriptorIndex := 339, attributes := #[] }, { accessFlags := 25, nameIndex := 358, descriptorIndex := 339, attributes := #[] }, { accessFlags := 25, nameIndex := 361, descriptorIndex := 339, attributes := #[] }, { accessFlags := 26, nameIndex := 364, descriptorIndex := 339, attributes := #[] }, { accessFlags := 26, nameIndex := 365, descriptorIndex := 339, attributes := #[] }, { accessFlags := 26, nameIndex := 172, descriptorIndex := 173, attributes := #[] }, { accessFlags := 26, nameIndex := 176, descriptorIndex := 173, attributes := #[] }, { accessFlags := 8, nameIndex := 344, descriptorIndex := 339, attributes := #[] }, { accessFlags := 8, nameIndex := 338, descriptorIndex := 339, attributes := #[] }, { accessFlags := 4120, nameIndex := 245, descriptorIndex := 246, attributes := #[] }])
  fields := #[{ name := "E", type := .double, accessFlags := 25, slot := 0, constantValue := 0 }, { name := "PI", type := .double, accessFlags := 25, slot := 1, constantValue := 0 }, { name := "TAU", type := .double, accessFlags := 25, slot := 2, constantValue := 0 }, { name := "DEGREES_TO_RADIANS", type := .double, accessFlags := 26, slot := 3, constantValue := 0 }, { name := "RADIANS_TO_DEGREES", type := .double, accessFlags := 26, slot := 4, constantValue := 0 }, { name := "negativeZeroFloatBits", type := .long, accessFlags := 26, slot := 5, constantValue := 0 }, { name := "negativeZeroDoubleBits", type := .long, accessFlags := 26, slot := 6, constantValue := 0 }, { name := "twoToTheDoubleScaleUp", type := .double, accessFlags := 8, slot := 7, constantValue := 0 }, { name := "twoToTheDoubleScaleDown", type := .double, accessFlags := 8, slot := 8, constantValue := 0 }, { name := "$assertionsDisabled", type := .boolean, accessFlags := 4120, slot := 9, constantValue := 0 }]
  methods := #[k2m0, k2m1]
  instanceTypes := #[]
  staticTypes := #[.double, .double, .double, .double, .double, .long, .long, .double, .double, .boolean]
  resolved := Array.replicate 460 none
  statics := none }

def pool3 : Array CpInfo := pool [(1, .class_ 2), (0, u "java/lang/constant/Constable"), (0, .class_ 4), (0, u "java/lang/Object")] 6

/-- java/lang/constant/Constable -/
def k3 : Class := { plain "java/lang/constant/Constable" (some 0) with
  accessFlags := 1537
  interfaces := #[]
  cf := some (fileOf pool3 1 #[] #[] 1537 3 #[] #[])
  fields := #[]
  methods := #[]
  instanceTypes := #[]
  staticTypes := #[]
  resolved := Array.replicate 11 none
  statics := none }

def pool4 : Array CpInfo := pool [(1, .class_ 2), (0, u "java/lang/Comparable"), (0, .class_ 4), (0, u "java/lang/Object")] 7

/-- java/lang/Comparable -/
def k4 : Class := { plain "java/lang/Comparable" (some 0) with
  accessFlags := 1537
  interfaces := #[]
  cf := some (fileOf pool4 1 #[] #[] 1537 3 #[] #[])
  fields := #[]
  methods := #[]
  instanceTypes := #[]
  staticTypes := #[]
  resolved := Array.replicate 12 none
  statics := none }

def pool5 : Array CpInfo := pool [(1, .class_ 2), (0, u "java/io/Serializable"), (0, .class_ 4), (0, u "java/lang/Object")] 2

/-- java/io/Serializable -/
def k5 : Class := { plain "java/io/Serializable" (some 0) with
  accessFlags := 1537
  interfaces := #[]
  cf := some (fileOf pool5 1 #[] #[] 1537 3 #[] #[])
  fields := #[]
  methods := #[]
  instanceTypes := #[]
  staticTypes := #[]
  resolved := Array.replicate 7 none
  statics := none }

def pool6 : Array CpInfo := pool [(2, .class_ 4), (1, u "java/lang/Enum"), (0, u "name"), (0, u "Ljava/lang/String;"), (2, u "ordinal"), (0, u "I"), (1, .class_ 14), (1, u "java/lang/Object"), (4, u "hash"), (86, .class_ 108), (1, u "java/lang/Enum$EnumDesc"), (2, .class_ 112), (0, u "java/lang/constant/Constable"), (0, .class_ 114), (0, u "java/lang/Comparable"), (0, .class_ 116), (0, u "java/io/Serializable")] 87

/-- java/lang/Enum -/
def k6 : Class := { plain "java/lang/Enum" (some 0) with
  accessFlags := 1057
  interfaces := #[3, 4, 5]
  cf := some (fileOf pool6 2 #[.nestMembers #[106]] #[] 1057 12 #[111, 113, 115] #[{ accessFlags := 18, nameIndex := 5, descriptorIndex := 6, attributes := #[] }, { accessFlags := 18, nameIndex := 9, descriptorIndex := 10, attributes := #[] }, { accessFlags := 2, nameIndex := 19, descriptorIndex := 10, attributes := #[] }])
  fields := #[{ name := "name", type := (.object "java/lang/String"), accessFlags := 18, slot := 0, constantValue := 0 }, { name := "ordinal", type := .int, accessFlags := 18, slot := 1, constantValue := 0 }, { name := "hash", type := .int, accessFlags := 2, slot := 2, constantValue := 0 }]
  methods := #[]
  instanceTypes := #[(.object "java/lang/String"), .int, .int]
  staticTypes := #[]
  resolved := Array.replicate 204 none
  statics := none }

def pool7 : Array CpInfo := pool [(1, .class_ 2), (0, u "com/example/cotejo/cotejo/optimize/Mode"), (2, u "PRECISION"), (0, u "Lcom/example/cotejo/cotejo/optimize/Mode;"), (2, u "LARGEST"), (2, u "$VALUES"), (0, u "[Lcom/example/cotejo/cotejo/optimize/Mode;"), (6, .class_ 22), (1, u "java/lang/Enum")] 41

/-- com/example/cotejo/cotejo/optimize/Mode -/
def k7 : Class := { plain "com/example/cotejo/cotejo/optimize/Mode" (some 6) with
  accessFlags := 16433
  interfaces := #[]
  cf := some (fileOf pool7 1 #[] #[] 16433 20 #[] #[{ accessFlags := 16409, nameIndex := 5, descriptorIndex := 6, attributes := #[] }, { accessFlags := 16409, nameIndex := 9, descriptorIndex := 6, attributes := #[] }, { accessFlags := 4122, nameIndex := 12, descriptorIndex := 13, attributes := #[] }])
  fields := #[{ name := "PRECISION", type := (.object "com/example/cotejo/cotejo/optimize/Mode"), accessFlags := 16409, slot := 0, constantValue := 0 }, { name := "LARGEST", type := (.object "com/example/cotejo/cotejo/optimize/Mode"), accessFlags := 16409, slot := 1, constantValue := 0 }, { name := "$VALUES", type := (.array (.object "com/example/cotejo/cotejo/optimize/Mode")), accessFlags := 4122, slot := 2, constantValue := 0 }]
  methods := #[]
  instanceTypes := #[(.object "java/lang/String"), .int, .int]
  staticTypes := #[(.object "com/example/cotejo/cotejo/optimize/Mode"), (.object "com/example/cotejo/cotejo/optimize/Mode"), (.array (.object "com/example/cotejo/cotejo/optimize/Mode"))]
  resolved := Array.replicate 64 none
  statics := some 0 }

def pool8 : Array CpInfo := pool [(1, .methodref 2 3), (0, .class_ 4), (0, .nameAndType 5 6), (0, u "java/lang/Object"), (0, u "<init>"), (0, u "()V"), (0, .fieldref 8 9), (0, .class_ 10), (0, .nameAndType 11 12), (0, u "com/example/cotejo/cotejo/optimize/OptimalQuery"), (0, u "exhaustivity"), (0, u "I"), (0, .fieldref 8 14), (0, .nameAndType 15 16), (0, u "mode"), (0, u "Lcom/example/cotejo/cotejo/optimize/Mode;"), (0, .fieldref 8 18), (0, .nameAndType 19 12), (0, u "retrieved"), (0, .fieldref 8 21), (0, .nameAndType 22 12), (0, u "relevant"), (0, u "(ILcom/example/cotejo/cotejo/optimize/Mode;II)V"), (11, u "isBetterThan"), (0, u "(Lcom/example/cotejo/cotejo/optimize/OptimalQuery;)Z")] 2

def k8c0 : Code := { maxStack := 2, maxLocals := 5, code := prog_58_method_1_code, exceptionTable := #[], attributes := #[] }
def k8m0 : Method := { name := "<init>", desc := "(ILcom/example/cotejo/cotejo/optimize/Mode;II)V", sig := { parameters := [.int, (.object "com/example/cotejo/cotejo/optimize/Mode"), .int, .int], returnType := none }, accessFlags := 0, code := some k8c0 }
def k8c1 : Code := { maxStack := 6, maxLocals := 2, code := prog_58_method_7_code, exceptionTable := #[], attributes := #[] }
def k8m1 : Method := { name := "isBetterThan", desc := "(Lcom/example/cotejo/cotejo/optimize/OptimalQuery;)Z", sig := { parameters := [(.object "com/example/cotejo/cotejo/optimize/OptimalQuery")], returnType := some .boolean }, accessFlags := 0, code := some k8c1 }
/-- com/example/cotejo/cotejo/optimize/OptimalQuery -/
def k8 : Class := { plain "com/example/cotejo/cotejo/optimize/OptimalQuery" (some 0) with
  accessFlags := 33
  interfaces := #[]
  cf := some (fileOf pool8 8 #[] #[{ accessFlags := 0, nameIndex := 5, descriptorIndex := 23, attributes := #[] }, { accessFlags := 0, nameIndex := 35, descriptorIndex := 36, attributes := #[] }] 33 2 #[] #[{ accessFlags := 18, nameIndex := 11, descriptorIndex := 12, attributes := #[] }, { accessFlags := 18, nameIndex := 15, descriptorIndex := 16, attributes := #[] }, { accessFlags := 18, nameIndex := 19, descriptorIndex := 12, attributes := #[] }, { accessFlags := 18, nameIndex := 22, descriptorIndex := 12, attributes := #[] }])
  fields := #[{ name := "exhaustivity", type := .int, accessFlags := 18, slot := 0, constantValue := 0 }, { name := "mode", type := (.object "com/example/cotejo/cotejo/optimize/Mode"), accessFlags := 18, slot := 1, constantValue := 0 }, { name := "retrieved", type := .int, accessFlags := 18, slot := 2, constantValue := 0 }, { name := "relevant", type := .int, accessFlags := 18, slot := 3, constantValue := 0 }]
  methods := #[k8m0, k8m1]
  instanceTypes := #[.int, (.object "com/example/cotejo/cotejo/optimize/Mode"), .int, .int]
  staticTypes := #[]
  resolved := Array.replicate 39 none
  statics := none }

def pool9 : Array CpInfo := pool [(1, u "java/lang/Cloneable"), (0, .class_ 1), (0, u "java/lang/Object"), (0, .class_ 3)] 3

/-- java/lang/Cloneable -/
def k9 : Class := { plain "java/lang/Cloneable" (some 0) with
  accessFlags := 1537
  interfaces := #[]
  cf := some (fileOf pool9 2 #[] #[] 1537 4 #[] #[])
  fields := #[]
  methods := #[]
  instanceTypes := #[]
  staticTypes := #[]
  resolved := Array.replicate 8 none
  statics := none }

/-- the primitive byte -/
def k10 : Class := { plain "byte" none with kind := .primitive 'B', accessFlags := 0x411 }
/-- [B -/
def k11 : Class := { plain "[B" (some 0) with kind := .array 10 .byte, interfaces := #[9, 5], accessFlags := 1041 }

/-- the primitive int -/
def k12 : Class := { plain "int" none with kind := .primitive 'I', accessFlags := 0x411 }
/-- [I -/
def k13 : Class := { plain "[I" (some 0) with kind := .array 12 .int, interfaces := #[9, 5], accessFlags := 1041 }

def heap : Heap := #[{ cls := 7, slots := #[.ref 2, .ref 1, .null], vm := .statics 7 },
  { cls := 7, slots := #[.null, .int 0, .int 0], vm := .none },
  { cls := 7, slots := #[.null, .int 0, .int 0], vm := .none }]
def classes : Array Class := #[k0, k1, k2, k3, k4, k5, k6, k7, k8, k9, k10, k11, k12, k13]
def interned : List (Array UInt16 × Addr) := []
def slotsUsed : Nat := 9
def theMethod : MethodId := ⟨1, 1⟩
def args0 : Array Value := #[.int 5, .int 6, .int 7, .int 8, .int 9, .int 3]
def aboutOver (below : List Frame) : State where
  vm := { classes := classes, interned := interned.toArray }
  heap := heap
  slotsUsed := slotsUsed
  threads := #[{ frames := .invoking theMethod args0 :: below }]
def below0 : List Frame := [.native { method := ⟨0, 0⟩, args := #[] }]
def about1 : State := aboutOver below0
def p0 : Program := .bare "" "" ""
def e0 : Env := launch0.env 0 0 0
theorem w_frames : about1.frames = Frame.invoking theMethod args0 :: below0 := rfl
set_option maxRecDepth 65536 in
theorem w_args : argsFit about1.vm theMethod args0 = true := by decide +kernel
set_option maxRecDepth 65536 in
theorem w_heap : heapFits about1 = true := by decide +kernel
set_option maxRecDepth 65536 in
theorem w_runnable : about1.curStatus? = some .runnable := by decide +kernel
set_option maxRecDepth 65536 in
theorem w_alone : about1.alone = true := by decide +kernel
set_option maxRecDepth 65536 in
theorem w_named : about1.methodNamed? x = some theMethod := by decide +kernel
set_option maxRecDepth 65536 in
theorem w_hears : about1.hears theMethod below0 = true := by decide +kernel
set_option maxRecDepth 65536 in
theorem w_ripe : about1.ripe theMethod args0 below0 = true := by decide +kernel
theorem w_running : about1.status = .running := rfl
set_option maxRecDepth 65536 in
theorem w_room : about1.hasRoom e0.platform room_1 = true :=
  launch0.hasRoom_least _ room_1 (by decide +kernel) (by decide +kernel) (by decide +kernel) (by decide +kernel) (by decide +kernel) (by decide +kernel)
theorem allAtoms_all (ts : List Jvm.Cond) (a : Array Jvm.Value) (st : Jvm.State) : (allAtoms ts).before a st = ts.all (fun c => c.before a st) := by
  induction ts with
  | nil => rfl
  | cons c t ih =>
    show (Jvm.Cond.and c (allAtoms t)).before a st = _
    rw [Jvm.Cond.before_and, ih, List.all_cons]
def words1 : List Jvm.Cond := Jvm.Cond.code x code maxLocals ret :: tables_1
/-- a 'code' word, met by the world's own term for the bytes: nothing is compared byte by byte -/
theorem code_word {y : MethodName} {bytes : ByteArray} {mx : Nat} {rt : Option FieldType} {a : Array Value} {s : State} {m : MethodId} {meth : Method} {c : Code} (h1 : s.methodNamed? y = some m) (h2 : s.vm.method? m = some meth) (h3 : meth.code = some c) (h4 : c.code = bytes)
    (h5 : (c.maxLocals == mx && c.exceptionTable.isEmpty && decide (c.maxStack ≤ mostOperands) && decide (meth.sig.returnType = rt) && !meth.locks && decide (parseMethodDescriptor y.desc = some meth.sig)) = true) : (Jvm.Cond.code y bytes mx rt).before a s = true := by
  simp only [Bool.and_eq_true, beq_iff_eq, Bool.not_eq_true', decide_eq_true_eq] at h5
  obtain ⟨⟨⟨⟨⟨g1, g2⟩, g3⟩, g4⟩, g5⟩, g6⟩ := h5
  simp [Cond.before, Cond.holds, Cond.value, h1, h2, h3, h4, g1, g2, g3, g4, g5, g6]
def isCode : Jvm.Cond → Bool
  | .code _ _ _ _ => true
  | _ => false
theorem all_split {L : List Jvm.Cond} {P : Jvm.Cond → Bool} (h1 : L.all (fun c => isCode c || P c) = true) (h2 : ∀ c ∈ L.filter isCode, P c = true) : L.all P = true := by
  refine List.all_eq_true.mpr fun c hc => ?_
  have h := List.all_eq_true.mp h1 c hc
  rcases Bool.eq_false_or_eq_true (isCode c) with hi | hi
  · exact h2 c (List.mem_filter.mpr ⟨hc, hi⟩)
  · simpa [hi] using h
set_option maxRecDepth 65536 in
theorem w_c0 : (Jvm.Cond.code x code maxLocals ret).before args0 about1 = true := code_word (m := ⟨1, 1⟩) (meth := k1m1) (c := k1c1) (by decide +kernel) rfl rfl rfl (by decide +kernel)
set_option maxRecDepth 65536 in
theorem w_c1 : (Jvm.Cond.code ({ cls := "java/lang/Math", name := "max", desc := "(II)I" } : Jvm.MethodName) jdk_29_method_65_code (2 : Nat) (Option.some Jvm.ClassFile.FieldType.int)).before args0 about1 = true := code_word (m := ⟨2, 1⟩) (meth := k2m1) (c := k2c1) (by decide +kernel) rfl rfl rfl (by decide +kernel)
set_option maxRecDepth 65536 in
theorem w_c2 : (Jvm.Cond.code ({ cls := "com/example/cotejo/cotejo/optimize/OptimalQuery", name := "<init>", desc := "(ILcom/example/cotejo/cotejo/optimize/Mode;II)V" } : Jvm.MethodName) prog_58_method_1_code (5 : Nat) (Option.none : Option Jvm.ClassFile.FieldType)).before args0 about1 = true := code_word (m := ⟨8, 0⟩) (meth := k8m0) (c := k8c0) (by decide +kernel) rfl rfl rfl (by decide +kernel)
set_option maxRecDepth 65536 in
theorem w_c3 : (Jvm.Cond.code ({ cls := "java/lang/Object", name := "<init>", desc := "()V" } : Jvm.MethodName) object_method_1_code (1 : Nat) (Option.none : Option Jvm.ClassFile.FieldType)).before args0 about1 = true := code_word (m := ⟨0, 0⟩) (meth := k0m0) (c := k0c0) (by decide +kernel) rfl rfl rfl (by decide +kernel)
set_option maxRecDepth 65536 in
theorem w_c4 : (Jvm.Cond.code ({ cls := "com/example/cotejo/cotejo/optimize/OptimalQuery", name := "isBetterThan", desc := "(Lcom/example/cotejo/cotejo/optimize/OptimalQuery;)Z" } : Jvm.MethodName) prog_58_method_7_code (2 : Nat) (Option.some Jvm.ClassFile.FieldType.boolean)).before args0 about1 = true := code_word (m := ⟨8, 1⟩) (meth := k8m1) (c := k8c1) (by decide +kernel) rfl rfl rfl (by decide +kernel)
def codes1 : List Jvm.Cond := [Jvm.Cond.code x code maxLocals ret, Jvm.Cond.code ({ cls := "java/lang/Math", name := "max", desc := "(II)I" } : Jvm.MethodName) jdk_29_method_65_code (2 : Nat) (Option.some Jvm.ClassFile.FieldType.int), Jvm.Cond.code ({ cls := "com/example/cotejo/cotejo/optimize/OptimalQuery", name := "<init>", desc := "(ILcom/example/cotejo/cotejo/optimize/Mode;II)V" } : Jvm.MethodName) prog_58_method_1_code (5 : Nat) (Option.none : Option Jvm.ClassFile.FieldType), Jvm.Cond.code ({ cls := "java/lang/Object", name := "<init>", desc := "()V" } : Jvm.MethodName) object_method_1_code (1 : Nat) (Option.none : Option Jvm.ClassFile.FieldType), Jvm.Cond.code ({ cls := "com/example/cotejo/cotejo/optimize/OptimalQuery", name := "isBetterThan", desc := "(Lcom/example/cotejo/cotejo/optimize/OptimalQuery;)Z" } : Jvm.MethodName) prog_58_method_7_code (2 : Nat) (Option.some Jvm.ClassFile.FieldType.boolean)]
set_option maxRecDepth 65536 in
theorem codes_eq : words1.filter isCode = codes1 := rfl
theorem w_codes : ∀ c ∈ words1.filter isCode, c.before args0 about1 = true := by
  rw [codes_eq]
  intro c hc
  simp only [codes1, List.mem_cons, List.not_mem_nil, or_false] at hc
  rcases hc with rfl | rfl | rfl | rfl | rfl
  · exact w_c0
  · exact w_c1
  · exact w_c2
  · exact w_c3
  · exact w_c4
set_option maxRecDepth 65536 in
theorem w_t1 : (words1.take 24).all (fun c => isCode c || c.before args0 about1) = true := by decide +kernel
set_option maxRecDepth 65536 in
theorem w_t2 : (words1.drop 24).all (fun c => isCode c || c.before args0 about1) = true := by decide +kernel
theorem w_tables : (allAtoms (Jvm.Cond.code x code maxLocals ret :: tables_1)).before args0 about1 = true := by
  rw [allAtoms_all]
  show words1.all (fun c => c.before args0 about1) = true
  refine all_split ?_ w_codes
  rw [← List.take_append_drop 24 words1, List.all_append, w_t1, w_t2]
  rfl
set_option maxRecDepth 65536 in
theorem w_case : (Jvm.Cond.and given_1 narrow_1).before args0 about1 = true := by decide +kernel
theorem w_applies : (headSpec (Jvm.Cond.code x code maxLocals ret :: tables_1) room_1).applies x e0.platform about1 = true :=
  (Spec.applies_iff w_frames).mpr ⟨w_running, w_runnable, w_alone, w_named, w_hears, w_ripe, w_room, w_tables⟩
theorem atStart : AtStart classFile x code maxLocals ret World_1 tables_1 room_1 Calls_1 rest_1 Pre_1 launch0 p0 e0 about1 theMethod args0 below0 :=
  ⟨lists_1, trivial, launch0.admits_env _ _ _, launch0.least_env, fairChoices_fair.cas, fairChoices_fair.clock, w_frames, w_args, w_heap, w_applies, trivial, trivial, w_case⟩
end start1
theorem witness_1 : WitnessClaimed_1 := ⟨start1.p0, start1.e0, start1.about1, start1.theMethod, start1.args0, start1.below0, start1.atStart⟩
end Jvm.Pilot.@@N@@
