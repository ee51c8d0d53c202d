import JvmDerived
import JvmDerived.Pilot.@@N@@Statement
import JvmDerived.Pilot.@@N@@Code
set_option linter.unusedVariables false
set_option linter.unusedSimpArgs false
namespace Jvm.RoadKit
open Sem ClassFile Op Lib Jvm.Stand Jvm.Free Jvm.LawKit
section New
variable {p : Program} {l : Launch} {e : Env} {R : Room} {s : State} {m : MethodId} {args : Array Value} {below : List Frame} {meth : Method} {c : Code} {T : State} {locs : List Loc} {cells slots : Nat}
theorem retI (X : Stand p l e R s m args below meth c T locs cells slots) (hx : p.tables.exec = Jvm.exec) {pc : Nat} {Ls : Array Slot} {z : Int32} {rest : List Value} (hret : meth.sig.returnType = some .int) (hd : decode c.code pc = .ok (.ireturn, 1)) {fs : List Frame}
    (hl : ∀ (f : JFrame) (acts : List Action), f.method = m → f.locked = none → f.entered = [] → (doReturn e (T.setTop f) acts (some (.int z))).1 = T.setFrames fs) : Steps p.tables e below (T.setTop (mkF m pc Ls (.int z :: rest))) (T.setFrames fs) := by
  have hm' : T.vm.method? m = some meth := X.method'
  have hn : narrow .int (.int z) = .int z := rfl
  show Steps p.tables e below (T.setTop { method := m, pc := pc, locals := Ls, stack := _ :: rest, locked := none }) _
  jvm_step X.here [X.here.top, hx, hd, hm', hret, hn]
  first | (intro acts; rw [hl _ acts rfl rfl rfl]) | rw [hl _ _ rfl rfl rfl]
  exact Steps.refl _
end New
end Jvm.RoadKit
namespace Jvm.Pilot.@@N@@
open Jvm Jvm.ClassFile Sem Op Lib Jvm.Free Jvm.Stand Jvm.LawKit Jvm.RoadKit Bundle Jvm.Pilot.@@N@@.Jvm.D
theorem own_staK {Z : State} {h h' : Heap} {C n d : String} {v : Value} {ws : List Addr} (F : Sta Z h C n d v) (K : Keep h h' ws) (q : ∀ x ∈ ws, ∃ C', Exa Z h x C') : Sta Z h' C n d v := by
  obtain ⟨cf, i, k, f, st, cell, h1, h2, h3, h4, h5, h6, r⟩ := F
  refine ⟨cf, i, k, f, st, cell, h1, h2, h3, h4, K.2.1 _ _ h5 (fun hm => ?_), h6, r⟩
  obtain ⟨C', cell', k', e1, -, -, e4, -⟩ := q _ hm
  cases h5.symm.trans e1
  rw [h6] at e4; cases e4
theorem own_eqI {args : Array Value} {first s : State} {o : Option Outcome} {idx : List Nat} {a : Term} {n : Int32} (h : (Jvm.Cond.eq a (Term.int n)).value args first o s idx = some true) : a.eval args first o idx s = some (.int n) := by
  obtain ⟨x, y, h1, h2, -, -⟩ := cmp_v (Or.inl h)
  cases h2.symm.trans (Term.int_eval n)
  cases x <;> simp [Cond.value, h1, h2] at h
  rw [h1, h]
theorem own_eqR {args : Array Value} {first s : State} {o : Option Outcome} {idx : List Nat} {a b : Term} {x : Addr} (h : (Jvm.Cond.eq a b).value args first o s idx = some true) (hb : b.eval args first o idx s = some (.ref x)) : a.eval args first o idx s = some (.ref x) := by
  obtain ⟨u, y, h1, h2, -, -⟩ := cmp_v (Or.inl h)
  cases h2.symm.trans hb
  cases u <;> simp [Cond.value, h1, h2] at h
  rw [h1, h]
theorem own_eqL {args : Array Value} {first s : State} {o : Option Outcome} {idx : List Nat} {a : Term} {n : Int64} (h : (Jvm.Cond.eq a (Term.long n)).value args first o s idx = some true) : a.eval args first o idx s = some (.long n) := by
  obtain ⟨x, y, h1, h2, -, -⟩ := cmp_v (Or.inl h)
  cases h2.symm.trans (long_at n)
  cases x <;> simp [Cond.value, h1, h2] at h
  rw [h1, h]
theorem own_c0 (x : Int32) : (x &&& (7 : Int32)) = (0 : Int32) ∨ (x &&& (7 : Int32)) = (1 : Int32) ∨ (x &&& (7 : Int32)) = (2 : Int32) ∨ (x &&& (7 : Int32)) = (3 : Int32) ∨ (x &&& (7 : Int32)) = (4 : Int32) ∨ (x &&& (7 : Int32)) = (5 : Int32) ∨ (x &&& (7 : Int32)) = (6 : Int32) ∨ (x &&& (7 : Int32)) = (7 : Int32) := by
  have h1 : (x &&& (7 : Int32)).toInt = x.toInt % 8 := c_mask x (7 : Int32) 3 (by decide) (by decide)
  have h9 : ((x &&& (7 : Int32))).toInt = 0 ∨ ((x &&& (7 : Int32))).toInt = 1 ∨ ((x &&& (7 : Int32))).toInt = 2 ∨ ((x &&& (7 : Int32))).toInt = 3 ∨ ((x &&& (7 : Int32))).toInt = 4 ∨ ((x &&& (7 : Int32))).toInt = 5 ∨ ((x &&& (7 : Int32))).toInt = 6 ∨ ((x &&& (7 : Int32))).toInt = 7 := by omega
  rcases h9 with q | q | q | q | q | q | q | q
  · exact Or.inl (Int32.toInt_inj.mp (q.trans (by decide)))
  · exact Or.inr (Or.inl (Int32.toInt_inj.mp (q.trans (by decide))))
  · exact Or.inr (Or.inr (Or.inl (Int32.toInt_inj.mp (q.trans (by decide)))))
  · exact Or.inr (Or.inr (Or.inr (Or.inl (Int32.toInt_inj.mp (q.trans (by decide))))))
  · exact Or.inr (Or.inr (Or.inr (Or.inr (Or.inl (Int32.toInt_inj.mp (q.trans (by decide)))))))
  · exact Or.inr (Or.inr (Or.inr (Or.inr (Or.inr (Or.inl (Int32.toInt_inj.mp (q.trans (by decide))))))))
  · exact Or.inr (Or.inr (Or.inr (Or.inr (Or.inr (Or.inr (Or.inl (Int32.toInt_inj.mp (q.trans (by decide)))))))))
  · exact Or.inr (Or.inr (Or.inr (Or.inr (Or.inr (Or.inr (Or.inr (Int32.toInt_inj.mp (q.trans (by decide)))))))))
theorem d1_0 : decode method_2_code 0 = .ok (.iload_n 0, 1) := by decide +kernel
theorem d1_1 : decode method_2_code 1 = .ok (.ifCond .ne 7, 3) := by decide +kernel
theorem d1_4 : decode method_2_code 4 = .ok (.getstatic 7, 3) := by decide +kernel
theorem d1_7 : decode method_2_code 7 = .ok (.areturn, 1) := by decide +kernel
theorem pn_0 : plainName "com/example/windlass/windlass/repository/BatchStatusIsRestartablePinLaw" = true := by first | (simp [plainName, overriddenIn]; done) | decide +kernel
theorem ef_rm1_0 (m : MethodId)  : entryFrame m #[(.int (0 : Int32))] 1 = mkF m 0 #[.val (.int (0 : Int32))] [] := by first | (simp [entryFrame, mkF, argsToLocals, Value.category]; done) | rfl
def Q1_0 (Z : State) (w_STARTING : Addr) (h0 : Heap) (n0 : Nat) (v : Option Value) (h : Heap) (L : List Loc) : Prop := v = some (.ref w_STARTING) ∧ Fr n0 L ∧ h = h0
set_option maxRecDepth 65536 in
set_option maxHeartbeats 40000000 in
theorem rm1_0 (l : Launch) (Z : State) (a0 : Array Value) (hw : ∀ d ∈ tables_1, d.before a0 Z = true) (ws : List Jvm.Cond) (w_STARTING : Addr) (h0 : Heap) (n0 : Nat) (Z0 : n0 ≤ h0.size) (S_STARTING : Sta Z h0 "com/example/windlass/windlass/repository/BatchStatus" "STARTING" "Lcom/example/windlass/windlass/repository/BatchStatus;" (.ref w_STARTING)) :
    MetFree l (⟨"com/example/windlass/windlass/repository/BatchStatusIsRestartablePinLaw", "pick", "(I)Lcom/example/windlass/windlass/repository/BatchStatus;"⟩ : MethodName) (head1 (Jvm.Cond.code (⟨"com/example/windlass/windlass/repository/BatchStatusIsRestartablePinLaw", "pick", "(I)Lcom/example/windlass/windlass/repository/BatchStatus;"⟩ : MethodName) method_2_code 1 (some (.object "com/example/windlass/windlass/repository/BatchStatus")) :: ws) ({ frames := 0, cells := 0, slots := 0, locals := 0 } : Room)) (fun a U => a = #[(.int (0 : Int32))] ∧ Z.Warmed39 U.vm ∧ U.heap = h0) (fun _ _ _ _ _ => True) (fun _ U o U' => ∃ v L, o = .returned v ∧ Q1_0 Z w_STARTING h0 n0 v U'.heap L ∧ FrameEnd U o U' L ({ frames := 0, cells := 0, slots := 0, locals := 0 } : Room).cells ({ frames := 0, cells := 0, slots := 0, locals := 0 } : Room).slots) := by
  refine MetFree.of_bodySF (plainFor_of_name pn_0) hisR ?_
  intro p e s m args below meth c s₁ Bd hml0 hP hK
  obtain ⟨rfl, hZ, hh⟩ := hP
  have hx := Bd.exec
  have hby := Bd.bytes
  have hml : c.maxLocals = 1 := hml0
  have hown : s.vm.findClass "com/example/windlass/windlass/repository/BatchStatusIsRestartablePinLaw" = some m.cls := findClass_of_methodNamed Bd.named
  have hnm := (name_of_methodNamed Bd.named Bd.method).1
  have X0 : Stand p l e ({ frames := 0, cells := 0, slots := 0, locals := 0 } : Room) s m #[(.int (0 : Int32))] below meth c s₁ [] 0 0 := Stand.of_body Bd
  have e0 : s₁.heap = h0 := by rw [← hh, Bd.state]; rfl
  have N0 := Fr.nil n0
  have pre0 : ∀ t, Steps p.tables e below (s₁.setTop (mkF m 0 #[.val (.int (0 : Int32))] [])) t → Steps p.tables e below (s₁.setTop (entryFrame m #[(.int (0 : Int32))] 1)) t := fun t k => castTop (ef_rm1_0 m ) k
  obtain ⟨T1, X1, e1, st1⟩ := getS2 X0 hx hZ hown (host := "") (Or.inl (hw _ (List.mem_of_getElem? (i := 4) rfl))) Via.refl e0 S_STARTING (g := (mkF m 4 #[.val (.int (0 : Int32))] [])) rfl (hb hby d1_4)
  obtain ⟨fs, hr, hrun, hended, hW, hsame⟩ := X1.leave (v := some (.ref w_STARTING)) (fun h => by rw [Bd.returns] at h; cases h)
  refine ⟨_, _, pre0 _ ?_, hrun, hended, _, _, rfl, ?_, ⟨_, rfl⟩, hW, hsame.mono (by decide) (by decide)⟩
  ·
    show Steps p.tables e below (s₁.setTop (mkF m 0 #[.val (.int (0 : Int32))] [])) _
    refine XS.iloadN X0.here hx rfl (hb hby d1_0) rfl ?_
    show Steps p.tables e below (s₁.setTop (mkF m 1 #[.val (.int (0 : Int32))] [(.int (0 : Int32))])) _
    refine XS.ifNo X0.here hx rfl (hb hby d1_1) rfl ((if0 _ _).trans (teq (by decide : (0 : Int32) = (0 : Int32))).2) ?_
    show Steps p.tables e below (s₁.setTop (mkF m 4 #[.val (.int (0 : Int32))] [])) _
    refine st1 _ ?_
    show Steps p.tables e below (T1.setTop (mkF m 7 #[.val (.int (0 : Int32))] [(.ref w_STARTING)])) _
    jvm_step X1.here [X1.here.top, hx, (hb hby d1_7), X1.method', Bd.returns, Value.isRef, FieldType.isReference]
    first | (intro acts; rw [hr _ acts rfl rfl rfl]) | rw [hr _ _ rfl rfl rfl]
    exact Steps.refl _
  · show Q1_0 Z w_STARTING h0 n0 _ T1.heap _
    rw [e1]
    exact ⟨rfl, N0, rfl⟩
theorem pd_0 : parseMethodDescriptor "(I)Lcom/example/windlass/windlass/repository/BatchStatus;" = some ⟨[.int], some (.object "com/example/windlass/windlass/repository/BatchStatus")⟩ := by decide +kernel
theorem d2_0 : decode prog_17_method_5_code 0 = .ok (.aload_n 0, 1) := by decide +kernel
theorem d2_1 : decode prog_17_method_5_code 1 = .ok (.getstatic 19, 3) := by decide +kernel
theorem d2_4 : decode prog_17_method_5_code 4 = .ok (.if_acmp .eq 10, 3) := by decide +kernel
theorem d2_7 : decode prog_17_method_5_code 7 = .ok (.aload_n 0, 1) := by decide +kernel
theorem d2_8 : decode prog_17_method_5_code 8 = .ok (.getstatic 13, 3) := by decide +kernel
theorem d2_11 : decode prog_17_method_5_code 11 = .ok (.if_acmp .ne 7, 3) := by decide +kernel
theorem d2_18 : decode prog_17_method_5_code 18 = .ok (.iconst 0, 1) := by decide +kernel
theorem d2_19 : decode prog_17_method_5_code 19 = .ok (.ireturn, 1) := by decide +kernel
theorem pn_1 : plainName "com/example/windlass/windlass/repository/BatchStatus" = true := by first | (simp [plainName, overriddenIn]; done) | decide +kernel
theorem ef_rm2_0 (m : MethodId) (x0 : Addr) : entryFrame m #[(.ref x0)] 1 = mkF m 0 #[.val (.ref x0)] [] := by first | (simp [entryFrame, mkF, argsToLocals, Value.category]; done) | rfl
def Q2_0 (Z : State) (w_STARTING : Addr) (w_FAILED : Addr) (w_STOPPED : Addr) (h0 : Heap) (n0 : Nat) (v : Option Value) (h : Heap) (L : List Loc) : Prop := v = some (.int (0 : Int32)) ∧ Fr n0 L ∧ h = h0
set_option maxRecDepth 65536 in
set_option maxHeartbeats 40000000 in
theorem rm2_0 (l : Launch) (Z : State) (a0 : Array Value) (hw : ∀ d ∈ tables_1, d.before a0 Z = true) (ws : List Jvm.Cond) (w_STARTING : Addr) (w_FAILED : Addr) (w_STOPPED : Addr) (h0 : Heap) (n0 : Nat) (Z0 : n0 ≤ h0.size) (S_FAILED : Sta Z h0 "com/example/windlass/windlass/repository/BatchStatus" "FAILED" "Lcom/example/windlass/windlass/repository/BatchStatus;" (.ref w_FAILED)) (ne_FAILED_STARTING : w_FAILED ≠ w_STARTING) (S_STOPPED : Sta Z h0 "com/example/windlass/windlass/repository/BatchStatus" "STOPPED" "Lcom/example/windlass/windlass/repository/BatchStatus;" (.ref w_STOPPED)) (ne_STARTING_STOPPED : w_STARTING ≠ w_STOPPED) :
    MetFree l (⟨"com/example/windlass/windlass/repository/BatchStatus", "isRestartable", "()Z"⟩ : MethodName) (head1 (Jvm.Cond.code (⟨"com/example/windlass/windlass/repository/BatchStatus", "isRestartable", "()Z"⟩ : MethodName) prog_17_method_5_code 1 (some .boolean) :: ws) ({ frames := 0, cells := 0, slots := 0, locals := 0 } : Room)) (fun a U => a = #[(.ref w_STARTING)] ∧ Z.Warmed39 U.vm ∧ U.heap = h0) (fun _ _ _ _ _ => True) (fun _ U o U' => ∃ v L, o = .returned v ∧ Q2_0 Z w_STARTING w_FAILED w_STOPPED h0 n0 v U'.heap L ∧ FrameEnd U o U' L ({ frames := 0, cells := 0, slots := 0, locals := 0 } : Room).cells ({ frames := 0, cells := 0, slots := 0, locals := 0 } : Room).slots) := by
  refine MetFree.of_bodySF (plainFor_of_name pn_1) hisR ?_
  intro p e s m args below meth c s₁ Bd hml0 hP hK
  obtain ⟨rfl, hZ, hh⟩ := hP
  have hx := Bd.exec
  have hby := Bd.bytes
  have hml : c.maxLocals = 1 := hml0
  have hown : s.vm.findClass "com/example/windlass/windlass/repository/BatchStatus" = some m.cls := findClass_of_methodNamed Bd.named
  have hnm := (name_of_methodNamed Bd.named Bd.method).1
  have X0 : Stand p l e ({ frames := 0, cells := 0, slots := 0, locals := 0 } : Room) s m #[(.ref w_STARTING)] below meth c s₁ [] 0 0 := Stand.of_body Bd
  have e0 : s₁.heap = h0 := by rw [← hh, Bd.state]; rfl
  have N0 := Fr.nil n0
  have pre0 : ∀ t, Steps p.tables e below (s₁.setTop (mkF m 0 #[.val (.ref w_STARTING)] [])) t → Steps p.tables e below (s₁.setTop (entryFrame m #[(.ref w_STARTING)] 1)) t := fun t k => castTop (ef_rm2_0 m w_STARTING) k
  obtain ⟨T1, X1, e1, st1⟩ := getS2 X0 hx hZ hown (host := "") (Or.inl (hw _ (List.mem_of_getElem? (i := 12) rfl))) Via.refl e0 S_FAILED (g := (mkF m 1 #[.val (.ref w_STARTING)] [(.ref w_STARTING)])) rfl (hb hby d2_1)
  obtain ⟨T2, X2, e2, st2⟩ := getS2 X1 hx hZ hown (host := "") (Or.inl (hw _ (List.mem_of_getElem? (i := 14) rfl))) Via.refl e1 S_STOPPED (g := (mkF m 8 #[.val (.ref w_STARTING)] [(.ref w_STARTING)])) rfl (hb hby d2_8)
  obtain ⟨fs, hr, hrun, hended, hW, hsame⟩ := X2.leave (v := some (.int (0 : Int32))) (fun h => by rw [Bd.returns] at h; cases h)
  refine ⟨_, _, pre0 _ ?_, hrun, hended, _, _, rfl, ?_, ⟨_, rfl⟩, hW, hsame.mono (by decide) (by decide)⟩
  ·
    show Steps p.tables e below (s₁.setTop (mkF m 0 #[.val (.ref w_STARTING)] [])) _
    refine XS.aloadN X0.here hx rfl (hb hby d2_0) rfl rfl ?_
    show Steps p.tables e below (s₁.setTop (mkF m 1 #[.val (.ref w_STARTING)] [(.ref w_STARTING)])) _
    refine st1 _ ?_
    show Steps p.tables e below (T1.setTop (mkF m 4 #[.val (.ref w_STARTING)] [(.ref w_FAILED), (.ref w_STARTING)])) _
    refine Jvm.RoadKit.acmp (g := (mkF m 4 #[.val (.ref w_STARTING)] [(.ref w_FAILED), (.ref w_STARTING)])) X1 hx rfl rfl rfl (pc0 := 4) (pc' := 7) (same := false) rfl (hb hby d2_4) rfl (decide_eq_false fun q => (Ne.symm ne_FAILED_STARTING) (Value.ref.inj q)) (by decide) (by decide) ?_
    show Steps p.tables e below (T1.setTop (mkF m 7 #[.val (.ref w_STARTING)] [])) _
    refine XS.aloadN X1.here hx rfl (hb hby d2_7) rfl rfl ?_
    show Steps p.tables e below (T1.setTop (mkF m 8 #[.val (.ref w_STARTING)] [(.ref w_STARTING)])) _
    refine st2 _ ?_
    show Steps p.tables e below (T2.setTop (mkF m 11 #[.val (.ref w_STARTING)] [(.ref w_STOPPED), (.ref w_STARTING)])) _
    refine Jvm.RoadKit.acmp (g := (mkF m 11 #[.val (.ref w_STARTING)] [(.ref w_STOPPED), (.ref w_STARTING)])) X2 hx rfl rfl rfl (pc0 := 11) (pc' := 18) (same := false) rfl (hb hby d2_11) rfl (decide_eq_false fun q => ne_STARTING_STOPPED (Value.ref.inj q)) (by decide) (by decide) ?_
    show Steps p.tables e below (T2.setTop (mkF m 18 #[.val (.ref w_STARTING)] [])) _
    refine XS.iconst X2.here hx rfl (hb hby d2_18) ?_
    show Steps p.tables e below (T2.setTop (mkF m 19 #[.val (.ref w_STARTING)] [(.int (0 : Int32))])) _
    exact retN X2 hx (t := .boolean) Bd.returns (by simp) (hb hby d2_19) hr
  · show Q2_0 Z w_STARTING w_FAILED w_STOPPED h0 n0 _ T2.heap _
    rw [e2]
    exact ⟨rfl, N0, rfl⟩
theorem pd_1 : parseMethodDescriptor "()Z" = some ⟨[], some .boolean⟩ := by decide +kernel
theorem d1_8 : decode method_2_code 8 = .ok (.iload_n 0, 1) := by decide +kernel
theorem d1_9 : decode method_2_code 9 = .ok (.iconst 1, 1) := by decide +kernel
theorem d1_10 : decode method_2_code 10 = .ok (.if_icmp .ne 7, 3) := by decide +kernel
theorem d1_13 : decode method_2_code 13 = .ok (.getstatic 13, 3) := by decide +kernel
theorem d1_16 : decode method_2_code 16 = .ok (.areturn, 1) := by decide +kernel
theorem ef_rm1_1 (m : MethodId)  : entryFrame m #[(.int (1 : Int32))] 1 = mkF m 0 #[.val (.int (1 : Int32))] [] := by first | (simp [entryFrame, mkF, argsToLocals, Value.category]; done) | rfl
def Q1_1 (Z : State) (w_STARTED : Addr) (h0 : Heap) (n0 : Nat) (v : Option Value) (h : Heap) (L : List Loc) : Prop := v = some (.ref w_STARTED) ∧ Fr n0 L ∧ h = h0
set_option maxRecDepth 65536 in
set_option maxHeartbeats 40000000 in
theorem rm1_1 (l : Launch) (Z : State) (a0 : Array Value) (hw : ∀ d ∈ tables_1, d.before a0 Z = true) (ws : List Jvm.Cond) (w_STARTED : Addr) (h0 : Heap) (n0 : Nat) (Z0 : n0 ≤ h0.size) (S_STARTED : Sta Z h0 "com/example/windlass/windlass/repository/BatchStatus" "STARTED" "Lcom/example/windlass/windlass/repository/BatchStatus;" (.ref w_STARTED)) :
    MetFree l (⟨"com/example/windlass/windlass/repository/BatchStatusIsRestartablePinLaw", "pick", "(I)Lcom/example/windlass/windlass/repository/BatchStatus;"⟩ : MethodName) (head1 (Jvm.Cond.code (⟨"com/example/windlass/windlass/repository/BatchStatusIsRestartablePinLaw", "pick", "(I)Lcom/example/windlass/windlass/repository/BatchStatus;"⟩ : MethodName) method_2_code 1 (some (.object "com/example/windlass/windlass/repository/BatchStatus")) :: ws) ({ frames := 0, cells := 0, slots := 0, locals := 0 } : Room)) (fun a U => a = #[(.int (1 : Int32))] ∧ Z.Warmed39 U.vm ∧ U.heap = h0) (fun _ _ _ _ _ => True) (fun _ U o U' => ∃ v L, o = .returned v ∧ Q1_1 Z w_STARTED h0 n0 v U'.heap L ∧ FrameEnd U o U' L ({ frames := 0, cells := 0, slots := 0, locals := 0 } : Room).cells ({ frames := 0, cells := 0, slots := 0, locals := 0 } : Room).slots) := by
  refine MetFree.of_bodySF (plainFor_of_name pn_0) hisR ?_
  intro p e s m args below meth c s₁ Bd hml0 hP hK
  obtain ⟨rfl, hZ, hh⟩ := hP
  have hx := Bd.exec
  have hby := Bd.bytes
  have hml : c.maxLocals = 1 := hml0
  have hown : s.vm.findClass "com/example/windlass/windlass/repository/BatchStatusIsRestartablePinLaw" = some m.cls := findClass_of_methodNamed Bd.named
  have hnm := (name_of_methodNamed Bd.named Bd.method).1
  have X0 : Stand p l e ({ frames := 0, cells := 0, slots := 0, locals := 0 } : Room) s m #[(.int (1 : Int32))] below meth c s₁ [] 0 0 := Stand.of_body Bd
  have e0 : s₁.heap = h0 := by rw [← hh, Bd.state]; rfl
  have N0 := Fr.nil n0
  have pre0 : ∀ t, Steps p.tables e below (s₁.setTop (mkF m 0 #[.val (.int (1 : Int32))] [])) t → Steps p.tables e below (s₁.setTop (entryFrame m #[(.int (1 : Int32))] 1)) t := fun t k => castTop (ef_rm1_1 m ) k
  obtain ⟨T1, X1, e1, st1⟩ := getS2 X0 hx hZ hown (host := "") (Or.inl (hw _ (List.mem_of_getElem? (i := 32) rfl))) Via.refl e0 S_STARTED (g := (mkF m 13 #[.val (.int (1 : Int32))] [])) rfl (hb hby d1_13)
  obtain ⟨fs, hr, hrun, hended, hW, hsame⟩ := X1.leave (v := some (.ref w_STARTED)) (fun h => by rw [Bd.returns] at h; cases h)
  refine ⟨_, _, pre0 _ ?_, hrun, hended, _, _, rfl, ?_, ⟨_, rfl⟩, hW, hsame.mono (by decide) (by decide)⟩
  ·
    show Steps p.tables e below (s₁.setTop (mkF m 0 #[.val (.int (1 : Int32))] [])) _
    refine XS.iloadN X0.here hx rfl (hb hby d1_0) rfl ?_
    show Steps p.tables e below (s₁.setTop (mkF m 1 #[.val (.int (1 : Int32))] [(.int (1 : Int32))])) _
    refine XS.ifYes X0.here hx rfl (pc0 := 1) (pc' := 8) rfl (hb hby d1_1) rfl ((if0 _ _).trans (feq (by decide : ¬ ((1 : Int32) = (0 : Int32)))).2) (by decide) (by decide) ?_
    show Steps p.tables e below (s₁.setTop (mkF m 8 #[.val (.int (1 : Int32))] [])) _
    refine XS.iloadN X0.here hx rfl (hb hby d1_8) rfl ?_
    show Steps p.tables e below (s₁.setTop (mkF m 9 #[.val (.int (1 : Int32))] [(.int (1 : Int32))])) _
    refine XS.iconst X0.here hx rfl (hb hby d1_9) ?_
    show Steps p.tables e below (s₁.setTop (mkF m 10 #[.val (.int (1 : Int32))] [(.int (1 : Int32)), (.int (1 : Int32))])) _
    refine XS.icmpNo X0.here hx rfl (hb hby d1_10) rfl (teq (by decide : (1 : Int32) = (1 : Int32))).2 ?_
    show Steps p.tables e below (s₁.setTop (mkF m 13 #[.val (.int (1 : Int32))] [])) _
    refine st1 _ ?_
    show Steps p.tables e below (T1.setTop (mkF m 16 #[.val (.int (1 : Int32))] [(.ref w_STARTED)])) _
    jvm_step X1.here [X1.here.top, hx, (hb hby d1_16), X1.method', Bd.returns, Value.isRef, FieldType.isReference]
    first | (intro acts; rw [hr _ acts rfl rfl rfl]) | rw [hr _ _ rfl rfl rfl]
    exact Steps.refl _
  · show Q1_1 Z w_STARTED h0 n0 _ T1.heap _
    rw [e1]
    exact ⟨rfl, N0, rfl⟩
theorem ef_rm2_1 (m : MethodId) (x0 : Addr) : entryFrame m #[(.ref x0)] 1 = mkF m 0 #[.val (.ref x0)] [] := by first | (simp [entryFrame, mkF, argsToLocals, Value.category]; done) | rfl
def Q2_1 (Z : State) (w_FAILED : Addr) (w_STOPPED : Addr) (w_STARTED : Addr) (h0 : Heap) (n0 : Nat) (v : Option Value) (h : Heap) (L : List Loc) : Prop := v = some (.int (0 : Int32)) ∧ Fr n0 L ∧ h = h0
set_option maxRecDepth 65536 in
set_option maxHeartbeats 40000000 in
theorem rm2_1 (l : Launch) (Z : State) (a0 : Array Value) (hw : ∀ d ∈ tables_1, d.before a0 Z = true) (ws : List Jvm.Cond) (w_FAILED : Addr) (w_STOPPED : Addr) (w_STARTED : Addr) (h0 : Heap) (n0 : Nat) (Z0 : n0 ≤ h0.size) (S_FAILED : Sta Z h0 "com/example/windlass/windlass/repository/BatchStatus" "FAILED" "Lcom/example/windlass/windlass/repository/BatchStatus;" (.ref w_FAILED)) (ne_FAILED_STARTED : w_FAILED ≠ w_STARTED) (S_STOPPED : Sta Z h0 "com/example/windlass/windlass/repository/BatchStatus" "STOPPED" "Lcom/example/windlass/windlass/repository/BatchStatus;" (.ref w_STOPPED)) (ne_STARTED_STOPPED : w_STARTED ≠ w_STOPPED) :
    MetFree l (⟨"com/example/windlass/windlass/repository/BatchStatus", "isRestartable", "()Z"⟩ : MethodName) (head1 (Jvm.Cond.code (⟨"com/example/windlass/windlass/repository/BatchStatus", "isRestartable", "()Z"⟩ : MethodName) prog_17_method_5_code 1 (some .boolean) :: ws) ({ frames := 0, cells := 0, slots := 0, locals := 0 } : Room)) (fun a U => a = #[(.ref w_STARTED)] ∧ Z.Warmed39 U.vm ∧ U.heap = h0) (fun _ _ _ _ _ => True) (fun _ U o U' => ∃ v L, o = .returned v ∧ Q2_1 Z w_FAILED w_STOPPED w_STARTED h0 n0 v U'.heap L ∧ FrameEnd U o U' L ({ frames := 0, cells := 0, slots := 0, locals := 0 } : Room).cells ({ frames := 0, cells := 0, slots := 0, locals := 0 } : Room).slots) := by
  refine MetFree.of_bodySF (plainFor_of_name pn_1) hisR ?_
  intro p e s m args below meth c s₁ Bd hml0 hP hK
  obtain ⟨rfl, hZ, hh⟩ := hP
  have hx := Bd.exec
  have hby := Bd.bytes
  have hml : c.maxLocals = 1 := hml0
  have hown : s.vm.findClass "com/example/windlass/windlass/repository/BatchStatus" = some m.cls := findClass_of_methodNamed Bd.named
  have hnm := (name_of_methodNamed Bd.named Bd.method).1
  have X0 : Stand p l e ({ frames := 0, cells := 0, slots := 0, locals := 0 } : Room) s m #[(.ref w_STARTED)] below meth c s₁ [] 0 0 := Stand.of_body Bd
  have e0 : s₁.heap = h0 := by rw [← hh, Bd.state]; rfl
  have N0 := Fr.nil n0
  have pre0 : ∀ t, Steps p.tables e below (s₁.setTop (mkF m 0 #[.val (.ref w_STARTED)] [])) t → Steps p.tables e below (s₁.setTop (entryFrame m #[(.ref w_STARTED)] 1)) t := fun t k => castTop (ef_rm2_1 m w_STARTED) k
  obtain ⟨T1, X1, e1, st1⟩ := getS2 X0 hx hZ hown (host := "") (Or.inl (hw _ (List.mem_of_getElem? (i := 12) rfl))) Via.refl e0 S_FAILED (g := (mkF m 1 #[.val (.ref w_STARTED)] [(.ref w_STARTED)])) rfl (hb hby d2_1)
  obtain ⟨T2, X2, e2, st2⟩ := getS2 X1 hx hZ hown (host := "") (Or.inl (hw _ (List.mem_of_getElem? (i := 14) rfl))) Via.refl e1 S_STOPPED (g := (mkF m 8 #[.val (.ref w_STARTED)] [(.ref w_STARTED)])) rfl (hb hby d2_8)
  obtain ⟨fs, hr, hrun, hended, hW, hsame⟩ := X2.leave (v := some (.int (0 : Int32))) (fun h => by rw [Bd.returns] at h; cases h)
  refine ⟨_, _, pre0 _ ?_, hrun, hended, _, _, rfl, ?_, ⟨_, rfl⟩, hW, hsame.mono (by decide) (by decide)⟩
  ·
    show Steps p.tables e below (s₁.setTop (mkF m 0 #[.val (.ref w_STARTED)] [])) _
    refine XS.aloadN X0.here hx rfl (hb hby d2_0) rfl rfl ?_
    show Steps p.tables e below (s₁.setTop (mkF m 1 #[.val (.ref w_STARTED)] [(.ref w_STARTED)])) _
    refine st1 _ ?_
    show Steps p.tables e below (T1.setTop (mkF m 4 #[.val (.ref w_STARTED)] [(.ref w_FAILED), (.ref w_STARTED)])) _
    refine Jvm.RoadKit.acmp (g := (mkF m 4 #[.val (.ref w_STARTED)] [(.ref w_FAILED), (.ref w_STARTED)])) X1 hx rfl rfl rfl (pc0 := 4) (pc' := 7) (same := false) rfl (hb hby d2_4) rfl (decide_eq_false fun q => (Ne.symm ne_FAILED_STARTED) (Value.ref.inj q)) (by decide) (by decide) ?_
    show Steps p.tables e below (T1.setTop (mkF m 7 #[.val (.ref w_STARTED)] [])) _
    refine XS.aloadN X1.here hx rfl (hb hby d2_7) rfl rfl ?_
    show Steps p.tables e below (T1.setTop (mkF m 8 #[.val (.ref w_STARTED)] [(.ref w_STARTED)])) _
    refine st2 _ ?_
    show Steps p.tables e below (T2.setTop (mkF m 11 #[.val (.ref w_STARTED)] [(.ref w_STOPPED), (.ref w_STARTED)])) _
    refine Jvm.RoadKit.acmp (g := (mkF m 11 #[.val (.ref w_STARTED)] [(.ref w_STOPPED), (.ref w_STARTED)])) X2 hx rfl rfl rfl (pc0 := 11) (pc' := 18) (same := false) rfl (hb hby d2_11) rfl (decide_eq_false fun q => ne_STARTED_STOPPED (Value.ref.inj q)) (by decide) (by decide) ?_
    show Steps p.tables e below (T2.setTop (mkF m 18 #[.val (.ref w_STARTED)] [])) _
    refine XS.iconst X2.here hx rfl (hb hby d2_18) ?_
    show Steps p.tables e below (T2.setTop (mkF m 19 #[.val (.ref w_STARTED)] [(.int (0 : Int32))])) _
    exact retN X2 hx (t := .boolean) Bd.returns (by simp) (hb hby d2_19) hr
  · show Q2_1 Z w_FAILED w_STOPPED w_STARTED h0 n0 _ T2.heap _
    rw [e2]
    exact ⟨rfl, N0, rfl⟩
theorem d1_17 : decode method_2_code 17 = .ok (.iload_n 0, 1) := by decide +kernel
theorem d1_18 : decode method_2_code 18 = .ok (.iconst 2, 1) := by decide +kernel
theorem d1_19 : decode method_2_code 19 = .ok (.if_icmp .ne 7, 3) := by decide +kernel
theorem d1_22 : decode method_2_code 22 = .ok (.getstatic 16, 3) := by decide +kernel
theorem d1_25 : decode method_2_code 25 = .ok (.areturn, 1) := by decide +kernel
theorem ef_rm1_2 (m : MethodId)  : entryFrame m #[(.int (2 : Int32))] 1 = mkF m 0 #[.val (.int (2 : Int32))] [] := by first | (simp [entryFrame, mkF, argsToLocals, Value.category]; done) | rfl
def Q1_2 (Z : State) (w_STOPPING : Addr) (h0 : Heap) (n0 : Nat) (v : Option Value) (h : Heap) (L : List Loc) : Prop := v = some (.ref w_STOPPING) ∧ Fr n0 L ∧ h = h0
set_option maxRecDepth 65536 in
set_option maxHeartbeats 40000000 in
theorem rm1_2 (l : Launch) (Z : State) (a0 : Array Value) (hw : ∀ d ∈ tables_1, d.before a0 Z = true) (ws : List Jvm.Cond) (w_STOPPING : Addr) (h0 : Heap) (n0 : Nat) (Z0 : n0 ≤ h0.size) (S_STOPPING : Sta Z h0 "com/example/windlass/windlass/repository/BatchStatus" "STOPPING" "Lcom/example/windlass/windlass/repository/BatchStatus;" (.ref w_STOPPING)) :
    MetFree l (⟨"com/example/windlass/windlass/repository/BatchStatusIsRestartablePinLaw", "pick", "(I)Lcom/example/windlass/windlass/repository/BatchStatus;"⟩ : MethodName) (head1 (Jvm.Cond.code (⟨"com/example/windlass/windlass/repository/BatchStatusIsRestartablePinLaw", "pick", "(I)Lcom/example/windlass/windlass/repository/BatchStatus;"⟩ : MethodName) method_2_code 1 (some (.object "com/example/windlass/windlass/repository/BatchStatus")) :: ws) ({ frames := 0, cells := 0, slots := 0, locals := 0 } : Room)) (fun a U => a = #[(.int (2 : Int32))] ∧ Z.Warmed39 U.vm ∧ U.heap = h0) (fun _ _ _ _ _ => True) (fun _ U o U' => ∃ v L, o = .returned v ∧ Q1_2 Z w_STOPPING h0 n0 v U'.heap L ∧ FrameEnd U o U' L ({ frames := 0, cells := 0, slots := 0, locals := 0 } : Room).cells ({ frames := 0, cells := 0, slots := 0, locals := 0 } : Room).slots) := by
  refine MetFree.of_bodySF (plainFor_of_name pn_0) hisR ?_
  intro p e s m args below meth c s₁ Bd hml0 hP hK
  obtain ⟨rfl, hZ, hh⟩ := hP
  have hx := Bd.exec
  have hby := Bd.bytes
  have hml : c.maxLocals = 1 := hml0
  have hown : s.vm.findClass "com/example/windlass/windlass/repository/BatchStatusIsRestartablePinLaw" = some m.cls := findClass_of_methodNamed Bd.named
  have hnm := (name_of_methodNamed Bd.named Bd.method).1
  have X0 : Stand p l e ({ frames := 0, cells := 0, slots := 0, locals := 0 } : Room) s m #[(.int (2 : Int32))] below meth c s₁ [] 0 0 := Stand.of_body Bd
  have e0 : s₁.heap = h0 := by rw [← hh, Bd.state]; rfl
  have N0 := Fr.nil n0
  have pre0 : ∀ t, Steps p.tables e below (s₁.setTop (mkF m 0 #[.val (.int (2 : Int32))] [])) t → Steps p.tables e below (s₁.setTop (entryFrame m #[(.int (2 : Int32))] 1)) t := fun t k => castTop (ef_rm1_2 m ) k
  obtain ⟨T1, X1, e1, st1⟩ := getS2 X0 hx hZ hown (host := "") (Or.inl (hw _ (List.mem_of_getElem? (i := 31) rfl))) Via.refl e0 S_STOPPING (g := (mkF m 22 #[.val (.int (2 : Int32))] [])) rfl (hb hby d1_22)
  obtain ⟨fs, hr, hrun, hended, hW, hsame⟩ := X1.leave (v := some (.ref w_STOPPING)) (fun h => by rw [Bd.returns] at h; cases h)
  refine ⟨_, _, pre0 _ ?_, hrun, hended, _, _, rfl, ?_, ⟨_, rfl⟩, hW, hsame.mono (by decide) (by decide)⟩
  ·
    show Steps p.tables e below (s₁.setTop (mkF m 0 #[.val (.int (2 : Int32))] [])) _
    refine XS.iloadN X0.here hx rfl (hb hby d1_0) rfl ?_
    show Steps p.tables e below (s₁.setTop (mkF m 1 #[.val (.int (2 : Int32))] [(.int (2 : Int32))])) _
    refine XS.ifYes X0.here hx rfl (pc0 := 1) (pc' := 8) rfl (hb hby d1_1) rfl ((if0 _ _).trans (feq (by decide : ¬ ((2 : Int32) = (0 : Int32)))).2) (by decide) (by decide) ?_
    show Steps p.tables e below (s₁.setTop (mkF m 8 #[.val (.int (2 : Int32))] [])) _
    refine XS.iloadN X0.here hx rfl (hb hby d1_8) rfl ?_
    show Steps p.tables e below (s₁.setTop (mkF m 9 #[.val (.int (2 : Int32))] [(.int (2 : Int32))])) _
    refine XS.iconst X0.here hx rfl (hb hby d1_9) ?_
    show Steps p.tables e below (s₁.setTop (mkF m 10 #[.val (.int (2 : Int32))] [(.int (1 : Int32)), (.int (2 : Int32))])) _
    refine XS.icmpYes X0.here hx rfl (pc0 := 10) (pc' := 17) rfl (hb hby d1_10) rfl (feq (by decide : ¬ ((2 : Int32) = (1 : Int32)))).2 (by decide) (by decide) ?_
    show Steps p.tables e below (s₁.setTop (mkF m 17 #[.val (.int (2 : Int32))] [])) _
    refine XS.iloadN X0.here hx rfl (hb hby d1_17) rfl ?_
    show Steps p.tables e below (s₁.setTop (mkF m 18 #[.val (.int (2 : Int32))] [(.int (2 : Int32))])) _
    refine XS.iconst X0.here hx rfl (hb hby d1_18) ?_
    show Steps p.tables e below (s₁.setTop (mkF m 19 #[.val (.int (2 : Int32))] [(.int (2 : Int32)), (.int (2 : Int32))])) _
    refine XS.icmpNo X0.here hx rfl (hb hby d1_19) rfl (teq (by decide : (2 : Int32) = (2 : Int32))).2 ?_
    show Steps p.tables e below (s₁.setTop (mkF m 22 #[.val (.int (2 : Int32))] [])) _
    refine st1 _ ?_
    show Steps p.tables e below (T1.setTop (mkF m 25 #[.val (.int (2 : Int32))] [(.ref w_STOPPING)])) _
    jvm_step X1.here [X1.here.top, hx, (hb hby d1_25), X1.method', Bd.returns, Value.isRef, FieldType.isReference]
    first | (intro acts; rw [hr _ acts rfl rfl rfl]) | rw [hr _ _ rfl rfl rfl]
    exact Steps.refl _
  · show Q1_2 Z w_STOPPING h0 n0 _ T1.heap _
    rw [e1]
    exact ⟨rfl, N0, rfl⟩
theorem ef_rm2_2 (m : MethodId) (x0 : Addr) : entryFrame m #[(.ref x0)] 1 = mkF m 0 #[.val (.ref x0)] [] := by first | (simp [entryFrame, mkF, argsToLocals, Value.category]; done) | rfl
def Q2_2 (Z : State) (w_FAILED : Addr) (w_STOPPED : Addr) (w_STOPPING : Addr) (h0 : Heap) (n0 : Nat) (v : Option Value) (h : Heap) (L : List Loc) : Prop := v = some (.int (0 : Int32)) ∧ Fr n0 L ∧ h = h0
set_option maxRecDepth 65536 in
set_option maxHeartbeats 40000000 in
theorem rm2_2 (l : Launch) (Z : State) (a0 : Array Value) (hw : ∀ d ∈ tables_1, d.before a0 Z = true) (ws : List Jvm.Cond) (w_FAILED : Addr) (w_STOPPED : Addr) (w_STOPPING : Addr) (h0 : Heap) (n0 : Nat) (Z0 : n0 ≤ h0.size) (S_FAILED : Sta Z h0 "com/example/windlass/windlass/repository/BatchStatus" "FAILED" "Lcom/example/windlass/windlass/repository/BatchStatus;" (.ref w_FAILED)) (ne_FAILED_STOPPING : w_FAILED ≠ w_STOPPING) (S_STOPPED : Sta Z h0 "com/example/windlass/windlass/repository/BatchStatus" "STOPPED" "Lcom/example/windlass/windlass/repository/BatchStatus;" (.ref w_STOPPED)) (ne_STOPPED_STOPPING : w_STOPPED ≠ w_STOPPING) :
    MetFree l (⟨"com/example/windlass/windlass/repository/BatchStatus", "isRestartable", "()Z"⟩ : MethodName) (head1 (Jvm.Cond.code (⟨"com/example/windlass/windlass/repository/BatchStatus", "isRestartable", "()Z"⟩ : MethodName) prog_17_method_5_code 1 (some .boolean) :: ws) ({ frames := 0, cells := 0, slots := 0, locals := 0 } : Room)) (fun a U => a = #[(.ref w_STOPPING)] ∧ Z.Warmed39 U.vm ∧ U.heap = h0) (fun _ _ _ _ _ => True) (fun _ U o U' => ∃ v L, o = .returned v ∧ Q2_2 Z w_FAILED w_STOPPED w_STOPPING h0 n0 v U'.heap L ∧ FrameEnd U o U' L ({ frames := 0, cells := 0, slots := 0, locals := 0 } : Room).cells ({ frames := 0, cells := 0, slots := 0, locals := 0 } : Room).slots) := by
  refine MetFree.of_bodySF (plainFor_of_name pn_1) hisR ?_
  intro p e s m args below meth c s₁ Bd hml0 hP hK
  obtain ⟨rfl, hZ, hh⟩ := hP
  have hx := Bd.exec
  have hby := Bd.bytes
  have hml : c.maxLocals = 1 := hml0
  have hown : s.vm.findClass "com/example/windlass/windlass/repository/BatchStatus" = some m.cls := findClass_of_methodNamed Bd.named
  have hnm := (name_of_methodNamed Bd.named Bd.method).1
  have X0 : Stand p l e ({ frames := 0, cells := 0, slots := 0, locals := 0 } : Room) s m #[(.ref w_STOPPING)] below meth c s₁ [] 0 0 := Stand.of_body Bd
  have e0 : s₁.heap = h0 := by rw [← hh, Bd.state]; rfl
  have N0 := Fr.nil n0
  have pre0 : ∀ t, Steps p.tables e below (s₁.setTop (mkF m 0 #[.val (.ref w_STOPPING)] [])) t → Steps p.tables e below (s₁.setTop (entryFrame m #[(.ref w_STOPPING)] 1)) t := fun t k => castTop (ef_rm2_2 m w_STOPPING) k
  obtain ⟨T1, X1, e1, st1⟩ := getS2 X0 hx hZ hown (host := "") (Or.inl (hw _ (List.mem_of_getElem? (i := 12) rfl))) Via.refl e0 S_FAILED (g := (mkF m 1 #[.val (.ref w_STOPPING)] [(.ref w_STOPPING)])) rfl (hb hby d2_1)
  obtain ⟨T2, X2, e2, st2⟩ := getS2 X1 hx hZ hown (host := "") (Or.inl (hw _ (List.mem_of_getElem? (i := 14) rfl))) Via.refl e1 S_STOPPED (g := (mkF m 8 #[.val (.ref w_STOPPING)] [(.ref w_STOPPING)])) rfl (hb hby d2_8)
  obtain ⟨fs, hr, hrun, hended, hW, hsame⟩ := X2.leave (v := some (.int (0 : Int32))) (fun h => by rw [Bd.returns] at h; cases h)
  refine ⟨_, _, pre0 _ ?_, hrun, hended, _, _, rfl, ?_, ⟨_, rfl⟩, hW, hsame.mono (by decide) (by decide)⟩
  ·
    show Steps p.tables e below (s₁.setTop (mkF m 0 #[.val (.ref w_STOPPING)] [])) _
    refine XS.aloadN X0.here hx rfl (hb hby d2_0) rfl rfl ?_
    show Steps p.tables e below (s₁.setTop (mkF m 1 #[.val (.ref w_STOPPING)] [(.ref w_STOPPING)])) _
    refine st1 _ ?_
    show Steps p.tables e below (T1.setTop (mkF m 4 #[.val (.ref w_STOPPING)] [(.ref w_FAILED), (.ref w_STOPPING)])) _
    refine Jvm.RoadKit.acmp (g := (mkF m 4 #[.val (.ref w_STOPPING)] [(.ref w_FAILED), (.ref w_STOPPING)])) X1 hx rfl rfl rfl (pc0 := 4) (pc' := 7) (same := false) rfl (hb hby d2_4) rfl (decide_eq_false fun q => (Ne.symm ne_FAILED_STOPPING) (Value.ref.inj q)) (by decide) (by decide) ?_
    show Steps p.tables e below (T1.setTop (mkF m 7 #[.val (.ref w_STOPPING)] [])) _
    refine XS.aloadN X1.here hx rfl (hb hby d2_7) rfl rfl ?_
    show Steps p.tables e below (T1.setTop (mkF m 8 #[.val (.ref w_STOPPING)] [(.ref w_STOPPING)])) _
    refine st2 _ ?_
    show Steps p.tables e below (T2.setTop (mkF m 11 #[.val (.ref w_STOPPING)] [(.ref w_STOPPED), (.ref w_STOPPING)])) _
    refine Jvm.RoadKit.acmp (g := (mkF m 11 #[.val (.ref w_STOPPING)] [(.ref w_STOPPED), (.ref w_STOPPING)])) X2 hx rfl rfl rfl (pc0 := 11) (pc' := 18) (same := false) rfl (hb hby d2_11) rfl (decide_eq_false fun q => (Ne.symm ne_STOPPED_STOPPING) (Value.ref.inj q)) (by decide) (by decide) ?_
    show Steps p.tables e below (T2.setTop (mkF m 18 #[.val (.ref w_STOPPING)] [])) _
    refine XS.iconst X2.here hx rfl (hb hby d2_18) ?_
    show Steps p.tables e below (T2.setTop (mkF m 19 #[.val (.ref w_STOPPING)] [(.int (0 : Int32))])) _
    exact retN X2 hx (t := .boolean) Bd.returns (by simp) (hb hby d2_19) hr
  · show Q2_2 Z w_FAILED w_STOPPED w_STOPPING h0 n0 _ T2.heap _
    rw [e2]
    exact ⟨rfl, N0, rfl⟩
theorem d1_26 : decode method_2_code 26 = .ok (.iload_n 0, 1) := by decide +kernel
theorem d1_27 : decode method_2_code 27 = .ok (.iconst 3, 1) := by decide +kernel
theorem d1_28 : decode method_2_code 28 = .ok (.if_icmp .ne 7, 3) := by decide +kernel
theorem d1_31 : decode method_2_code 31 = .ok (.getstatic 19, 3) := by decide +kernel
theorem d1_34 : decode method_2_code 34 = .ok (.areturn, 1) := by decide +kernel
theorem ef_rm1_3 (m : MethodId)  : entryFrame m #[(.int (3 : Int32))] 1 = mkF m 0 #[.val (.int (3 : Int32))] [] := by first | (simp [entryFrame, mkF, argsToLocals, Value.category]; done) | rfl
def Q1_3 (Z : State) (w_STOPPED : Addr) (h0 : Heap) (n0 : Nat) (v : Option Value) (h : Heap) (L : List Loc) : Prop := v = some (.ref w_STOPPED) ∧ Fr n0 L ∧ h = h0
set_option maxRecDepth 65536 in
set_option maxHeartbeats 40000000 in
theorem rm1_3 (l : Launch) (Z : State) (a0 : Array Value) (hw : ∀ d ∈ tables_1, d.before a0 Z = true) (ws : List Jvm.Cond) (w_STOPPED : Addr) (h0 : Heap) (n0 : Nat) (Z0 : n0 ≤ h0.size) (S_STOPPED : Sta Z h0 "com/example/windlass/windlass/repository/BatchStatus" "STOPPED" "Lcom/example/windlass/windlass/repository/BatchStatus;" (.ref w_STOPPED)) :
    MetFree l (⟨"com/example/windlass/windlass/repository/BatchStatusIsRestartablePinLaw", "pick", "(I)Lcom/example/windlass/windlass/repository/BatchStatus;"⟩ : MethodName) (head1 (Jvm.Cond.code (⟨"com/example/windlass/windlass/repository/BatchStatusIsRestartablePinLaw", "pick", "(I)Lcom/example/windlass/windlass/repository/BatchStatus;"⟩ : MethodName) method_2_code 1 (some (.object "com/example/windlass/windlass/repository/BatchStatus")) :: ws) ({ frames := 0, cells := 0, slots := 0, locals := 0 } : Room)) (fun a U => a = #[(.int (3 : Int32))] ∧ Z.Warmed39 U.vm ∧ U.heap = h0) (fun _ _ _ _ _ => True) (fun _ U o U' => ∃ v L, o = .returned v ∧ Q1_3 Z w_STOPPED h0 n0 v U'.heap L ∧ FrameEnd U o U' L ({ frames := 0, cells := 0, slots := 0, locals := 0 } : Room).cells ({ frames := 0, cells := 0, slots := 0, locals := 0 } : Room).slots) := by
  refine MetFree.of_bodySF (plainFor_of_name pn_0) hisR ?_
  intro p e s m args below meth c s₁ Bd hml0 hP hK
  obtain ⟨rfl, hZ, hh⟩ := hP
  have hx := Bd.exec
  have hby := Bd.bytes
  have hml : c.maxLocals = 1 := hml0
  have hown : s.vm.findClass "com/example/windlass/windlass/repository/BatchStatusIsRestartablePinLaw" = some m.cls := findClass_of_methodNamed Bd.named
  have hnm := (name_of_methodNamed Bd.named Bd.method).1
  have X0 : Stand p l e ({ frames := 0, cells := 0, slots := 0, locals := 0 } : Room) s m #[(.int (3 : Int32))] below meth c s₁ [] 0 0 := Stand.of_body Bd
  have e0 : s₁.heap = h0 := by rw [← hh, Bd.state]; rfl
  have N0 := Fr.nil n0
  have pre0 : ∀ t, Steps p.tables e below (s₁.setTop (mkF m 0 #[.val (.int (3 : Int32))] [])) t → Steps p.tables e below (s₁.setTop (entryFrame m #[(.int (3 : Int32))] 1)) t := fun t k => castTop (ef_rm1_3 m ) k
  obtain ⟨T1, X1, e1, st1⟩ := getS2 X0 hx hZ hown (host := "") (Or.inl (hw _ (List.mem_of_getElem? (i := 16) rfl))) Via.refl e0 S_STOPPED (g := (mkF m 31 #[.val (.int (3 : Int32))] [])) rfl (hb hby d1_31)
  obtain ⟨fs, hr, hrun, hended, hW, hsame⟩ := X1.leave (v := some (.ref w_STOPPED)) (fun h => by rw [Bd.returns] at h; cases h)
  refine ⟨_, _, pre0 _ ?_, hrun, hended, _, _, rfl, ?_, ⟨_, rfl⟩, hW, hsame.mono (by decide) (by decide)⟩
  ·
    show Steps p.tables e below (s₁.setTop (mkF m 0 #[.val (.int (3 : Int32))] [])) _
    refine XS.iloadN X0.here hx rfl (hb hby d1_0) rfl ?_
    show Steps p.tables e below (s₁.setTop (mkF m 1 #[.val (.int (3 : Int32))] [(.int (3 : Int32))])) _
    refine XS.ifYes X0.here hx rfl (pc0 := 1) (pc' := 8) rfl (hb hby d1_1) rfl ((if0 _ _).trans (feq (by decide : ¬ ((3 : Int32) = (0 : Int32)))).2) (by decide) (by decide) ?_
    show Steps p.tables e below (s₁.setTop (mkF m 8 #[.val (.int (3 : Int32))] [])) _
    refine XS.iloadN X0.here hx rfl (hb hby d1_8) rfl ?_
    show Steps p.tables e below (s₁.setTop (mkF m 9 #[.val (.int (3 : Int32))] [(.int (3 : Int32))])) _
    refine XS.iconst X0.here hx rfl (hb hby d1_9) ?_
    show Steps p.tables e below (s₁.setTop (mkF m 10 #[.val (.int (3 : Int32))] [(.int (1 : Int32)), (.int (3 : Int32))])) _
    refine XS.icmpYes X0.here hx rfl (pc0 := 10) (pc' := 17) rfl (hb hby d1_10) rfl (feq (by decide : ¬ ((3 : Int32) = (1 : Int32)))).2 (by decide) (by decide) ?_
    show Steps p.tables e below (s₁.setTop (mkF m 17 #[.val (.int (3 : Int32))] [])) _
    refine XS.iloadN X0.here hx rfl (hb hby d1_17) rfl ?_
    show Steps p.tables e below (s₁.setTop (mkF m 18 #[.val (.int (3 : Int32))] [(.int (3 : Int32))])) _
    refine XS.iconst X0.here hx rfl (hb hby d1_18) ?_
    show Steps p.tables e below (s₁.setTop (mkF m 19 #[.val (.int (3 : Int32))] [(.int (2 : Int32)), (.int (3 : Int32))])) _
    refine XS.icmpYes X0.here hx rfl (pc0 := 19) (pc' := 26) rfl (hb hby d1_19) rfl (feq (by decide : ¬ ((3 : Int32) = (2 : Int32)))).2 (by decide) (by decide) ?_
    show Steps p.tables e below (s₁.setTop (mkF m 26 #[.val (.int (3 : Int32))] [])) _
    refine XS.iloadN X0.here hx rfl (hb hby d1_26) rfl ?_
    show Steps p.tables e below (s₁.setTop (mkF m 27 #[.val (.int (3 : Int32))] [(.int (3 : Int32))])) _
    refine XS.iconst X0.here hx rfl (hb hby d1_27) ?_
    show Steps p.tables e below (s₁.setTop (mkF m 28 #[.val (.int (3 : Int32))] [(.int (3 : Int32)), (.int (3 : Int32))])) _
    refine XS.icmpNo X0.here hx rfl (hb hby d1_28) rfl (teq (by decide : (3 : Int32) = (3 : Int32))).2 ?_
    show Steps p.tables e below (s₁.setTop (mkF m 31 #[.val (.int (3 : Int32))] [])) _
    refine st1 _ ?_
    show Steps p.tables e below (T1.setTop (mkF m 34 #[.val (.int (3 : Int32))] [(.ref w_STOPPED)])) _
    jvm_step X1.here [X1.here.top, hx, (hb hby d1_34), X1.method', Bd.returns, Value.isRef, FieldType.isReference]
    first | (intro acts; rw [hr _ acts rfl rfl rfl]) | rw [hr _ _ rfl rfl rfl]
    exact Steps.refl _
  · show Q1_3 Z w_STOPPED h0 n0 _ T1.heap _
    rw [e1]
    exact ⟨rfl, N0, rfl⟩
theorem d2_14 : decode prog_17_method_5_code 14 = .ok (.iconst 1, 1) := by decide +kernel
theorem d2_15 : decode prog_17_method_5_code 15 = .ok (.goto 4, 3) := by decide +kernel
theorem ef_rm2_3 (m : MethodId) (x0 : Addr) : entryFrame m #[(.ref x0)] 1 = mkF m 0 #[.val (.ref x0)] [] := by first | (simp [entryFrame, mkF, argsToLocals, Value.category]; done) | rfl
def Q2_3 (Z : State) (w_FAILED : Addr) (w_STOPPED : Addr) (h0 : Heap) (n0 : Nat) (v : Option Value) (h : Heap) (L : List Loc) : Prop := v = some (.int (1 : Int32)) ∧ Fr n0 L ∧ h = h0
set_option maxRecDepth 65536 in
set_option maxHeartbeats 40000000 in
theorem rm2_3 (l : Launch) (Z : State) (a0 : Array Value) (hw : ∀ d ∈ tables_1, d.before a0 Z = true) (ws : List Jvm.Cond) (w_FAILED : Addr) (w_STOPPED : Addr) (h0 : Heap) (n0 : Nat) (Z0 : n0 ≤ h0.size) (S_FAILED : Sta Z h0 "com/example/windlass/windlass/repository/BatchStatus" "FAILED" "Lcom/example/windlass/windlass/repository/BatchStatus;" (.ref w_FAILED)) (ne_FAILED_STOPPED : w_FAILED ≠ w_STOPPED) (S_STOPPED : Sta Z h0 "com/example/windlass/windlass/repository/BatchStatus" "STOPPED" "Lcom/example/windlass/windlass/repository/BatchStatus;" (.ref w_STOPPED)) :
    MetFree l (⟨"com/example/windlass/windlass/repository/BatchStatus", "isRestartable", "()Z"⟩ : MethodName) (head1 (Jvm.Cond.code (⟨"com/example/windlass/windlass/repository/BatchStatus", "isRestartable", "()Z"⟩ : MethodName) prog_17_method_5_code 1 (some .boolean) :: ws) ({ frames := 0, cells := 0, slots := 0, locals := 0 } : Room)) (fun a U => a = #[(.ref w_STOPPED)] ∧ Z.Warmed39 U.vm ∧ U.heap = h0) (fun _ _ _ _ _ => True) (fun _ U o U' => ∃ v L, o = .returned v ∧ Q2_3 Z w_FAILED w_STOPPED h0 n0 v U'.heap L ∧ FrameEnd U o U' L ({ frames := 0, cells := 0, slots := 0, locals := 0 } : Room).cells ({ frames := 0, cells := 0, slots := 0, locals := 0 } : Room).slots) := by
  refine MetFree.of_bodySF (plainFor_of_name pn_1) hisR ?_
  intro p e s m args below meth c s₁ Bd hml0 hP hK
  obtain ⟨rfl, hZ, hh⟩ := hP
  have hx := Bd.exec
  have hby := Bd.bytes
  have hml : c.maxLocals = 1 := hml0
  have hown : s.vm.findClass "com/example/windlass/windlass/repository/BatchStatus" = some m.cls := findClass_of_methodNamed Bd.named
  have hnm := (name_of_methodNamed Bd.named Bd.method).1
  have X0 : Stand p l e ({ frames := 0, cells := 0, slots := 0, locals := 0 } : Room) s m #[(.ref w_STOPPED)] below meth c s₁ [] 0 0 := Stand.of_body Bd
  have e0 : s₁.heap = h0 := by rw [← hh, Bd.state]; rfl
  have N0 := Fr.nil n0
  have pre0 : ∀ t, Steps p.tables e below (s₁.setTop (mkF m 0 #[.val (.ref w_STOPPED)] [])) t → Steps p.tables e below (s₁.setTop (entryFrame m #[(.ref w_STOPPED)] 1)) t := fun t k => castTop (ef_rm2_3 m w_STOPPED) k
  obtain ⟨T1, X1, e1, st1⟩ := getS2 X0 hx hZ hown (host := "") (Or.inl (hw _ (List.mem_of_getElem? (i := 12) rfl))) Via.refl e0 S_FAILED (g := (mkF m 1 #[.val (.ref w_STOPPED)] [(.ref w_STOPPED)])) rfl (hb hby d2_1)
  obtain ⟨T2, X2, e2, st2⟩ := getS2 X1 hx hZ hown (host := "") (Or.inl (hw _ (List.mem_of_getElem? (i := 14) rfl))) Via.refl e1 S_STOPPED (g := (mkF m 8 #[.val (.ref w_STOPPED)] [(.ref w_STOPPED)])) rfl (hb hby d2_8)
  obtain ⟨fs, hr, hrun, hended, hW, hsame⟩ := X2.leave (v := some (.int (1 : Int32))) (fun h => by rw [Bd.returns] at h; cases h)
  refine ⟨_, _, pre0 _ ?_, hrun, hended, _, _, rfl, ?_, ⟨_, rfl⟩, hW, hsame.mono (by decide) (by decide)⟩
  ·
    show Steps p.tables e below (s₁.setTop (mkF m 0 #[.val (.ref w_STOPPED)] [])) _
    refine XS.aloadN X0.here hx rfl (hb hby d2_0) rfl rfl ?_
    show Steps p.tables e below (s₁.setTop (mkF m 1 #[.val (.ref w_STOPPED)] [(.ref w_STOPPED)])) _
    refine st1 _ ?_
    show Steps p.tables e below (T1.setTop (mkF m 4 #[.val (.ref w_STOPPED)] [(.ref w_FAILED), (.ref w_STOPPED)])) _
    refine Jvm.RoadKit.acmp (g := (mkF m 4 #[.val (.ref w_STOPPED)] [(.ref w_FAILED), (.ref w_STOPPED)])) X1 hx rfl rfl rfl (pc0 := 4) (pc' := 7) (same := false) rfl (hb hby d2_4) rfl (decide_eq_false fun q => (Ne.symm ne_FAILED_STOPPED) (Value.ref.inj q)) (by decide) (by decide) ?_
    show Steps p.tables e below (T1.setTop (mkF m 7 #[.val (.ref w_STOPPED)] [])) _
    refine XS.aloadN X1.here hx rfl (hb hby d2_7) rfl rfl ?_
    show Steps p.tables e below (T1.setTop (mkF m 8 #[.val (.ref w_STOPPED)] [(.ref w_STOPPED)])) _
    refine st2 _ ?_
    show Steps p.tables e below (T2.setTop (mkF m 11 #[.val (.ref w_STOPPED)] [(.ref w_STOPPED), (.ref w_STOPPED)])) _
    refine Jvm.RoadKit.acmp (g := (mkF m 11 #[.val (.ref w_STOPPED)] [(.ref w_STOPPED), (.ref w_STOPPED)])) X2 hx rfl rfl rfl (pc0 := 11) (pc' := 14) (same := true) rfl (hb hby d2_11) rfl (decide_eq_true rfl) (by decide) (by decide) ?_
    show Steps p.tables e below (T2.setTop (mkF m 14 #[.val (.ref w_STOPPED)] [])) _
    refine XS.iconst X2.here hx rfl (hb hby d2_14) ?_
    show Steps p.tables e below (T2.setTop (mkF m 15 #[.val (.ref w_STOPPED)] [(.int (1 : Int32))])) _
    refine XS.goto X2.here hx rfl (pc0 := 15) (pc' := 19) rfl (hb hby d2_15) (by decide) (by decide) ?_
    show Steps p.tables e below (T2.setTop (mkF m 19 #[.val (.ref w_STOPPED)] [(.int (1 : Int32))])) _
    exact retN X2 hx (t := .boolean) Bd.returns (by simp) (hb hby d2_19) hr
  · show Q2_3 Z w_FAILED w_STOPPED h0 n0 _ T2.heap _
    rw [e2]
    exact ⟨rfl, N0, rfl⟩
theorem d3_0 : decode prog_17_method_4_code 0 = .ok (.aload_n 0, 1) := by decide +kernel
theorem d3_1 : decode prog_17_method_4_code 1 = .ok (.getstatic 3, 3) := by decide +kernel
theorem d3_4 : decode prog_17_method_4_code 4 = .ok (.if_acmp .eq 17, 3) := by decide +kernel
theorem d3_7 : decode prog_17_method_4_code 7 = .ok (.aload_n 0, 1) := by decide +kernel
theorem d3_8 : decode prog_17_method_4_code 8 = .ok (.getstatic 7, 3) := by decide +kernel
theorem d3_11 : decode prog_17_method_4_code 11 = .ok (.if_acmp .eq 10, 3) := by decide +kernel
theorem d3_14 : decode prog_17_method_4_code 14 = .ok (.aload_n 0, 1) := by decide +kernel
theorem d3_15 : decode prog_17_method_4_code 15 = .ok (.getstatic 10, 3) := by decide +kernel
theorem d3_18 : decode prog_17_method_4_code 18 = .ok (.if_acmp .ne 7, 3) := by decide +kernel
theorem d3_25 : decode prog_17_method_4_code 25 = .ok (.iconst 0, 1) := by decide +kernel
theorem d3_26 : decode prog_17_method_4_code 26 = .ok (.ireturn, 1) := by decide +kernel
theorem ef_rm3_0 (m : MethodId) (x0 : Addr) : entryFrame m #[(.ref x0)] 1 = mkF m 0 #[.val (.ref x0)] [] := by first | (simp [entryFrame, mkF, argsToLocals, Value.category]; done) | rfl
def Q3_0 (Z : State) (w_STARTING : Addr) (w_STOPPED : Addr) (w_STARTED : Addr) (w_STOPPING : Addr) (h0 : Heap) (n0 : Nat) (v : Option Value) (h : Heap) (L : List Loc) : Prop := v = some (.int (0 : Int32)) ∧ Fr n0 L ∧ h = h0
set_option maxRecDepth 65536 in
set_option maxHeartbeats 40000000 in
theorem rm3_0 (l : Launch) (Z : State) (a0 : Array Value) (hw : ∀ d ∈ tables_1, d.before a0 Z = true) (ws : List Jvm.Cond) (w_STARTING : Addr) (w_STOPPED : Addr) (w_STARTED : Addr) (w_STOPPING : Addr) (h0 : Heap) (n0 : Nat) (Z0 : n0 ≤ h0.size) (S_STARTING : Sta Z h0 "com/example/windlass/windlass/repository/BatchStatus" "STARTING" "Lcom/example/windlass/windlass/repository/BatchStatus;" (.ref w_STARTING)) (ne_STARTING_STOPPED : w_STARTING ≠ w_STOPPED) (S_STARTED : Sta Z h0 "com/example/windlass/windlass/repository/BatchStatus" "STARTED" "Lcom/example/windlass/windlass/repository/BatchStatus;" (.ref w_STARTED)) (ne_STARTED_STOPPED : w_STARTED ≠ w_STOPPED) (S_STOPPING : Sta Z h0 "com/example/windlass/windlass/repository/BatchStatus" "STOPPING" "Lcom/example/windlass/windlass/repository/BatchStatus;" (.ref w_STOPPING)) (ne_STOPPED_STOPPING : w_STOPPED ≠ w_STOPPING) :
    MetFree l (⟨"com/example/windlass/windlass/repository/BatchStatus", "isRunning", "()Z"⟩ : MethodName) (head1 (Jvm.Cond.code (⟨"com/example/windlass/windlass/repository/BatchStatus", "isRunning", "()Z"⟩ : MethodName) prog_17_method_4_code 1 (some .boolean) :: ws) ({ frames := 0, cells := 0, slots := 0, locals := 0 } : Room)) (fun a U => a = #[(.ref w_STOPPED)] ∧ Z.Warmed39 U.vm ∧ U.heap = h0) (fun _ _ _ _ _ => True) (fun _ U o U' => ∃ v L, o = .returned v ∧ Q3_0 Z w_STARTING w_STOPPED w_STARTED w_STOPPING h0 n0 v U'.heap L ∧ FrameEnd U o U' L ({ frames := 0, cells := 0, slots := 0, locals := 0 } : Room).cells ({ frames := 0, cells := 0, slots := 0, locals := 0 } : Room).slots) := by
  refine MetFree.of_bodySF (plainFor_of_name pn_1) hisR ?_
  intro p e s m args below meth c s₁ Bd hml0 hP hK
  obtain ⟨rfl, hZ, hh⟩ := hP
  have hx := Bd.exec
  have hby := Bd.bytes
  have hml : c.maxLocals = 1 := hml0
  have hown : s.vm.findClass "com/example/windlass/windlass/repository/BatchStatus" = some m.cls := findClass_of_methodNamed Bd.named
  have hnm := (name_of_methodNamed Bd.named Bd.method).1
  have X0 : Stand p l e ({ frames := 0, cells := 0, slots := 0, locals := 0 } : Room) s m #[(.ref w_STOPPED)] below meth c s₁ [] 0 0 := Stand.of_body Bd
  have e0 : s₁.heap = h0 := by rw [← hh, Bd.state]; rfl
  have N0 := Fr.nil n0
  have pre0 : ∀ t, Steps p.tables e below (s₁.setTop (mkF m 0 #[.val (.ref w_STOPPED)] [])) t → Steps p.tables e below (s₁.setTop (entryFrame m #[(.ref w_STOPPED)] 1)) t := fun t k => castTop (ef_rm3_0 m w_STOPPED) k
  obtain ⟨T1, X1, e1, st1⟩ := getS2 X0 hx hZ hown (host := "") (Or.inl (hw _ (List.mem_of_getElem? (i := 22) rfl))) Via.refl e0 S_STARTING (g := (mkF m 1 #[.val (.ref w_STOPPED)] [(.ref w_STOPPED)])) rfl (hb hby d3_1)
  obtain ⟨T2, X2, e2, st2⟩ := getS2 X1 hx hZ hown (host := "") (Or.inl (hw _ (List.mem_of_getElem? (i := 23) rfl))) Via.refl e1 S_STARTED (g := (mkF m 8 #[.val (.ref w_STOPPED)] [(.ref w_STOPPED)])) rfl (hb hby d3_8)
  obtain ⟨T3, X3, e3, st3⟩ := getS2 X2 hx hZ hown (host := "") (Or.inl (hw _ (List.mem_of_getElem? (i := 25) rfl))) Via.refl e2 S_STOPPING (g := (mkF m 15 #[.val (.ref w_STOPPED)] [(.ref w_STOPPED)])) rfl (hb hby d3_15)
  obtain ⟨fs, hr, hrun, hended, hW, hsame⟩ := X3.leave (v := some (.int (0 : Int32))) (fun h => by rw [Bd.returns] at h; cases h)
  refine ⟨_, _, pre0 _ ?_, hrun, hended, _, _, rfl, ?_, ⟨_, rfl⟩, hW, hsame.mono (by decide) (by decide)⟩
  ·
    show Steps p.tables e below (s₁.setTop (mkF m 0 #[.val (.ref w_STOPPED)] [])) _
    refine XS.aloadN X0.here hx rfl (hb hby d3_0) rfl rfl ?_
    show Steps p.tables e below (s₁.setTop (mkF m 1 #[.val (.ref w_STOPPED)] [(.ref w_STOPPED)])) _
    refine st1 _ ?_
    show Steps p.tables e below (T1.setTop (mkF m 4 #[.val (.ref w_STOPPED)] [(.ref w_STARTING), (.ref w_STOPPED)])) _
    refine Jvm.RoadKit.acmp (g := (mkF m 4 #[.val (.ref w_STOPPED)] [(.ref w_STARTING), (.ref w_STOPPED)])) X1 hx rfl rfl rfl (pc0 := 4) (pc' := 7) (same := false) rfl (hb hby d3_4) rfl (decide_eq_false fun q => (Ne.symm ne_STARTING_STOPPED) (Value.ref.inj q)) (by decide) (by decide) ?_
    show Steps p.tables e below (T1.setTop (mkF m 7 #[.val (.ref w_STOPPED)] [])) _
    refine XS.aloadN X1.here hx rfl (hb hby d3_7) rfl rfl ?_
    show Steps p.tables e below (T1.setTop (mkF m 8 #[.val (.ref w_STOPPED)] [(.ref w_STOPPED)])) _
    refine st2 _ ?_
    show Steps p.tables e below (T2.setTop (mkF m 11 #[.val (.ref w_STOPPED)] [(.ref w_STARTED), (.ref w_STOPPED)])) _
    refine Jvm.RoadKit.acmp (g := (mkF m 11 #[.val (.ref w_STOPPED)] [(.ref w_STARTED), (.ref w_STOPPED)])) X2 hx rfl rfl rfl (pc0 := 11) (pc' := 14) (same := false) rfl (hb hby d3_11) rfl (decide_eq_false fun q => (Ne.symm ne_STARTED_STOPPED) (Value.ref.inj q)) (by decide) (by decide) ?_
    show Steps p.tables e below (T2.setTop (mkF m 14 #[.val (.ref w_STOPPED)] [])) _
    refine XS.aloadN X2.here hx rfl (hb hby d3_14) rfl rfl ?_
    show Steps p.tables e below (T2.setTop (mkF m 15 #[.val (.ref w_STOPPED)] [(.ref w_STOPPED)])) _
    refine st3 _ ?_
    show Steps p.tables e below (T3.setTop (mkF m 18 #[.val (.ref w_STOPPED)] [(.ref w_STOPPING), (.ref w_STOPPED)])) _
    refine Jvm.RoadKit.acmp (g := (mkF m 18 #[.val (.ref w_STOPPED)] [(.ref w_STOPPING), (.ref w_STOPPED)])) X3 hx rfl rfl rfl (pc0 := 18) (pc' := 25) (same := false) rfl (hb hby d3_18) rfl (decide_eq_false fun q => ne_STOPPED_STOPPING (Value.ref.inj q)) (by decide) (by decide) ?_
    show Steps p.tables e below (T3.setTop (mkF m 25 #[.val (.ref w_STOPPED)] [])) _
    refine XS.iconst X3.here hx rfl (hb hby d3_25) ?_
    show Steps p.tables e below (T3.setTop (mkF m 26 #[.val (.ref w_STOPPED)] [(.int (0 : Int32))])) _
    exact retN X3 hx (t := .boolean) Bd.returns (by simp) (hb hby d3_26) hr
  · show Q3_0 Z w_STARTING w_STOPPED w_STARTED w_STOPPING h0 n0 _ T3.heap _
    rw [e3]
    exact ⟨rfl, N0, rfl⟩
theorem d1_35 : decode method_2_code 35 = .ok (.iload_n 0, 1) := by decide +kernel
theorem d1_36 : decode method_2_code 36 = .ok (.iconst 4, 1) := by decide +kernel
theorem d1_37 : decode method_2_code 37 = .ok (.if_icmp .ne 7, 3) := by decide +kernel
theorem d1_40 : decode method_2_code 40 = .ok (.getstatic 22, 3) := by decide +kernel
theorem d1_43 : decode method_2_code 43 = .ok (.areturn, 1) := by decide +kernel
theorem ef_rm1_4 (m : MethodId)  : entryFrame m #[(.int (4 : Int32))] 1 = mkF m 0 #[.val (.int (4 : Int32))] [] := by first | (simp [entryFrame, mkF, argsToLocals, Value.category]; done) | rfl
def Q1_4 (Z : State) (w_COMPLETED : Addr) (h0 : Heap) (n0 : Nat) (v : Option Value) (h : Heap) (L : List Loc) : Prop := v = some (.ref w_COMPLETED) ∧ Fr n0 L ∧ h = h0
set_option maxRecDepth 65536 in
set_option maxHeartbeats 40000000 in
theorem rm1_4 (l : Launch) (Z : State) (a0 : Array Value) (hw : ∀ d ∈ tables_1, d.before a0 Z = true) (ws : List Jvm.Cond) (w_COMPLETED : Addr) (h0 : Heap) (n0 : Nat) (Z0 : n0 ≤ h0.size) (S_COMPLETED : Sta Z h0 "com/example/windlass/windlass/repository/BatchStatus" "COMPLETED" "Lcom/example/windlass/windlass/repository/BatchStatus;" (.ref w_COMPLETED)) :
    MetFree l (⟨"com/example/windlass/windlass/repository/BatchStatusIsRestartablePinLaw", "pick", "(I)Lcom/example/windlass/windlass/repository/BatchStatus;"⟩ : MethodName) (head1 (Jvm.Cond.code (⟨"com/example/windlass/windlass/repository/BatchStatusIsRestartablePinLaw", "pick", "(I)Lcom/example/windlass/windlass/repository/BatchStatus;"⟩ : MethodName) method_2_code 1 (some (.object "com/example/windlass/windlass/repository/BatchStatus")) :: ws) ({ frames := 0, cells := 0, slots := 0, locals := 0 } : Room)) (fun a U => a = #[(.int (4 : Int32))] ∧ Z.Warmed39 U.vm ∧ U.heap = h0) (fun _ _ _ _ _ => True) (fun _ U o U' => ∃ v L, o = .returned v ∧ Q1_4 Z w_COMPLETED h0 n0 v U'.heap L ∧ FrameEnd U o U' L ({ frames := 0, cells := 0, slots := 0, locals := 0 } : Room).cells ({ frames := 0, cells := 0, slots := 0, locals := 0 } : Room).slots) := by
  refine MetFree.of_bodySF (plainFor_of_name pn_0) hisR ?_
  intro p e s m args below meth c s₁ Bd hml0 hP hK
  obtain ⟨rfl, hZ, hh⟩ := hP
  have hx := Bd.exec
  have hby := Bd.bytes
  have hml : c.maxLocals = 1 := hml0
  have hown : s.vm.findClass "com/example/windlass/windlass/repository/BatchStatusIsRestartablePinLaw" = some m.cls := findClass_of_methodNamed Bd.named
  have hnm := (name_of_methodNamed Bd.named Bd.method).1
  have X0 : Stand p l e ({ frames := 0, cells := 0, slots := 0, locals := 0 } : Room) s m #[(.int (4 : Int32))] below meth c s₁ [] 0 0 := Stand.of_body Bd
  have e0 : s₁.heap = h0 := by rw [← hh, Bd.state]; rfl
  have N0 := Fr.nil n0
  have pre0 : ∀ t, Steps p.tables e below (s₁.setTop (mkF m 0 #[.val (.int (4 : Int32))] [])) t → Steps p.tables e below (s₁.setTop (entryFrame m #[(.int (4 : Int32))] 1)) t := fun t k => castTop (ef_rm1_4 m ) k
  obtain ⟨T1, X1, e1, st1⟩ := getS2 X0 hx hZ hown (host := "") (Or.inl (hw _ (List.mem_of_getElem? (i := 33) rfl))) Via.refl e0 S_COMPLETED (g := (mkF m 40 #[.val (.int (4 : Int32))] [])) rfl (hb hby d1_40)
  obtain ⟨fs, hr, hrun, hended, hW, hsame⟩ := X1.leave (v := some (.ref w_COMPLETED)) (fun h => by rw [Bd.returns] at h; cases h)
  refine ⟨_, _, pre0 _ ?_, hrun, hended, _, _, rfl, ?_, ⟨_, rfl⟩, hW, hsame.mono (by decide) (by decide)⟩
  ·
    show Steps p.tables e below (s₁.setTop (mkF m 0 #[.val (.int (4 : Int32))] [])) _
    refine XS.iloadN X0.here hx rfl (hb hby d1_0) rfl ?_
    show Steps p.tables e below (s₁.setTop (mkF m 1 #[.val (.int (4 : Int32))] [(.int (4 : Int32))])) _
    refine XS.ifYes X0.here hx rfl (pc0 := 1) (pc' := 8) rfl (hb hby d1_1) rfl ((if0 _ _).trans (feq (by decide : ¬ ((4 : Int32) = (0 : Int32)))).2) (by decide) (by decide) ?_
    show Steps p.tables e below (s₁.setTop (mkF m 8 #[.val (.int (4 : Int32))] [])) _
    refine XS.iloadN X0.here hx rfl (hb hby d1_8) rfl ?_
    show Steps p.tables e below (s₁.setTop (mkF m 9 #[.val (.int (4 : Int32))] [(.int (4 : Int32))])) _
    refine XS.iconst X0.here hx rfl (hb hby d1_9) ?_
    show Steps p.tables e below (s₁.setTop (mkF m 10 #[.val (.int (4 : Int32))] [(.int (1 : Int32)), (.int (4 : Int32))])) _
    refine XS.icmpYes X0.here hx rfl (pc0 := 10) (pc' := 17) rfl (hb hby d1_10) rfl (feq (by decide : ¬ ((4 : Int32) = (1 : Int32)))).2 (by decide) (by decide) ?_
    show Steps p.tables e below (s₁.setTop (mkF m 17 #[.val (.int (4 : Int32))] [])) _
    refine XS.iloadN X0.here hx rfl (hb hby d1_17) rfl ?_
    show Steps p.tables e below (s₁.setTop (mkF m 18 #[.val (.int (4 : Int32))] [(.int (4 : Int32))])) _
    refine XS.iconst X0.here hx rfl (hb hby d1_18) ?_
    show Steps p.tables e below (s₁.setTop (mkF m 19 #[.val (.int (4 : Int32))] [(.int (2 : Int32)), (.int (4 : Int32))])) _
    refine XS.icmpYes X0.here hx rfl (pc0 := 19) (pc' := 26) rfl (hb hby d1_19) rfl (feq (by decide : ¬ ((4 : Int32) = (2 : Int32)))).2 (by decide) (by decide) ?_
    show Steps p.tables e below (s₁.setTop (mkF m 26 #[.val (.int (4 : Int32))] [])) _
    refine XS.iloadN X0.here hx rfl (hb hby d1_26) rfl ?_
    show Steps p.tables e below (s₁.setTop (mkF m 27 #[.val (.int (4 : Int32))] [(.int (4 : Int32))])) _
    refine XS.iconst X0.here hx rfl (hb hby d1_27) ?_
    show Steps p.tables e below (s₁.setTop (mkF m 28 #[.val (.int (4 : Int32))] [(.int (3 : Int32)), (.int (4 : Int32))])) _
    refine XS.icmpYes X0.here hx rfl (pc0 := 28) (pc' := 35) rfl (hb hby d1_28) rfl (feq (by decide : ¬ ((4 : Int32) = (3 : Int32)))).2 (by decide) (by decide) ?_
    show Steps p.tables e below (s₁.setTop (mkF m 35 #[.val (.int (4 : Int32))] [])) _
    refine XS.iloadN X0.here hx rfl (hb hby d1_35) rfl ?_
    show Steps p.tables e below (s₁.setTop (mkF m 36 #[.val (.int (4 : Int32))] [(.int (4 : Int32))])) _
    refine XS.iconst X0.here hx rfl (hb hby d1_36) ?_
    show Steps p.tables e below (s₁.setTop (mkF m 37 #[.val (.int (4 : Int32))] [(.int (4 : Int32)), (.int (4 : Int32))])) _
    refine XS.icmpNo X0.here hx rfl (hb hby d1_37) rfl (teq (by decide : (4 : Int32) = (4 : Int32))).2 ?_
    show Steps p.tables e below (s₁.setTop (mkF m 40 #[.val (.int (4 : Int32))] [])) _
    refine st1 _ ?_
    show Steps p.tables e below (T1.setTop (mkF m 43 #[.val (.int (4 : Int32))] [(.ref w_COMPLETED)])) _
    jvm_step X1.here [X1.here.top, hx, (hb hby d1_43), X1.method', Bd.returns, Value.isRef, FieldType.isReference]
    first | (intro acts; rw [hr _ acts rfl rfl rfl]) | rw [hr _ _ rfl rfl rfl]
    exact Steps.refl _
  · show Q1_4 Z w_COMPLETED h0 n0 _ T1.heap _
    rw [e1]
    exact ⟨rfl, N0, rfl⟩
theorem ef_rm2_4 (m : MethodId) (x0 : Addr) : entryFrame m #[(.ref x0)] 1 = mkF m 0 #[.val (.ref x0)] [] := by first | (simp [entryFrame, mkF, argsToLocals, Value.category]; done) | rfl
def Q2_4 (Z : State) (w_FAILED : Addr) (w_STOPPED : Addr) (w_COMPLETED : Addr) (h0 : Heap) (n0 : Nat) (v : Option Value) (h : Heap) (L : List Loc) : Prop := v = some (.int (0 : Int32)) ∧ Fr n0 L ∧ h = h0
set_option maxRecDepth 65536 in
set_option maxHeartbeats 40000000 in
theorem rm2_4 (l : Launch) (Z : State) (a0 : Array Value) (hw : ∀ d ∈ tables_1, d.before a0 Z = true) (ws : List Jvm.Cond) (w_FAILED : Addr) (w_STOPPED : Addr) (w_COMPLETED : Addr) (h0 : Heap) (n0 : Nat) (Z0 : n0 ≤ h0.size) (S_FAILED : Sta Z h0 "com/example/windlass/windlass/repository/BatchStatus" "FAILED" "Lcom/example/windlass/windlass/repository/BatchStatus;" (.ref w_FAILED)) (ne_COMPLETED_FAILED : w_COMPLETED ≠ w_FAILED) (S_STOPPED : Sta Z h0 "com/example/windlass/windlass/repository/BatchStatus" "STOPPED" "Lcom/example/windlass/windlass/repository/BatchStatus;" (.ref w_STOPPED)) (ne_COMPLETED_STOPPED : w_COMPLETED ≠ w_STOPPED) :
    MetFree l (⟨"com/example/windlass/windlass/repository/BatchStatus", "isRestartable", "()Z"⟩ : MethodName) (head1 (Jvm.Cond.code (⟨"com/example/windlass/windlass/repository/BatchStatus", "isRestartable", "()Z"⟩ : MethodName) prog_17_method_5_code 1 (some .boolean) :: ws) ({ frames := 0, cells := 0, slots := 0, locals := 0 } : Room)) (fun a U => a = #[(.ref w_COMPLETED)] ∧ Z.Warmed39 U.vm ∧ U.heap = h0) (fun _ _ _ _ _ => True) (fun _ U o U' => ∃ v L, o = .returned v ∧ Q2_4 Z w_FAILED w_STOPPED w_COMPLETED h0 n0 v U'.heap L ∧ FrameEnd U o U' L ({ frames := 0, cells := 0, slots := 0, locals := 0 } : Room).cells ({ frames := 0, cells := 0, slots := 0, locals := 0 } : Room).slots) := by
  refine MetFree.of_bodySF (plainFor_of_name pn_1) hisR ?_
  intro p e s m args below meth c s₁ Bd hml0 hP hK
  obtain ⟨rfl, hZ, hh⟩ := hP
  have hx := Bd.exec
  have hby := Bd.bytes
  have hml : c.maxLocals = 1 := hml0
  have hown : s.vm.findClass "com/example/windlass/windlass/repository/BatchStatus" = some m.cls := findClass_of_methodNamed Bd.named
  have hnm := (name_of_methodNamed Bd.named Bd.method).1
  have X0 : Stand p l e ({ frames := 0, cells := 0, slots := 0, locals := 0 } : Room) s m #[(.ref w_COMPLETED)] below meth c s₁ [] 0 0 := Stand.of_body Bd
  have e0 : s₁.heap = h0 := by rw [← hh, Bd.state]; rfl
  have N0 := Fr.nil n0
  have pre0 : ∀ t, Steps p.tables e below (s₁.setTop (mkF m 0 #[.val (.ref w_COMPLETED)] [])) t → Steps p.tables e below (s₁.setTop (entryFrame m #[(.ref w_COMPLETED)] 1)) t := fun t k => castTop (ef_rm2_4 m w_COMPLETED) k
  obtain ⟨T1, X1, e1, st1⟩ := getS2 X0 hx hZ hown (host := "") (Or.inl (hw _ (List.mem_of_getElem? (i := 12) rfl))) Via.refl e0 S_FAILED (g := (mkF m 1 #[.val (.ref w_COMPLETED)] [(.ref w_COMPLETED)])) rfl (hb hby d2_1)
  obtain ⟨T2, X2, e2, st2⟩ := getS2 X1 hx hZ hown (host := "") (Or.inl (hw _ (List.mem_of_getElem? (i := 14) rfl))) Via.refl e1 S_STOPPED (g := (mkF m 8 #[.val (.ref w_COMPLETED)] [(.ref w_COMPLETED)])) rfl (hb hby d2_8)
  obtain ⟨fs, hr, hrun, hended, hW, hsame⟩ := X2.leave (v := some (.int (0 : Int32))) (fun h => by rw [Bd.returns] at h; cases h)
  refine ⟨_, _, pre0 _ ?_, hrun, hended, _, _, rfl, ?_, ⟨_, rfl⟩, hW, hsame.mono (by decide) (by decide)⟩
  ·
    show Steps p.tables e below (s₁.setTop (mkF m 0 #[.val (.ref w_COMPLETED)] [])) _
    refine XS.aloadN X0.here hx rfl (hb hby d2_0) rfl rfl ?_
    show Steps p.tables e below (s₁.setTop (mkF m 1 #[.val (.ref w_COMPLETED)] [(.ref w_COMPLETED)])) _
    refine st1 _ ?_
    show Steps p.tables e below (T1.setTop (mkF m 4 #[.val (.ref w_COMPLETED)] [(.ref w_FAILED), (.ref w_COMPLETED)])) _
    refine Jvm.RoadKit.acmp (g := (mkF m 4 #[.val (.ref w_COMPLETED)] [(.ref w_FAILED), (.ref w_COMPLETED)])) X1 hx rfl rfl rfl (pc0 := 4) (pc' := 7) (same := false) rfl (hb hby d2_4) rfl (decide_eq_false fun q => ne_COMPLETED_FAILED (Value.ref.inj q)) (by decide) (by decide) ?_
    show Steps p.tables e below (T1.setTop (mkF m 7 #[.val (.ref w_COMPLETED)] [])) _
    refine XS.aloadN X1.here hx rfl (hb hby d2_7) rfl rfl ?_
    show Steps p.tables e below (T1.setTop (mkF m 8 #[.val (.ref w_COMPLETED)] [(.ref w_COMPLETED)])) _
    refine st2 _ ?_
    show Steps p.tables e below (T2.setTop (mkF m 11 #[.val (.ref w_COMPLETED)] [(.ref w_STOPPED), (.ref w_COMPLETED)])) _
    refine Jvm.RoadKit.acmp (g := (mkF m 11 #[.val (.ref w_COMPLETED)] [(.ref w_STOPPED), (.ref w_COMPLETED)])) X2 hx rfl rfl rfl (pc0 := 11) (pc' := 18) (same := false) rfl (hb hby d2_11) rfl (decide_eq_false fun q => ne_COMPLETED_STOPPED (Value.ref.inj q)) (by decide) (by decide) ?_
    show Steps p.tables e below (T2.setTop (mkF m 18 #[.val (.ref w_COMPLETED)] [])) _
    refine XS.iconst X2.here hx rfl (hb hby d2_18) ?_
    show Steps p.tables e below (T2.setTop (mkF m 19 #[.val (.ref w_COMPLETED)] [(.int (0 : Int32))])) _
    exact retN X2 hx (t := .boolean) Bd.returns (by simp) (hb hby d2_19) hr
  · show Q2_4 Z w_FAILED w_STOPPED w_COMPLETED h0 n0 _ T2.heap _
    rw [e2]
    exact ⟨rfl, N0, rfl⟩
theorem d1_44 : decode method_2_code 44 = .ok (.iload_n 0, 1) := by decide +kernel
theorem d1_45 : decode method_2_code 45 = .ok (.iconst 5, 1) := by decide +kernel
theorem d1_46 : decode method_2_code 46 = .ok (.if_icmp .ne 7, 3) := by decide +kernel
theorem d1_49 : decode method_2_code 49 = .ok (.getstatic 25, 3) := by decide +kernel
theorem d1_52 : decode method_2_code 52 = .ok (.areturn, 1) := by decide +kernel
theorem ef_rm1_5 (m : MethodId)  : entryFrame m #[(.int (5 : Int32))] 1 = mkF m 0 #[.val (.int (5 : Int32))] [] := by first | (simp [entryFrame, mkF, argsToLocals, Value.category]; done) | rfl
def Q1_5 (Z : State) (w_FAILED : Addr) (h0 : Heap) (n0 : Nat) (v : Option Value) (h : Heap) (L : List Loc) : Prop := v = some (.ref w_FAILED) ∧ Fr n0 L ∧ h = h0
set_option maxRecDepth 65536 in
set_option maxHeartbeats 40000000 in
theorem rm1_5 (l : Launch) (Z : State) (a0 : Array Value) (hw : ∀ d ∈ tables_1, d.before a0 Z = true) (ws : List Jvm.Cond) (w_FAILED : Addr) (h0 : Heap) (n0 : Nat) (Z0 : n0 ≤ h0.size) (S_FAILED : Sta Z h0 "com/example/windlass/windlass/repository/BatchStatus" "FAILED" "Lcom/example/windlass/windlass/repository/BatchStatus;" (.ref w_FAILED)) :
    MetFree l (⟨"com/example/windlass/windlass/repository/BatchStatusIsRestartablePinLaw", "pick", "(I)Lcom/example/windlass/windlass/repository/BatchStatus;"⟩ : MethodName) (head1 (Jvm.Cond.code (⟨"com/example/windlass/windlass/repository/BatchStatusIsRestartablePinLaw", "pick", "(I)Lcom/example/windlass/windlass/repository/BatchStatus;"⟩ : MethodName) method_2_code 1 (some (.object "com/example/windlass/windlass/repository/BatchStatus")) :: ws) ({ frames := 0, cells := 0, slots := 0, locals := 0 } : Room)) (fun a U => a = #[(.int (5 : Int32))] ∧ Z.Warmed39 U.vm ∧ U.heap = h0) (fun _ _ _ _ _ => True) (fun _ U o U' => ∃ v L, o = .returned v ∧ Q1_5 Z w_FAILED h0 n0 v U'.heap L ∧ FrameEnd U o U' L ({ frames := 0, cells := 0, slots := 0, locals := 0 } : Room).cells ({ frames := 0, cells := 0, slots := 0, locals := 0 } : Room).slots) := by
  refine MetFree.of_bodySF (plainFor_of_name pn_0) hisR ?_
  intro p e s m args below meth c s₁ Bd hml0 hP hK
  obtain ⟨rfl, hZ, hh⟩ := hP
  have hx := Bd.exec
  have hby := Bd.bytes
  have hml : c.maxLocals = 1 := hml0
  have hown : s.vm.findClass "com/example/windlass/windlass/repository/BatchStatusIsRestartablePinLaw" = some m.cls := findClass_of_methodNamed Bd.named
  have hnm := (name_of_methodNamed Bd.named Bd.method).1
  have X0 : Stand p l e ({ frames := 0, cells := 0, slots := 0, locals := 0 } : Room) s m #[(.int (5 : Int32))] below meth c s₁ [] 0 0 := Stand.of_body Bd
  have e0 : s₁.heap = h0 := by rw [← hh, Bd.state]; rfl
  have N0 := Fr.nil n0
  have pre0 : ∀ t, Steps p.tables e below (s₁.setTop (mkF m 0 #[.val (.int (5 : Int32))] [])) t → Steps p.tables e below (s₁.setTop (entryFrame m #[(.int (5 : Int32))] 1)) t := fun t k => castTop (ef_rm1_5 m ) k
  obtain ⟨T1, X1, e1, st1⟩ := getS2 X0 hx hZ hown (host := "") (Or.inl (hw _ (List.mem_of_getElem? (i := 35) rfl))) Via.refl e0 S_FAILED (g := (mkF m 49 #[.val (.int (5 : Int32))] [])) rfl (hb hby d1_49)
  obtain ⟨fs, hr, hrun, hended, hW, hsame⟩ := X1.leave (v := some (.ref w_FAILED)) (fun h => by rw [Bd.returns] at h; cases h)
  refine ⟨_, _, pre0 _ ?_, hrun, hended, _, _, rfl, ?_, ⟨_, rfl⟩, hW, hsame.mono (by decide) (by decide)⟩
  ·
    show Steps p.tables e below (s₁.setTop (mkF m 0 #[.val (.int (5 : Int32))] [])) _
    refine XS.iloadN X0.here hx rfl (hb hby d1_0) rfl ?_
    show Steps p.tables e below (s₁.setTop (mkF m 1 #[.val (.int (5 : Int32))] [(.int (5 : Int32))])) _
    refine XS.ifYes X0.here hx rfl (pc0 := 1) (pc' := 8) rfl (hb hby d1_1) rfl ((if0 _ _).trans (feq (by decide : ¬ ((5 : Int32) = (0 : Int32)))).2) (by decide) (by decide) ?_
    show Steps p.tables e below (s₁.setTop (mkF m 8 #[.val (.int (5 : Int32))] [])) _
    refine XS.iloadN X0.here hx rfl (hb hby d1_8) rfl ?_
    show Steps p.tables e below (s₁.setTop (mkF m 9 #[.val (.int (5 : Int32))] [(.int (5 : Int32))])) _
    refine XS.iconst X0.here hx rfl (hb hby d1_9) ?_
    show Steps p.tables e below (s₁.setTop (mkF m 10 #[.val (.int (5 : Int32))] [(.int (1 : Int32)), (.int (5 : Int32))])) _
    refine XS.icmpYes X0.here hx rfl (pc0 := 10) (pc' := 17) rfl (hb hby d1_10) rfl (feq (by decide : ¬ ((5 : Int32) = (1 : Int32)))).2 (by decide) (by decide) ?_
    show Steps p.tables e below (s₁.setTop (mkF m 17 #[.val (.int (5 : Int32))] [])) _
    refine XS.iloadN X0.here hx rfl (hb hby d1_17) rfl ?_
    show Steps p.tables e below (s₁.setTop (mkF m 18 #[.val (.int (5 : Int32))] [(.int (5 : Int32))])) _
    refine XS.iconst X0.here hx rfl (hb hby d1_18) ?_
    show Steps p.tables e below (s₁.setTop (mkF m 19 #[.val (.int (5 : Int32))] [(.int (2 : Int32)), (.int (5 : Int32))])) _
    refine XS.icmpYes X0.here hx rfl (pc0 := 19) (pc' := 26) rfl (hb hby d1_19) rfl (feq (by decide : ¬ ((5 : Int32) = (2 : Int32)))).2 (by decide) (by decide) ?_
    show Steps p.tables e below (s₁.setTop (mkF m 26 #[.val (.int (5 : Int32))] [])) _
    refine XS.iloadN X0.here hx rfl (hb hby d1_26) rfl ?_
    show Steps p.tables e below (s₁.setTop (mkF m 27 #[.val (.int (5 : Int32))] [(.int (5 : Int32))])) _
    refine XS.iconst X0.here hx rfl (hb hby d1_27) ?_
    show Steps p.tables e below (s₁.setTop (mkF m 28 #[.val (.int (5 : Int32))] [(.int (3 : Int32)), (.int (5 : Int32))])) _
    refine XS.icmpYes X0.here hx rfl (pc0 := 28) (pc' := 35) rfl (hb hby d1_28) rfl (feq (by decide : ¬ ((5 : Int32) = (3 : Int32)))).2 (by decide) (by decide) ?_
    show Steps p.tables e below (s₁.setTop (mkF m 35 #[.val (.int (5 : Int32))] [])) _
    refine XS.iloadN X0.here hx rfl (hb hby d1_35) rfl ?_
    show Steps p.tables e below (s₁.setTop (mkF m 36 #[.val (.int (5 : Int32))] [(.int (5 : Int32))])) _
    refine XS.iconst X0.here hx rfl (hb hby d1_36) ?_
    show Steps p.tables e below (s₁.setTop (mkF m 37 #[.val (.int (5 : Int32))] [(.int (4 : Int32)), (.int (5 : Int32))])) _
    refine XS.icmpYes X0.here hx rfl (pc0 := 37) (pc' := 44) rfl (hb hby d1_37) rfl (feq (by decide : ¬ ((5 : Int32) = (4 : Int32)))).2 (by decide) (by decide) ?_
    show Steps p.tables e below (s₁.setTop (mkF m 44 #[.val (.int (5 : Int32))] [])) _
    refine XS.iloadN X0.here hx rfl (hb hby d1_44) rfl ?_
    show Steps p.tables e below (s₁.setTop (mkF m 45 #[.val (.int (5 : Int32))] [(.int (5 : Int32))])) _
    refine XS.iconst X0.here hx rfl (hb hby d1_45) ?_
    show Steps p.tables e below (s₁.setTop (mkF m 46 #[.val (.int (5 : Int32))] [(.int (5 : Int32)), (.int (5 : Int32))])) _
    refine XS.icmpNo X0.here hx rfl (hb hby d1_46) rfl (teq (by decide : (5 : Int32) = (5 : Int32))).2 ?_
    show Steps p.tables e below (s₁.setTop (mkF m 49 #[.val (.int (5 : Int32))] [])) _
    refine st1 _ ?_
    show Steps p.tables e below (T1.setTop (mkF m 52 #[.val (.int (5 : Int32))] [(.ref w_FAILED)])) _
    jvm_step X1.here [X1.here.top, hx, (hb hby d1_52), X1.method', Bd.returns, Value.isRef, FieldType.isReference]
    first | (intro acts; rw [hr _ acts rfl rfl rfl]) | rw [hr _ _ rfl rfl rfl]
    exact Steps.refl _
  · show Q1_5 Z w_FAILED h0 n0 _ T1.heap _
    rw [e1]
    exact ⟨rfl, N0, rfl⟩
theorem ef_rm2_5 (m : MethodId) (x0 : Addr) : entryFrame m #[(.ref x0)] 1 = mkF m 0 #[.val (.ref x0)] [] := by first | (simp [entryFrame, mkF, argsToLocals, Value.category]; done) | rfl
def Q2_5 (Z : State) (w_FAILED : Addr) (h0 : Heap) (n0 : Nat) (v : Option Value) (h : Heap) (L : List Loc) : Prop := v = some (.int (1 : Int32)) ∧ Fr n0 L ∧ h = h0
set_option maxRecDepth 65536 in
set_option maxHeartbeats 40000000 in
theorem rm2_5 (l : Launch) (Z : State) (a0 : Array Value) (hw : ∀ d ∈ tables_1, d.before a0 Z = true) (ws : List Jvm.Cond) (w_FAILED : Addr) (h0 : Heap) (n0 : Nat) (Z0 : n0 ≤ h0.size) (S_FAILED : Sta Z h0 "com/example/windlass/windlass/repository/BatchStatus" "FAILED" "Lcom/example/windlass/windlass/repository/BatchStatus;" (.ref w_FAILED)) :
    MetFree l (⟨"com/example/windlass/windlass/repository/BatchStatus", "isRestartable", "()Z"⟩ : MethodName) (head1 (Jvm.Cond.code (⟨"com/example/windlass/windlass/repository/BatchStatus", "isRestartable", "()Z"⟩ : MethodName) prog_17_method_5_code 1 (some .boolean) :: ws) ({ frames := 0, cells := 0, slots := 0, locals := 0 } : Room)) (fun a U => a = #[(.ref w_FAILED)] ∧ Z.Warmed39 U.vm ∧ U.heap = h0) (fun _ _ _ _ _ => True) (fun _ U o U' => ∃ v L, o = .returned v ∧ Q2_5 Z w_FAILED h0 n0 v U'.heap L ∧ FrameEnd U o U' L ({ frames := 0, cells := 0, slots := 0, locals := 0 } : Room).cells ({ frames := 0, cells := 0, slots := 0, locals := 0 } : Room).slots) := by
  refine MetFree.of_bodySF (plainFor_of_name pn_1) hisR ?_
  intro p e s m args below meth c s₁ Bd hml0 hP hK
  obtain ⟨rfl, hZ, hh⟩ := hP
  have hx := Bd.exec
  have hby := Bd.bytes
  have hml : c.maxLocals = 1 := hml0
  have hown : s.vm.findClass "com/example/windlass/windlass/repository/BatchStatus" = some m.cls := findClass_of_methodNamed Bd.named
  have hnm := (name_of_methodNamed Bd.named Bd.method).1
  have X0 : Stand p l e ({ frames := 0, cells := 0, slots := 0, locals := 0 } : Room) s m #[(.ref w_FAILED)] below meth c s₁ [] 0 0 := Stand.of_body Bd
  have e0 : s₁.heap = h0 := by rw [← hh, Bd.state]; rfl
  have N0 := Fr.nil n0
  have pre0 : ∀ t, Steps p.tables e below (s₁.setTop (mkF m 0 #[.val (.ref w_FAILED)] [])) t → Steps p.tables e below (s₁.setTop (entryFrame m #[(.ref w_FAILED)] 1)) t := fun t k => castTop (ef_rm2_5 m w_FAILED) k
  obtain ⟨T1, X1, e1, st1⟩ := getS2 X0 hx hZ hown (host := "") (Or.inl (hw _ (List.mem_of_getElem? (i := 12) rfl))) Via.refl e0 S_FAILED (g := (mkF m 1 #[.val (.ref w_FAILED)] [(.ref w_FAILED)])) rfl (hb hby d2_1)
  obtain ⟨fs, hr, hrun, hended, hW, hsame⟩ := X1.leave (v := some (.int (1 : Int32))) (fun h => by rw [Bd.returns] at h; cases h)
  refine ⟨_, _, pre0 _ ?_, hrun, hended, _, _, rfl, ?_, ⟨_, rfl⟩, hW, hsame.mono (by decide) (by decide)⟩
  ·
    show Steps p.tables e below (s₁.setTop (mkF m 0 #[.val (.ref w_FAILED)] [])) _
    refine XS.aloadN X0.here hx rfl (hb hby d2_0) rfl rfl ?_
    show Steps p.tables e below (s₁.setTop (mkF m 1 #[.val (.ref w_FAILED)] [(.ref w_FAILED)])) _
    refine st1 _ ?_
    show Steps p.tables e below (T1.setTop (mkF m 4 #[.val (.ref w_FAILED)] [(.ref w_FAILED), (.ref w_FAILED)])) _
    refine Jvm.RoadKit.acmp (g := (mkF m 4 #[.val (.ref w_FAILED)] [(.ref w_FAILED), (.ref w_FAILED)])) X1 hx rfl rfl rfl (pc0 := 4) (pc' := 14) (same := true) rfl (hb hby d2_4) rfl (decide_eq_true rfl) (by decide) (by decide) ?_
    show Steps p.tables e below (T1.setTop (mkF m 14 #[.val (.ref w_FAILED)] [])) _
    refine XS.iconst X1.here hx rfl (hb hby d2_14) ?_
    show Steps p.tables e below (T1.setTop (mkF m 15 #[.val (.ref w_FAILED)] [(.int (1 : Int32))])) _
    refine XS.goto X1.here hx rfl (pc0 := 15) (pc' := 19) rfl (hb hby d2_15) (by decide) (by decide) ?_
    show Steps p.tables e below (T1.setTop (mkF m 19 #[.val (.ref w_FAILED)] [(.int (1 : Int32))])) _
    exact retN X1 hx (t := .boolean) Bd.returns (by simp) (hb hby d2_19) hr
  · show Q2_5 Z w_FAILED h0 n0 _ T1.heap _
    rw [e1]
    exact ⟨rfl, N0, rfl⟩
theorem ef_rm3_1 (m : MethodId) (x0 : Addr) : entryFrame m #[(.ref x0)] 1 = mkF m 0 #[.val (.ref x0)] [] := by first | (simp [entryFrame, mkF, argsToLocals, Value.category]; done) | rfl
def Q3_1 (Z : State) (w_STARTING : Addr) (w_FAILED : Addr) (w_STARTED : Addr) (w_STOPPING : Addr) (h0 : Heap) (n0 : Nat) (v : Option Value) (h : Heap) (L : List Loc) : Prop := v = some (.int (0 : Int32)) ∧ Fr n0 L ∧ h = h0
set_option maxRecDepth 65536 in
set_option maxHeartbeats 40000000 in
theorem rm3_1 (l : Launch) (Z : State) (a0 : Array Value) (hw : ∀ d ∈ tables_1, d.before a0 Z = true) (ws : List Jvm.Cond) (w_STARTING : Addr) (w_FAILED : Addr) (w_STARTED : Addr) (w_STOPPING : Addr) (h0 : Heap) (n0 : Nat) (Z0 : n0 ≤ h0.size) (S_STARTING : Sta Z h0 "com/example/windlass/windlass/repository/BatchStatus" "STARTING" "Lcom/example/windlass/windlass/repository/BatchStatus;" (.ref w_STARTING)) (ne_FAILED_STARTING : w_FAILED ≠ w_STARTING) (S_STARTED : Sta Z h0 "com/example/windlass/windlass/repository/BatchStatus" "STARTED" "Lcom/example/windlass/windlass/repository/BatchStatus;" (.ref w_STARTED)) (ne_FAILED_STARTED : w_FAILED ≠ w_STARTED) (S_STOPPING : Sta Z h0 "com/example/windlass/windlass/repository/BatchStatus" "STOPPING" "Lcom/example/windlass/windlass/repository/BatchStatus;" (.ref w_STOPPING)) (ne_FAILED_STOPPING : w_FAILED ≠ w_STOPPING) :
    MetFree l (⟨"com/example/windlass/windlass/repository/BatchStatus", "isRunning", "()Z"⟩ : MethodName) (head1 (Jvm.Cond.code (⟨"com/example/windlass/windlass/repository/BatchStatus", "isRunning", "()Z"⟩ : MethodName) prog_17_method_4_code 1 (some .boolean) :: ws) ({ frames := 0, cells := 0, slots := 0, locals := 0 } : Room)) (fun a U => a = #[(.ref w_FAILED)] ∧ Z.Warmed39 U.vm ∧ U.heap = h0) (fun _ _ _ _ _ => True) (fun _ U o U' => ∃ v L, o = .returned v ∧ Q3_1 Z w_STARTING w_FAILED w_STARTED w_STOPPING h0 n0 v U'.heap L ∧ FrameEnd U o U' L ({ frames := 0, cells := 0, slots := 0, locals := 0 } : Room).cells ({ frames := 0, cells := 0, slots := 0, locals := 0 } : Room).slots) := by
  refine MetFree.of_bodySF (plainFor_of_name pn_1) hisR ?_
  intro p e s m args below meth c s₁ Bd hml0 hP hK
  obtain ⟨rfl, hZ, hh⟩ := hP
  have hx := Bd.exec
  have hby := Bd.bytes
  have hml : c.maxLocals = 1 := hml0
  have hown : s.vm.findClass "com/example/windlass/windlass/repository/BatchStatus" = some m.cls := findClass_of_methodNamed Bd.named
  have hnm := (name_of_methodNamed Bd.named Bd.method).1
  have X0 : Stand p l e ({ frames := 0, cells := 0, slots := 0, locals := 0 } : Room) s m #[(.ref w_FAILED)] below meth c s₁ [] 0 0 := Stand.of_body Bd
  have e0 : s₁.heap = h0 := by rw [← hh, Bd.state]; rfl
  have N0 := Fr.nil n0
  have pre0 : ∀ t, Steps p.tables e below (s₁.setTop (mkF m 0 #[.val (.ref w_FAILED)] [])) t → Steps p.tables e below (s₁.setTop (entryFrame m #[(.ref w_FAILED)] 1)) t := fun t k => castTop (ef_rm3_1 m w_FAILED) k
  obtain ⟨T1, X1, e1, st1⟩ := getS2 X0 hx hZ hown (host := "") (Or.inl (hw _ (List.mem_of_getElem? (i := 22) rfl))) Via.refl e0 S_STARTING (g := (mkF m 1 #[.val (.ref w_FAILED)] [(.ref w_FAILED)])) rfl (hb hby d3_1)
  obtain ⟨T2, X2, e2, st2⟩ := getS2 X1 hx hZ hown (host := "") (Or.inl (hw _ (List.mem_of_getElem? (i := 23) rfl))) Via.refl e1 S_STARTED (g := (mkF m 8 #[.val (.ref w_FAILED)] [(.ref w_FAILED)])) rfl (hb hby d3_8)
  obtain ⟨T3, X3, e3, st3⟩ := getS2 X2 hx hZ hown (host := "") (Or.inl (hw _ (List.mem_of_getElem? (i := 25) rfl))) Via.refl e2 S_STOPPING (g := (mkF m 15 #[.val (.ref w_FAILED)] [(.ref w_FAILED)])) rfl (hb hby d3_15)
  obtain ⟨fs, hr, hrun, hended, hW, hsame⟩ := X3.leave (v := some (.int (0 : Int32))) (fun h => by rw [Bd.returns] at h; cases h)
  refine ⟨_, _, pre0 _ ?_, hrun, hended, _, _, rfl, ?_, ⟨_, rfl⟩, hW, hsame.mono (by decide) (by decide)⟩
  ·
    show Steps p.tables e below (s₁.setTop (mkF m 0 #[.val (.ref w_FAILED)] [])) _
    refine XS.aloadN X0.here hx rfl (hb hby d3_0) rfl rfl ?_
    show Steps p.tables e below (s₁.setTop (mkF m 1 #[.val (.ref w_FAILED)] [(.ref w_FAILED)])) _
    refine st1 _ ?_
    show Steps p.tables e below (T1.setTop (mkF m 4 #[.val (.ref w_FAILED)] [(.ref w_STARTING), (.ref w_FAILED)])) _
    refine Jvm.RoadKit.acmp (g := (mkF m 4 #[.val (.ref w_FAILED)] [(.ref w_STARTING), (.ref w_FAILED)])) X1 hx rfl rfl rfl (pc0 := 4) (pc' := 7) (same := false) rfl (hb hby d3_4) rfl (decide_eq_false fun q => ne_FAILED_STARTING (Value.ref.inj q)) (by decide) (by decide) ?_
    show Steps p.tables e below (T1.setTop (mkF m 7 #[.val (.ref w_FAILED)] [])) _
    refine XS.aloadN X1.here hx rfl (hb hby d3_7) rfl rfl ?_
    show Steps p.tables e below (T1.setTop (mkF m 8 #[.val (.ref w_FAILED)] [(.ref w_FAILED)])) _
    refine st2 _ ?_
    show Steps p.tables e below (T2.setTop (mkF m 11 #[.val (.ref w_FAILED)] [(.ref w_STARTED), (.ref w_FAILED)])) _
    refine Jvm.RoadKit.acmp (g := (mkF m 11 #[.val (.ref w_FAILED)] [(.ref w_STARTED), (.ref w_FAILED)])) X2 hx rfl rfl rfl (pc0 := 11) (pc' := 14) (same := false) rfl (hb hby d3_11) rfl (decide_eq_false fun q => ne_FAILED_STARTED (Value.ref.inj q)) (by decide) (by decide) ?_
    show Steps p.tables e below (T2.setTop (mkF m 14 #[.val (.ref w_FAILED)] [])) _
    refine XS.aloadN X2.here hx rfl (hb hby d3_14) rfl rfl ?_
    show Steps p.tables e below (T2.setTop (mkF m 15 #[.val (.ref w_FAILED)] [(.ref w_FAILED)])) _
    refine st3 _ ?_
    show Steps p.tables e below (T3.setTop (mkF m 18 #[.val (.ref w_FAILED)] [(.ref w_STOPPING), (.ref w_FAILED)])) _
    refine Jvm.RoadKit.acmp (g := (mkF m 18 #[.val (.ref w_FAILED)] [(.ref w_STOPPING), (.ref w_FAILED)])) X3 hx rfl rfl rfl (pc0 := 18) (pc' := 25) (same := false) rfl (hb hby d3_18) rfl (decide_eq_false fun q => ne_FAILED_STOPPING (Value.ref.inj q)) (by decide) (by decide) ?_
    show Steps p.tables e below (T3.setTop (mkF m 25 #[.val (.ref w_FAILED)] [])) _
    refine XS.iconst X3.here hx rfl (hb hby d3_25) ?_
    show Steps p.tables e below (T3.setTop (mkF m 26 #[.val (.ref w_FAILED)] [(.int (0 : Int32))])) _
    exact retN X3 hx (t := .boolean) Bd.returns (by simp) (hb hby d3_26) hr
  · show Q3_1 Z w_STARTING w_FAILED w_STARTED w_STOPPING h0 n0 _ T3.heap _
    rw [e3]
    exact ⟨rfl, N0, rfl⟩
theorem d1_53 : decode method_2_code 53 = .ok (.iload_n 0, 1) := by decide +kernel
theorem d1_54 : decode method_2_code 54 = .ok (.bipush 6, 2) := by decide +kernel
theorem d1_56 : decode method_2_code 56 = .ok (.if_icmp .ne 7, 3) := by decide +kernel
theorem d1_59 : decode method_2_code 59 = .ok (.getstatic 28, 3) := by decide +kernel
theorem d1_62 : decode method_2_code 62 = .ok (.areturn, 1) := by decide +kernel
theorem ef_rm1_6 (m : MethodId)  : entryFrame m #[(.int (6 : Int32))] 1 = mkF m 0 #[.val (.int (6 : Int32))] [] := by first | (simp [entryFrame, mkF, argsToLocals, Value.category]; done) | rfl
def Q1_6 (Z : State) (w_UNKNOWN : Addr) (h0 : Heap) (n0 : Nat) (v : Option Value) (h : Heap) (L : List Loc) : Prop := v = some (.ref w_UNKNOWN) ∧ Fr n0 L ∧ h = h0
set_option maxRecDepth 65536 in
set_option maxHeartbeats 40000000 in
theorem rm1_6 (l : Launch) (Z : State) (a0 : Array Value) (hw : ∀ d ∈ tables_1, d.before a0 Z = true) (ws : List Jvm.Cond) (w_UNKNOWN : Addr) (h0 : Heap) (n0 : Nat) (Z0 : n0 ≤ h0.size) (S_UNKNOWN : Sta Z h0 "com/example/windlass/windlass/repository/BatchStatus" "UNKNOWN" "Lcom/example/windlass/windlass/repository/BatchStatus;" (.ref w_UNKNOWN)) :
    MetFree l (⟨"com/example/windlass/windlass/repository/BatchStatusIsRestartablePinLaw", "pick", "(I)Lcom/example/windlass/windlass/repository/BatchStatus;"⟩ : MethodName) (head1 (Jvm.Cond.code (⟨"com/example/windlass/windlass/repository/BatchStatusIsRestartablePinLaw", "pick", "(I)Lcom/example/windlass/windlass/repository/BatchStatus;"⟩ : MethodName) method_2_code 1 (some (.object "com/example/windlass/windlass/repository/BatchStatus")) :: ws) ({ frames := 0, cells := 0, slots := 0, locals := 0 } : Room)) (fun a U => a = #[(.int (6 : Int32))] ∧ Z.Warmed39 U.vm ∧ U.heap = h0) (fun _ _ _ _ _ => True) (fun _ U o U' => ∃ v L, o = .returned v ∧ Q1_6 Z w_UNKNOWN h0 n0 v U'.heap L ∧ FrameEnd U o U' L ({ frames := 0, cells := 0, slots := 0, locals := 0 } : Room).cells ({ frames := 0, cells := 0, slots := 0, locals := 0 } : Room).slots) := by
  refine MetFree.of_bodySF (plainFor_of_name pn_0) hisR ?_
  intro p e s m args below meth c s₁ Bd hml0 hP hK
  obtain ⟨rfl, hZ, hh⟩ := hP
  have hx := Bd.exec
  have hby := Bd.bytes
  have hml : c.maxLocals = 1 := hml0
  have hown : s.vm.findClass "com/example/windlass/windlass/repository/BatchStatusIsRestartablePinLaw" = some m.cls := findClass_of_methodNamed Bd.named
  have hnm := (name_of_methodNamed Bd.named Bd.method).1
  have X0 : Stand p l e ({ frames := 0, cells := 0, slots := 0, locals := 0 } : Room) s m #[(.int (6 : Int32))] below meth c s₁ [] 0 0 := Stand.of_body Bd
  have e0 : s₁.heap = h0 := by rw [← hh, Bd.state]; rfl
  have N0 := Fr.nil n0
  have pre0 : ∀ t, Steps p.tables e below (s₁.setTop (mkF m 0 #[.val (.int (6 : Int32))] [])) t → Steps p.tables e below (s₁.setTop (entryFrame m #[(.int (6 : Int32))] 1)) t := fun t k => castTop (ef_rm1_6 m ) k
  obtain ⟨T1, X1, e1, st1⟩ := getS2 X0 hx hZ hown (host := "") (Or.inl (hw _ (List.mem_of_getElem? (i := 27) rfl))) Via.refl e0 S_UNKNOWN (g := (mkF m 59 #[.val (.int (6 : Int32))] [])) rfl (hb hby d1_59)
  obtain ⟨fs, hr, hrun, hended, hW, hsame⟩ := X1.leave (v := some (.ref w_UNKNOWN)) (fun h => by rw [Bd.returns] at h; cases h)
  refine ⟨_, _, pre0 _ ?_, hrun, hended, _, _, rfl, ?_, ⟨_, rfl⟩, hW, hsame.mono (by decide) (by decide)⟩
  ·
    show Steps p.tables e below (s₁.setTop (mkF m 0 #[.val (.int (6 : Int32))] [])) _
    refine XS.iloadN X0.here hx rfl (hb hby d1_0) rfl ?_
    show Steps p.tables e below (s₁.setTop (mkF m 1 #[.val (.int (6 : Int32))] [(.int (6 : Int32))])) _
    refine XS.ifYes X0.here hx rfl (pc0 := 1) (pc' := 8) rfl (hb hby d1_1) rfl ((if0 _ _).trans (feq (by decide : ¬ ((6 : Int32) = (0 : Int32)))).2) (by decide) (by decide) ?_
    show Steps p.tables e below (s₁.setTop (mkF m 8 #[.val (.int (6 : Int32))] [])) _
    refine XS.iloadN X0.here hx rfl (hb hby d1_8) rfl ?_
    show Steps p.tables e below (s₁.setTop (mkF m 9 #[.val (.int (6 : Int32))] [(.int (6 : Int32))])) _
    refine XS.iconst X0.here hx rfl (hb hby d1_9) ?_
    show Steps p.tables e below (s₁.setTop (mkF m 10 #[.val (.int (6 : Int32))] [(.int (1 : Int32)), (.int (6 : Int32))])) _
    refine XS.icmpYes X0.here hx rfl (pc0 := 10) (pc' := 17) rfl (hb hby d1_10) rfl (feq (by decide : ¬ ((6 : Int32) = (1 : Int32)))).2 (by decide) (by decide) ?_
    show Steps p.tables e below (s₁.setTop (mkF m 17 #[.val (.int (6 : Int32))] [])) _
    refine XS.iloadN X0.here hx rfl (hb hby d1_17) rfl ?_
    show Steps p.tables e below (s₁.setTop (mkF m 18 #[.val (.int (6 : Int32))] [(.int (6 : Int32))])) _
    refine XS.iconst X0.here hx rfl (hb hby d1_18) ?_
    show Steps p.tables e below (s₁.setTop (mkF m 19 #[.val (.int (6 : Int32))] [(.int (2 : Int32)), (.int (6 : Int32))])) _
    refine XS.icmpYes X0.here hx rfl (pc0 := 19) (pc' := 26) rfl (hb hby d1_19) rfl (feq (by decide : ¬ ((6 : Int32) = (2 : Int32)))).2 (by decide) (by decide) ?_
    show Steps p.tables e below (s₁.setTop (mkF m 26 #[.val (.int (6 : Int32))] [])) _
    refine XS.iloadN X0.here hx rfl (hb hby d1_26) rfl ?_
    show Steps p.tables e below (s₁.setTop (mkF m 27 #[.val (.int (6 : Int32))] [(.int (6 : Int32))])) _
    refine XS.iconst X0.here hx rfl (hb hby d1_27) ?_
    show Steps p.tables e below (s₁.setTop (mkF m 28 #[.val (.int (6 : Int32))] [(.int (3 : Int32)), (.int (6 : Int32))])) _
    refine XS.icmpYes X0.here hx rfl (pc0 := 28) (pc' := 35) rfl (hb hby d1_28) rfl (feq (by decide : ¬ ((6 : Int32) = (3 : Int32)))).2 (by decide) (by decide) ?_
    show Steps p.tables e below (s₁.setTop (mkF m 35 #[.val (.int (6 : Int32))] [])) _
    refine XS.iloadN X0.here hx rfl (hb hby d1_35) rfl ?_
    show Steps p.tables e below (s₁.setTop (mkF m 36 #[.val (.int (6 : Int32))] [(.int (6 : Int32))])) _
    refine XS.iconst X0.here hx rfl (hb hby d1_36) ?_
    show Steps p.tables e below (s₁.setTop (mkF m 37 #[.val (.int (6 : Int32))] [(.int (4 : Int32)), (.int (6 : Int32))])) _
    refine XS.icmpYes X0.here hx rfl (pc0 := 37) (pc' := 44) rfl (hb hby d1_37) rfl (feq (by decide : ¬ ((6 : Int32) = (4 : Int32)))).2 (by decide) (by decide) ?_
    show Steps p.tables e below (s₁.setTop (mkF m 44 #[.val (.int (6 : Int32))] [])) _
    refine XS.iloadN X0.here hx rfl (hb hby d1_44) rfl ?_
    show Steps p.tables e below (s₁.setTop (mkF m 45 #[.val (.int (6 : Int32))] [(.int (6 : Int32))])) _
    refine XS.iconst X0.here hx rfl (hb hby d1_45) ?_
    show Steps p.tables e below (s₁.setTop (mkF m 46 #[.val (.int (6 : Int32))] [(.int (5 : Int32)), (.int (6 : Int32))])) _
    refine XS.icmpYes X0.here hx rfl (pc0 := 46) (pc' := 53) rfl (hb hby d1_46) rfl (feq (by decide : ¬ ((6 : Int32) = (5 : Int32)))).2 (by decide) (by decide) ?_
    show Steps p.tables e below (s₁.setTop (mkF m 53 #[.val (.int (6 : Int32))] [])) _
    refine XS.iloadN X0.here hx rfl (hb hby d1_53) rfl ?_
    show Steps p.tables e below (s₁.setTop (mkF m 54 #[.val (.int (6 : Int32))] [(.int (6 : Int32))])) _
    refine XS.bipush X0.here hx rfl (hb hby d1_54) ?_
    show Steps p.tables e below (s₁.setTop (mkF m 56 #[.val (.int (6 : Int32))] [(.int (6 : Int32)), (.int (6 : Int32))])) _
    refine XS.icmpNo X0.here hx rfl (hb hby d1_56) rfl (teq (by decide : (6 : Int32) = (6 : Int32))).2 ?_
    show Steps p.tables e below (s₁.setTop (mkF m 59 #[.val (.int (6 : Int32))] [])) _
    refine st1 _ ?_
    show Steps p.tables e below (T1.setTop (mkF m 62 #[.val (.int (6 : Int32))] [(.ref w_UNKNOWN)])) _
    jvm_step X1.here [X1.here.top, hx, (hb hby d1_62), X1.method', Bd.returns, Value.isRef, FieldType.isReference]
    first | (intro acts; rw [hr _ acts rfl rfl rfl]) | rw [hr _ _ rfl rfl rfl]
    exact Steps.refl _
  · show Q1_6 Z w_UNKNOWN h0 n0 _ T1.heap _
    rw [e1]
    exact ⟨rfl, N0, rfl⟩
theorem ef_rm2_6 (m : MethodId) (x0 : Addr) : entryFrame m #[(.ref x0)] 1 = mkF m 0 #[.val (.ref x0)] [] := by first | (simp [entryFrame, mkF, argsToLocals, Value.category]; done) | rfl
def Q2_6 (Z : State) (w_FAILED : Addr) (w_STOPPED : Addr) (w_UNKNOWN : Addr) (h0 : Heap) (n0 : Nat) (v : Option Value) (h : Heap) (L : List Loc) : Prop := v = some (.int (0 : Int32)) ∧ Fr n0 L ∧ h = h0
set_option maxRecDepth 65536 in
set_option maxHeartbeats 40000000 in
theorem rm2_6 (l : Launch) (Z : State) (a0 : Array Value) (hw : ∀ d ∈ tables_1, d.before a0 Z = true) (ws : List Jvm.Cond) (w_FAILED : Addr) (w_STOPPED : Addr) (w_UNKNOWN : Addr) (h0 : Heap) (n0 : Nat) (Z0 : n0 ≤ h0.size) (S_FAILED : Sta Z h0 "com/example/windlass/windlass/repository/BatchStatus" "FAILED" "Lcom/example/windlass/windlass/repository/BatchStatus;" (.ref w_FAILED)) (ne_FAILED_UNKNOWN : w_FAILED ≠ w_UNKNOWN) (S_STOPPED : Sta Z h0 "com/example/windlass/windlass/repository/BatchStatus" "STOPPED" "Lcom/example/windlass/windlass/repository/BatchStatus;" (.ref w_STOPPED)) (ne_STOPPED_UNKNOWN : w_STOPPED ≠ w_UNKNOWN) :
    MetFree l (⟨"com/example/windlass/windlass/repository/BatchStatus", "isRestartable", "()Z"⟩ : MethodName) (head1 (Jvm.Cond.code (⟨"com/example/windlass/windlass/repository/BatchStatus", "isRestartable", "()Z"⟩ : MethodName) prog_17_method_5_code 1 (some .boolean) :: ws) ({ frames := 0, cells := 0, slots := 0, locals := 0 } : Room)) (fun a U => a = #[(.ref w_UNKNOWN)] ∧ Z.Warmed39 U.vm ∧ U.heap = h0) (fun _ _ _ _ _ => True) (fun _ U o U' => ∃ v L, o = .returned v ∧ Q2_6 Z w_FAILED w_STOPPED w_UNKNOWN h0 n0 v U'.heap L ∧ FrameEnd U o U' L ({ frames := 0, cells := 0, slots := 0, locals := 0 } : Room).cells ({ frames := 0, cells := 0, slots := 0, locals := 0 } : Room).slots) := by
  refine MetFree.of_bodySF (plainFor_of_name pn_1) hisR ?_
  intro p e s m args below meth c s₁ Bd hml0 hP hK
  obtain ⟨rfl, hZ, hh⟩ := hP
  have hx := Bd.exec
  have hby := Bd.bytes
  have hml : c.maxLocals = 1 := hml0
  have hown : s.vm.findClass "com/example/windlass/windlass/repository/BatchStatus" = some m.cls := findClass_of_methodNamed Bd.named
  have hnm := (name_of_methodNamed Bd.named Bd.method).1
  have X0 : Stand p l e ({ frames := 0, cells := 0, slots := 0, locals := 0 } : Room) s m #[(.ref w_UNKNOWN)] below meth c s₁ [] 0 0 := Stand.of_body Bd
  have e0 : s₁.heap = h0 := by rw [← hh, Bd.state]; rfl
  have N0 := Fr.nil n0
  have pre0 : ∀ t, Steps p.tables e below (s₁.setTop (mkF m 0 #[.val (.ref w_UNKNOWN)] [])) t → Steps p.tables e below (s₁.setTop (entryFrame m #[(.ref w_UNKNOWN)] 1)) t := fun t k => castTop (ef_rm2_6 m w_UNKNOWN) k
  obtain ⟨T1, X1, e1, st1⟩ := getS2 X0 hx hZ hown (host := "") (Or.inl (hw _ (List.mem_of_getElem? (i := 12) rfl))) Via.refl e0 S_FAILED (g := (mkF m 1 #[.val (.ref w_UNKNOWN)] [(.ref w_UNKNOWN)])) rfl (hb hby d2_1)
  obtain ⟨T2, X2, e2, st2⟩ := getS2 X1 hx hZ hown (host := "") (Or.inl (hw _ (List.mem_of_getElem? (i := 14) rfl))) Via.refl e1 S_STOPPED (g := (mkF m 8 #[.val (.ref w_UNKNOWN)] [(.ref w_UNKNOWN)])) rfl (hb hby d2_8)
  obtain ⟨fs, hr, hrun, hended, hW, hsame⟩ := X2.leave (v := some (.int (0 : Int32))) (fun h => by rw [Bd.returns] at h; cases h)
  refine ⟨_, _, pre0 _ ?_, hrun, hended, _, _, rfl, ?_, ⟨_, rfl⟩, hW, hsame.mono (by decide) (by decide)⟩
  ·
    show Steps p.tables e below (s₁.setTop (mkF m 0 #[.val (.ref w_UNKNOWN)] [])) _
    refine XS.aloadN X0.here hx rfl (hb hby d2_0) rfl rfl ?_
    show Steps p.tables e below (s₁.setTop (mkF m 1 #[.val (.ref w_UNKNOWN)] [(.ref w_UNKNOWN)])) _
    refine st1 _ ?_
    show Steps p.tables e below (T1.setTop (mkF m 4 #[.val (.ref w_UNKNOWN)] [(.ref w_FAILED), (.ref w_UNKNOWN)])) _
    refine Jvm.RoadKit.acmp (g := (mkF m 4 #[.val (.ref w_UNKNOWN)] [(.ref w_FAILED), (.ref w_UNKNOWN)])) X1 hx rfl rfl rfl (pc0 := 4) (pc' := 7) (same := false) rfl (hb hby d2_4) rfl (decide_eq_false fun q => (Ne.symm ne_FAILED_UNKNOWN) (Value.ref.inj q)) (by decide) (by decide) ?_
    show Steps p.tables e below (T1.setTop (mkF m 7 #[.val (.ref w_UNKNOWN)] [])) _
    refine XS.aloadN X1.here hx rfl (hb hby d2_7) rfl rfl ?_
    show Steps p.tables e below (T1.setTop (mkF m 8 #[.val (.ref w_UNKNOWN)] [(.ref w_UNKNOWN)])) _
    refine st2 _ ?_
    show Steps p.tables e below (T2.setTop (mkF m 11 #[.val (.ref w_UNKNOWN)] [(.ref w_STOPPED), (.ref w_UNKNOWN)])) _
    refine Jvm.RoadKit.acmp (g := (mkF m 11 #[.val (.ref w_UNKNOWN)] [(.ref w_STOPPED), (.ref w_UNKNOWN)])) X2 hx rfl rfl rfl (pc0 := 11) (pc' := 18) (same := false) rfl (hb hby d2_11) rfl (decide_eq_false fun q => (Ne.symm ne_STOPPED_UNKNOWN) (Value.ref.inj q)) (by decide) (by decide) ?_
    show Steps p.tables e below (T2.setTop (mkF m 18 #[.val (.ref w_UNKNOWN)] [])) _
    refine XS.iconst X2.here hx rfl (hb hby d2_18) ?_
    show Steps p.tables e below (T2.setTop (mkF m 19 #[.val (.ref w_UNKNOWN)] [(.int (0 : Int32))])) _
    exact retN X2 hx (t := .boolean) Bd.returns (by simp) (hb hby d2_19) hr
  · show Q2_6 Z w_FAILED w_STOPPED w_UNKNOWN h0 n0 _ T2.heap _
    rw [e2]
    exact ⟨rfl, N0, rfl⟩
theorem d1_63 : decode method_2_code 63 = .ok (.getstatic 31, 3) := by decide +kernel
theorem d1_66 : decode method_2_code 66 = .ok (.areturn, 1) := by decide +kernel
theorem ef_rm1_7 (m : MethodId)  : entryFrame m #[(.int (7 : Int32))] 1 = mkF m 0 #[.val (.int (7 : Int32))] [] := by first | (simp [entryFrame, mkF, argsToLocals, Value.category]; done) | rfl
def Q1_7 (Z : State) (w_ABANDONED : Addr) (h0 : Heap) (n0 : Nat) (v : Option Value) (h : Heap) (L : List Loc) : Prop := v = some (.ref w_ABANDONED) ∧ Fr n0 L ∧ h = h0
set_option maxRecDepth 65536 in
set_option maxHeartbeats 40000000 in
theorem rm1_7 (l : Launch) (Z : State) (a0 : Array Value) (hw : ∀ d ∈ tables_1, d.before a0 Z = true) (ws : List Jvm.Cond) (w_ABANDONED : Addr) (h0 : Heap) (n0 : Nat) (Z0 : n0 ≤ h0.size) (S_ABANDONED : Sta Z h0 "com/example/windlass/windlass/repository/BatchStatus" "ABANDONED" "Lcom/example/windlass/windlass/repository/BatchStatus;" (.ref w_ABANDONED)) :
    MetFree l (⟨"com/example/windlass/windlass/repository/BatchStatusIsRestartablePinLaw", "pick", "(I)Lcom/example/windlass/windlass/repository/BatchStatus;"⟩ : MethodName) (head1 (Jvm.Cond.code (⟨"com/example/windlass/windlass/repository/BatchStatusIsRestartablePinLaw", "pick", "(I)Lcom/example/windlass/windlass/repository/BatchStatus;"⟩ : MethodName) method_2_code 1 (some (.object "com/example/windlass/windlass/repository/BatchStatus")) :: ws) ({ frames := 0, cells := 0, slots := 0, locals := 0 } : Room)) (fun a U => a = #[(.int (7 : Int32))] ∧ Z.Warmed39 U.vm ∧ U.heap = h0) (fun _ _ _ _ _ => True) (fun _ U o U' => ∃ v L, o = .returned v ∧ Q1_7 Z w_ABANDONED h0 n0 v U'.heap L ∧ FrameEnd U o U' L ({ frames := 0, cells := 0, slots := 0, locals := 0 } : Room).cells ({ frames := 0, cells := 0, slots := 0, locals := 0 } : Room).slots) := by
  refine MetFree.of_bodySF (plainFor_of_name pn_0) hisR ?_
  intro p e s m args below meth c s₁ Bd hml0 hP hK
  obtain ⟨rfl, hZ, hh⟩ := hP
  have hx := Bd.exec
  have hby := Bd.bytes
  have hml : c.maxLocals = 1 := hml0
  have hown : s.vm.findClass "com/example/windlass/windlass/repository/BatchStatusIsRestartablePinLaw" = some m.cls := findClass_of_methodNamed Bd.named
  have hnm := (name_of_methodNamed Bd.named Bd.method).1
  have X0 : Stand p l e ({ frames := 0, cells := 0, slots := 0, locals := 0 } : Room) s m #[(.int (7 : Int32))] below meth c s₁ [] 0 0 := Stand.of_body Bd
  have e0 : s₁.heap = h0 := by rw [← hh, Bd.state]; rfl
  have N0 := Fr.nil n0
  have pre0 : ∀ t, Steps p.tables e below (s₁.setTop (mkF m 0 #[.val (.int (7 : Int32))] [])) t → Steps p.tables e below (s₁.setTop (entryFrame m #[(.int (7 : Int32))] 1)) t := fun t k => castTop (ef_rm1_7 m ) k
  obtain ⟨T1, X1, e1, st1⟩ := getS2 X0 hx hZ hown (host := "") (Or.inl (hw _ (List.mem_of_getElem? (i := 29) rfl))) Via.refl e0 S_ABANDONED (g := (mkF m 63 #[.val (.int (7 : Int32))] [])) rfl (hb hby d1_63)
  obtain ⟨fs, hr, hrun, hended, hW, hsame⟩ := X1.leave (v := some (.ref w_ABANDONED)) (fun h => by rw [Bd.returns] at h; cases h)
  refine ⟨_, _, pre0 _ ?_, hrun, hended, _, _, rfl, ?_, ⟨_, rfl⟩, hW, hsame.mono (by decide) (by decide)⟩
  ·
    show Steps p.tables e below (s₁.setTop (mkF m 0 #[.val (.int (7 : Int32))] [])) _
    refine XS.iloadN X0.here hx rfl (hb hby d1_0) rfl ?_
    show Steps p.tables e below (s₁.setTop (mkF m 1 #[.val (.int (7 : Int32))] [(.int (7 : Int32))])) _
    refine XS.ifYes X0.here hx rfl (pc0 := 1) (pc' := 8) rfl (hb hby d1_1) rfl ((if0 _ _).trans (feq (by decide : ¬ ((7 : Int32) = (0 : Int32)))).2) (by decide) (by decide) ?_
    show Steps p.tables e below (s₁.setTop (mkF m 8 #[.val (.int (7 : Int32))] [])) _
    refine XS.iloadN X0.here hx rfl (hb hby d1_8) rfl ?_
    show Steps p.tables e below (s₁.setTop (mkF m 9 #[.val (.int (7 : Int32))] [(.int (7 : Int32))])) _
    refine XS.iconst X0.here hx rfl (hb hby d1_9) ?_
    show Steps p.tables e below (s₁.setTop (mkF m 10 #[.val (.int (7 : Int32))] [(.int (1 : Int32)), (.int (7 : Int32))])) _
    refine XS.icmpYes X0.here hx rfl (pc0 := 10) (pc' := 17) rfl (hb hby d1_10) rfl (feq (by decide : ¬ ((7 : Int32) = (1 : Int32)))).2 (by decide) (by decide) ?_
    show Steps p.tables e below (s₁.setTop (mkF m 17 #[.val (.int (7 : Int32))] [])) _
    refine XS.iloadN X0.here hx rfl (hb hby d1_17) rfl ?_
    show Steps p.tables e below (s₁.setTop (mkF m 18 #[.val (.int (7 : Int32))] [(.int (7 : Int32))])) _
    refine XS.iconst X0.here hx rfl (hb hby d1_18) ?_
    show Steps p.tables e below (s₁.setTop (mkF m 19 #[.val (.int (7 : Int32))] [(.int (2 : Int32)), (.int (7 : Int32))])) _
    refine XS.icmpYes X0.here hx rfl (pc0 := 19) (pc' := 26) rfl (hb hby d1_19) rfl (feq (by decide : ¬ ((7 : Int32) = (2 : Int32)))).2 (by decide) (by decide) ?_
    show Steps p.tables e below (s₁.setTop (mkF m 26 #[.val (.int (7 : Int32))] [])) _
    refine XS.iloadN X0.here hx rfl (hb hby d1_26) rfl ?_
    show Steps p.tables e below (s₁.setTop (mkF m 27 #[.val (.int (7 : Int32))] [(.int (7 : Int32))])) _
    refine XS.iconst X0.here hx rfl (hb hby d1_27) ?_
    show Steps p.tables e below (s₁.setTop (mkF m 28 #[.val (.int (7 : Int32))] [(.int (3 : Int32)), (.int (7 : Int32))])) _
    refine XS.icmpYes X0.here hx rfl (pc0 := 28) (pc' := 35) rfl (hb hby d1_28) rfl (feq (by decide : ¬ ((7 : Int32) = (3 : Int32)))).2 (by decide) (by decide) ?_
    show Steps p.tables e below (s₁.setTop (mkF m 35 #[.val (.int (7 : Int32))] [])) _
    refine XS.iloadN X0.here hx rfl (hb hby d1_35) rfl ?_
    show Steps p.tables e below (s₁.setTop (mkF m 36 #[.val (.int (7 : Int32))] [(.int (7 : Int32))])) _
    refine XS.iconst X0.here hx rfl (hb hby d1_36) ?_
    show Steps p.tables e below (s₁.setTop (mkF m 37 #[.val (.int (7 : Int32))] [(.int (4 : Int32)), (.int (7 : Int32))])) _
    refine XS.icmpYes X0.here hx rfl (pc0 := 37) (pc' := 44) rfl (hb hby d1_37) rfl (feq (by decide : ¬ ((7 : Int32) = (4 : Int32)))).2 (by decide) (by decide) ?_
    show Steps p.tables e below (s₁.setTop (mkF m 44 #[.val (.int (7 : Int32))] [])) _
    refine XS.iloadN X0.here hx rfl (hb hby d1_44) rfl ?_
    show Steps p.tables e below (s₁.setTop (mkF m 45 #[.val (.int (7 : Int32))] [(.int (7 : Int32))])) _
    refine XS.iconst X0.here hx rfl (hb hby d1_45) ?_
    show Steps p.tables e below (s₁.setTop (mkF m 46 #[.val (.int (7 : Int32))] [(.int (5 : Int32)), (.int (7 : Int32))])) _
    refine XS.icmpYes X0.here hx rfl (pc0 := 46) (pc' := 53) rfl (hb hby d1_46) rfl (feq (by decide : ¬ ((7 : Int32) = (5 : Int32)))).2 (by decide) (by decide) ?_
    show Steps p.tables e below (s₁.setTop (mkF m 53 #[.val (.int (7 : Int32))] [])) _
    refine XS.iloadN X0.here hx rfl (hb hby d1_53) rfl ?_
    show Steps p.tables e below (s₁.setTop (mkF m 54 #[.val (.int (7 : Int32))] [(.int (7 : Int32))])) _
    refine XS.bipush X0.here hx rfl (hb hby d1_54) ?_
    show Steps p.tables e below (s₁.setTop (mkF m 56 #[.val (.int (7 : Int32))] [(.int (6 : Int32)), (.int (7 : Int32))])) _
    refine XS.icmpYes X0.here hx rfl (pc0 := 56) (pc' := 63) rfl (hb hby d1_56) rfl (feq (by decide : ¬ ((7 : Int32) = (6 : Int32)))).2 (by decide) (by decide) ?_
    show Steps p.tables e below (s₁.setTop (mkF m 63 #[.val (.int (7 : Int32))] [])) _
    refine st1 _ ?_
    show Steps p.tables e below (T1.setTop (mkF m 66 #[.val (.int (7 : Int32))] [(.ref w_ABANDONED)])) _
    jvm_step X1.here [X1.here.top, hx, (hb hby d1_66), X1.method', Bd.returns, Value.isRef, FieldType.isReference]
    first | (intro acts; rw [hr _ acts rfl rfl rfl]) | rw [hr _ _ rfl rfl rfl]
    exact Steps.refl _
  · show Q1_7 Z w_ABANDONED h0 n0 _ T1.heap _
    rw [e1]
    exact ⟨rfl, N0, rfl⟩
theorem ef_rm2_7 (m : MethodId) (x0 : Addr) : entryFrame m #[(.ref x0)] 1 = mkF m 0 #[.val (.ref x0)] [] := by first | (simp [entryFrame, mkF, argsToLocals, Value.category]; done) | rfl
def Q2_7 (Z : State) (w_FAILED : Addr) (w_STOPPED : Addr) (w_ABANDONED : Addr) (h0 : Heap) (n0 : Nat) (v : Option Value) (h : Heap) (L : List Loc) : Prop := v = some (.int (0 : Int32)) ∧ Fr n0 L ∧ h = h0
set_option maxRecDepth 65536 in
set_option maxHeartbeats 40000000 in
theorem rm2_7 (l : Launch) (Z : State) (a0 : Array Value) (hw : ∀ d ∈ tables_1, d.before a0 Z = true) (ws : List Jvm.Cond) (w_FAILED : Addr) (w_STOPPED : Addr) (w_ABANDONED : Addr) (h0 : Heap) (n0 : Nat) (Z0 : n0 ≤ h0.size) (S_FAILED : Sta Z h0 "com/example/windlass/windlass/repository/BatchStatus" "FAILED" "Lcom/example/windlass/windlass/repository/BatchStatus;" (.ref w_FAILED)) (ne_ABANDONED_FAILED : w_ABANDONED ≠ w_FAILED) (S_STOPPED : Sta Z h0 "com/example/windlass/windlass/repository/BatchStatus" "STOPPED" "Lcom/example/windlass/windlass/repository/BatchStatus;" (.ref w_STOPPED)) (ne_ABANDONED_STOPPED : w_ABANDONED ≠ w_STOPPED) :
    MetFree l (⟨"com/example/windlass/windlass/repository/BatchStatus", "isRestartable", "()Z"⟩ : MethodName) (head1 (Jvm.Cond.code (⟨"com/example/windlass/windlass/repository/BatchStatus", "isRestartable", "()Z"⟩ : MethodName) prog_17_method_5_code 1 (some .boolean) :: ws) ({ frames := 0, cells := 0, slots := 0, locals := 0 } : Room)) (fun a U => a = #[(.ref w_ABANDONED)] ∧ Z.Warmed39 U.vm ∧ U.heap = h0) (fun _ _ _ _ _ => True) (fun _ U o U' => ∃ v L, o = .returned v ∧ Q2_7 Z w_FAILED w_STOPPED w_ABANDONED h0 n0 v U'.heap L ∧ FrameEnd U o U' L ({ frames := 0, cells := 0, slots := 0, locals := 0 } : Room).cells ({ frames := 0, cells := 0, slots := 0, locals := 0 } : Room).slots) := by
  refine MetFree.of_bodySF (plainFor_of_name pn_1) hisR ?_
  intro p e s m args below meth c s₁ Bd hml0 hP hK
  obtain ⟨rfl, hZ, hh⟩ := hP
  have hx := Bd.exec
  have hby := Bd.bytes
  have hml : c.maxLocals = 1 := hml0
  have hown : s.vm.findClass "com/example/windlass/windlass/repository/BatchStatus" = some m.cls := findClass_of_methodNamed Bd.named
  have hnm := (name_of_methodNamed Bd.named Bd.method).1
  have X0 : Stand p l e ({ frames := 0, cells := 0, slots := 0, locals := 0 } : Room) s m #[(.ref w_ABANDONED)] below meth c s₁ [] 0 0 := Stand.of_body Bd
  have e0 : s₁.heap = h0 := by rw [← hh, Bd.state]; rfl
  have N0 := Fr.nil n0
  have pre0 : ∀ t, Steps p.tables e below (s₁.setTop (mkF m 0 #[.val (.ref w_ABANDONED)] [])) t → Steps p.tables e below (s₁.setTop (entryFrame m #[(.ref w_ABANDONED)] 1)) t := fun t k => castTop (ef_rm2_7 m w_ABANDONED) k
  obtain ⟨T1, X1, e1, st1⟩ := getS2 X0 hx hZ hown (host := "") (Or.inl (hw _ (List.mem_of_getElem? (i := 12) rfl))) Via.refl e0 S_FAILED (g := (mkF m 1 #[.val (.ref w_ABANDONED)] [(.ref w_ABANDONED)])) rfl (hb hby d2_1)
  obtain ⟨T2, X2, e2, st2⟩ := getS2 X1 hx hZ hown (host := "") (Or.inl (hw _ (List.mem_of_getElem? (i := 14) rfl))) Via.refl e1 S_STOPPED (g := (mkF m 8 #[.val (.ref w_ABANDONED)] [(.ref w_ABANDONED)])) rfl (hb hby d2_8)
  obtain ⟨fs, hr, hrun, hended, hW, hsame⟩ := X2.leave (v := some (.int (0 : Int32))) (fun h => by rw [Bd.returns] at h; cases h)
  refine ⟨_, _, pre0 _ ?_, hrun, hended, _, _, rfl, ?_, ⟨_, rfl⟩, hW, hsame.mono (by decide) (by decide)⟩
  ·
    show Steps p.tables e below (s₁.setTop (mkF m 0 #[.val (.ref w_ABANDONED)] [])) _
    refine XS.aloadN X0.here hx rfl (hb hby d2_0) rfl rfl ?_
    show Steps p.tables e below (s₁.setTop (mkF m 1 #[.val (.ref w_ABANDONED)] [(.ref w_ABANDONED)])) _
    refine st1 _ ?_
    show Steps p.tables e below (T1.setTop (mkF m 4 #[.val (.ref w_ABANDONED)] [(.ref w_FAILED), (.ref w_ABANDONED)])) _
    refine Jvm.RoadKit.acmp (g := (mkF m 4 #[.val (.ref w_ABANDONED)] [(.ref w_FAILED), (.ref w_ABANDONED)])) X1 hx rfl rfl rfl (pc0 := 4) (pc' := 7) (same := false) rfl (hb hby d2_4) rfl (decide_eq_false fun q => ne_ABANDONED_FAILED (Value.ref.inj q)) (by decide) (by decide) ?_
    show Steps p.tables e below (T1.setTop (mkF m 7 #[.val (.ref w_ABANDONED)] [])) _
    refine XS.aloadN X1.here hx rfl (hb hby d2_7) rfl rfl ?_
    show Steps p.tables e below (T1.setTop (mkF m 8 #[.val (.ref w_ABANDONED)] [(.ref w_ABANDONED)])) _
    refine st2 _ ?_
    show Steps p.tables e below (T2.setTop (mkF m 11 #[.val (.ref w_ABANDONED)] [(.ref w_STOPPED), (.ref w_ABANDONED)])) _
    refine Jvm.RoadKit.acmp (g := (mkF m 11 #[.val (.ref w_ABANDONED)] [(.ref w_STOPPED), (.ref w_ABANDONED)])) X2 hx rfl rfl rfl (pc0 := 11) (pc' := 18) (same := false) rfl (hb hby d2_11) rfl (decide_eq_false fun q => ne_ABANDONED_STOPPED (Value.ref.inj q)) (by decide) (by decide) ?_
    show Steps p.tables e below (T2.setTop (mkF m 18 #[.val (.ref w_ABANDONED)] [])) _
    refine XS.iconst X2.here hx rfl (hb hby d2_18) ?_
    show Steps p.tables e below (T2.setTop (mkF m 19 #[.val (.ref w_ABANDONED)] [(.int (0 : Int32))])) _
    exact retN X2 hx (t := .boolean) Bd.returns (by simp) (hb hby d2_19) hr
  · show Q2_7 Z w_FAILED w_STOPPED w_ABANDONED h0 n0 _ T2.heap _
    rw [e2]
    exact ⟨rfl, N0, rfl⟩
theorem ef_rm0_0 (m : MethodId) (x0 : Int32) : entryFrame m #[(.int x0)] maxLocals = mkF m 0 #[.val (.int x0), .unset, .unset, .unset, .unset] [] := by first | (simp [entryFrame, mkF, argsToLocals, Value.category, maxLocals]; done) | rfl
def Q0_0 (Z : State) (p1 : Int32) (w_STARTING : Addr) (w_FAILED : Addr) (w_STOPPED : Addr) (w_STARTED : Addr) (w_STOPPING : Addr) (w_UNKNOWN : Addr) (w_ABANDONED : Addr) (w_COMPLETED : Addr) (h0 : Heap) (n0 : Nat) (v : Option Value) (h : Heap) (L : List Loc) : Prop := v = some (.int (1 : Int32)) ∧ Fr n0 L
set_option maxRecDepth 65536 in
set_option maxHeartbeats 40000000 in
theorem rm0_0 (l : Launch) (Z : State) (a0 : Array Value) (hw : ∀ d ∈ tables_1, d.before a0 Z = true) (ws : List Jvm.Cond) (p1 : Int32) (w_STARTING : Addr) (w_FAILED : Addr) (w_STOPPED : Addr) (w_STARTED : Addr) (w_STOPPING : Addr) (w_UNKNOWN : Addr) (w_ABANDONED : Addr) (w_COMPLETED : Addr) (h0 : Heap) (n0 : Nat) (Z0 : n0 ≤ h0.size) (S_STARTING : Sta Z h0 "com/example/windlass/windlass/repository/BatchStatus" "STARTING" "Lcom/example/windlass/windlass/repository/BatchStatus;" (.ref w_STARTING)) (E_STARTING : Exa Z h0 w_STARTING "com/example/windlass/windlass/repository/BatchStatus") (S_FAILED : Sta Z h0 "com/example/windlass/windlass/repository/BatchStatus" "FAILED" "Lcom/example/windlass/windlass/repository/BatchStatus;" (.ref w_FAILED)) (ne_FAILED_STARTING : w_FAILED ≠ w_STARTING) (S_STOPPED : Sta Z h0 "com/example/windlass/windlass/repository/BatchStatus" "STOPPED" "Lcom/example/windlass/windlass/repository/BatchStatus;" (.ref w_STOPPED)) (ne_STARTING_STOPPED : w_STARTING ≠ w_STOPPED) (S_STARTED : Sta Z h0 "com/example/windlass/windlass/repository/BatchStatus" "STARTED" "Lcom/example/windlass/windlass/repository/BatchStatus;" (.ref w_STARTED)) (E_STARTED : Exa Z h0 w_STARTED "com/example/windlass/windlass/repository/BatchStatus") (ne_FAILED_STARTED : w_FAILED ≠ w_STARTED) (ne_STARTED_STOPPED : w_STARTED ≠ w_STOPPED) (S_STOPPING : Sta Z h0 "com/example/windlass/windlass/repository/BatchStatus" "STOPPING" "Lcom/example/windlass/windlass/repository/BatchStatus;" (.ref w_STOPPING)) (E_STOPPING : Exa Z h0 w_STOPPING "com/example/windlass/windlass/repository/BatchStatus") (ne_FAILED_STOPPING : w_FAILED ≠ w_STOPPING) (ne_STOPPED_STOPPING : w_STOPPED ≠ w_STOPPING) (E_STOPPED : Exa Z h0 w_STOPPED "com/example/windlass/windlass/repository/BatchStatus") (ne_FAILED_STOPPED : w_FAILED ≠ w_STOPPED) (S_COMPLETED : Sta Z h0 "com/example/windlass/windlass/repository/BatchStatus" "COMPLETED" "Lcom/example/windlass/windlass/repository/BatchStatus;" (.ref w_COMPLETED)) (E_COMPLETED : Exa Z h0 w_COMPLETED "com/example/windlass/windlass/repository/BatchStatus") (ne_COMPLETED_FAILED : w_COMPLETED ≠ w_FAILED) (ne_COMPLETED_STOPPED : w_COMPLETED ≠ w_STOPPED) (E_FAILED : Exa Z h0 w_FAILED "com/example/windlass/windlass/repository/BatchStatus") (S_UNKNOWN : Sta Z h0 "com/example/windlass/windlass/repository/BatchStatus" "UNKNOWN" "Lcom/example/windlass/windlass/repository/BatchStatus;" (.ref w_UNKNOWN)) (E_UNKNOWN : Exa Z h0 w_UNKNOWN "com/example/windlass/windlass/repository/BatchStatus") (ne_FAILED_UNKNOWN : w_FAILED ≠ w_UNKNOWN) (ne_STOPPED_UNKNOWN : w_STOPPED ≠ w_UNKNOWN) (S_ABANDONED : Sta Z h0 "com/example/windlass/windlass/repository/BatchStatus" "ABANDONED" "Lcom/example/windlass/windlass/repository/BatchStatus;" (.ref w_ABANDONED)) (E_ABANDONED : Exa Z h0 w_ABANDONED "com/example/windlass/windlass/repository/BatchStatus") (ne_ABANDONED_FAILED : w_ABANDONED ≠ w_FAILED) (ne_ABANDONED_STOPPED : w_ABANDONED ≠ w_STOPPED) :
    MetFree l x (head1 (Jvm.Cond.code x code maxLocals ret :: ws) room_1) (fun a U => a = #[(.int p1)] ∧ Z.Warmed39 U.vm ∧ U.heap = h0) (fun _ _ _ _ _ => True) (fun _ U o U' => ∃ v L, o = .returned v ∧ Q0_0 Z p1 w_STARTING w_FAILED w_STOPPED w_STARTED w_STOPPING w_UNKNOWN w_ABANDONED w_COMPLETED h0 n0 v U'.heap L ∧ FrameEnd U o U' L room_1.cells room_1.slots) := by
  refine MetFree.of_bodySF (plainFor_of_name pn_0) hisR ?_
  intro p e s m args below meth c s₁ Bd hml0 hP hK
  obtain ⟨rfl, hZ, hh⟩ := hP
  have hx := Bd.exec
  have hby := Bd.bytes
  have hml : c.maxLocals = 5 := hml0
  have hown : s.vm.findClass "com/example/windlass/windlass/repository/BatchStatusIsRestartablePinLaw" = some m.cls := findClass_of_methodNamed Bd.named
  have hnm := (name_of_methodNamed Bd.named Bd.method).1
  have X0 : Stand p l e room_1 s m #[(.int p1)] below meth c s₁ [] 0 0 := Stand.of_body Bd
  have e0 : s₁.heap = h0 := by rw [← hh, Bd.state]; rfl
  have N0 := Fr.nil n0
  have pre0 : ∀ t, Steps p.tables e below (s₁.setTop (mkF m 0 #[.val (.int p1), .unset, .unset, .unset, .unset] [])) t → Steps p.tables e below (s₁.setTop (entryFrame m #[(.int p1)] maxLocals)) t := fun t k => castTop (ef_rm0_0 m p1) k
  have k1 : ∀ t, Steps p.tables e below (s₁.setTop (mkF m 4 #[.val (.int p1), .unset, .unset, .unset, .unset] [(.int (p1 &&& (7 : Int32)))])) t → Steps p.tables e below (s₁.setTop (entryFrame m #[(.int p1)] maxLocals)) t := by
    intro t k
    refine pre0 t ?_
    show Steps p.tables e below (s₁.setTop (mkF m 0 #[.val (.int p1), .unset, .unset, .unset, .unset] [])) _
    refine XS.iloadN X0.here hx rfl (hb hby at_0) rfl ?_
    show Steps p.tables e below (s₁.setTop (mkF m 1 #[.val (.int p1), .unset, .unset, .unset, .unset] [(.int p1)])) _
    refine XS.bipush X0.here hx rfl (hb hby at_1) ?_
    show Steps p.tables e below (s₁.setTop (mkF m 3 #[.val (.int p1), .unset, .unset, .unset, .unset] [(.int (7 : Int32)), (.int p1)])) _
    refine XS.iand X0.here hx rfl (hb hby at_3) rfl ?_
    show Steps p.tables e below (s₁.setTop (mkF m 4 #[.val (.int p1), .unset, .unset, .unset, .unset] [(.int (p1 &&& (7 : Int32)))])) _
    exact k
  rcases (own_c0 p1) with hk2_0 | hk3_1 | hk4_2 | hk5_3 | hk6_4 | hk7_5 | hk8_6 | hk9_7
  ·
    obtain ⟨_, _, ⟨T10, L10, k10, n10⟩, -, X10, ⟨Lc10, hQ10, l10, y10, z10⟩, st10⟩ := Jvm.LawKit.callS X0 hx (y := (⟨"com/example/windlass/windlass/repository/BatchStatusIsRestartablePinLaw", "pick", "(I)Lcom/example/windlass/windlass/repository/BatchStatus;"⟩ : MethodName)) hown (mvT hZ (hw _ (List.mem_of_getElem? (i := 0) rfl))) (mvT hZ (hw _ (List.mem_of_getElem? (i := 1) rfl))) (mvT hZ (hw _ (List.mem_of_getElem? (i := 2) rfl))) (mvT hZ (hw _ (List.mem_of_getElem? (i := 3) rfl))) (by decide) (backOf (W := 0) (rm1_0 l Z a0 hw [] w_STARTING h0 n0 Z0 S_STARTING) hZ (hw _ (List.mem_of_getElem? (i := 3) rfl)) (hw _ (List.mem_of_getElem? (i := 2) rfl)) (by decide) (by decide)) (g := (mkF m 6 #[.val (.int p1), .val (.int (0 : Int32)), .unset, .unset, .unset] [(.int (0 : Int32))])) rfl (by rw [hml]; rfl) (argsL := [(.int (0 : Int32))]) (rest := []) (lenOf pd_0 rfl) rfl (by show 2 * 0 + _ ≤ _; exact Nat.le_of_eq rfl) (hb hby at_6) (fun _ _ => ⟨rfl, e0, (by decide : 0 + 0 ≤ _), (by decide : 0 + 0 ≤ _)⟩)
    dsimp only [Pt.U, Pt.locs, Pt.cells, Pt.slots] at X10 l10 y10 z10 st10 hQ10
    subst l10 y10 z10
    obtain ⟨rfl, N10q, e10⟩ := hQ10
    have N10 := Fr.app N0 N10q
    obtain ⟨cq11, kq11, q11a, q11b, q11c⟩ := isOf hZ e10 E_STARTING
    obtain ⟨_, _, ⟨T11, L11, k11, n11⟩, -, X11, ⟨Lc11, hQ11, l11, y11, z11⟩, st11⟩ := X10.virtualBack hx (y := (⟨"com/example/windlass/windlass/repository/BatchStatus", "isRestartable", "()Z"⟩ : MethodName)) (z := (⟨"com/example/windlass/windlass/repository/BatchStatus", "isRestartable", "()Z"⟩ : MethodName)) hown (mvT hZ (hw _ (List.mem_of_getElem? (i := 7) rfl))) (mvT hZ (hw _ (List.mem_of_getElem? (i := 8) rfl))) (notFace_of_selects (args := #[]) (mvT hZ (hw _ (List.mem_of_getElem? (i := 10) rfl)))) (mvT hZ (hw _ (List.mem_of_getElem? (i := 10) rfl))) (mvT hZ (hw _ (List.mem_of_getElem? (i := 9) rfl))) (by decide) (backOf (W := 0) (rm2_0 l Z a0 hw [] w_STARTING w_FAILED w_STOPPED h0 n0 Z0 S_FAILED ne_FAILED_STARTING S_STOPPED ne_STARTING_STOPPED) hZ (hw _ (List.mem_of_getElem? (i := 11) rfl)) (hw _ (List.mem_of_getElem? (i := 5) rfl)) (by decide) (by decide)) q11a q11c (g := (mkF m 27 #[.val (.int p1), .val (.int (0 : Int32)), .val (.ref w_STARTING), .val (.int (0 : Int32)), .unset] [(.ref w_STARTING)])) rfl (by rw [hml]; rfl) (Steps.refl _) (argsL := []) (rest := []) (lenOf pd_1 rfl) rfl (by show 2 * 0 + _ ≤ _; exact Nat.le_of_eq rfl) (hb hby at_27) (fun _ _ => ⟨rfl, e10, (by decide : 0 + 0 ≤ _), (by decide : 0 + 0 ≤ _)⟩)
    dsimp only [Pt.U, Pt.locs, Pt.cells, Pt.slots] at X11 l11 y11 z11 st11 hQ11
    subst l11 y11 z11
    obtain ⟨rfl, N11q, e11⟩ := hQ11
    have N11 := Fr.app N10 N11q
    obtain ⟨fs, hr, hrun, hended, hW, hsame⟩ := X11.leave (v := some (.int (1 : Int32))) (fun h => by rw [Bd.returns] at h; cases h)
    refine ⟨_, _, k1 _ ?_, hrun, hended, _, _, rfl, ?_, ⟨_, rfl⟩, hW, hsame.mono (by decide) (by decide)⟩
    ·
      show Steps p.tables e below (s₁.setTop (mkF m 4 #[.val (.int p1), .unset, .unset, .unset, .unset] [(.int (p1 &&& (7 : Int32)))])) _
      rewrite [hk2_0]
      show Steps p.tables e below (s₁.setTop (mkF m 4 #[.val (.int p1), .unset, .unset, .unset, .unset] [(.int (0 : Int32))])) _
      refine XS.istoreN X0.here hx rfl (hb hby at_4) rfl (l' := #[.val (.int p1), .val (.int (0 : Int32)), .unset, .unset, .unset]) rfl ?_
      show Steps p.tables e below (s₁.setTop (mkF m 5 #[.val (.int p1), .val (.int (0 : Int32)), .unset, .unset, .unset] [])) _
      refine XS.iloadN X0.here hx rfl (hb hby at_5) rfl ?_
      show Steps p.tables e below (s₁.setTop (mkF m 6 #[.val (.int p1), .val (.int (0 : Int32)), .unset, .unset, .unset] [(.int (0 : Int32))])) _
      refine st10 _ ?_
      show Steps p.tables e below (T10.setTop (mkF m 9 #[.val (.int p1), .val (.int (0 : Int32)), .unset, .unset, .unset] [(.ref w_STARTING)])) _
      refine XS.astoreN X10.here hx rfl (hb hby at_9) rfl rfl (l' := #[.val (.int p1), .val (.int (0 : Int32)), .val (.ref w_STARTING), .unset, .unset]) rfl ?_
      show Steps p.tables e below (T10.setTop (mkF m 10 #[.val (.int p1), .val (.int (0 : Int32)), .val (.ref w_STARTING), .unset, .unset] [])) _
      refine XS.iloadN X10.here hx rfl (hb hby at_10) rfl ?_
      show Steps p.tables e below (T10.setTop (mkF m 11 #[.val (.int p1), .val (.int (0 : Int32)), .val (.ref w_STARTING), .unset, .unset] [(.int (0 : Int32))])) _
      refine XS.iconst X10.here hx rfl (hb hby at_11) ?_
      show Steps p.tables e below (T10.setTop (mkF m 12 #[.val (.int p1), .val (.int (0 : Int32)), .val (.ref w_STARTING), .unset, .unset] [(.int (3 : Int32)), (.int (0 : Int32))])) _
      refine XS.icmpNo X10.here hx rfl (hb hby at_12) rfl (feq (by decide : ¬ ((0 : Int32) = (3 : Int32)))).1 ?_
      show Steps p.tables e below (T10.setTop (mkF m 15 #[.val (.int p1), .val (.int (0 : Int32)), .val (.ref w_STARTING), .unset, .unset] [])) _
      refine XS.iloadN X10.here hx rfl (hb hby at_15) rfl ?_
      show Steps p.tables e below (T10.setTop (mkF m 16 #[.val (.int p1), .val (.int (0 : Int32)), .val (.ref w_STARTING), .unset, .unset] [(.int (0 : Int32))])) _
      refine XS.iconst X10.here hx rfl (hb hby at_16) ?_
      show Steps p.tables e below (T10.setTop (mkF m 17 #[.val (.int p1), .val (.int (0 : Int32)), .val (.ref w_STARTING), .unset, .unset] [(.int (5 : Int32)), (.int (0 : Int32))])) _
      refine XS.icmpYes X10.here hx rfl (pc0 := 17) (pc' := 24) rfl (hb hby at_17) rfl (feq (by decide : ¬ ((0 : Int32) = (5 : Int32)))).2 (by decide) (by decide) ?_
      show Steps p.tables e below (T10.setTop (mkF m 24 #[.val (.int p1), .val (.int (0 : Int32)), .val (.ref w_STARTING), .unset, .unset] [])) _
      refine XS.iconst X10.here hx rfl (hb hby at_24) ?_
      show Steps p.tables e below (T10.setTop (mkF m 25 #[.val (.int p1), .val (.int (0 : Int32)), .val (.ref w_STARTING), .unset, .unset] [(.int (0 : Int32))])) _
      refine XS.istoreN X10.here hx rfl (hb hby at_25) rfl (l' := #[.val (.int p1), .val (.int (0 : Int32)), .val (.ref w_STARTING), .val (.int (0 : Int32)), .unset]) rfl ?_
      show Steps p.tables e below (T10.setTop (mkF m 26 #[.val (.int p1), .val (.int (0 : Int32)), .val (.ref w_STARTING), .val (.int (0 : Int32)), .unset] [])) _
      refine XS.aloadN X10.here hx rfl (hb hby at_26) rfl rfl ?_
      show Steps p.tables e below (T10.setTop (mkF m 27 #[.val (.int p1), .val (.int (0 : Int32)), .val (.ref w_STARTING), .val (.int (0 : Int32)), .unset] [(.ref w_STARTING)])) _
      refine st11.trans ?_
      show Steps p.tables e below (T11.setTop (mkF m 30 #[.val (.int p1), .val (.int (0 : Int32)), .val (.ref w_STARTING), .val (.int (0 : Int32)), .unset] [(.int (0 : Int32))])) _
      refine XS.istore X11.here hx rfl (hb hby at_30) rfl (l' := #[.val (.int p1), .val (.int (0 : Int32)), .val (.ref w_STARTING), .val (.int (0 : Int32)), .val (.int (0 : Int32))]) rfl ?_
      show Steps p.tables e below (T11.setTop (mkF m 32 #[.val (.int p1), .val (.int (0 : Int32)), .val (.ref w_STARTING), .val (.int (0 : Int32)), .val (.int (0 : Int32))] [])) _
      refine XS.iload X11.here hx rfl (hb hby at_32) rfl ?_
      show Steps p.tables e below (T11.setTop (mkF m 34 #[.val (.int p1), .val (.int (0 : Int32)), .val (.ref w_STARTING), .val (.int (0 : Int32)), .val (.int (0 : Int32))] [(.int (0 : Int32))])) _
      refine XS.iloadN X11.here hx rfl (hb hby at_34) rfl ?_
      show Steps p.tables e below (T11.setTop (mkF m 35 #[.val (.int p1), .val (.int (0 : Int32)), .val (.ref w_STARTING), .val (.int (0 : Int32)), .val (.int (0 : Int32))] [(.int (0 : Int32)), (.int (0 : Int32))])) _
      refine XS.icmpNo X11.here hx rfl (hb hby at_35) rfl (teq (by decide : (0 : Int32) = (0 : Int32))).2 ?_
      show Steps p.tables e below (T11.setTop (mkF m 38 #[.val (.int p1), .val (.int (0 : Int32)), .val (.ref w_STARTING), .val (.int (0 : Int32)), .val (.int (0 : Int32))] [])) _
      refine XS.iload X11.here hx rfl (hb hby at_38) rfl ?_
      show Steps p.tables e below (T11.setTop (mkF m 40 #[.val (.int p1), .val (.int (0 : Int32)), .val (.ref w_STARTING), .val (.int (0 : Int32)), .val (.int (0 : Int32))] [(.int (0 : Int32))])) _
      refine XS.ifYes X11.here hx rfl (pc0 := 40) (pc' := 50) rfl (hb hby at_40) rfl ((if0 _ _).trans (teq (by decide : (0 : Int32) = (0 : Int32))).1) (by decide) (by decide) ?_
      show Steps p.tables e below (T11.setTop (mkF m 50 #[.val (.int p1), .val (.int (0 : Int32)), .val (.ref w_STARTING), .val (.int (0 : Int32)), .val (.int (0 : Int32))] [])) _
      refine XS.iconst X11.here hx rfl (hb hby at_50) ?_
      show Steps p.tables e below (T11.setTop (mkF m 51 #[.val (.int p1), .val (.int (0 : Int32)), .val (.ref w_STARTING), .val (.int (0 : Int32)), .val (.int (0 : Int32))] [(.int (1 : Int32))])) _
      refine XS.goto X11.here hx rfl (pc0 := 51) (pc' := 55) rfl (hb hby at_51) (by decide) (by decide) ?_
      show Steps p.tables e below (T11.setTop (mkF m 55 #[.val (.int p1), .val (.int (0 : Int32)), .val (.ref w_STARTING), .val (.int (0 : Int32)), .val (.int (0 : Int32))] [(.int (1 : Int32))])) _
      exact retN X11 hx (t := .boolean) Bd.returns (by simp) (hb hby at_55) hr
    · show Q0_0 Z p1 w_STARTING w_FAILED w_STOPPED w_STARTED w_STOPPING w_UNKNOWN w_ABANDONED w_COMPLETED h0 n0 _ T11.heap _
      rw [e11]
      exact ⟨rfl, N11⟩
  ·
    obtain ⟨_, _, ⟨T12, L12, k12, n12⟩, -, X12, ⟨Lc12, hQ12, l12, y12, z12⟩, st12⟩ := Jvm.LawKit.callS X0 hx (y := (⟨"com/example/windlass/windlass/repository/BatchStatusIsRestartablePinLaw", "pick", "(I)Lcom/example/windlass/windlass/repository/BatchStatus;"⟩ : MethodName)) hown (mvT hZ (hw _ (List.mem_of_getElem? (i := 0) rfl))) (mvT hZ (hw _ (List.mem_of_getElem? (i := 1) rfl))) (mvT hZ (hw _ (List.mem_of_getElem? (i := 2) rfl))) (mvT hZ (hw _ (List.mem_of_getElem? (i := 3) rfl))) (by decide) (backOf (W := 0) (rm1_1 l Z a0 hw [] w_STARTED h0 n0 Z0 S_STARTED) hZ (hw _ (List.mem_of_getElem? (i := 3) rfl)) (hw _ (List.mem_of_getElem? (i := 2) rfl)) (by decide) (by decide)) (g := (mkF m 6 #[.val (.int p1), .val (.int (1 : Int32)), .unset, .unset, .unset] [(.int (1 : Int32))])) rfl (by rw [hml]; rfl) (argsL := [(.int (1 : Int32))]) (rest := []) (lenOf pd_0 rfl) rfl (by show 2 * 0 + _ ≤ _; exact Nat.le_of_eq rfl) (hb hby at_6) (fun _ _ => ⟨rfl, e0, (by decide : 0 + 0 ≤ _), (by decide : 0 + 0 ≤ _)⟩)
    dsimp only [Pt.U, Pt.locs, Pt.cells, Pt.slots] at X12 l12 y12 z12 st12 hQ12
    subst l12 y12 z12
    obtain ⟨rfl, N12q, e12⟩ := hQ12
    have N12 := Fr.app N0 N12q
    obtain ⟨cq13, kq13, q13a, q13b, q13c⟩ := isOf hZ e12 E_STARTED
    obtain ⟨_, _, ⟨T13, L13, k13, n13⟩, -, X13, ⟨Lc13, hQ13, l13, y13, z13⟩, st13⟩ := X12.virtualBack hx (y := (⟨"com/example/windlass/windlass/repository/BatchStatus", "isRestartable", "()Z"⟩ : MethodName)) (z := (⟨"com/example/windlass/windlass/repository/BatchStatus", "isRestartable", "()Z"⟩ : MethodName)) hown (mvT hZ (hw _ (List.mem_of_getElem? (i := 7) rfl))) (mvT hZ (hw _ (List.mem_of_getElem? (i := 8) rfl))) (notFace_of_selects (args := #[]) (mvT hZ (hw _ (List.mem_of_getElem? (i := 10) rfl)))) (mvT hZ (hw _ (List.mem_of_getElem? (i := 10) rfl))) (mvT hZ (hw _ (List.mem_of_getElem? (i := 9) rfl))) (by decide) (backOf (W := 0) (rm2_1 l Z a0 hw [] w_FAILED w_STOPPED w_STARTED h0 n0 Z0 S_FAILED ne_FAILED_STARTED S_STOPPED ne_STARTED_STOPPED) hZ (hw _ (List.mem_of_getElem? (i := 11) rfl)) (hw _ (List.mem_of_getElem? (i := 5) rfl)) (by decide) (by decide)) q13a q13c (g := (mkF m 27 #[.val (.int p1), .val (.int (1 : Int32)), .val (.ref w_STARTED), .val (.int (0 : Int32)), .unset] [(.ref w_STARTED)])) rfl (by rw [hml]; rfl) (Steps.refl _) (argsL := []) (rest := []) (lenOf pd_1 rfl) rfl (by show 2 * 0 + _ ≤ _; exact Nat.le_of_eq rfl) (hb hby at_27) (fun _ _ => ⟨rfl, e12, (by decide : 0 + 0 ≤ _), (by decide : 0 + 0 ≤ _)⟩)
    dsimp only [Pt.U, Pt.locs, Pt.cells, Pt.slots] at X13 l13 y13 z13 st13 hQ13
    subst l13 y13 z13
    obtain ⟨rfl, N13q, e13⟩ := hQ13
    have N13 := Fr.app N12 N13q
    obtain ⟨fs, hr, hrun, hended, hW, hsame⟩ := X13.leave (v := some (.int (1 : Int32))) (fun h => by rw [Bd.returns] at h; cases h)
    refine ⟨_, _, k1 _ ?_, hrun, hended, _, _, rfl, ?_, ⟨_, rfl⟩, hW, hsame.mono (by decide) (by decide)⟩
    ·
      show Steps p.tables e below (s₁.setTop (mkF m 4 #[.val (.int p1), .unset, .unset, .unset, .unset] [(.int (p1 &&& (7 : Int32)))])) _
      rewrite [hk3_1]
      show Steps p.tables e below (s₁.setTop (mkF m 4 #[.val (.int p1), .unset, .unset, .unset, .unset] [(.int (1 : Int32))])) _
      refine XS.istoreN X0.here hx rfl (hb hby at_4) rfl (l' := #[.val (.int p1), .val (.int (1 : Int32)), .unset, .unset, .unset]) rfl ?_
      show Steps p.tables e below (s₁.setTop (mkF m 5 #[.val (.int p1), .val (.int (1 : Int32)), .unset, .unset, .unset] [])) _
      refine XS.iloadN X0.here hx rfl (hb hby at_5) rfl ?_
      show Steps p.tables e below (s₁.setTop (mkF m 6 #[.val (.int p1), .val (.int (1 : Int32)), .unset, .unset, .unset] [(.int (1 : Int32))])) _
      refine st12 _ ?_
      show Steps p.tables e below (T12.setTop (mkF m 9 #[.val (.int p1), .val (.int (1 : Int32)), .unset, .unset, .unset] [(.ref w_STARTED)])) _
      refine XS.astoreN X12.here hx rfl (hb hby at_9) rfl rfl (l' := #[.val (.int p1), .val (.int (1 : Int32)), .val (.ref w_STARTED), .unset, .unset]) rfl ?_
      show Steps p.tables e below (T12.setTop (mkF m 10 #[.val (.int p1), .val (.int (1 : Int32)), .val (.ref w_STARTED), .unset, .unset] [])) _
      refine XS.iloadN X12.here hx rfl (hb hby at_10) rfl ?_
      show Steps p.tables e below (T12.setTop (mkF m 11 #[.val (.int p1), .val (.int (1 : Int32)), .val (.ref w_STARTED), .unset, .unset] [(.int (1 : Int32))])) _
      refine XS.iconst X12.here hx rfl (hb hby at_11) ?_
      show Steps p.tables e below (T12.setTop (mkF m 12 #[.val (.int p1), .val (.int (1 : Int32)), .val (.ref w_STARTED), .unset, .unset] [(.int (3 : Int32)), (.int (1 : Int32))])) _
      refine XS.icmpNo X12.here hx rfl (hb hby at_12) rfl (feq (by decide : ¬ ((1 : Int32) = (3 : Int32)))).1 ?_
      show Steps p.tables e below (T12.setTop (mkF m 15 #[.val (.int p1), .val (.int (1 : Int32)), .val (.ref w_STARTED), .unset, .unset] [])) _
      refine XS.iloadN X12.here hx rfl (hb hby at_15) rfl ?_
      show Steps p.tables e below (T12.setTop (mkF m 16 #[.val (.int p1), .val (.int (1 : Int32)), .val (.ref w_STARTED), .unset, .unset] [(.int (1 : Int32))])) _
      refine XS.iconst X12.here hx rfl (hb hby at_16) ?_
      show Steps p.tables e below (T12.setTop (mkF m 17 #[.val (.int p1), .val (.int (1 : Int32)), .val (.ref w_STARTED), .unset, .unset] [(.int (5 : Int32)), (.int (1 : Int32))])) _
      refine XS.icmpYes X12.here hx rfl (pc0 := 17) (pc' := 24) rfl (hb hby at_17) rfl (feq (by decide : ¬ ((1 : Int32) = (5 : Int32)))).2 (by decide) (by decide) ?_
      show Steps p.tables e below (T12.setTop (mkF m 24 #[.val (.int p1), .val (.int (1 : Int32)), .val (.ref w_STARTED), .unset, .unset] [])) _
      refine XS.iconst X12.here hx rfl (hb hby at_24) ?_
      show Steps p.tables e below (T12.setTop (mkF m 25 #[.val (.int p1), .val (.int (1 : Int32)), .val (.ref w_STARTED), .unset, .unset] [(.int (0 : Int32))])) _
      refine XS.istoreN X12.here hx rfl (hb hby at_25) rfl (l' := #[.val (.int p1), .val (.int (1 : Int32)), .val (.ref w_STARTED), .val (.int (0 : Int32)), .unset]) rfl ?_
      show Steps p.tables e below (T12.setTop (mkF m 26 #[.val (.int p1), .val (.int (1 : Int32)), .val (.ref w_STARTED), .val (.int (0 : Int32)), .unset] [])) _
      refine XS.aloadN X12.here hx rfl (hb hby at_26) rfl rfl ?_
      show Steps p.tables e below (T12.setTop (mkF m 27 #[.val (.int p1), .val (.int (1 : Int32)), .val (.ref w_STARTED), .val (.int (0 : Int32)), .unset] [(.ref w_STARTED)])) _
      refine st13.trans ?_
      show Steps p.tables e below (T13.setTop (mkF m 30 #[.val (.int p1), .val (.int (1 : Int32)), .val (.ref w_STARTED), .val (.int (0 : Int32)), .unset] [(.int (0 : Int32))])) _
      refine XS.istore X13.here hx rfl (hb hby at_30) rfl (l' := #[.val (.int p1), .val (.int (1 : Int32)), .val (.ref w_STARTED), .val (.int (0 : Int32)), .val (.int (0 : Int32))]) rfl ?_
      show Steps p.tables e below (T13.setTop (mkF m 32 #[.val (.int p1), .val (.int (1 : Int32)), .val (.ref w_STARTED), .val (.int (0 : Int32)), .val (.int (0 : Int32))] [])) _
      refine XS.iload X13.here hx rfl (hb hby at_32) rfl ?_
      show Steps p.tables e below (T13.setTop (mkF m 34 #[.val (.int p1), .val (.int (1 : Int32)), .val (.ref w_STARTED), .val (.int (0 : Int32)), .val (.int (0 : Int32))] [(.int (0 : Int32))])) _
      refine XS.iloadN X13.here hx rfl (hb hby at_34) rfl ?_
      show Steps p.tables e below (T13.setTop (mkF m 35 #[.val (.int p1), .val (.int (1 : Int32)), .val (.ref w_STARTED), .val (.int (0 : Int32)), .val (.int (0 : Int32))] [(.int (0 : Int32)), (.int (0 : Int32))])) _
      refine XS.icmpNo X13.here hx rfl (hb hby at_35) rfl (teq (by decide : (0 : Int32) = (0 : Int32))).2 ?_
      show Steps p.tables e below (T13.setTop (mkF m 38 #[.val (.int p1), .val (.int (1 : Int32)), .val (.ref w_STARTED), .val (.int (0 : Int32)), .val (.int (0 : Int32))] [])) _
      refine XS.iload X13.here hx rfl (hb hby at_38) rfl ?_
      show Steps p.tables e below (T13.setTop (mkF m 40 #[.val (.int p1), .val (.int (1 : Int32)), .val (.ref w_STARTED), .val (.int (0 : Int32)), .val (.int (0 : Int32))] [(.int (0 : Int32))])) _
      refine XS.ifYes X13.here hx rfl (pc0 := 40) (pc' := 50) rfl (hb hby at_40) rfl ((if0 _ _).trans (teq (by decide : (0 : Int32) = (0 : Int32))).1) (by decide) (by decide) ?_
      show Steps p.tables e below (T13.setTop (mkF m 50 #[.val (.int p1), .val (.int (1 : Int32)), .val (.ref w_STARTED), .val (.int (0 : Int32)), .val (.int (0 : Int32))] [])) _
      refine XS.iconst X13.here hx rfl (hb hby at_50) ?_
      show Steps p.tables e below (T13.setTop (mkF m 51 #[.val (.int p1), .val (.int (1 : Int32)), .val (.ref w_STARTED), .val (.int (0 : Int32)), .val (.int (0 : Int32))] [(.int (1 : Int32))])) _
      refine XS.goto X13.here hx rfl (pc0 := 51) (pc' := 55) rfl (hb hby at_51) (by decide) (by decide) ?_
      show Steps p.tables e below (T13.setTop (mkF m 55 #[.val (.int p1), .val (.int (1 : Int32)), .val (.ref w_STARTED), .val (.int (0 : Int32)), .val (.int (0 : Int32))] [(.int (1 : Int32))])) _
      exact retN X13 hx (t := .boolean) Bd.returns (by simp) (hb hby at_55) hr
    · show Q0_0 Z p1 w_STARTING w_FAILED w_STOPPED w_STARTED w_STOPPING w_UNKNOWN w_ABANDONED w_COMPLETED h0 n0 _ T13.heap _
      rw [e13]
      exact ⟨rfl, N13⟩
  ·
    obtain ⟨_, _, ⟨T14, L14, k14, n14⟩, -, X14, ⟨Lc14, hQ14, l14, y14, z14⟩, st14⟩ := Jvm.LawKit.callS X0 hx (y := (⟨"com/example/windlass/windlass/repository/BatchStatusIsRestartablePinLaw", "pick", "(I)Lcom/example/windlass/windlass/repository/BatchStatus;"⟩ : MethodName)) hown (mvT hZ (hw _ (List.mem_of_getElem? (i := 0) rfl))) (mvT hZ (hw _ (List.mem_of_getElem? (i := 1) rfl))) (mvT hZ (hw _ (List.mem_of_getElem? (i := 2) rfl))) (mvT hZ (hw _ (List.mem_of_getElem? (i := 3) rfl))) (by decide) (backOf (W := 0) (rm1_2 l Z a0 hw [] w_STOPPING h0 n0 Z0 S_STOPPING) hZ (hw _ (List.mem_of_getElem? (i := 3) rfl)) (hw _ (List.mem_of_getElem? (i := 2) rfl)) (by decide) (by decide)) (g := (mkF m 6 #[.val (.int p1), .val (.int (2 : Int32)), .unset, .unset, .unset] [(.int (2 : Int32))])) rfl (by rw [hml]; rfl) (argsL := [(.int (2 : Int32))]) (rest := []) (lenOf pd_0 rfl) rfl (by show 2 * 0 + _ ≤ _; exact Nat.le_of_eq rfl) (hb hby at_6) (fun _ _ => ⟨rfl, e0, (by decide : 0 + 0 ≤ _), (by decide : 0 + 0 ≤ _)⟩)
    dsimp only [Pt.U, Pt.locs, Pt.cells, Pt.slots] at X14 l14 y14 z14 st14 hQ14
    subst l14 y14 z14
    obtain ⟨rfl, N14q, e14⟩ := hQ14
    have N14 := Fr.app N0 N14q
    obtain ⟨cq15, kq15, q15a, q15b, q15c⟩ := isOf hZ e14 E_STOPPING
    obtain ⟨_, _, ⟨T15, L15, k15, n15⟩, -, X15, ⟨Lc15, hQ15, l15, y15, z15⟩, st15⟩ := X14.virtualBack hx (y := (⟨"com/example/windlass/windlass/repository/BatchStatus", "isRestartable", "()Z"⟩ : MethodName)) (z := (⟨"com/example/windlass/windlass/repository/BatchStatus", "isRestartable", "()Z"⟩ : MethodName)) hown (mvT hZ (hw _ (List.mem_of_getElem? (i := 7) rfl))) (mvT hZ (hw _ (List.mem_of_getElem? (i := 8) rfl))) (notFace_of_selects (args := #[]) (mvT hZ (hw _ (List.mem_of_getElem? (i := 10) rfl)))) (mvT hZ (hw _ (List.mem_of_getElem? (i := 10) rfl))) (mvT hZ (hw _ (List.mem_of_getElem? (i := 9) rfl))) (by decide) (backOf (W := 0) (rm2_2 l Z a0 hw [] w_FAILED w_STOPPED w_STOPPING h0 n0 Z0 S_FAILED ne_FAILED_STOPPING S_STOPPED ne_STOPPED_STOPPING) hZ (hw _ (List.mem_of_getElem? (i := 11) rfl)) (hw _ (List.mem_of_getElem? (i := 5) rfl)) (by decide) (by decide)) q15a q15c (g := (mkF m 27 #[.val (.int p1), .val (.int (2 : Int32)), .val (.ref w_STOPPING), .val (.int (0 : Int32)), .unset] [(.ref w_STOPPING)])) rfl (by rw [hml]; rfl) (Steps.refl _) (argsL := []) (rest := []) (lenOf pd_1 rfl) rfl (by show 2 * 0 + _ ≤ _; exact Nat.le_of_eq rfl) (hb hby at_27) (fun _ _ => ⟨rfl, e14, (by decide : 0 + 0 ≤ _), (by decide : 0 + 0 ≤ _)⟩)
    dsimp only [Pt.U, Pt.locs, Pt.cells, Pt.slots] at X15 l15 y15 z15 st15 hQ15
    subst l15 y15 z15
    obtain ⟨rfl, N15q, e15⟩ := hQ15
    have N15 := Fr.app N14 N15q
    obtain ⟨fs, hr, hrun, hended, hW, hsame⟩ := X15.leave (v := some (.int (1 : Int32))) (fun h => by rw [Bd.returns] at h; cases h)
    refine ⟨_, _, k1 _ ?_, hrun, hended, _, _, rfl, ?_, ⟨_, rfl⟩, hW, hsame.mono (by decide) (by decide)⟩
    ·
      show Steps p.tables e below (s₁.setTop (mkF m 4 #[.val (.int p1), .unset, .unset, .unset, .unset] [(.int (p1 &&& (7 : Int32)))])) _
      rewrite [hk4_2]
      show Steps p.tables e below (s₁.setTop (mkF m 4 #[.val (.int p1), .unset, .unset, .unset, .unset] [(.int (2 : Int32))])) _
      refine XS.istoreN X0.here hx rfl (hb hby at_4) rfl (l' := #[.val (.int p1), .val (.int (2 : Int32)), .unset, .unset, .unset]) rfl ?_
      show Steps p.tables e below (s₁.setTop (mkF m 5 #[.val (.int p1), .val (.int (2 : Int32)), .unset, .unset, .unset] [])) _
      refine XS.iloadN X0.here hx rfl (hb hby at_5) rfl ?_
      show Steps p.tables e below (s₁.setTop (mkF m 6 #[.val (.int p1), .val (.int (2 : Int32)), .unset, .unset, .unset] [(.int (2 : Int32))])) _
      refine st14 _ ?_
      show Steps p.tables e below (T14.setTop (mkF m 9 #[.val (.int p1), .val (.int (2 : Int32)), .unset, .unset, .unset] [(.ref w_STOPPING)])) _
      refine XS.astoreN X14.here hx rfl (hb hby at_9) rfl rfl (l' := #[.val (.int p1), .val (.int (2 : Int32)), .val (.ref w_STOPPING), .unset, .unset]) rfl ?_
      show Steps p.tables e below (T14.setTop (mkF m 10 #[.val (.int p1), .val (.int (2 : Int32)), .val (.ref w_STOPPING), .unset, .unset] [])) _
      refine XS.iloadN X14.here hx rfl (hb hby at_10) rfl ?_
      show Steps p.tables e below (T14.setTop (mkF m 11 #[.val (.int p1), .val (.int (2 : Int32)), .val (.ref w_STOPPING), .unset, .unset] [(.int (2 : Int32))])) _
      refine XS.iconst X14.here hx rfl (hb hby at_11) ?_
      show Steps p.tables e below (T14.setTop (mkF m 12 #[.val (.int p1), .val (.int (2 : Int32)), .val (.ref w_STOPPING), .unset, .unset] [(.int (3 : Int32)), (.int (2 : Int32))])) _
      refine XS.icmpNo X14.here hx rfl (hb hby at_12) rfl (feq (by decide : ¬ ((2 : Int32) = (3 : Int32)))).1 ?_
      show Steps p.tables e below (T14.setTop (mkF m 15 #[.val (.int p1), .val (.int (2 : Int32)), .val (.ref w_STOPPING), .unset, .unset] [])) _
      refine XS.iloadN X14.here hx rfl (hb hby at_15) rfl ?_
      show Steps p.tables e below (T14.setTop (mkF m 16 #[.val (.int p1), .val (.int (2 : Int32)), .val (.ref w_STOPPING), .unset, .unset] [(.int (2 : Int32))])) _
      refine XS.iconst X14.here hx rfl (hb hby at_16) ?_
      show Steps p.tables e below (T14.setTop (mkF m 17 #[.val (.int p1), .val (.int (2 : Int32)), .val (.ref w_STOPPING), .unset, .unset] [(.int (5 : Int32)), (.int (2 : Int32))])) _
      refine XS.icmpYes X14.here hx rfl (pc0 := 17) (pc' := 24) rfl (hb hby at_17) rfl (feq (by decide : ¬ ((2 : Int32) = (5 : Int32)))).2 (by decide) (by decide) ?_
      show Steps p.tables e below (T14.setTop (mkF m 24 #[.val (.int p1), .val (.int (2 : Int32)), .val (.ref w_STOPPING), .unset, .unset] [])) _
      refine XS.iconst X14.here hx rfl (hb hby at_24) ?_
      show Steps p.tables e below (T14.setTop (mkF m 25 #[.val (.int p1), .val (.int (2 : Int32)), .val (.ref w_STOPPING), .unset, .unset] [(.int (0 : Int32))])) _
      refine XS.istoreN X14.here hx rfl (hb hby at_25) rfl (l' := #[.val (.int p1), .val (.int (2 : Int32)), .val (.ref w_STOPPING), .val (.int (0 : Int32)), .unset]) rfl ?_
      show Steps p.tables e below (T14.setTop (mkF m 26 #[.val (.int p1), .val (.int (2 : Int32)), .val (.ref w_STOPPING), .val (.int (0 : Int32)), .unset] [])) _
      refine XS.aloadN X14.here hx rfl (hb hby at_26) rfl rfl ?_
      show Steps p.tables e below (T14.setTop (mkF m 27 #[.val (.int p1), .val (.int (2 : Int32)), .val (.ref w_STOPPING), .val (.int (0 : Int32)), .unset] [(.ref w_STOPPING)])) _
      refine st15.trans ?_
      show Steps p.tables e below (T15.setTop (mkF m 30 #[.val (.int p1), .val (.int (2 : Int32)), .val (.ref w_STOPPING), .val (.int (0 : Int32)), .unset] [(.int (0 : Int32))])) _
      refine XS.istore X15.here hx rfl (hb hby at_30) rfl (l' := #[.val (.int p1), .val (.int (2 : Int32)), .val (.ref w_STOPPING), .val (.int (0 : Int32)), .val (.int (0 : Int32))]) rfl ?_
      show Steps p.tables e below (T15.setTop (mkF m 32 #[.val (.int p1), .val (.int (2 : Int32)), .val (.ref w_STOPPING), .val (.int (0 : Int32)), .val (.int (0 : Int32))] [])) _
      refine XS.iload X15.here hx rfl (hb hby at_32) rfl ?_
      show Steps p.tables e below (T15.setTop (mkF m 34 #[.val (.int p1), .val (.int (2 : Int32)), .val (.ref w_STOPPING), .val (.int (0 : Int32)), .val (.int (0 : Int32))] [(.int (0 : Int32))])) _
      refine XS.iloadN X15.here hx rfl (hb hby at_34) rfl ?_
      show Steps p.tables e below (T15.setTop (mkF m 35 #[.val (.int p1), .val (.int (2 : Int32)), .val (.ref w_STOPPING), .val (.int (0 : Int32)), .val (.int (0 : Int32))] [(.int (0 : Int32)), (.int (0 : Int32))])) _
      refine XS.icmpNo X15.here hx rfl (hb hby at_35) rfl (teq (by decide : (0 : Int32) = (0 : Int32))).2 ?_
      show Steps p.tables e below (T15.setTop (mkF m 38 #[.val (.int p1), .val (.int (2 : Int32)), .val (.ref w_STOPPING), .val (.int (0 : Int32)), .val (.int (0 : Int32))] [])) _
      refine XS.iload X15.here hx rfl (hb hby at_38) rfl ?_
      show Steps p.tables e below (T15.setTop (mkF m 40 #[.val (.int p1), .val (.int (2 : Int32)), .val (.ref w_STOPPING), .val (.int (0 : Int32)), .val (.int (0 : Int32))] [(.int (0 : Int32))])) _
      refine XS.ifYes X15.here hx rfl (pc0 := 40) (pc' := 50) rfl (hb hby at_40) rfl ((if0 _ _).trans (teq (by decide : (0 : Int32) = (0 : Int32))).1) (by decide) (by decide) ?_
      show Steps p.tables e below (T15.setTop (mkF m 50 #[.val (.int p1), .val (.int (2 : Int32)), .val (.ref w_STOPPING), .val (.int (0 : Int32)), .val (.int (0 : Int32))] [])) _
      refine XS.iconst X15.here hx rfl (hb hby at_50) ?_
      show Steps p.tables e below (T15.setTop (mkF m 51 #[.val (.int p1), .val (.int (2 : Int32)), .val (.ref w_STOPPING), .val (.int (0 : Int32)), .val (.int (0 : Int32))] [(.int (1 : Int32))])) _
      refine XS.goto X15.here hx rfl (pc0 := 51) (pc' := 55) rfl (hb hby at_51) (by decide) (by decide) ?_
      show Steps p.tables e below (T15.setTop (mkF m 55 #[.val (.int p1), .val (.int (2 : Int32)), .val (.ref w_STOPPING), .val (.int (0 : Int32)), .val (.int (0 : Int32))] [(.int (1 : Int32))])) _
      exact retN X15 hx (t := .boolean) Bd.returns (by simp) (hb hby at_55) hr
    · show Q0_0 Z p1 w_STARTING w_FAILED w_STOPPED w_STARTED w_STOPPING w_UNKNOWN w_ABANDONED w_COMPLETED h0 n0 _ T15.heap _
      rw [e15]
      exact ⟨rfl, N15⟩
  ·
    obtain ⟨_, _, ⟨T16, L16, k16, n16⟩, -, X16, ⟨Lc16, hQ16, l16, y16, z16⟩, st16⟩ := Jvm.LawKit.callS X0 hx (y := (⟨"com/example/windlass/windlass/repository/BatchStatusIsRestartablePinLaw", "pick", "(I)Lcom/example/windlass/windlass/repository/BatchStatus;"⟩ : MethodName)) hown (mvT hZ (hw _ (List.mem_of_getElem? (i := 0) rfl))) (mvT hZ (hw _ (List.mem_of_getElem? (i := 1) rfl))) (mvT hZ (hw _ (List.mem_of_getElem? (i := 2) rfl))) (mvT hZ (hw _ (List.mem_of_getElem? (i := 3) rfl))) (by decide) (backOf (W := 0) (rm1_3 l Z a0 hw [] w_STOPPED h0 n0 Z0 S_STOPPED) hZ (hw _ (List.mem_of_getElem? (i := 3) rfl)) (hw _ (List.mem_of_getElem? (i := 2) rfl)) (by decide) (by decide)) (g := (mkF m 6 #[.val (.int p1), .val (.int (3 : Int32)), .unset, .unset, .unset] [(.int (3 : Int32))])) rfl (by rw [hml]; rfl) (argsL := [(.int (3 : Int32))]) (rest := []) (lenOf pd_0 rfl) rfl (by show 2 * 0 + _ ≤ _; exact Nat.le_of_eq rfl) (hb hby at_6) (fun _ _ => ⟨rfl, e0, (by decide : 0 + 0 ≤ _), (by decide : 0 + 0 ≤ _)⟩)
    dsimp only [Pt.U, Pt.locs, Pt.cells, Pt.slots] at X16 l16 y16 z16 st16 hQ16
    subst l16 y16 z16
    obtain ⟨rfl, N16q, e16⟩ := hQ16
    have N16 := Fr.app N0 N16q
    obtain ⟨cq17, kq17, q17a, q17b, q17c⟩ := isOf hZ e16 E_STOPPED
    obtain ⟨_, _, ⟨T17, L17, k17, n17⟩, -, X17, ⟨Lc17, hQ17, l17, y17, z17⟩, st17⟩ := X16.virtualBack hx (y := (⟨"com/example/windlass/windlass/repository/BatchStatus", "isRestartable", "()Z"⟩ : MethodName)) (z := (⟨"com/example/windlass/windlass/repository/BatchStatus", "isRestartable", "()Z"⟩ : MethodName)) hown (mvT hZ (hw _ (List.mem_of_getElem? (i := 7) rfl))) (mvT hZ (hw _ (List.mem_of_getElem? (i := 8) rfl))) (notFace_of_selects (args := #[]) (mvT hZ (hw _ (List.mem_of_getElem? (i := 10) rfl)))) (mvT hZ (hw _ (List.mem_of_getElem? (i := 10) rfl))) (mvT hZ (hw _ (List.mem_of_getElem? (i := 9) rfl))) (by decide) (backOf (W := 0) (rm2_3 l Z a0 hw [] w_FAILED w_STOPPED h0 n0 Z0 S_FAILED ne_FAILED_STOPPED S_STOPPED) hZ (hw _ (List.mem_of_getElem? (i := 11) rfl)) (hw _ (List.mem_of_getElem? (i := 5) rfl)) (by decide) (by decide)) q17a q17c (g := (mkF m 27 #[.val (.int p1), .val (.int (3 : Int32)), .val (.ref w_STOPPED), .val (.int (1 : Int32)), .unset] [(.ref w_STOPPED)])) rfl (by rw [hml]; rfl) (Steps.refl _) (argsL := []) (rest := []) (lenOf pd_1 rfl) rfl (by show 2 * 0 + _ ≤ _; exact Nat.le_of_eq rfl) (hb hby at_27) (fun _ _ => ⟨rfl, e16, (by decide : 0 + 0 ≤ _), (by decide : 0 + 0 ≤ _)⟩)
    dsimp only [Pt.U, Pt.locs, Pt.cells, Pt.slots] at X17 l17 y17 z17 st17 hQ17
    subst l17 y17 z17
    obtain ⟨rfl, N17q, e17⟩ := hQ17
    have N17 := Fr.app N16 N17q
    obtain ⟨cq18, kq18, q18a, q18b, q18c⟩ := isOf hZ e17 E_STOPPED
    obtain ⟨_, _, ⟨T18, L18, k18, n18⟩, -, X18, ⟨Lc18, hQ18, l18, y18, z18⟩, st18⟩ := X17.virtualBack hx (y := (⟨"com/example/windlass/windlass/repository/BatchStatus", "isRunning", "()Z"⟩ : MethodName)) (z := (⟨"com/example/windlass/windlass/repository/BatchStatus", "isRunning", "()Z"⟩ : MethodName)) hown (mvT hZ (hw _ (List.mem_of_getElem? (i := 17) rfl))) (mvT hZ (hw _ (List.mem_of_getElem? (i := 18) rfl))) (notFace_of_selects (args := #[]) (mvT hZ (hw _ (List.mem_of_getElem? (i := 20) rfl)))) (mvT hZ (hw _ (List.mem_of_getElem? (i := 20) rfl))) (mvT hZ (hw _ (List.mem_of_getElem? (i := 19) rfl))) (by decide) (backOf (W := 0) (rm3_0 l Z a0 hw [] w_STARTING w_STOPPED w_STARTED w_STOPPING h0 n0 Z0 S_STARTING ne_STARTING_STOPPED S_STARTED ne_STARTED_STOPPED S_STOPPING ne_STOPPED_STOPPING) hZ (hw _ (List.mem_of_getElem? (i := 21) rfl)) (hw _ (List.mem_of_getElem? (i := 5) rfl)) (by decide) (by decide)) q18a q18c (g := (mkF m 44 #[.val (.int p1), .val (.int (3 : Int32)), .val (.ref w_STOPPED), .val (.int (1 : Int32)), .val (.int (1 : Int32))] [(.ref w_STOPPED)])) rfl (by rw [hml]; rfl) (Steps.refl _) (argsL := []) (rest := []) (lenOf pd_1 rfl) rfl (by show 2 * 0 + _ ≤ _; exact Nat.le_of_eq rfl) (hb hby at_44) (fun _ _ => ⟨rfl, e17, (by decide : 0 + 0 ≤ _), (by decide : 0 + 0 ≤ _)⟩)
    dsimp only [Pt.U, Pt.locs, Pt.cells, Pt.slots] at X18 l18 y18 z18 st18 hQ18
    subst l18 y18 z18
    obtain ⟨rfl, N18q, e18⟩ := hQ18
    have N18 := Fr.app N17 N18q
    obtain ⟨fs, hr, hrun, hended, hW, hsame⟩ := X18.leave (v := some (.int (1 : Int32))) (fun h => by rw [Bd.returns] at h; cases h)
    refine ⟨_, _, k1 _ ?_, hrun, hended, _, _, rfl, ?_, ⟨_, rfl⟩, hW, hsame.mono (by decide) (by decide)⟩
    ·
      show Steps p.tables e below (s₁.setTop (mkF m 4 #[.val (.int p1), .unset, .unset, .unset, .unset] [(.int (p1 &&& (7 : Int32)))])) _
      rewrite [hk5_3]
      show Steps p.tables e below (s₁.setTop (mkF m 4 #[.val (.int p1), .unset, .unset, .unset, .unset] [(.int (3 : Int32))])) _
      refine XS.istoreN X0.here hx rfl (hb hby at_4) rfl (l' := #[.val (.int p1), .val (.int (3 : Int32)), .unset, .unset, .unset]) rfl ?_
      show Steps p.tables e below (s₁.setTop (mkF m 5 #[.val (.int p1), .val (.int (3 : Int32)), .unset, .unset, .unset] [])) _
      refine XS.iloadN X0.here hx rfl (hb hby at_5) rfl ?_
      show Steps p.tables e below (s₁.setTop (mkF m 6 #[.val (.int p1), .val (.int (3 : Int32)), .unset, .unset, .unset] [(.int (3 : Int32))])) _
      refine st16 _ ?_
      show Steps p.tables e below (T16.setTop (mkF m 9 #[.val (.int p1), .val (.int (3 : Int32)), .unset, .unset, .unset] [(.ref w_STOPPED)])) _
      refine XS.astoreN X16.here hx rfl (hb hby at_9) rfl rfl (l' := #[.val (.int p1), .val (.int (3 : Int32)), .val (.ref w_STOPPED), .unset, .unset]) rfl ?_
      show Steps p.tables e below (T16.setTop (mkF m 10 #[.val (.int p1), .val (.int (3 : Int32)), .val (.ref w_STOPPED), .unset, .unset] [])) _
      refine XS.iloadN X16.here hx rfl (hb hby at_10) rfl ?_
      show Steps p.tables e below (T16.setTop (mkF m 11 #[.val (.int p1), .val (.int (3 : Int32)), .val (.ref w_STOPPED), .unset, .unset] [(.int (3 : Int32))])) _
      refine XS.iconst X16.here hx rfl (hb hby at_11) ?_
      show Steps p.tables e below (T16.setTop (mkF m 12 #[.val (.int p1), .val (.int (3 : Int32)), .val (.ref w_STOPPED), .unset, .unset] [(.int (3 : Int32)), (.int (3 : Int32))])) _
      refine XS.icmpYes X16.here hx rfl (pc0 := 12) (pc' := 20) rfl (hb hby at_12) rfl (teq (by decide : (3 : Int32) = (3 : Int32))).1 (by decide) (by decide) ?_
      show Steps p.tables e below (T16.setTop (mkF m 20 #[.val (.int p1), .val (.int (3 : Int32)), .val (.ref w_STOPPED), .unset, .unset] [])) _
      refine XS.iconst X16.here hx rfl (hb hby at_20) ?_
      show Steps p.tables e below (T16.setTop (mkF m 21 #[.val (.int p1), .val (.int (3 : Int32)), .val (.ref w_STOPPED), .unset, .unset] [(.int (1 : Int32))])) _
      refine XS.goto X16.here hx rfl (pc0 := 21) (pc' := 25) rfl (hb hby at_21) (by decide) (by decide) ?_
      show Steps p.tables e below (T16.setTop (mkF m 25 #[.val (.int p1), .val (.int (3 : Int32)), .val (.ref w_STOPPED), .unset, .unset] [(.int (1 : Int32))])) _
      refine XS.istoreN X16.here hx rfl (hb hby at_25) rfl (l' := #[.val (.int p1), .val (.int (3 : Int32)), .val (.ref w_STOPPED), .val (.int (1 : Int32)), .unset]) rfl ?_
      show Steps p.tables e below (T16.setTop (mkF m 26 #[.val (.int p1), .val (.int (3 : Int32)), .val (.ref w_STOPPED), .val (.int (1 : Int32)), .unset] [])) _
      refine XS.aloadN X16.here hx rfl (hb hby at_26) rfl rfl ?_
      show Steps p.tables e below (T16.setTop (mkF m 27 #[.val (.int p1), .val (.int (3 : Int32)), .val (.ref w_STOPPED), .val (.int (1 : Int32)), .unset] [(.ref w_STOPPED)])) _
      refine st17.trans ?_
      show Steps p.tables e below (T17.setTop (mkF m 30 #[.val (.int p1), .val (.int (3 : Int32)), .val (.ref w_STOPPED), .val (.int (1 : Int32)), .unset] [(.int (1 : Int32))])) _
      refine XS.istore X17.here hx rfl (hb hby at_30) rfl (l' := #[.val (.int p1), .val (.int (3 : Int32)), .val (.ref w_STOPPED), .val (.int (1 : Int32)), .val (.int (1 : Int32))]) rfl ?_
      show Steps p.tables e below (T17.setTop (mkF m 32 #[.val (.int p1), .val (.int (3 : Int32)), .val (.ref w_STOPPED), .val (.int (1 : Int32)), .val (.int (1 : Int32))] [])) _
      refine XS.iload X17.here hx rfl (hb hby at_32) rfl ?_
      show Steps p.tables e below (T17.setTop (mkF m 34 #[.val (.int p1), .val (.int (3 : Int32)), .val (.ref w_STOPPED), .val (.int (1 : Int32)), .val (.int (1 : Int32))] [(.int (1 : Int32))])) _
      refine XS.iloadN X17.here hx rfl (hb hby at_34) rfl ?_
      show Steps p.tables e below (T17.setTop (mkF m 35 #[.val (.int p1), .val (.int (3 : Int32)), .val (.ref w_STOPPED), .val (.int (1 : Int32)), .val (.int (1 : Int32))] [(.int (1 : Int32)), (.int (1 : Int32))])) _
      refine XS.icmpNo X17.here hx rfl (hb hby at_35) rfl (teq (by decide : (1 : Int32) = (1 : Int32))).2 ?_
      show Steps p.tables e below (T17.setTop (mkF m 38 #[.val (.int p1), .val (.int (3 : Int32)), .val (.ref w_STOPPED), .val (.int (1 : Int32)), .val (.int (1 : Int32))] [])) _
      refine XS.iload X17.here hx rfl (hb hby at_38) rfl ?_
      show Steps p.tables e below (T17.setTop (mkF m 40 #[.val (.int p1), .val (.int (3 : Int32)), .val (.ref w_STOPPED), .val (.int (1 : Int32)), .val (.int (1 : Int32))] [(.int (1 : Int32))])) _
      refine XS.ifNo X17.here hx rfl (hb hby at_40) rfl ((if0 _ _).trans (feq (by decide : ¬ ((1 : Int32) = (0 : Int32)))).1) ?_
      show Steps p.tables e below (T17.setTop (mkF m 43 #[.val (.int p1), .val (.int (3 : Int32)), .val (.ref w_STOPPED), .val (.int (1 : Int32)), .val (.int (1 : Int32))] [])) _
      refine XS.aloadN X17.here hx rfl (hb hby at_43) rfl rfl ?_
      show Steps p.tables e below (T17.setTop (mkF m 44 #[.val (.int p1), .val (.int (3 : Int32)), .val (.ref w_STOPPED), .val (.int (1 : Int32)), .val (.int (1 : Int32))] [(.ref w_STOPPED)])) _
      refine st18.trans ?_
      show Steps p.tables e below (T18.setTop (mkF m 47 #[.val (.int p1), .val (.int (3 : Int32)), .val (.ref w_STOPPED), .val (.int (1 : Int32)), .val (.int (1 : Int32))] [(.int (0 : Int32))])) _
      refine XS.ifNo X18.here hx rfl (hb hby at_47) rfl ((if0 _ _).trans (teq (by decide : (0 : Int32) = (0 : Int32))).2) ?_
      show Steps p.tables e below (T18.setTop (mkF m 50 #[.val (.int p1), .val (.int (3 : Int32)), .val (.ref w_STOPPED), .val (.int (1 : Int32)), .val (.int (1 : Int32))] [])) _
      refine XS.iconst X18.here hx rfl (hb hby at_50) ?_
      show Steps p.tables e below (T18.setTop (mkF m 51 #[.val (.int p1), .val (.int (3 : Int32)), .val (.ref w_STOPPED), .val (.int (1 : Int32)), .val (.int (1 : Int32))] [(.int (1 : Int32))])) _
      refine XS.goto X18.here hx rfl (pc0 := 51) (pc' := 55) rfl (hb hby at_51) (by decide) (by decide) ?_
      show Steps p.tables e below (T18.setTop (mkF m 55 #[.val (.int p1), .val (.int (3 : Int32)), .val (.ref w_STOPPED), .val (.int (1 : Int32)), .val (.int (1 : Int32))] [(.int (1 : Int32))])) _
      exact retN X18 hx (t := .boolean) Bd.returns (by simp) (hb hby at_55) hr
    · show Q0_0 Z p1 w_STARTING w_FAILED w_STOPPED w_STARTED w_STOPPING w_UNKNOWN w_ABANDONED w_COMPLETED h0 n0 _ T18.heap _
      rw [e18]
      exact ⟨rfl, N18⟩
  ·
    obtain ⟨_, _, ⟨T19, L19, k19, n19⟩, -, X19, ⟨Lc19, hQ19, l19, y19, z19⟩, st19⟩ := Jvm.LawKit.callS X0 hx (y := (⟨"com/example/windlass/windlass/repository/BatchStatusIsRestartablePinLaw", "pick", "(I)Lcom/example/windlass/windlass/repository/BatchStatus;"⟩ : MethodName)) hown (mvT hZ (hw _ (List.mem_of_getElem? (i := 0) rfl))) (mvT hZ (hw _ (List.mem_of_getElem? (i := 1) rfl))) (mvT hZ (hw _ (List.mem_of_getElem? (i := 2) rfl))) (mvT hZ (hw _ (List.mem_of_getElem? (i := 3) rfl))) (by decide) (backOf (W := 0) (rm1_4 l Z a0 hw [] w_COMPLETED h0 n0 Z0 S_COMPLETED) hZ (hw _ (List.mem_of_getElem? (i := 3) rfl)) (hw _ (List.mem_of_getElem? (i := 2) rfl)) (by decide) (by decide)) (g := (mkF m 6 #[.val (.int p1), .val (.int (4 : Int32)), .unset, .unset, .unset] [(.int (4 : Int32))])) rfl (by rw [hml]; rfl) (argsL := [(.int (4 : Int32))]) (rest := []) (lenOf pd_0 rfl) rfl (by show 2 * 0 + _ ≤ _; exact Nat.le_of_eq rfl) (hb hby at_6) (fun _ _ => ⟨rfl, e0, (by decide : 0 + 0 ≤ _), (by decide : 0 + 0 ≤ _)⟩)
    dsimp only [Pt.U, Pt.locs, Pt.cells, Pt.slots] at X19 l19 y19 z19 st19 hQ19
    subst l19 y19 z19
    obtain ⟨rfl, N19q, e19⟩ := hQ19
    have N19 := Fr.app N0 N19q
    obtain ⟨cq20, kq20, q20a, q20b, q20c⟩ := isOf hZ e19 E_COMPLETED
    obtain ⟨_, _, ⟨T20, L20, k20, n20⟩, -, X20, ⟨Lc20, hQ20, l20, y20, z20⟩, st20⟩ := X19.virtualBack hx (y := (⟨"com/example/windlass/windlass/repository/BatchStatus", "isRestartable", "()Z"⟩ : MethodName)) (z := (⟨"com/example/windlass/windlass/repository/BatchStatus", "isRestartable", "()Z"⟩ : MethodName)) hown (mvT hZ (hw _ (List.mem_of_getElem? (i := 7) rfl))) (mvT hZ (hw _ (List.mem_of_getElem? (i := 8) rfl))) (notFace_of_selects (args := #[]) (mvT hZ (hw _ (List.mem_of_getElem? (i := 10) rfl)))) (mvT hZ (hw _ (List.mem_of_getElem? (i := 10) rfl))) (mvT hZ (hw _ (List.mem_of_getElem? (i := 9) rfl))) (by decide) (backOf (W := 0) (rm2_4 l Z a0 hw [] w_FAILED w_STOPPED w_COMPLETED h0 n0 Z0 S_FAILED ne_COMPLETED_FAILED S_STOPPED ne_COMPLETED_STOPPED) hZ (hw _ (List.mem_of_getElem? (i := 11) rfl)) (hw _ (List.mem_of_getElem? (i := 5) rfl)) (by decide) (by decide)) q20a q20c (g := (mkF m 27 #[.val (.int p1), .val (.int (4 : Int32)), .val (.ref w_COMPLETED), .val (.int (0 : Int32)), .unset] [(.ref w_COMPLETED)])) rfl (by rw [hml]; rfl) (Steps.refl _) (argsL := []) (rest := []) (lenOf pd_1 rfl) rfl (by show 2 * 0 + _ ≤ _; exact Nat.le_of_eq rfl) (hb hby at_27) (fun _ _ => ⟨rfl, e19, (by decide : 0 + 0 ≤ _), (by decide : 0 + 0 ≤ _)⟩)
    dsimp only [Pt.U, Pt.locs, Pt.cells, Pt.slots] at X20 l20 y20 z20 st20 hQ20
    subst l20 y20 z20
    obtain ⟨rfl, N20q, e20⟩ := hQ20
    have N20 := Fr.app N19 N20q
    obtain ⟨fs, hr, hrun, hended, hW, hsame⟩ := X20.leave (v := some (.int (1 : Int32))) (fun h => by rw [Bd.returns] at h; cases h)
    refine ⟨_, _, k1 _ ?_, hrun, hended, _, _, rfl, ?_, ⟨_, rfl⟩, hW, hsame.mono (by decide) (by decide)⟩
    ·
      show Steps p.tables e below (s₁.setTop (mkF m 4 #[.val (.int p1), .unset, .unset, .unset, .unset] [(.int (p1 &&& (7 : Int32)))])) _
      rewrite [hk6_4]
      show Steps p.tables e below (s₁.setTop (mkF m 4 #[.val (.int p1), .unset, .unset, .unset, .unset] [(.int (4 : Int32))])) _
      refine XS.istoreN X0.here hx rfl (hb hby at_4) rfl (l' := #[.val (.int p1), .val (.int (4 : Int32)), .unset, .unset, .unset]) rfl ?_
      show Steps p.tables e below (s₁.setTop (mkF m 5 #[.val (.int p1), .val (.int (4 : Int32)), .unset, .unset, .unset] [])) _
      refine XS.iloadN X0.here hx rfl (hb hby at_5) rfl ?_
      show Steps p.tables e below (s₁.setTop (mkF m 6 #[.val (.int p1), .val (.int (4 : Int32)), .unset, .unset, .unset] [(.int (4 : Int32))])) _
      refine st19 _ ?_
      show Steps p.tables e below (T19.setTop (mkF m 9 #[.val (.int p1), .val (.int (4 : Int32)), .unset, .unset, .unset] [(.ref w_COMPLETED)])) _
      refine XS.astoreN X19.here hx rfl (hb hby at_9) rfl rfl (l' := #[.val (.int p1), .val (.int (4 : Int32)), .val (.ref w_COMPLETED), .unset, .unset]) rfl ?_
      show Steps p.tables e below (T19.setTop (mkF m 10 #[.val (.int p1), .val (.int (4 : Int32)), .val (.ref w_COMPLETED), .unset, .unset] [])) _
      refine XS.iloadN X19.here hx rfl (hb hby at_10) rfl ?_
      show Steps p.tables e below (T19.setTop (mkF m 11 #[.val (.int p1), .val (.int (4 : Int32)), .val (.ref w_COMPLETED), .unset, .unset] [(.int (4 : Int32))])) _
      refine XS.iconst X19.here hx rfl (hb hby at_11) ?_
      show Steps p.tables e below (T19.setTop (mkF m 12 #[.val (.int p1), .val (.int (4 : Int32)), .val (.ref w_COMPLETED), .unset, .unset] [(.int (3 : Int32)), (.int (4 : Int32))])) _
      refine XS.icmpNo X19.here hx rfl (hb hby at_12) rfl (feq (by decide : ¬ ((4 : Int32) = (3 : Int32)))).1 ?_
      show Steps p.tables e below (T19.setTop (mkF m 15 #[.val (.int p1), .val (.int (4 : Int32)), .val (.ref w_COMPLETED), .unset, .unset] [])) _
      refine XS.iloadN X19.here hx rfl (hb hby at_15) rfl ?_
      show Steps p.tables e below (T19.setTop (mkF m 16 #[.val (.int p1), .val (.int (4 : Int32)), .val (.ref w_COMPLETED), .unset, .unset] [(.int (4 : Int32))])) _
      refine XS.iconst X19.here hx rfl (hb hby at_16) ?_
      show Steps p.tables e below (T19.setTop (mkF m 17 #[.val (.int p1), .val (.int (4 : Int32)), .val (.ref w_COMPLETED), .unset, .unset] [(.int (5 : Int32)), (.int (4 : Int32))])) _
      refine XS.icmpYes X19.here hx rfl (pc0 := 17) (pc' := 24) rfl (hb hby at_17) rfl (feq (by decide : ¬ ((4 : Int32) = (5 : Int32)))).2 (by decide) (by decide) ?_
      show Steps p.tables e below (T19.setTop (mkF m 24 #[.val (.int p1), .val (.int (4 : Int32)), .val (.ref w_COMPLETED), .unset, .unset] [])) _
      refine XS.iconst X19.here hx rfl (hb hby at_24) ?_
      show Steps p.tables e below (T19.setTop (mkF m 25 #[.val (.int p1), .val (.int (4 : Int32)), .val (.ref w_COMPLETED), .unset, .unset] [(.int (0 : Int32))])) _
      refine XS.istoreN X19.here hx rfl (hb hby at_25) rfl (l' := #[.val (.int p1), .val (.int (4 : Int32)), .val (.ref w_COMPLETED), .val (.int (0 : Int32)), .unset]) rfl ?_
      show Steps p.tables e below (T19.setTop (mkF m 26 #[.val (.int p1), .val (.int (4 : Int32)), .val (.ref w_COMPLETED), .val (.int (0 : Int32)), .unset] [])) _
      refine XS.aloadN X19.here hx rfl (hb hby at_26) rfl rfl ?_
      show Steps p.tables e below (T19.setTop (mkF m 27 #[.val (.int p1), .val (.int (4 : Int32)), .val (.ref w_COMPLETED), .val (.int (0 : Int32)), .unset] [(.ref w_COMPLETED)])) _
      refine st20.trans ?_
      show Steps p.tables e below (T20.setTop (mkF m 30 #[.val (.int p1), .val (.int (4 : Int32)), .val (.ref w_COMPLETED), .val (.int (0 : Int32)), .unset] [(.int (0 : Int32))])) _
      refine XS.istore X20.here hx rfl (hb hby at_30) rfl (l' := #[.val (.int p1), .val (.int (4 : Int32)), .val (.ref w_COMPLETED), .val (.int (0 : Int32)), .val (.int (0 : Int32))]) rfl ?_
      show Steps p.tables e below (T20.setTop (mkF m 32 #[.val (.int p1), .val (.int (4 : Int32)), .val (.ref w_COMPLETED), .val (.int (0 : Int32)), .val (.int (0 : Int32))] [])) _
      refine XS.iload X20.here hx rfl (hb hby at_32) rfl ?_
      show Steps p.tables e below (T20.setTop (mkF m 34 #[.val (.int p1), .val (.int (4 : Int32)), .val (.ref w_COMPLETED), .val (.int (0 : Int32)), .val (.int (0 : Int32))] [(.int (0 : Int32))])) _
      refine XS.iloadN X20.here hx rfl (hb hby at_34) rfl ?_
      show Steps p.tables e below (T20.setTop (mkF m 35 #[.val (.int p1), .val (.int (4 : Int32)), .val (.ref w_COMPLETED), .val (.int (0 : Int32)), .val (.int (0 : Int32))] [(.int (0 : Int32)), (.int (0 : Int32))])) _
      refine XS.icmpNo X20.here hx rfl (hb hby at_35) rfl (teq (by decide : (0 : Int32) = (0 : Int32))).2 ?_
      show Steps p.tables e below (T20.setTop (mkF m 38 #[.val (.int p1), .val (.int (4 : Int32)), .val (.ref w_COMPLETED), .val (.int (0 : Int32)), .val (.int (0 : Int32))] [])) _
      refine XS.iload X20.here hx rfl (hb hby at_38) rfl ?_
      show Steps p.tables e below (T20.setTop (mkF m 40 #[.val (.int p1), .val (.int (4 : Int32)), .val (.ref w_COMPLETED), .val (.int (0 : Int32)), .val (.int (0 : Int32))] [(.int (0 : Int32))])) _
      refine XS.ifYes X20.here hx rfl (pc0 := 40) (pc' := 50) rfl (hb hby at_40) rfl ((if0 _ _).trans (teq (by decide : (0 : Int32) = (0 : Int32))).1) (by decide) (by decide) ?_
      show Steps p.tables e below (T20.setTop (mkF m 50 #[.val (.int p1), .val (.int (4 : Int32)), .val (.ref w_COMPLETED), .val (.int (0 : Int32)), .val (.int (0 : Int32))] [])) _
      refine XS.iconst X20.here hx rfl (hb hby at_50) ?_
      show Steps p.tables e below (T20.setTop (mkF m 51 #[.val (.int p1), .val (.int (4 : Int32)), .val (.ref w_COMPLETED), .val (.int (0 : Int32)), .val (.int (0 : Int32))] [(.int (1 : Int32))])) _
      refine XS.goto X20.here hx rfl (pc0 := 51) (pc' := 55) rfl (hb hby at_51) (by decide) (by decide) ?_
      show Steps p.tables e below (T20.setTop (mkF m 55 #[.val (.int p1), .val (.int (4 : Int32)), .val (.ref w_COMPLETED), .val (.int (0 : Int32)), .val (.int (0 : Int32))] [(.int (1 : Int32))])) _
      exact retN X20 hx (t := .boolean) Bd.returns (by simp) (hb hby at_55) hr
    · show Q0_0 Z p1 w_STARTING w_FAILED w_STOPPED w_STARTED w_STOPPING w_UNKNOWN w_ABANDONED w_COMPLETED h0 n0 _ T20.heap _
      rw [e20]
      exact ⟨rfl, N20⟩
  ·
    obtain ⟨_, _, ⟨T21, L21, k21, n21⟩, -, X21, ⟨Lc21, hQ21, l21, y21, z21⟩, st21⟩ := Jvm.LawKit.callS X0 hx (y := (⟨"com/example/windlass/windlass/repository/BatchStatusIsRestartablePinLaw", "pick", "(I)Lcom/example/windlass/windlass/repository/BatchStatus;"⟩ : MethodName)) hown (mvT hZ (hw _ (List.mem_of_getElem? (i := 0) rfl))) (mvT hZ (hw _ (List.mem_of_getElem? (i := 1) rfl))) (mvT hZ (hw _ (List.mem_of_getElem? (i := 2) rfl))) (mvT hZ (hw _ (List.mem_of_getElem? (i := 3) rfl))) (by decide) (backOf (W := 0) (rm1_5 l Z a0 hw [] w_FAILED h0 n0 Z0 S_FAILED) hZ (hw _ (List.mem_of_getElem? (i := 3) rfl)) (hw _ (List.mem_of_getElem? (i := 2) rfl)) (by decide) (by decide)) (g := (mkF m 6 #[.val (.int p1), .val (.int (5 : Int32)), .unset, .unset, .unset] [(.int (5 : Int32))])) rfl (by rw [hml]; rfl) (argsL := [(.int (5 : Int32))]) (rest := []) (lenOf pd_0 rfl) rfl (by show 2 * 0 + _ ≤ _; exact Nat.le_of_eq rfl) (hb hby at_6) (fun _ _ => ⟨rfl, e0, (by decide : 0 + 0 ≤ _), (by decide : 0 + 0 ≤ _)⟩)
    dsimp only [Pt.U, Pt.locs, Pt.cells, Pt.slots] at X21 l21 y21 z21 st21 hQ21
    subst l21 y21 z21
    obtain ⟨rfl, N21q, e21⟩ := hQ21
    have N21 := Fr.app N0 N21q
    obtain ⟨cq22, kq22, q22a, q22b, q22c⟩ := isOf hZ e21 E_FAILED
    obtain ⟨_, _, ⟨T22, L22, k22, n22⟩, -, X22, ⟨Lc22, hQ22, l22, y22, z22⟩, st22⟩ := X21.virtualBack hx (y := (⟨"com/example/windlass/windlass/repository/BatchStatus", "isRestartable", "()Z"⟩ : MethodName)) (z := (⟨"com/example/windlass/windlass/repository/BatchStatus", "isRestartable", "()Z"⟩ : MethodName)) hown (mvT hZ (hw _ (List.mem_of_getElem? (i := 7) rfl))) (mvT hZ (hw _ (List.mem_of_getElem? (i := 8) rfl))) (notFace_of_selects (args := #[]) (mvT hZ (hw _ (List.mem_of_getElem? (i := 10) rfl)))) (mvT hZ (hw _ (List.mem_of_getElem? (i := 10) rfl))) (mvT hZ (hw _ (List.mem_of_getElem? (i := 9) rfl))) (by decide) (backOf (W := 0) (rm2_5 l Z a0 hw [] w_FAILED h0 n0 Z0 S_FAILED) hZ (hw _ (List.mem_of_getElem? (i := 11) rfl)) (hw _ (List.mem_of_getElem? (i := 5) rfl)) (by decide) (by decide)) q22a q22c (g := (mkF m 27 #[.val (.int p1), .val (.int (5 : Int32)), .val (.ref w_FAILED), .val (.int (1 : Int32)), .unset] [(.ref w_FAILED)])) rfl (by rw [hml]; rfl) (Steps.refl _) (argsL := []) (rest := []) (lenOf pd_1 rfl) rfl (by show 2 * 0 + _ ≤ _; exact Nat.le_of_eq rfl) (hb hby at_27) (fun _ _ => ⟨rfl, e21, (by decide : 0 + 0 ≤ _), (by decide : 0 + 0 ≤ _)⟩)
    dsimp only [Pt.U, Pt.locs, Pt.cells, Pt.slots] at X22 l22 y22 z22 st22 hQ22
    subst l22 y22 z22
    obtain ⟨rfl, N22q, e22⟩ := hQ22
    have N22 := Fr.app N21 N22q
    obtain ⟨cq23, kq23, q23a, q23b, q23c⟩ := isOf hZ e22 E_FAILED
    obtain ⟨_, _, ⟨T23, L23, k23, n23⟩, -, X23, ⟨Lc23, hQ23, l23, y23, z23⟩, st23⟩ := X22.virtualBack hx (y := (⟨"com/example/windlass/windlass/repository/BatchStatus", "isRunning", "()Z"⟩ : MethodName)) (z := (⟨"com/example/windlass/windlass/repository/BatchStatus", "isRunning", "()Z"⟩ : MethodName)) hown (mvT hZ (hw _ (List.mem_of_getElem? (i := 17) rfl))) (mvT hZ (hw _ (List.mem_of_getElem? (i := 18) rfl))) (notFace_of_selects (args := #[]) (mvT hZ (hw _ (List.mem_of_getElem? (i := 20) rfl)))) (mvT hZ (hw _ (List.mem_of_getElem? (i := 20) rfl))) (mvT hZ (hw _ (List.mem_of_getElem? (i := 19) rfl))) (by decide) (backOf (W := 0) (rm3_1 l Z a0 hw [] w_STARTING w_FAILED w_STARTED w_STOPPING h0 n0 Z0 S_STARTING ne_FAILED_STARTING S_STARTED ne_FAILED_STARTED S_STOPPING ne_FAILED_STOPPING) hZ (hw _ (List.mem_of_getElem? (i := 21) rfl)) (hw _ (List.mem_of_getElem? (i := 5) rfl)) (by decide) (by decide)) q23a q23c (g := (mkF m 44 #[.val (.int p1), .val (.int (5 : Int32)), .val (.ref w_FAILED), .val (.int (1 : Int32)), .val (.int (1 : Int32))] [(.ref w_FAILED)])) rfl (by rw [hml]; rfl) (Steps.refl _) (argsL := []) (rest := []) (lenOf pd_1 rfl) rfl (by show 2 * 0 + _ ≤ _; exact Nat.le_of_eq rfl) (hb hby at_44) (fun _ _ => ⟨rfl, e22, (by decide : 0 + 0 ≤ _), (by decide : 0 + 0 ≤ _)⟩)
    dsimp only [Pt.U, Pt.locs, Pt.cells, Pt.slots] at X23 l23 y23 z23 st23 hQ23
    subst l23 y23 z23
    obtain ⟨rfl, N23q, e23⟩ := hQ23
    have N23 := Fr.app N22 N23q
    obtain ⟨fs, hr, hrun, hended, hW, hsame⟩ := X23.leave (v := some (.int (1 : Int32))) (fun h => by rw [Bd.returns] at h; cases h)
    refine ⟨_, _, k1 _ ?_, hrun, hended, _, _, rfl, ?_, ⟨_, rfl⟩, hW, hsame.mono (by decide) (by decide)⟩
    ·
      show Steps p.tables e below (s₁.setTop (mkF m 4 #[.val (.int p1), .unset, .unset, .unset, .unset] [(.int (p1 &&& (7 : Int32)))])) _
      rewrite [hk7_5]
      show Steps p.tables e below (s₁.setTop (mkF m 4 #[.val (.int p1), .unset, .unset, .unset, .unset] [(.int (5 : Int32))])) _
      refine XS.istoreN X0.here hx rfl (hb hby at_4) rfl (l' := #[.val (.int p1), .val (.int (5 : Int32)), .unset, .unset, .unset]) rfl ?_
      show Steps p.tables e below (s₁.setTop (mkF m 5 #[.val (.int p1), .val (.int (5 : Int32)), .unset, .unset, .unset] [])) _
      refine XS.iloadN X0.here hx rfl (hb hby at_5) rfl ?_
      show Steps p.tables e below (s₁.setTop (mkF m 6 #[.val (.int p1), .val (.int (5 : Int32)), .unset, .unset, .unset] [(.int (5 : Int32))])) _
      refine st21 _ ?_
      show Steps p.tables e below (T21.setTop (mkF m 9 #[.val (.int p1), .val (.int (5 : Int32)), .unset, .unset, .unset] [(.ref w_FAILED)])) _
      refine XS.astoreN X21.here hx rfl (hb hby at_9) rfl rfl (l' := #[.val (.int p1), .val (.int (5 : Int32)), .val (.ref w_FAILED), .unset, .unset]) rfl ?_
      show Steps p.tables e below (T21.setTop (mkF m 10 #[.val (.int p1), .val (.int (5 : Int32)), .val (.ref w_FAILED), .unset, .unset] [])) _
      refine XS.iloadN X21.here hx rfl (hb hby at_10) rfl ?_
      show Steps p.tables e below (T21.setTop (mkF m 11 #[.val (.int p1), .val (.int (5 : Int32)), .val (.ref w_FAILED), .unset, .unset] [(.int (5 : Int32))])) _
      refine XS.iconst X21.here hx rfl (hb hby at_11) ?_
      show Steps p.tables e below (T21.setTop (mkF m 12 #[.val (.int p1), .val (.int (5 : Int32)), .val (.ref w_FAILED), .unset, .unset] [(.int (3 : Int32)), (.int (5 : Int32))])) _
      refine XS.icmpNo X21.here hx rfl (hb hby at_12) rfl (feq (by decide : ¬ ((5 : Int32) = (3 : Int32)))).1 ?_
      show Steps p.tables e below (T21.setTop (mkF m 15 #[.val (.int p1), .val (.int (5 : Int32)), .val (.ref w_FAILED), .unset, .unset] [])) _
      refine XS.iloadN X21.here hx rfl (hb hby at_15) rfl ?_
      show Steps p.tables e below (T21.setTop (mkF m 16 #[.val (.int p1), .val (.int (5 : Int32)), .val (.ref w_FAILED), .unset, .unset] [(.int (5 : Int32))])) _
      refine XS.iconst X21.here hx rfl (hb hby at_16) ?_
      show Steps p.tables e below (T21.setTop (mkF m 17 #[.val (.int p1), .val (.int (5 : Int32)), .val (.ref w_FAILED), .unset, .unset] [(.int (5 : Int32)), (.int (5 : Int32))])) _
      refine XS.icmpNo X21.here hx rfl (hb hby at_17) rfl (teq (by decide : (5 : Int32) = (5 : Int32))).2 ?_
      show Steps p.tables e below (T21.setTop (mkF m 20 #[.val (.int p1), .val (.int (5 : Int32)), .val (.ref w_FAILED), .unset, .unset] [])) _
      refine XS.iconst X21.here hx rfl (hb hby at_20) ?_
      show Steps p.tables e below (T21.setTop (mkF m 21 #[.val (.int p1), .val (.int (5 : Int32)), .val (.ref w_FAILED), .unset, .unset] [(.int (1 : Int32))])) _
      refine XS.goto X21.here hx rfl (pc0 := 21) (pc' := 25) rfl (hb hby at_21) (by decide) (by decide) ?_
      show Steps p.tables e below (T21.setTop (mkF m 25 #[.val (.int p1), .val (.int (5 : Int32)), .val (.ref w_FAILED), .unset, .unset] [(.int (1 : Int32))])) _
      refine XS.istoreN X21.here hx rfl (hb hby at_25) rfl (l' := #[.val (.int p1), .val (.int (5 : Int32)), .val (.ref w_FAILED), .val (.int (1 : Int32)), .unset]) rfl ?_
      show Steps p.tables e below (T21.setTop (mkF m 26 #[.val (.int p1), .val (.int (5 : Int32)), .val (.ref w_FAILED), .val (.int (1 : Int32)), .unset] [])) _
      refine XS.aloadN X21.here hx rfl (hb hby at_26) rfl rfl ?_
      show Steps p.tables e below (T21.setTop (mkF m 27 #[.val (.int p1), .val (.int (5 : Int32)), .val (.ref w_FAILED), .val (.int (1 : Int32)), .unset] [(.ref w_FAILED)])) _
      refine st22.trans ?_
      show Steps p.tables e below (T22.setTop (mkF m 30 #[.val (.int p1), .val (.int (5 : Int32)), .val (.ref w_FAILED), .val (.int (1 : Int32)), .unset] [(.int (1 : Int32))])) _
      refine XS.istore X22.here hx rfl (hb hby at_30) rfl (l' := #[.val (.int p1), .val (.int (5 : Int32)), .val (.ref w_FAILED), .val (.int (1 : Int32)), .val (.int (1 : Int32))]) rfl ?_
      show Steps p.tables e below (T22.setTop (mkF m 32 #[.val (.int p1), .val (.int (5 : Int32)), .val (.ref w_FAILED), .val (.int (1 : Int32)), .val (.int (1 : Int32))] [])) _
      refine XS.iload X22.here hx rfl (hb hby at_32) rfl ?_
      show Steps p.tables e below (T22.setTop (mkF m 34 #[.val (.int p1), .val (.int (5 : Int32)), .val (.ref w_FAILED), .val (.int (1 : Int32)), .val (.int (1 : Int32))] [(.int (1 : Int32))])) _
      refine XS.iloadN X22.here hx rfl (hb hby at_34) rfl ?_
      show Steps p.tables e below (T22.setTop (mkF m 35 #[.val (.int p1), .val (.int (5 : Int32)), .val (.ref w_FAILED), .val (.int (1 : Int32)), .val (.int (1 : Int32))] [(.int (1 : Int32)), (.int (1 : Int32))])) _
      refine XS.icmpNo X22.here hx rfl (hb hby at_35) rfl (teq (by decide : (1 : Int32) = (1 : Int32))).2 ?_
      show Steps p.tables e below (T22.setTop (mkF m 38 #[.val (.int p1), .val (.int (5 : Int32)), .val (.ref w_FAILED), .val (.int (1 : Int32)), .val (.int (1 : Int32))] [])) _
      refine XS.iload X22.here hx rfl (hb hby at_38) rfl ?_
      show Steps p.tables e below (T22.setTop (mkF m 40 #[.val (.int p1), .val (.int (5 : Int32)), .val (.ref w_FAILED), .val (.int (1 : Int32)), .val (.int (1 : Int32))] [(.int (1 : Int32))])) _
      refine XS.ifNo X22.here hx rfl (hb hby at_40) rfl ((if0 _ _).trans (feq (by decide : ¬ ((1 : Int32) = (0 : Int32)))).1) ?_
      show Steps p.tables e below (T22.setTop (mkF m 43 #[.val (.int p1), .val (.int (5 : Int32)), .val (.ref w_FAILED), .val (.int (1 : Int32)), .val (.int (1 : Int32))] [])) _
      refine XS.aloadN X22.here hx rfl (hb hby at_43) rfl rfl ?_
      show Steps p.tables e below (T22.setTop (mkF m 44 #[.val (.int p1), .val (.int (5 : Int32)), .val (.ref w_FAILED), .val (.int (1 : Int32)), .val (.int (1 : Int32))] [(.ref w_FAILED)])) _
      refine st23.trans ?_
      show Steps p.tables e below (T23.setTop (mkF m 47 #[.val (.int p1), .val (.int (5 : Int32)), .val (.ref w_FAILED), .val (.int (1 : Int32)), .val (.int (1 : Int32))] [(.int (0 : Int32))])) _
      refine XS.ifNo X23.here hx rfl (hb hby at_47) rfl ((if0 _ _).trans (teq (by decide : (0 : Int32) = (0 : Int32))).2) ?_
      show Steps p.tables e below (T23.setTop (mkF m 50 #[.val (.int p1), .val (.int (5 : Int32)), .val (.ref w_FAILED), .val (.int (1 : Int32)), .val (.int (1 : Int32))] [])) _
      refine XS.iconst X23.here hx rfl (hb hby at_50) ?_
      show Steps p.tables e below (T23.setTop (mkF m 51 #[.val (.int p1), .val (.int (5 : Int32)), .val (.ref w_FAILED), .val (.int (1 : Int32)), .val (.int (1 : Int32))] [(.int (1 : Int32))])) _
      refine XS.goto X23.here hx rfl (pc0 := 51) (pc' := 55) rfl (hb hby at_51) (by decide) (by decide) ?_
      show Steps p.tables e below (T23.setTop (mkF m 55 #[.val (.int p1), .val (.int (5 : Int32)), .val (.ref w_FAILED), .val (.int (1 : Int32)), .val (.int (1 : Int32))] [(.int (1 : Int32))])) _
      exact retN X23 hx (t := .boolean) Bd.returns (by simp) (hb hby at_55) hr
    · show Q0_0 Z p1 w_STARTING w_FAILED w_STOPPED w_STARTED w_STOPPING w_UNKNOWN w_ABANDONED w_COMPLETED h0 n0 _ T23.heap _
      rw [e23]
      exact ⟨rfl, N23⟩
  ·
    obtain ⟨_, _, ⟨T24, L24, k24, n24⟩, -, X24, ⟨Lc24, hQ24, l24, y24, z24⟩, st24⟩ := Jvm.LawKit.callS X0 hx (y := (⟨"com/example/windlass/windlass/repository/BatchStatusIsRestartablePinLaw", "pick", "(I)Lcom/example/windlass/windlass/repository/BatchStatus;"⟩ : MethodName)) hown (mvT hZ (hw _ (List.mem_of_getElem? (i := 0) rfl))) (mvT hZ (hw _ (List.mem_of_getElem? (i := 1) rfl))) (mvT hZ (hw _ (List.mem_of_getElem? (i := 2) rfl))) (mvT hZ (hw _ (List.mem_of_getElem? (i := 3) rfl))) (by decide) (backOf (W := 0) (rm1_6 l Z a0 hw [] w_UNKNOWN h0 n0 Z0 S_UNKNOWN) hZ (hw _ (List.mem_of_getElem? (i := 3) rfl)) (hw _ (List.mem_of_getElem? (i := 2) rfl)) (by decide) (by decide)) (g := (mkF m 6 #[.val (.int p1), .val (.int (6 : Int32)), .unset, .unset, .unset] [(.int (6 : Int32))])) rfl (by rw [hml]; rfl) (argsL := [(.int (6 : Int32))]) (rest := []) (lenOf pd_0 rfl) rfl (by show 2 * 0 + _ ≤ _; exact Nat.le_of_eq rfl) (hb hby at_6) (fun _ _ => ⟨rfl, e0, (by decide : 0 + 0 ≤ _), (by decide : 0 + 0 ≤ _)⟩)
    dsimp only [Pt.U, Pt.locs, Pt.cells, Pt.slots] at X24 l24 y24 z24 st24 hQ24
    subst l24 y24 z24
    obtain ⟨rfl, N24q, e24⟩ := hQ24
    have N24 := Fr.app N0 N24q
    obtain ⟨cq25, kq25, q25a, q25b, q25c⟩ := isOf hZ e24 E_UNKNOWN
    obtain ⟨_, _, ⟨T25, L25, k25, n25⟩, -, X25, ⟨Lc25, hQ25, l25, y25, z25⟩, st25⟩ := X24.virtualBack hx (y := (⟨"com/example/windlass/windlass/repository/BatchStatus", "isRestartable", "()Z"⟩ : MethodName)) (z := (⟨"com/example/windlass/windlass/repository/BatchStatus", "isRestartable", "()Z"⟩ : MethodName)) hown (mvT hZ (hw _ (List.mem_of_getElem? (i := 7) rfl))) (mvT hZ (hw _ (List.mem_of_getElem? (i := 8) rfl))) (notFace_of_selects (args := #[]) (mvT hZ (hw _ (List.mem_of_getElem? (i := 10) rfl)))) (mvT hZ (hw _ (List.mem_of_getElem? (i := 10) rfl))) (mvT hZ (hw _ (List.mem_of_getElem? (i := 9) rfl))) (by decide) (backOf (W := 0) (rm2_6 l Z a0 hw [] w_FAILED w_STOPPED w_UNKNOWN h0 n0 Z0 S_FAILED ne_FAILED_UNKNOWN S_STOPPED ne_STOPPED_UNKNOWN) hZ (hw _ (List.mem_of_getElem? (i := 11) rfl)) (hw _ (List.mem_of_getElem? (i := 5) rfl)) (by decide) (by decide)) q25a q25c (g := (mkF m 27 #[.val (.int p1), .val (.int (6 : Int32)), .val (.ref w_UNKNOWN), .val (.int (0 : Int32)), .unset] [(.ref w_UNKNOWN)])) rfl (by rw [hml]; rfl) (Steps.refl _) (argsL := []) (rest := []) (lenOf pd_1 rfl) rfl (by show 2 * 0 + _ ≤ _; exact Nat.le_of_eq rfl) (hb hby at_27) (fun _ _ => ⟨rfl, e24, (by decide : 0 + 0 ≤ _), (by decide : 0 + 0 ≤ _)⟩)
    dsimp only [Pt.U, Pt.locs, Pt.cells, Pt.slots] at X25 l25 y25 z25 st25 hQ25
    subst l25 y25 z25
    obtain ⟨rfl, N25q, e25⟩ := hQ25
    have N25 := Fr.app N24 N25q
    obtain ⟨fs, hr, hrun, hended, hW, hsame⟩ := X25.leave (v := some (.int (1 : Int32))) (fun h => by rw [Bd.returns] at h; cases h)
    refine ⟨_, _, k1 _ ?_, hrun, hended, _, _, rfl, ?_, ⟨_, rfl⟩, hW, hsame.mono (by decide) (by decide)⟩
    ·
      show Steps p.tables e below (s₁.setTop (mkF m 4 #[.val (.int p1), .unset, .unset, .unset, .unset] [(.int (p1 &&& (7 : Int32)))])) _
      rewrite [hk8_6]
      show Steps p.tables e below (s₁.setTop (mkF m 4 #[.val (.int p1), .unset, .unset, .unset, .unset] [(.int (6 : Int32))])) _
      refine XS.istoreN X0.here hx rfl (hb hby at_4) rfl (l' := #[.val (.int p1), .val (.int (6 : Int32)), .unset, .unset, .unset]) rfl ?_
      show Steps p.tables e below (s₁.setTop (mkF m 5 #[.val (.int p1), .val (.int (6 : Int32)), .unset, .unset, .unset] [])) _
      refine XS.iloadN X0.here hx rfl (hb hby at_5) rfl ?_
      show Steps p.tables e below (s₁.setTop (mkF m 6 #[.val (.int p1), .val (.int (6 : Int32)), .unset, .unset, .unset] [(.int (6 : Int32))])) _
      refine st24 _ ?_
      show Steps p.tables e below (T24.setTop (mkF m 9 #[.val (.int p1), .val (.int (6 : Int32)), .unset, .unset, .unset] [(.ref w_UNKNOWN)])) _
      refine XS.astoreN X24.here hx rfl (hb hby at_9) rfl rfl (l' := #[.val (.int p1), .val (.int (6 : Int32)), .val (.ref w_UNKNOWN), .unset, .unset]) rfl ?_
      show Steps p.tables e below (T24.setTop (mkF m 10 #[.val (.int p1), .val (.int (6 : Int32)), .val (.ref w_UNKNOWN), .unset, .unset] [])) _
      refine XS.iloadN X24.here hx rfl (hb hby at_10) rfl ?_
      show Steps p.tables e below (T24.setTop (mkF m 11 #[.val (.int p1), .val (.int (6 : Int32)), .val (.ref w_UNKNOWN), .unset, .unset] [(.int (6 : Int32))])) _
      refine XS.iconst X24.here hx rfl (hb hby at_11) ?_
      show Steps p.tables e below (T24.setTop (mkF m 12 #[.val (.int p1), .val (.int (6 : Int32)), .val (.ref w_UNKNOWN), .unset, .unset] [(.int (3 : Int32)), (.int (6 : Int32))])) _
      refine XS.icmpNo X24.here hx rfl (hb hby at_12) rfl (feq (by decide : ¬ ((6 : Int32) = (3 : Int32)))).1 ?_
      show Steps p.tables e below (T24.setTop (mkF m 15 #[.val (.int p1), .val (.int (6 : Int32)), .val (.ref w_UNKNOWN), .unset, .unset] [])) _
      refine XS.iloadN X24.here hx rfl (hb hby at_15) rfl ?_
      show Steps p.tables e below (T24.setTop (mkF m 16 #[.val (.int p1), .val (.int (6 : Int32)), .val (.ref w_UNKNOWN), .unset, .unset] [(.int (6 : Int32))])) _
      refine XS.iconst X24.here hx rfl (hb hby at_16) ?_
      show Steps p.tables e below (T24.setTop (mkF m 17 #[.val (.int p1), .val (.int (6 : Int32)), .val (.ref w_UNKNOWN), .unset, .unset] [(.int (5 : Int32)), (.int (6 : Int32))])) _
      refine XS.icmpYes X24.here hx rfl (pc0 := 17) (pc' := 24) rfl (hb hby at_17) rfl (feq (by decide : ¬ ((6 : Int32) = (5 : Int32)))).2 (by decide) (by decide) ?_
      show Steps p.tables e below (T24.setTop (mkF m 24 #[.val (.int p1), .val (.int (6 : Int32)), .val (.ref w_UNKNOWN), .unset, .unset] [])) _
      refine XS.iconst X24.here hx rfl (hb hby at_24) ?_
      show Steps p.tables e below (T24.setTop (mkF m 25 #[.val (.int p1), .val (.int (6 : Int32)), .val (.ref w_UNKNOWN), .unset, .unset] [(.int (0 : Int32))])) _
      refine XS.istoreN X24.here hx rfl (hb hby at_25) rfl (l' := #[.val (.int p1), .val (.int (6 : Int32)), .val (.ref w_UNKNOWN), .val (.int (0 : Int32)), .unset]) rfl ?_
      show Steps p.tables e below (T24.setTop (mkF m 26 #[.val (.int p1), .val (.int (6 : Int32)), .val (.ref w_UNKNOWN), .val (.int (0 : Int32)), .unset] [])) _
      refine XS.aloadN X24.here hx rfl (hb hby at_26) rfl rfl ?_
      show Steps p.tables e below (T24.setTop (mkF m 27 #[.val (.int p1), .val (.int (6 : Int32)), .val (.ref w_UNKNOWN), .val (.int (0 : Int32)), .unset] [(.ref w_UNKNOWN)])) _
      refine st25.trans ?_
      show Steps p.tables e below (T25.setTop (mkF m 30 #[.val (.int p1), .val (.int (6 : Int32)), .val (.ref w_UNKNOWN), .val (.int (0 : Int32)), .unset] [(.int (0 : Int32))])) _
      refine XS.istore X25.here hx rfl (hb hby at_30) rfl (l' := #[.val (.int p1), .val (.int (6 : Int32)), .val (.ref w_UNKNOWN), .val (.int (0 : Int32)), .val (.int (0 : Int32))]) rfl ?_
      show Steps p.tables e below (T25.setTop (mkF m 32 #[.val (.int p1), .val (.int (6 : Int32)), .val (.ref w_UNKNOWN), .val (.int (0 : Int32)), .val (.int (0 : Int32))] [])) _
      refine XS.iload X25.here hx rfl (hb hby at_32) rfl ?_
      show Steps p.tables e below (T25.setTop (mkF m 34 #[.val (.int p1), .val (.int (6 : Int32)), .val (.ref w_UNKNOWN), .val (.int (0 : Int32)), .val (.int (0 : Int32))] [(.int (0 : Int32))])) _
      refine XS.iloadN X25.here hx rfl (hb hby at_34) rfl ?_
      show Steps p.tables e below (T25.setTop (mkF m 35 #[.val (.int p1), .val (.int (6 : Int32)), .val (.ref w_UNKNOWN), .val (.int (0 : Int32)), .val (.int (0 : Int32))] [(.int (0 : Int32)), (.int (0 : Int32))])) _
      refine XS.icmpNo X25.here hx rfl (hb hby at_35) rfl (teq (by decide : (0 : Int32) = (0 : Int32))).2 ?_
      show Steps p.tables e below (T25.setTop (mkF m 38 #[.val (.int p1), .val (.int (6 : Int32)), .val (.ref w_UNKNOWN), .val (.int (0 : Int32)), .val (.int (0 : Int32))] [])) _
      refine XS.iload X25.here hx rfl (hb hby at_38) rfl ?_
      show Steps p.tables e below (T25.setTop (mkF m 40 #[.val (.int p1), .val (.int (6 : Int32)), .val (.ref w_UNKNOWN), .val (.int (0 : Int32)), .val (.int (0 : Int32))] [(.int (0 : Int32))])) _
      refine XS.ifYes X25.here hx rfl (pc0 := 40) (pc' := 50) rfl (hb hby at_40) rfl ((if0 _ _).trans (teq (by decide : (0 : Int32) = (0 : Int32))).1) (by decide) (by decide) ?_
      show Steps p.tables e below (T25.setTop (mkF m 50 #[.val (.int p1), .val (.int (6 : Int32)), .val (.ref w_UNKNOWN), .val (.int (0 : Int32)), .val (.int (0 : Int32))] [])) _
      refine XS.iconst X25.here hx rfl (hb hby at_50) ?_
      show Steps p.tables e below (T25.setTop (mkF m 51 #[.val (.int p1), .val (.int (6 : Int32)), .val (.ref w_UNKNOWN), .val (.int (0 : Int32)), .val (.int (0 : Int32))] [(.int (1 : Int32))])) _
      refine XS.goto X25.here hx rfl (pc0 := 51) (pc' := 55) rfl (hb hby at_51) (by decide) (by decide) ?_
      show Steps p.tables e below (T25.setTop (mkF m 55 #[.val (.int p1), .val (.int (6 : Int32)), .val (.ref w_UNKNOWN), .val (.int (0 : Int32)), .val (.int (0 : Int32))] [(.int (1 : Int32))])) _
      exact retN X25 hx (t := .boolean) Bd.returns (by simp) (hb hby at_55) hr
    · show Q0_0 Z p1 w_STARTING w_FAILED w_STOPPED w_STARTED w_STOPPING w_UNKNOWN w_ABANDONED w_COMPLETED h0 n0 _ T25.heap _
      rw [e25]
      exact ⟨rfl, N25⟩
  ·
    obtain ⟨_, _, ⟨T26, L26, k26, n26⟩, -, X26, ⟨Lc26, hQ26, l26, y26, z26⟩, st26⟩ := Jvm.LawKit.callS X0 hx (y := (⟨"com/example/windlass/windlass/repository/BatchStatusIsRestartablePinLaw", "pick", "(I)Lcom/example/windlass/windlass/repository/BatchStatus;"⟩ : MethodName)) hown (mvT hZ (hw _ (List.mem_of_getElem? (i := 0) rfl))) (mvT hZ (hw _ (List.mem_of_getElem? (i := 1) rfl))) (mvT hZ (hw _ (List.mem_of_getElem? (i := 2) rfl))) (mvT hZ (hw _ (List.mem_of_getElem? (i := 3) rfl))) (by decide) (backOf (W := 0) (rm1_7 l Z a0 hw [] w_ABANDONED h0 n0 Z0 S_ABANDONED) hZ (hw _ (List.mem_of_getElem? (i := 3) rfl)) (hw _ (List.mem_of_getElem? (i := 2) rfl)) (by decide) (by decide)) (g := (mkF m 6 #[.val (.int p1), .val (.int (7 : Int32)), .unset, .unset, .unset] [(.int (7 : Int32))])) rfl (by rw [hml]; rfl) (argsL := [(.int (7 : Int32))]) (rest := []) (lenOf pd_0 rfl) rfl (by show 2 * 0 + _ ≤ _; exact Nat.le_of_eq rfl) (hb hby at_6) (fun _ _ => ⟨rfl, e0, (by decide : 0 + 0 ≤ _), (by decide : 0 + 0 ≤ _)⟩)
    dsimp only [Pt.U, Pt.locs, Pt.cells, Pt.slots] at X26 l26 y26 z26 st26 hQ26
    subst l26 y26 z26
    obtain ⟨rfl, N26q, e26⟩ := hQ26
    have N26 := Fr.app N0 N26q
    obtain ⟨cq27, kq27, q27a, q27b, q27c⟩ := isOf hZ e26 E_ABANDONED
    obtain ⟨_, _, ⟨T27, L27, k27, n27⟩, -, X27, ⟨Lc27, hQ27, l27, y27, z27⟩, st27⟩ := X26.virtualBack hx (y := (⟨"com/example/windlass/windlass/repository/BatchStatus", "isRestartable", "()Z"⟩ : MethodName)) (z := (⟨"com/example/windlass/windlass/repository/BatchStatus", "isRestartable", "()Z"⟩ : MethodName)) hown (mvT hZ (hw _ (List.mem_of_getElem? (i := 7) rfl))) (mvT hZ (hw _ (List.mem_of_getElem? (i := 8) rfl))) (notFace_of_selects (args := #[]) (mvT hZ (hw _ (List.mem_of_getElem? (i := 10) rfl)))) (mvT hZ (hw _ (List.mem_of_getElem? (i := 10) rfl))) (mvT hZ (hw _ (List.mem_of_getElem? (i := 9) rfl))) (by decide) (backOf (W := 0) (rm2_7 l Z a0 hw [] w_FAILED w_STOPPED w_ABANDONED h0 n0 Z0 S_FAILED ne_ABANDONED_FAILED S_STOPPED ne_ABANDONED_STOPPED) hZ (hw _ (List.mem_of_getElem? (i := 11) rfl)) (hw _ (List.mem_of_getElem? (i := 5) rfl)) (by decide) (by decide)) q27a q27c (g := (mkF m 27 #[.val (.int p1), .val (.int (7 : Int32)), .val (.ref w_ABANDONED), .val (.int (0 : Int32)), .unset] [(.ref w_ABANDONED)])) rfl (by rw [hml]; rfl) (Steps.refl _) (argsL := []) (rest := []) (lenOf pd_1 rfl) rfl (by show 2 * 0 + _ ≤ _; exact Nat.le_of_eq rfl) (hb hby at_27) (fun _ _ => ⟨rfl, e26, (by decide : 0 + 0 ≤ _), (by decide : 0 + 0 ≤ _)⟩)
    dsimp only [Pt.U, Pt.locs, Pt.cells, Pt.slots] at X27 l27 y27 z27 st27 hQ27
    subst l27 y27 z27
    obtain ⟨rfl, N27q, e27⟩ := hQ27
    have N27 := Fr.app N26 N27q
    obtain ⟨fs, hr, hrun, hended, hW, hsame⟩ := X27.leave (v := some (.int (1 : Int32))) (fun h => by rw [Bd.returns] at h; cases h)
    refine ⟨_, _, k1 _ ?_, hrun, hended, _, _, rfl, ?_, ⟨_, rfl⟩, hW, hsame.mono (by decide) (by decide)⟩
    ·
      show Steps p.tables e below (s₁.setTop (mkF m 4 #[.val (.int p1), .unset, .unset, .unset, .unset] [(.int (p1 &&& (7 : Int32)))])) _
      rewrite [hk9_7]
      show Steps p.tables e below (s₁.setTop (mkF m 4 #[.val (.int p1), .unset, .unset, .unset, .unset] [(.int (7 : Int32))])) _
      refine XS.istoreN X0.here hx rfl (hb hby at_4) rfl (l' := #[.val (.int p1), .val (.int (7 : Int32)), .unset, .unset, .unset]) rfl ?_
      show Steps p.tables e below (s₁.setTop (mkF m 5 #[.val (.int p1), .val (.int (7 : Int32)), .unset, .unset, .unset] [])) _
      refine XS.iloadN X0.here hx rfl (hb hby at_5) rfl ?_
      show Steps p.tables e below (s₁.setTop (mkF m 6 #[.val (.int p1), .val (.int (7 : Int32)), .unset, .unset, .unset] [(.int (7 : Int32))])) _
      refine st26 _ ?_
      show Steps p.tables e below (T26.setTop (mkF m 9 #[.val (.int p1), .val (.int (7 : Int32)), .unset, .unset, .unset] [(.ref w_ABANDONED)])) _
      refine XS.astoreN X26.here hx rfl (hb hby at_9) rfl rfl (l' := #[.val (.int p1), .val (.int (7 : Int32)), .val (.ref w_ABANDONED), .unset, .unset]) rfl ?_
      show Steps p.tables e below (T26.setTop (mkF m 10 #[.val (.int p1), .val (.int (7 : Int32)), .val (.ref w_ABANDONED), .unset, .unset] [])) _
      refine XS.iloadN X26.here hx rfl (hb hby at_10) rfl ?_
      show Steps p.tables e below (T26.setTop (mkF m 11 #[.val (.int p1), .val (.int (7 : Int32)), .val (.ref w_ABANDONED), .unset, .unset] [(.int (7 : Int32))])) _
      refine XS.iconst X26.here hx rfl (hb hby at_11) ?_
      show Steps p.tables e below (T26.setTop (mkF m 12 #[.val (.int p1), .val (.int (7 : Int32)), .val (.ref w_ABANDONED), .unset, .unset] [(.int (3 : Int32)), (.int (7 : Int32))])) _
      refine XS.icmpNo X26.here hx rfl (hb hby at_12) rfl (feq (by decide : ¬ ((7 : Int32) = (3 : Int32)))).1 ?_
      show Steps p.tables e below (T26.setTop (mkF m 15 #[.val (.int p1), .val (.int (7 : Int32)), .val (.ref w_ABANDONED), .unset, .unset] [])) _
      refine XS.iloadN X26.here hx rfl (hb hby at_15) rfl ?_
      show Steps p.tables e below (T26.setTop (mkF m 16 #[.val (.int p1), .val (.int (7 : Int32)), .val (.ref w_ABANDONED), .unset, .unset] [(.int (7 : Int32))])) _
      refine XS.iconst X26.here hx rfl (hb hby at_16) ?_
      show Steps p.tables e below (T26.setTop (mkF m 17 #[.val (.int p1), .val (.int (7 : Int32)), .val (.ref w_ABANDONED), .unset, .unset] [(.int (5 : Int32)), (.int (7 : Int32))])) _
      refine XS.icmpYes X26.here hx rfl (pc0 := 17) (pc' := 24) rfl (hb hby at_17) rfl (feq (by decide : ¬ ((7 : Int32) = (5 : Int32)))).2 (by decide) (by decide) ?_
      show Steps p.tables e below (T26.setTop (mkF m 24 #[.val (.int p1), .val (.int (7 : Int32)), .val (.ref w_ABANDONED), .unset, .unset] [])) _
      refine XS.iconst X26.here hx rfl (hb hby at_24) ?_
      show Steps p.tables e below (T26.setTop (mkF m 25 #[.val (.int p1), .val (.int (7 : Int32)), .val (.ref w_ABANDONED), .unset, .unset] [(.int (0 : Int32))])) _
      refine XS.istoreN X26.here hx rfl (hb hby at_25) rfl (l' := #[.val (.int p1), .val (.int (7 : Int32)), .val (.ref w_ABANDONED), .val (.int (0 : Int32)), .unset]) rfl ?_
      show Steps p.tables e below (T26.setTop (mkF m 26 #[.val (.int p1), .val (.int (7 : Int32)), .val (.ref w_ABANDONED), .val (.int (0 : Int32)), .unset] [])) _
      refine XS.aloadN X26.here hx rfl (hb hby at_26) rfl rfl ?_
      show Steps p.tables e below (T26.setTop (mkF m 27 #[.val (.int p1), .val (.int (7 : Int32)), .val (.ref w_ABANDONED), .val (.int (0 : Int32)), .unset] [(.ref w_ABANDONED)])) _
      refine st27.trans ?_
      show Steps p.tables e below (T27.setTop (mkF m 30 #[.val (.int p1), .val (.int (7 : Int32)), .val (.ref w_ABANDONED), .val (.int (0 : Int32)), .unset] [(.int (0 : Int32))])) _
      refine XS.istore X27.here hx rfl (hb hby at_30) rfl (l' := #[.val (.int p1), .val (.int (7 : Int32)), .val (.ref w_ABANDONED), .val (.int (0 : Int32)), .val (.int (0 : Int32))]) rfl ?_
      show Steps p.tables e below (T27.setTop (mkF m 32 #[.val (.int p1), .val (.int (7 : Int32)), .val (.ref w_ABANDONED), .val (.int (0 : Int32)), .val (.int (0 : Int32))] [])) _
      refine XS.iload X27.here hx rfl (hb hby at_32) rfl ?_
      show Steps p.tables e below (T27.setTop (mkF m 34 #[.val (.int p1), .val (.int (7 : Int32)), .val (.ref w_ABANDONED), .val (.int (0 : Int32)), .val (.int (0 : Int32))] [(.int (0 : Int32))])) _
      refine XS.iloadN X27.here hx rfl (hb hby at_34) rfl ?_
      show Steps p.tables e below (T27.setTop (mkF m 35 #[.val (.int p1), .val (.int (7 : Int32)), .val (.ref w_ABANDONED), .val (.int (0 : Int32)), .val (.int (0 : Int32))] [(.int (0 : Int32)), (.int (0 : Int32))])) _
      refine XS.icmpNo X27.here hx rfl (hb hby at_35) rfl (teq (by decide : (0 : Int32) = (0 : Int32))).2 ?_
      show Steps p.tables e below (T27.setTop (mkF m 38 #[.val (.int p1), .val (.int (7 : Int32)), .val (.ref w_ABANDONED), .val (.int (0 : Int32)), .val (.int (0 : Int32))] [])) _
      refine XS.iload X27.here hx rfl (hb hby at_38) rfl ?_
      show Steps p.tables e below (T27.setTop (mkF m 40 #[.val (.int p1), .val (.int (7 : Int32)), .val (.ref w_ABANDONED), .val (.int (0 : Int32)), .val (.int (0 : Int32))] [(.int (0 : Int32))])) _
      refine XS.ifYes X27.here hx rfl (pc0 := 40) (pc' := 50) rfl (hb hby at_40) rfl ((if0 _ _).trans (teq (by decide : (0 : Int32) = (0 : Int32))).1) (by decide) (by decide) ?_
      show Steps p.tables e below (T27.setTop (mkF m 50 #[.val (.int p1), .val (.int (7 : Int32)), .val (.ref w_ABANDONED), .val (.int (0 : Int32)), .val (.int (0 : Int32))] [])) _
      refine XS.iconst X27.here hx rfl (hb hby at_50) ?_
      show Steps p.tables e below (T27.setTop (mkF m 51 #[.val (.int p1), .val (.int (7 : Int32)), .val (.ref w_ABANDONED), .val (.int (0 : Int32)), .val (.int (0 : Int32))] [(.int (1 : Int32))])) _
      refine XS.goto X27.here hx rfl (pc0 := 51) (pc' := 55) rfl (hb hby at_51) (by decide) (by decide) ?_
      show Steps p.tables e below (T27.setTop (mkF m 55 #[.val (.int p1), .val (.int (7 : Int32)), .val (.ref w_ABANDONED), .val (.int (0 : Int32)), .val (.int (0 : Int32))] [(.int (1 : Int32))])) _
      exact retN X27 hx (t := .boolean) Bd.returns (by simp) (hb hby at_55) hr
    · show Q0_0 Z p1 w_STARTING w_FAILED w_STOPPED w_STARTED w_STOPPING w_UNKNOWN w_ABANDONED w_COMPLETED h0 n0 _ T27.heap _
      rw [e27]
      exact ⟨rfl, N27⟩
set_option maxRecDepth 65536 in
set_option maxHeartbeats 40000000 in
theorem comes_1 {Post : Tables → Env → Array Value → State → Outcome → State → Prop} (hpost : ∀ tb e args s v u, (limb_1_1.after args s (.returned v) u = true ∧ limb_1_2.after args s (.returned v) u = true ∧ True) → FrameEnd s (.returned v) u (Jvm.fieldLocs frame_1_writes args s ++ Jvm.arrayLocs frame_1_arrays args s ++ Jvm.staticLocs frame_1_statics s) 0 0 → Post tb e args s (.returned v) u) :
    ArmFor flags0 classFile x code maxLocals ret World_1 tables_1 room_1 Calls_1 rest_1 Pre_1 Post := by
  intro l hfl _ _ p e ha hc hk s m args below hf hA hF happ hP
  obtain ⟨hcalls, hrest, hpre⟩ := hP
  obtain ⟨-, -, -, hnamed, -, -, -, hat⟩ := (Spec.applies_iff hf).mp happ
  obtain ⟨hg, hn⟩ := and_e (Cond.before_iff.mp (show (Jvm.Cond.and given_1 narrow_1).before args s = true from hpre))
  obtain ⟨g1a, g1b⟩ := and_e hg
  obtain ⟨a0w, rfl⟩ : ∃ a0w : Value, args = #[a0w] := by
    have hs : args.size = 1 := by simpa [Cond.value, given_1] using g1a
    obtain ⟨L⟩ := args
    match L, hs with
    | [a0w], _ => exact ⟨a0w, rfl⟩
  have hw := fun d (hd : d ∈ tables_1) => atoms_spec (ws := Jvm.Cond.code x code maxLocals ret :: tables_1) hat d (List.mem_cons_of_mem _ hd)
  have hfit : Fit s := fun {y c} hc i hi => by
    obtain ⟨ha, rfl⟩ := Array.getElem?_eq_some_iff.mp hc
    have q := List.all_eq_true.mp ((Array.all_eq_true_iff_forall_mem.mp hF) _ (Array.getElem_mem ha)) i (List.mem_range.mpr hi)
    simpa [Array.getElem?_eq_getElem hi] using q
  obtain ⟨i0, ei0⟩ := is_v g1b
  obtain rfl : a0w = (.int i0) := Option.some.inj ei0
  obtain ⟨hn0, hm0⟩ := and_e hn
  obtain ⟨hn1, hm1⟩ := and_e hm0
  obtain ⟨hn2, hm2⟩ := and_e hm1
  obtain ⟨hn3, hm3⟩ := and_e hm2
  obtain ⟨hn4, hm4⟩ := and_e hm3
  obtain ⟨hn5, hm5⟩ := and_e hm4
  obtain ⟨hn6, hm6⟩ := and_e hm5
  obtain ⟨hn7, hm7⟩ := and_e hm6
  obtain ⟨hn8, hm8⟩ := and_e hm7
  obtain ⟨hn9, hm9⟩ := and_e hm8
  obtain ⟨hn10, hm10⟩ := and_e hm9
  obtain ⟨hn11, hm11⟩ := and_e hm10
  obtain ⟨hn12, hm12⟩ := and_e hm11
  obtain ⟨hn13, hm13⟩ := and_e hm12
  obtain ⟨hn14, hm14⟩ := and_e hm13
  obtain ⟨w_STARTING, v_STARTING⟩ := exa_v hn0
  have S_STARTING := Sta.start v_STARTING (Or.inr ⟨(hw _ (List.mem_of_getElem? (i := 5) rfl)), (hw _ (List.mem_of_getElem? (i := 6) rfl))⟩)
  have E_STARTING := Exa.start v_STARTING hn0
  obtain ⟨w_FAILED, v_FAILED⟩ := exa_v hn1
  have S_FAILED := Sta.start v_FAILED (Or.inr ⟨(hw _ (List.mem_of_getElem? (i := 5) rfl)), (hw _ (List.mem_of_getElem? (i := 13) rfl))⟩)
  have E_FAILED := Exa.start v_FAILED hn1
  obtain ⟨w_STOPPED, v_STOPPED⟩ := exa_v hn4
  have S_STOPPED := Sta.start v_STOPPED (Or.inr ⟨(hw _ (List.mem_of_getElem? (i := 5) rfl)), (hw _ (List.mem_of_getElem? (i := 15) rfl))⟩)
  have E_STOPPED := Exa.start v_STOPPED hn4
  obtain ⟨w_STARTED, v_STARTED⟩ := exa_v hn6
  have S_STARTED := Sta.start v_STARTED (Or.inr ⟨(hw _ (List.mem_of_getElem? (i := 5) rfl)), (hw _ (List.mem_of_getElem? (i := 24) rfl))⟩)
  have E_STARTED := Exa.start v_STARTED hn6
  obtain ⟨w_STOPPING, v_STOPPING⟩ := exa_v hn8
  have S_STOPPING := Sta.start v_STOPPING (Or.inr ⟨(hw _ (List.mem_of_getElem? (i := 5) rfl)), (hw _ (List.mem_of_getElem? (i := 26) rfl))⟩)
  have E_STOPPING := Exa.start v_STOPPING hn8
  obtain ⟨w_UNKNOWN, v_UNKNOWN⟩ := exa_v hn10
  have S_UNKNOWN := Sta.start v_UNKNOWN (Or.inr ⟨(hw _ (List.mem_of_getElem? (i := 5) rfl)), (hw _ (List.mem_of_getElem? (i := 28) rfl))⟩)
  have E_UNKNOWN := Exa.start v_UNKNOWN hn10
  obtain ⟨w_ABANDONED, v_ABANDONED⟩ := exa_v hn12
  have S_ABANDONED := Sta.start v_ABANDONED (Or.inr ⟨(hw _ (List.mem_of_getElem? (i := 5) rfl)), (hw _ (List.mem_of_getElem? (i := 30) rfl))⟩)
  have E_ABANDONED := Exa.start v_ABANDONED hn12
  obtain ⟨w_COMPLETED, v_COMPLETED⟩ := exa_v hn14
  have S_COMPLETED := Sta.start v_COMPLETED (Or.inr ⟨(hw _ (List.mem_of_getElem? (i := 5) rfl)), (hw _ (List.mem_of_getElem? (i := 34) rfl))⟩)
  have E_COMPLETED := Exa.start v_COMPLETED hn14
  have F_ordinal_STARTING := Fld.start ((fld_at v_STARTING).symm.trans (own_eqI hn2))
  have F_ordinal_FAILED := Fld.start ((fld_at v_FAILED).symm.trans (own_eqI hn3))
  have F_ordinal_STOPPED := Fld.start ((fld_at v_STOPPED).symm.trans (own_eqI hn5))
  have F_ordinal_STARTED := Fld.start ((fld_at v_STARTED).symm.trans (own_eqI hn7))
  have F_ordinal_STOPPING := Fld.start ((fld_at v_STOPPING).symm.trans (own_eqI hn9))
  have F_ordinal_UNKNOWN := Fld.start ((fld_at v_UNKNOWN).symm.trans (own_eqI hn11))
  have F_ordinal_ABANDONED := Fld.start ((fld_at v_ABANDONED).symm.trans (own_eqI hn13))
  have F_ordinal_COMPLETED := Fld.start ((fld_at v_COMPLETED).symm.trans (own_eqI hm14))
  have ne_FAILED_STARTING := Fld.ne F_ordinal_FAILED F_ordinal_STARTING (fun q => absurd (Value.int.inj q) (by decide))
  have ne_STARTING_STOPPED := Fld.ne F_ordinal_STARTING F_ordinal_STOPPED (fun q => absurd (Value.int.inj q) (by decide))
  have ne_FAILED_STARTED := Fld.ne F_ordinal_FAILED F_ordinal_STARTED (fun q => absurd (Value.int.inj q) (by decide))
  have ne_STARTED_STOPPED := Fld.ne F_ordinal_STARTED F_ordinal_STOPPED (fun q => absurd (Value.int.inj q) (by decide))
  have ne_FAILED_STOPPING := Fld.ne F_ordinal_FAILED F_ordinal_STOPPING (fun q => absurd (Value.int.inj q) (by decide))
  have ne_STOPPED_STOPPING := Fld.ne F_ordinal_STOPPED F_ordinal_STOPPING (fun q => absurd (Value.int.inj q) (by decide))
  have ne_FAILED_STOPPED := Fld.ne F_ordinal_FAILED F_ordinal_STOPPED (fun q => absurd (Value.int.inj q) (by decide))
  have ne_COMPLETED_FAILED := Fld.ne F_ordinal_COMPLETED F_ordinal_FAILED (fun q => absurd (Value.int.inj q) (by decide))
  have ne_COMPLETED_STOPPED := Fld.ne F_ordinal_COMPLETED F_ordinal_STOPPED (fun q => absurd (Value.int.inj q) (by decide))
  have ne_FAILED_UNKNOWN := Fld.ne F_ordinal_FAILED F_ordinal_UNKNOWN (fun q => absurd (Value.int.inj q) (by decide))
  have ne_STOPPED_UNKNOWN := Fld.ne F_ordinal_STOPPED F_ordinal_UNKNOWN (fun q => absurd (Value.int.inj q) (by decide))
  have ne_ABANDONED_FAILED := Fld.ne F_ordinal_ABANDONED F_ordinal_FAILED (fun q => absurd (Value.int.inj q) (by decide))
  have ne_ABANDONED_STOPPED := Fld.ne F_ordinal_ABANDONED F_ordinal_STOPPED (fun q => absurd (Value.int.inj q) (by decide))
  obtain ⟨n, o, h1, h2, h3, _, L, rfl, ⟨rfl, N⟩, hq⟩ := rm0_0 l s _ hw tables_1 i0 w_STARTING w_FAILED w_STOPPED w_STARTED w_STOPPING w_UNKNOWN w_ABANDONED w_COMPLETED s.heap s.heap.size (Nat.le_refl _) S_STARTING E_STARTING S_FAILED ne_FAILED_STARTING S_STOPPED ne_STARTING_STOPPED S_STARTED E_STARTED ne_FAILED_STARTED ne_STARTED_STOPPED S_STOPPING E_STOPPING ne_FAILED_STOPPING ne_STOPPED_STOPPING E_STOPPED ne_FAILED_STOPPED S_COMPLETED E_COMPLETED ne_COMPLETED_FAILED ne_COMPLETED_STOPPED E_FAILED S_UNKNOWN E_UNKNOWN ne_FAILED_UNKNOWN ne_STOPPED_UNKNOWN S_ABANDONED E_ABANDONED ne_ABANDONED_FAILED ne_ABANDONED_STOPPED p e ha hc hk s m _ below hf ((Spec.applies_iff_loose hf).mp happ).1 ⟨rfl, State.Warmed39.refl s, rfl⟩ trivial
  refine ⟨n, _, h1, h2, h3, hpost _ _ _ _ _ _ ⟨Cond.after_iff.mpr rfl, Cond.after_iff.mpr (eq_i res_at (Term.int_eval (1)) rfl), trivial⟩ ⟨hq.1, hq.2.1, (hq.2.2.sift fun y hy => Or.inr (N y hy)).mono (by decide) (by decide)⟩⟩
theorem main_1_1 : Claimed_1_1 := comes_1 fun _ _ _ _ _ _ h hF => ⟨h.1, hF⟩
theorem main_1_2 : Claimed_1_2 := comes_1 fun _ _ _ _ _ _ h hF => ⟨h.2.1, hF⟩
end Jvm.Pilot.@@N@@
namespace Jvm.Pilot.@@N@@
open Jvm Jvm.ClassFile Sem Op Lib Jvm.Free Jvm.Stand Jvm.Pilot.@@N@@.Jvm.D
/-! MADE BY PROGRAM (witnessworld.py) out of the Statement's table words and the real class files: 12 classes; the members and pool entries that the words name. The judged class is class 1, her method 2. -/
namespace start1
open Jvm.ClassFile
def u (s : String) : CpInfo := .utf8 (stringToUtf16 s)
/-- a pool by its gaps: so many unusable entries, then the entry; so many at the end -/
def gap : Nat → List CpInfo → List CpInfo
  | 0, r => r
  | n + 1, r => .unusable :: gap n r
def poolList (es : List (Nat × CpInfo)) (last : Nat) : List CpInfo := es.foldr (fun e r => gap e.1 (e.2 :: r)) (gap last [])
def pool (es : List (Nat × CpInfo)) (last : Nat) : Array CpInfo := ⟨poolList es last⟩
def fileOf (pool : Array CpInfo) (this : Nat) (attrs : Array Attribute := #[]) (ms : Array MethodInfo := #[]) (fl : Nat := 33) (sup : Nat := 0) (ifs : Array Nat := #[]) (fds : Array FieldInfo := #[]) : ClassFile where
  minorVersion := 0
  majorVersion := 65
  constantPool := pool
  accessFlags := fl
  thisClass := this
  superClass := sup
  interfaces := ifs
  fields := fds
  methods := ms
  attributes := attrs
def plain (name : String) (sup : Option ClassId) : Class where
  name := name
  kind := .ordinary
  loader := none
  accessFlags := 33
  super := sup
  interfaces := #[]
  cf := none
  fields := #[]
  methods := #[]
  instanceTypes := #[]
  staticTypes := #[]
  resolved := #[]
  callSites := []
  init := .initialized
  statics := none
  mirror := none

def pool0 : Array CpInfo := pool [(5, u "<init>"), (0, u "()V"), (1, .class_ 10), (1, u "java/lang/Object")] 113

def k0m0 : Method := { name := "<init>", desc := "()V", sig := { parameters := [], returnType := none }, accessFlags := 1, code := none }
/-- java/lang/Object -/
def k0 : Class := { plain "java/lang/Object" none with
  accessFlags := 33
  interfaces := #[]
  cf := some (fileOf pool0 8 #[] #[{ accessFlags := 1, nameIndex := 5, descriptorIndex := 6, attributes := #[] }] 33 0 #[] #[])
  fields := #[]
  methods := #[k0m0]
  instanceTypes := #[]
  staticTypes := #[]
  resolved := Array.replicate 124 none
  statics := none }

def pool1 : Array CpInfo := pool [(2, .class_ 4), (1, u "java/lang/Object"), (0, u "<init>"), (0, u "()V"), (0, .fieldref 8 9), (0, .class_ 10), (0, .nameAndType 11 12), (0, u "com/example/windlass/windlass/repository/BatchStatus"), (0, u "STARTING"), (0, u "Lcom/example/windlass/windlass/repository/BatchStatus;"), (0, .fieldref 8 14), (0, .nameAndType 15 12), (0, u "STARTED"), (0, .fieldref 8 17), (0, .nameAndType 18 12), (0, u "STOPPING"), (0, .fieldref 8 20), (0, .nameAndType 21 12), (0, u "STOPPED"), (0, .fieldref 8 23), (0, .nameAndType 24 12), (0, u "COMPLETED"), (0, .fieldref 8 26), (0, .nameAndType 27 12), (0, u "FAILED"), (0, .fieldref 8 29), (0, .nameAndType 30 12), (0, u "UNKNOWN"), (0, .fieldref 8 32), (0, .nameAndType 33 12), (0, u "ABANDONED"), (0, .methodref 35 36), (0, .class_ 37), (0, .nameAndType 38 39), (0, u "com/example/windlass/windlass/repository/BatchStatusIsRestartablePinLaw"), (0, u "pick"), (0, u "(I)Lcom/example/windlass/windlass/repository/BatchStatus;"), (0, .methodref 8 41), (0, .nameAndType 42 43), (0, u "isRestartable"), (0, u "()Z"), (0, .methodref 8 45), (0, .nameAndType 46 43), (0, u "isRunning"), (3, u "law"), (0, u "(I)Z")] 2

def k1m0 : Method := { name := "<init>", desc := "()V", sig := { parameters := [], returnType := none }, accessFlags := 1, code := none }
def k1c1 : Code := { maxStack := 2, maxLocals := 1, code := method_2_code, exceptionTable := #[], attributes := #[] }
def k1m1 : Method := { name := "pick", desc := "(I)Lcom/example/windlass/windlass/repository/BatchStatus;", sig := { parameters := [.int], returnType := some (.object "com/example/windlass/windlass/repository/BatchStatus") }, accessFlags := 10, code := some k1c1 }
def k1c2 : Code := { maxStack := 2, maxLocals := 5, code := code, exceptionTable := #[], attributes := #[] }
def k1m2 : Method := { name := "law", desc := "(I)Z", sig := { parameters := [.int], returnType := some .boolean }, accessFlags := 9, code := some k1c2 }
/-- com/example/windlass/windlass/repository/BatchStatusIsRestartablePinLaw -/
def k1 : Class := { plain "com/example/windlass/windlass/repository/BatchStatusIsRestartablePinLaw" (some 0) with
  accessFlags := 49
  interfaces := #[]
  cf := some (fileOf pool1 35 #[] #[{ accessFlags := 1, nameIndex := 5, descriptorIndex := 6, attributes := #[] }, { accessFlags := 10, nameIndex := 38, descriptorIndex := 39, attributes := #[] }, { accessFlags := 9, nameIndex := 50, descriptorIndex := 51, attributes := #[] }] 49 2 #[] #[])
  fields := #[]
  methods := #[k1m0, k1m1, k1m2]
  instanceTypes := #[]
  staticTypes := #[]
  resolved := Array.replicate 54 none
  statics := none }

def pool2 : Array CpInfo := pool [(1, .class_ 2), (0, u "java/lang/constant/Constable"), (0, .class_ 4), (0, u "java/lang/Object")] 6

/-- java/lang/constant/Constable -/
def k2 : Class := { plain "java/lang/constant/Constable" (some 0) with
  accessFlags := 1537
  interfaces := #[]
  cf := some (fileOf pool2 1 #[] #[] 1537 3 #[] #[])
  fields := #[]
  methods := #[]
  instanceTypes := #[]
  staticTypes := #[]
  resolved := Array.replicate 11 none
  statics := none }

def pool3 : Array CpInfo := pool [(1, .class_ 2), (0, u "java/lang/Comparable"), (0, .class_ 4), (0, u "java/lang/Object")] 7

/-- java/lang/Comparable -/
def k3 : Class := { plain "java/lang/Comparable" (some 0) with
  accessFlags := 1537
  interfaces := #[]
  cf := some (fileOf pool3 1 #[] #[] 1537 3 #[] #[])
  fields := #[]
  methods := #[]
  instanceTypes := #[]
  staticTypes := #[]
  resolved := Array.replicate 12 none
  statics := none }

def pool4 : Array CpInfo := pool [(1, .class_ 2), (0, u "java/io/Serializable"), (0, .class_ 4), (0, u "java/lang/Object")] 2

/-- java/io/Serializable -/
def k4 : Class := { plain "java/io/Serializable" (some 0) with
  accessFlags := 1537
  interfaces := #[]
  cf := some (fileOf pool4 1 #[] #[] 1537 3 #[] #[])
  fields := #[]
  methods := #[]
  instanceTypes := #[]
  staticTypes := #[]
  resolved := Array.replicate 7 none
  statics := none }

def pool5 : Array CpInfo := pool [(2, .class_ 4), (1, u "java/lang/Enum"), (0, u "name"), (0, u "Ljava/lang/String;"), (2, u "ordinal"), (0, u "I"), (1, .class_ 14), (1, u "java/lang/Object"), (4, u "hash"), (86, .class_ 108), (1, u "java/lang/Enum$EnumDesc"), (2, .class_ 112), (0, u "java/lang/constant/Constable"), (0, .class_ 114), (0, u "java/lang/Comparable"), (0, .class_ 116), (0, u "java/io/Serializable")] 87

/-- java/lang/Enum -/
def k5 : Class := { plain "java/lang/Enum" (some 0) with
  accessFlags := 1057
  interfaces := #[2, 3, 4]
  cf := some (fileOf pool5 2 #[.nestMembers #[106]] #[] 1057 12 #[111, 113, 115] #[{ accessFlags := 18, nameIndex := 5, descriptorIndex := 6, attributes := #[] }, { accessFlags := 18, nameIndex := 9, descriptorIndex := 10, attributes := #[] }, { accessFlags := 2, nameIndex := 19, descriptorIndex := 10, attributes := #[] }])
  fields := #[{ name := "name", type := (.object "java/lang/String"), accessFlags := 18, slot := 0, constantValue := 0 }, { name := "ordinal", type := .int, accessFlags := 18, slot := 1, constantValue := 0 }, { name := "hash", type := .int, accessFlags := 2, slot := 2, constantValue := 0 }]
  methods := #[]
  instanceTypes := #[(.object "java/lang/String"), .int, .int]
  staticTypes := #[]
  resolved := Array.replicate 204 none
  statics := none }

def pool6 : Array CpInfo := pool [(1, .class_ 2), (0, u "com/example/windlass/windlass/repository/BatchStatus"), (0, .fieldref 1 4), (0, .nameAndType 5 6), (0, u "STARTING"), (0, u "Lcom/example/windlass/windlass/repository/BatchStatus;"), (0, .fieldref 1 8), (0, .nameAndType 9 6), (0, u "STARTED"), (0, .fieldref 1 11), (0, .nameAndType 12 6), (0, u "STOPPING"), (0, .fieldref 1 14), (0, .nameAndType 15 6), (0, u "STOPPED"), (2, u "COMPLETED"), (0, .fieldref 1 20), (0, .nameAndType 21 6), (0, u "FAILED"), (2, u "UNKNOWN"), (2, u "ABANDONED"), (2, u "$VALUES"), (0, u "[Lcom/example/windlass/windlass/repository/BatchStatus;"), (6, .class_ 40), (1, u "java/lang/Enum"), (26, u "isRunning"), (0, u "()Z"), (1, u "isRestartable")] 4

def k6c0 : Code := { maxStack := 2, maxLocals := 1, code := prog_17_method_4_code, exceptionTable := #[], attributes := #[] }
def k6m0 : Method := { name := "isRunning", desc := "()Z", sig := { parameters := [], returnType := some .boolean }, accessFlags := 1, code := some k6c0 }
def k6c1 : Code := { maxStack := 2, maxLocals := 1, code := prog_17_method_5_code, exceptionTable := #[], attributes := #[] }
def k6m1 : Method := { name := "isRestartable", desc := "()Z", sig := { parameters := [], returnType := some .boolean }, accessFlags := 1, code := some k6c1 }
/-- com/example/windlass/windlass/repository/BatchStatus -/
def k6 : Class := { plain "com/example/windlass/windlass/repository/BatchStatus" (some 5) with
  accessFlags := 16433
  interfaces := #[]
  cf := some (fileOf pool6 1 #[] #[{ accessFlags := 1, nameIndex := 67, descriptorIndex := 68, attributes := #[] }, { accessFlags := 1, nameIndex := 70, descriptorIndex := 68, attributes := #[] }] 16433 38 #[] #[{ accessFlags := 16409, nameIndex := 5, descriptorIndex := 6, attributes := #[] }, { accessFlags := 16409, nameIndex := 9, descriptorIndex := 6, attributes := #[] }, { accessFlags := 16409, nameIndex := 12, descriptorIndex := 6, attributes := #[] }, { accessFlags := 16409, nameIndex := 15, descriptorIndex := 6, attributes := #[] }, { accessFlags := 16409, nameIndex := 18, descriptorIndex := 6, attributes := #[] }, { accessFlags := 16409, nameIndex := 21, descriptorIndex := 6, attributes := #[] }, { accessFlags := 16409, nameIndex := 24, descriptorIndex := 6, attributes := #[] }, { accessFlags := 16409, nameIndex := 27, descriptorIndex := 6, attributes := #[] }, { accessFlags := 4122, nameIndex := 30, descriptorIndex := 31, attributes := #[] }])
  fields := #[{ name := "STARTING", type := (.object "com/example/windlass/windlass/repository/BatchStatus"), accessFlags := 16409, slot := 0, constantValue := 0 }, { name := "STARTED", type := (.object "com/example/windlass/windlass/repository/BatchStatus"), accessFlags := 16409, slot := 1, constantValue := 0 }, { name := "STOPPING", type := (.object "com/example/windlass/windlass/repository/BatchStatus"), accessFlags := 16409, slot := 2, constantValue := 0 }, { name := "STOPPED", type := (.object "com/example/windlass/windlass/repository/BatchStatus"), accessFlags := 16409, slot := 3, constantValue := 0 }, { name := "COMPLETED", type := (.object "com/example/windlass/windlass/repository/BatchStatus"), accessFlags := 16409, slot := 4, constantValue := 0 }, { name := "FAILED", type := (.object "com/example/windlass/windlass/repository/BatchStatus"), accessFlags := 16409, slot := 5, constantValue := 0 }, { name := "UNKNOWN", type := (.object "com/example/windlass/windlass/repository/BatchStatus"), accessFlags := 16409, slot := 6, constantValue := 0 }, { name := "ABANDONED", type := (.object "com/example/windlass/windlass/repository/BatchStatus"), accessFlags := 16409, slot := 7, constantValue := 0 }, { name := "$VALUES", type := (.array (.object "com/example/windlass/windlass/repository/BatchStatus")), accessFlags := 4122, slot := 8, constantValue := 0 }]
  methods := #[k6m0, k6m1]
  instanceTypes := #[(.object "java/lang/String"), .int, .int]
  staticTypes := #[(.object "com/example/windlass/windlass/repository/BatchStatus"), (.object "com/example/windlass/windlass/repository/BatchStatus"), (.object "com/example/windlass/windlass/repository/BatchStatus"), (.object "com/example/windlass/windlass/repository/BatchStatus"), (.object "com/example/windlass/windlass/repository/BatchStatus"), (.object "com/example/windlass/windlass/repository/BatchStatus"), (.object "com/example/windlass/windlass/repository/BatchStatus"), (.object "com/example/windlass/windlass/repository/BatchStatus"), (.array (.object "com/example/windlass/windlass/repository/BatchStatus"))]
  resolved := Array.replicate 75 none
  statics := some 0 }

def pool7 : Array CpInfo := pool [(1, u "java/lang/Cloneable"), (0, .class_ 1), (0, u "java/lang/Object"), (0, .class_ 3)] 3

/-- java/lang/Cloneable -/
def k7 : Class := { plain "java/lang/Cloneable" (some 0) with
  accessFlags := 1537
  interfaces := #[]
  cf := some (fileOf pool7 2 #[] #[] 1537 4 #[] #[])
  fields := #[]
  methods := #[]
  instanceTypes := #[]
  staticTypes := #[]
  resolved := Array.replicate 8 none
  statics := none }

/-- the primitive byte -/
def k8 : Class := { plain "byte" none with kind := .primitive 'B', accessFlags := 0x411 }
/-- [B -/
def k9 : Class := { plain "[B" (some 0) with kind := .array 8 .byte, interfaces := #[7, 4], accessFlags := 1041 }

/-- the primitive int -/
def k10 : Class := { plain "int" none with kind := .primitive 'I', accessFlags := 0x411 }
/-- [I -/
def k11 : Class := { plain "[I" (some 0) with kind := .array 10 .int, interfaces := #[7, 4], accessFlags := 1041 }

def heap : Heap := #[{ cls := 6, slots := #[.ref 1, .ref 4, .ref 5, .ref 3, .ref 8, .ref 2, .ref 6, .ref 7, .null], vm := .statics 6 },
  { cls := 6, slots := #[.null, .int 0, .int 0], vm := .none },
  { cls := 6, slots := #[.null, .int 5, .int 0], vm := .none },
  { cls := 6, slots := #[.null, .int 3, .int 0], vm := .none },
  { cls := 6, slots := #[.null, .int 1, .int 0], vm := .none },
  { cls := 6, slots := #[.null, .int 2, .int 0], vm := .none },
  { cls := 6, slots := #[.null, .int 6, .int 0], vm := .none },
  { cls := 6, slots := #[.null, .int 7, .int 0], vm := .none },
  { cls := 6, slots := #[.null, .int 4, .int 0], vm := .none }]
def classes : Array Class := #[k0, k1, k2, k3, k4, k5, k6, k7, k8, k9, k10, k11]
def interned : List (Array UInt16 × Addr) := []
def slotsUsed : Nat := 33
def theMethod : MethodId := ⟨1, 2⟩
def args0 : Array Value := #[.int 5]
def aboutOver (below : List Frame) : State where
  vm := { classes := classes, interned := interned.toArray }
  heap := heap
  slotsUsed := slotsUsed
  threads := #[{ frames := .invoking theMethod args0 :: below }]
def below0 : List Frame := [.native { method := ⟨0, 0⟩, args := #[] }]
def about1 : State := aboutOver below0
def p0 : Program := .bare "" "" ""
def e0 : Env := launch0.env 0 0 0
theorem w_frames : about1.frames = Frame.invoking theMethod args0 :: below0 := rfl
set_option maxRecDepth 65536 in
theorem w_args : argsFit about1.vm theMethod args0 = true := by decide +kernel
set_option maxRecDepth 65536 in
theorem w_heap : heapFits about1 = true := by decide +kernel
set_option maxRecDepth 65536 in
theorem w_runnable : about1.curStatus? = some .runnable := by decide +kernel
set_option maxRecDepth 65536 in
theorem w_alone : about1.alone = true := by decide +kernel
set_option maxRecDepth 65536 in
theorem w_named : about1.methodNamed? x = some theMethod := by decide +kernel
set_option maxRecDepth 65536 in
theorem w_hears : about1.hears theMethod below0 = true := by decide +kernel
set_option maxRecDepth 65536 in
theorem w_ripe : about1.ripe theMethod args0 below0 = true := by decide +kernel
theorem w_running : about1.status = .running := rfl
set_option maxRecDepth 65536 in
theorem w_room : about1.hasRoom e0.platform room_1 = true :=
  launch0.hasRoom_least _ room_1 (by decide +kernel) (by decide +kernel) (by decide +kernel) (by decide +kernel) (by decide +kernel) (by decide +kernel)
theorem allAtoms_all (ts : List Jvm.Cond) (a : Array Jvm.Value) (st : Jvm.State) : (allAtoms ts).before a st = ts.all (fun c => c.before a st) := by
  induction ts with
  | nil => rfl
  | cons c t ih =>
    show (Jvm.Cond.and c (allAtoms t)).before a st = _
    rw [Jvm.Cond.before_and, ih, List.all_cons]
def words1 : List Jvm.Cond := Jvm.Cond.code x code maxLocals ret :: tables_1
/-- a 'code' word, met by the world's own term for the bytes: nothing is compared byte by byte -/
theorem code_word {y : MethodName} {bytes : ByteArray} {mx : Nat} {rt : Option FieldType} {a : Array Value} {s : State} {m : MethodId} {meth : Method} {c : Code} (h1 : s.methodNamed? y = some m) (h2 : s.vm.method? m = some meth) (h3 : meth.code = some c) (h4 : c.code = bytes)
    (h5 : (c.maxLocals == mx && c.exceptionTable.isEmpty && decide (c.maxStack ≤ mostOperands) && decide (meth.sig.returnType = rt) && !meth.locks && decide (parseMethodDescriptor y.desc = some meth.sig)) = true) : (Jvm.Cond.code y bytes mx rt).before a s = true := by
  simp only [Bool.and_eq_true, beq_iff_eq, Bool.not_eq_true', decide_eq_true_eq] at h5
  obtain ⟨⟨⟨⟨⟨g1, g2⟩, g3⟩, g4⟩, g5⟩, g6⟩ := h5
  simp [Cond.before, Cond.holds, Cond.value, h1, h2, h3, h4, g1, g2, g3, g4, g5, g6]
def isCode : Jvm.Cond → Bool
  | .code _ _ _ _ => true
  | _ => false
theorem all_split {L : List Jvm.Cond} {P : Jvm.Cond → Bool} (h1 : L.all (fun c => isCode c || P c) = true) (h2 : ∀ c ∈ L.filter isCode, P c = true) : L.all P = true := by
  refine List.all_eq_true.mpr fun c hc => ?_
  have h := List.all_eq_true.mp h1 c hc
  rcases Bool.eq_false_or_eq_true (isCode c) with hi | hi
  · exact h2 c (List.mem_filter.mpr ⟨hc, hi⟩)
  · simpa [hi] using h
set_option maxRecDepth 65536 in
theorem w_c0 : (Jvm.Cond.code x code maxLocals ret).before args0 about1 = true := code_word (m := ⟨1, 2⟩) (meth := k1m2) (c := k1c2) (by decide +kernel) rfl rfl rfl (by decide +kernel)
set_option maxRecDepth 65536 in
theorem w_c1 : (Jvm.Cond.code ({ cls := "com/example/windlass/windlass/repository/BatchStatusIsRestartablePinLaw", name := "pick", desc := "(I)Lcom/example/windlass/windlass/repository/BatchStatus;" } : Jvm.MethodName) method_2_code (1 : Nat) (Option.some (Jvm.ClassFile.FieldType.object "com/example/windlass/windlass/repository/BatchStatus"))).before args0 about1 = true := code_word (m := ⟨1, 1⟩) (meth := k1m1) (c := k1c1) (by decide +kernel) rfl rfl rfl (by decide +kernel)
set_option maxRecDepth 65536 in
theorem w_c2 : (Jvm.Cond.code ({ cls := "com/example/windlass/windlass/repository/BatchStatus", name := "isRestartable", desc := "()Z" } : Jvm.MethodName) prog_17_method_5_code (1 : Nat) (Option.some Jvm.ClassFile.FieldType.boolean)).before args0 about1 = true := code_word (m := ⟨6, 1⟩) (meth := k6m1) (c := k6c1) (by decide +kernel) rfl rfl rfl (by decide +kernel)
set_option maxRecDepth 65536 in
theorem w_c3 : (Jvm.Cond.code ({ cls := "com/example/windlass/windlass/repository/BatchStatus", name := "isRunning", desc := "()Z" } : Jvm.MethodName) prog_17_method_4_code (1 : Nat) (Option.some Jvm.ClassFile.FieldType.boolean)).before args0 about1 = true := code_word (m := ⟨6, 0⟩) (meth := k6m0) (c := k6c0) (by decide +kernel) rfl rfl rfl (by decide +kernel)
def codes1 : List Jvm.Cond := [Jvm.Cond.code x code maxLocals ret, Jvm.Cond.code ({ cls := "com/example/windlass/windlass/repository/BatchStatusIsRestartablePinLaw", name := "pick", desc := "(I)Lcom/example/windlass/windlass/repository/BatchStatus;" } : Jvm.MethodName) method_2_code (1 : Nat) (Option.some (Jvm.ClassFile.FieldType.object "com/example/windlass/windlass/repository/BatchStatus")), Jvm.Cond.code ({ cls := "com/example/windlass/windlass/repository/BatchStatus", name := "isRestartable", desc := "()Z" } : Jvm.MethodName) prog_17_method_5_code (1 : Nat) (Option.some Jvm.ClassFile.FieldType.boolean), Jvm.Cond.code ({ cls := "com/example/windlass/windlass/repository/BatchStatus", name := "isRunning", desc := "()Z" } : Jvm.MethodName) prog_17_method_4_code (1 : Nat) (Option.some Jvm.ClassFile.FieldType.boolean)]
set_option maxRecDepth 65536 in
theorem codes_eq : words1.filter isCode = codes1 := rfl
theorem w_codes : ∀ c ∈ words1.filter isCode, c.before args0 about1 = true := by
  rw [codes_eq]
  intro c hc
  simp only [codes1, List.mem_cons, List.not_mem_nil, or_false] at hc
  rcases hc with rfl | rfl | rfl | rfl
  · exact w_c0
  · exact w_c1
  · exact w_c2
  · exact w_c3
set_option maxRecDepth 65536 in
theorem w_t1 : (words1.take 24).all (fun c => isCode c || c.before args0 about1) = true := by decide +kernel
set_option maxRecDepth 65536 in
theorem w_t2 : (words1.drop 24).all (fun c => isCode c || c.before args0 about1) = true := by decide +kernel
theorem w_tables : (allAtoms (Jvm.Cond.code x code maxLocals ret :: tables_1)).before args0 about1 = true := by
  rw [allAtoms_all]
  show words1.all (fun c => c.before args0 about1) = true
  refine all_split ?_ w_codes
  rw [← List.take_append_drop 24 words1, List.all_append, w_t1, w_t2]
  rfl
set_option maxRecDepth 65536 in
theorem w_case : (Jvm.Cond.and given_1 narrow_1).before args0 about1 = true := by decide +kernel
theorem w_applies : (headSpec (Jvm.Cond.code x code maxLocals ret :: tables_1) room_1).applies x e0.platform about1 = true :=
  (Spec.applies_iff w_frames).mpr ⟨w_running, w_runnable, w_alone, w_named, w_hears, w_ripe, w_room, w_tables⟩
theorem atStart : AtStart classFile x code maxLocals ret World_1 tables_1 room_1 Calls_1 rest_1 Pre_1 launch0 p0 e0 about1 theMethod args0 below0 :=
  ⟨lists_1, trivial, launch0.admits_env _ _ _, launch0.least_env, fairChoices_fair.cas, fairChoices_fair.clock, w_frames, w_args, w_heap, w_applies, trivial, trivial, w_case⟩
end start1
theorem witness_1 : WitnessClaimed_1 := ⟨start1.p0, start1.e0, start1.about1, start1.theMethod, start1.args0, start1.below0, start1.atStart⟩
end Jvm.Pilot.@@N@@
