import JvmDerived
import JvmDerived.Pilot.@@N@@Statement
import JvmDerived.Pilot.@@N@@Code
set_option linter.unusedVariables false
set_option linter.unusedSimpArgs false
namespace Jvm.RoadKit
open Sem ClassFile Op Lib Jvm.Stand Jvm.Free Jvm.LawKit
section New
variable {p : Program} {l : Launch} {e : Env} {R : Room} {s : State} {m : MethodId} {args : Array Value} {below : List Frame} {meth : Method} {c : Code} {T : State} {locs : List Loc} {cells slots : Nat}
theorem retI (X : Stand p l e R s m args below meth c T locs cells slots) (hx : p.tables.exec = Jvm.exec) {pc : Nat} {Ls : Array Slot} {z : Int32} {rest : List Value} (hret : meth.sig.returnType = some .int) (hd : decode c.code pc = .ok (.ireturn, 1)) {fs : List Frame}
    (hl : ∀ (f : JFrame) (acts : List Action), f.method = m → f.locked = none → f.entered = [] → (doReturn e (T.setTop f) acts (some (.int z))).1 = T.setFrames fs) : Steps p.tables e below (T.setTop (mkF m pc Ls (.int z :: rest))) (T.setFrames fs) := by
  have hm' : T.vm.method? m = some meth := X.method'
  have hn : narrow .int (.int z) = .int z := rfl
  show Steps p.tables e below (T.setTop { method := m, pc := pc, locals := Ls, stack := _ :: rest, locked := none }) _
  jvm_step X.here [X.here.top, hx, hd, hm', hret, hn]
  first | (intro acts; rw [hl _ acts rfl rfl rfl]) | rw [hl _ _ rfl rfl rfl]
  exact Steps.refl _
end New
end Jvm.RoadKit
namespace Jvm.Pilot.@@N@@
open Jvm Jvm.ClassFile Sem Op Lib Jvm.Free Jvm.Stand Jvm.LawKit Jvm.RoadKit Bundle Jvm.Pilot.@@N@@.Jvm.D
theorem own_staK {Z : State} {h h' : Heap} {C n d : String} {v : Value} {ws : List Addr} (F : Sta Z h C n d v) (K : Keep h h' ws) (q : ∀ x ∈ ws, ∃ C', Exa Z h x C') : Sta Z h' C n d v := by
  obtain ⟨cf, i, k, f, st, cell, h1, h2, h3, h4, h5, h6, r⟩ := F
  refine ⟨cf, i, k, f, st, cell, h1, h2, h3, h4, K.2.1 _ _ h5 (fun hm => ?_), h6, r⟩
  obtain ⟨C', cell', k', e1, -, -, e4, -⟩ := q _ hm
  cases h5.symm.trans e1
  rw [h6] at e4; cases e4
theorem own_eqI {args : Array Value} {first s : State} {o : Option Outcome} {idx : List Nat} {a : Term} {n : Int32} (h : (Jvm.Cond.eq a (Term.int n)).value args first o s idx = some true) : a.eval args first o idx s = some (.int n) := by
  obtain ⟨x, y, h1, h2, -, -⟩ := cmp_v (Or.inl h)
  cases h2.symm.trans (Term.int_eval n)
  cases x <;> simp [Cond.value, h1, h2] at h
  rw [h1, h]
theorem own_eqR {args : Array Value} {first s : State} {o : Option Outcome} {idx : List Nat} {a b : Term} {x : Addr} (h : (Jvm.Cond.eq a b).value args first o s idx = some true) (hb : b.eval args first o idx s = some (.ref x)) : a.eval args first o idx s = some (.ref x) := by
  obtain ⟨u, y, h1, h2, -, -⟩ := cmp_v (Or.inl h)
  cases h2.symm.trans hb
  cases u <;> simp [Cond.value, h1, h2] at h
  rw [h1, h]
theorem own_eqL {args : Array Value} {first s : State} {o : Option Outcome} {idx : List Nat} {a : Term} {n : Int64} (h : (Jvm.Cond.eq a (Term.long n)).value args first o s idx = some true) : a.eval args first o idx s = some (.long n) := by
  obtain ⟨x, y, h1, h2, -, -⟩ := cmp_v (Or.inl h)
  cases h2.symm.trans (long_at n)
  cases x <;> simp [Cond.value, h1, h2] at h
  rw [h1, h]
theorem d1_0 : decode prog_2_method_1_code 0 = .ok (.aload_n 0, 1) := by decide +kernel
theorem d1_1 : decode prog_2_method_1_code 1 = .ok (.invokespecial 1, 3) := by decide +kernel
theorem d1_4 : decode prog_2_method_1_code 4 = .ok (.aload_n 0, 1) := by decide +kernel
theorem d1_5 : decode prog_2_method_1_code 5 = .ok (.sipush 1024, 3) := by decide +kernel
theorem d1_8 : decode prog_2_method_1_code 8 = .ok (.newarray .long, 2) := by decide +kernel
theorem d1_10 : decode prog_2_method_1_code 10 = .ok (.putfield 7, 3) := by decide +kernel
theorem d1_13 : decode prog_2_method_1_code 13 = .ok (.return_, 1) := by decide +kernel
theorem pn_0 : plainName "com/example/grebe/grebe/bench/Tally" = true := by first | (simp [plainName, overriddenIn]; done) | decide +kernel
theorem ef_rm1_0 (m : MethodId) (x0 : Addr) : entryFrame m #[(.ref x0)] 1 = mkF m 0 #[.val (.ref x0)] [] := by first | (simp [entryFrame, mkF, argsToLocals, Value.category]; done) | rfl
def Q1_0 (Z : State) (a1 : Addr) (h0 : Heap) (n0 : Nat) (v : Option Value) (h : Heap) (L : List Loc) : Prop := ∃ b2 : Addr, ∃ k2 : ClassId, v = none ∧ Fr n0 L ∧ Keep h0 h [a1] ∧ n0 ≤ b2 ∧ h0.size ≤ b2 ∧ Exa Z h a1 "com/example/grebe/grebe/bench/Tally" ∧ Fld Z h a1 "com/example/grebe/grebe/bench/Tally" "times" "[J" (.ref b2) ∧ Fld Z h a1 "com/example/grebe/grebe/bench/Tally" "stopped" "Z" (.int (0 : Int32)) ∧ Fld Z h a1 "com/example/grebe/grebe/bench/Tally" "stop" "J" (.long (0 : Int64)) ∧ Fld Z h a1 "com/example/grebe/grebe/bench/Tally" "count" "J" (.long (0 : Int64)) ∧ Arv Z h b2 k2 .long (1024 : Int32) [] (.long (0 : Int64))
set_option maxRecDepth 65536 in
set_option maxHeartbeats 40000000 in
theorem rm1_0 (l : Launch) (Z : State) (a0 : Array Value) (hw : ∀ d ∈ tables_1, d.before a0 Z = true) (ws : List Jvm.Cond) (a1 : Addr) (h0 : Heap) (n0 : Nat) (Z0 : n0 ≤ h0.size) (E_a1 : Exa Z h0 a1 "com/example/grebe/grebe/bench/Tally") (F_times_a1 : Fld Z h0 a1 "com/example/grebe/grebe/bench/Tally" "times" "[J" .null) (F_stopped_a1 : Fld Z h0 a1 "com/example/grebe/grebe/bench/Tally" "stopped" "Z" (.int (0 : Int32))) (F_stop_a1 : Fld Z h0 a1 "com/example/grebe/grebe/bench/Tally" "stop" "J" (.long (0 : Int64))) (F_count_a1 : Fld Z h0 a1 "com/example/grebe/grebe/bench/Tally" "count" "J" (.long (0 : Int64))) (g_a1 : n0 ≤ a1) :
    MetFree l (⟨"com/example/grebe/grebe/bench/Tally", "<init>", "()V"⟩ : MethodName) (head1 (Jvm.Cond.code (⟨"com/example/grebe/grebe/bench/Tally", "<init>", "()V"⟩ : MethodName) prog_2_method_1_code 1 none :: ws) ({ frames := 1, cells := 1, slots := 1024, locals := 12 } : Room)) (fun a U => a = #[(.ref a1)] ∧ Z.Warmed39 U.vm ∧ U.heap = h0) (fun _ _ _ _ _ => True) (fun _ U o U' => ∃ v L, o = .returned v ∧ Q1_0 Z a1 h0 n0 v U'.heap L ∧ FrameEnd U o U' L ({ frames := 1, cells := 1, slots := 1024, locals := 12 } : Room).cells ({ frames := 1, cells := 1, slots := 1024, locals := 12 } : Room).slots) := by
  refine MetFree.of_bodySF (plainFor_of_name pn_0) hisR ?_
  intro p e s m args below meth c s₁ Bd hml0 hP hK
  obtain ⟨rfl, hZ, hh⟩ := hP
  have hx := Bd.exec
  have hby := Bd.bytes
  have hml : c.maxLocals = 1 := hml0
  have hown : s.vm.findClass "com/example/grebe/grebe/bench/Tally" = some m.cls := findClass_of_methodNamed Bd.named
  have hnm := (name_of_methodNamed Bd.named Bd.method).1
  have X0 : Stand p l e ({ frames := 1, cells := 1, slots := 1024, locals := 12 } : Room) s m #[(.ref a1)] below meth c s₁ [] 0 0 := Stand.of_body Bd
  have e0 : s₁.heap = h0 := by rw [← hh, Bd.state]; rfl
  have N0 := Fr.nil n0
  have pre0 : ∀ t, Steps p.tables e below (s₁.setTop (mkF m 0 #[.val (.ref a1)] [])) t → Steps p.tables e below (s₁.setTop (entryFrame m #[(.ref a1)] 1)) t := fun t k => castTop (ef_rm1_0 m a1) k
  obtain ⟨T1, X1, e1, st1⟩ := initO X0 hx hZ hown (hw _ (List.mem_of_getElem? (i := 6) rfl)) (hw _ (List.mem_of_getElem? (i := 7) rfl)) (hw _ (List.mem_of_getElem? (i := 8) rfl)) e0 (g := (mkF m 1 #[.val (.ref a1)] [(.ref a1)])) rfl (by rw [hml]; rfl) rfl (hb hby d1_1) (by decide) (W := 0) (by show 2 * 0 + _ ≤ _; exact Nat.le_of_eq rfl) (by decide)
  obtain ⟨T2, h2, k2, X2, e2, E2, A2, st2⟩ := newP X1 hx hZ (hw _ (List.mem_of_getElem? (i := 9) rfl)) e1 (g := (mkF m 8 #[.val (.ref a1)] [(.int (1024 : Int32)), (.ref a1)])) rfl (hb hby d1_8) rfl (by decide) (cap := 1024) (by decide) (by decide) (by decide) (by decide)
  obtain ⟨b2, g2⟩ : ∃ z, z = h0.size := ⟨_, rfl⟩
  rw [← g2] at A2 st2
  have g_b2 : n0 ≤ b2 := Nat.le_trans Z0 (Nat.le_of_eq g2.symm)
  have sz_b2 : h0.size ≤ b2 := Nat.le_of_eq g2.symm
  have K2 : Keep h0 h2 [a1] := (Keep.refl h0 [a1]).ext E2
  have V_b2 : Arv Z h2 b2 k2 .long (1024 : Int32) [] (.long (0 : Int64)) := (Arv.new A2 (by decide))
  obtain ⟨T3, h3, X3, e3, W3, st3⟩ := putF X2 hx hZ hown (host := "") (Or.inl (hw _ (List.mem_of_getElem? (i := 10) rfl))) Via.refl e2 (F_times_a1.ext E2) (E_a1.ext E2) (Or.inl (hw _ (List.mem_of_getElem? (i := 11) rfl))) (hw _ (List.mem_of_getElem? (i := 1) rfl)) (ty := (.array .long)) (by decide) rfl rfl (g := (mkF m 10 #[.val (.ref a1)] [(.ref b2), (.ref a1)])) rfl rfl (hb hby d1_10)
  have K3 : Keep h0 h3 [a1] := K2.wr W3 (Or.inl (List.mem_of_getElem? (i := 0) rfl))
  have N3 := Fr.snoc X3 N0 g_a1
  have cf4 := ((F_stopped_a1.ext E2).other W3 (Or.inr (slot_ne (Or.inl (hw _ (List.mem_of_getElem? (i := 22) rfl))) (Or.inl (hw _ (List.mem_of_getElem? (i := 11) rfl))) (by decide) (t := .boolean) (t' := (.array .long)) (by decide) (by decide))))
  have cf5 := ((F_stop_a1.ext E2).other W3 (Or.inr (slot_ne (Or.inl (hw _ (List.mem_of_getElem? (i := 41) rfl))) (Or.inl (hw _ (List.mem_of_getElem? (i := 11) rfl))) (by decide) (t := .long) (t' := (.array .long)) (by decide) (by decide))))
  have cf6 := ((F_count_a1.ext E2).other W3 (Or.inr (slot_ne (Or.inl (hw _ (List.mem_of_getElem? (i := 65) rfl))) (Or.inl (hw _ (List.mem_of_getElem? (i := 11) rfl))) (by decide) (t := .long) (t' := (.array .long)) (by decide) (by decide))))
  have cf7 := (V_b2.other W3 (Ne.symm (Nat.ne_of_lt (Nat.lt_of_lt_of_le E_a1.lt sz_b2))))
  have Fw3 := (F_times_a1.ext E2).same W3
  obtain ⟨fs, hr, hrun, hended, hW, hsame⟩ := X3.leave (v := none) (fun _ => rfl)
  refine ⟨_, _, pre0 _ ?_, hrun, hended, _, _, rfl, ?_, ⟨_, rfl⟩, hW, hsame.mono (by decide) (by decide)⟩
  ·
    show Steps p.tables e below (s₁.setTop (mkF m 0 #[.val (.ref a1)] [])) _
    refine XS.aloadN X0.here hx rfl (hb hby d1_0) rfl rfl ?_
    show Steps p.tables e below (s₁.setTop (mkF m 1 #[.val (.ref a1)] [(.ref a1)])) _
    refine st1 _ ?_
    show Steps p.tables e below (T1.setTop (mkF m 4 #[.val (.ref a1)] [])) _
    refine XS.aloadN X1.here hx rfl (hb hby d1_4) rfl rfl ?_
    show Steps p.tables e below (T1.setTop (mkF m 5 #[.val (.ref a1)] [(.ref a1)])) _
    refine XS.sipush X1.here hx rfl (hb hby d1_5) ?_
    show Steps p.tables e below (T1.setTop (mkF m 8 #[.val (.ref a1)] [(.int (1024 : Int32)), (.ref a1)])) _
    refine st2 _ ?_
    show Steps p.tables e below (T2.setTop (mkF m 10 #[.val (.ref a1)] [(.ref b2), (.ref a1)])) _
    refine st3 _ ?_
    show Steps p.tables e below (T3.setTop (mkF m 13 #[.val (.ref a1)] [])) _
    exact X3.returnOut hx Bd.returns (hb hby d1_13) hr
  · show Q1_0 Z a1 h0 n0 _ T3.heap _
    rw [e3]
    exact ⟨b2, k2, rfl, N3, K3, g_b2, sz_b2, ((E_a1.ext E2).wr W3), Fw3, cf4, cf5, cf6, cf7⟩
theorem pd_0 : parseMethodDescriptor "()V" = some ⟨[], none⟩ := by decide +kernel
theorem d3_0 : decode method_2_code 0 = .ok (.aload_n 0, 1) := by decide +kernel
theorem d3_1 : decode method_2_code 1 = .ok (.invokevirtual 7, 3) := by decide +kernel
theorem d4_0 : decode prog_2_method_7_code 0 = .ok (.aload_n 0, 1) := by decide +kernel
theorem d4_1 : decode prog_2_method_7_code 1 = .ok (.getfield 33, 3) := by decide +kernel
theorem d4_4 : decode prog_2_method_7_code 4 = .ok (.ifCond .eq 13, 3) := by decide +kernel
theorem d4_17 : decode prog_2_method_7_code 17 = .ok (.invokestatic 68, 3) := by decide +kernel
theorem d5_0 : decode jdk_2650_method_2_code 0 = .ok (.getstatic 17, 3) := by decide +kernel
theorem d5_3 : decode jdk_2650_method_2_code 3 = .ok (.areturn, 1) := by decide +kernel
theorem pn_1 : plainName "java/util/OptionalLong" = true := by first | (simp [plainName, overriddenIn]; done) | decide +kernel
theorem ef_rm5_0 (m : MethodId)  : entryFrame m #[] 0 = mkF m 0 #[] [] := by first | (simp [entryFrame, mkF, argsToLocals, Value.category]; done) | rfl
def Q5_0 (Z : State) (w_EMPTY : Addr) (h0 : Heap) (n0 : Nat) (v : Option Value) (h : Heap) (L : List Loc) : Prop := v = some (.ref w_EMPTY) ∧ Fr n0 L ∧ h = h0
set_option maxRecDepth 65536 in
set_option maxHeartbeats 40000000 in
theorem rm5_0 (l : Launch) (Z : State) (a0 : Array Value) (hw : ∀ d ∈ tables_1, d.before a0 Z = true) (ws : List Jvm.Cond) (w_EMPTY : Addr) (h0 : Heap) (n0 : Nat) (Z0 : n0 ≤ h0.size) (S_EMPTY : Sta Z h0 "java/util/OptionalLong" "EMPTY" "Ljava/util/OptionalLong;" (.ref w_EMPTY)) :
    MetFree l (⟨"java/util/OptionalLong", "empty", "()Ljava/util/OptionalLong;"⟩ : MethodName) (head1 (Jvm.Cond.code (⟨"java/util/OptionalLong", "empty", "()Ljava/util/OptionalLong;"⟩ : MethodName) jdk_2650_method_2_code 0 (some (.object "java/util/OptionalLong")) :: ws) ({ frames := 0, cells := 0, slots := 0, locals := 0 } : Room)) (fun a U => a = #[] ∧ Z.Warmed39 U.vm ∧ U.heap = h0) (fun _ _ _ _ _ => True) (fun _ U o U' => ∃ v L, o = .returned v ∧ Q5_0 Z w_EMPTY h0 n0 v U'.heap L ∧ FrameEnd U o U' L ({ frames := 0, cells := 0, slots := 0, locals := 0 } : Room).cells ({ frames := 0, cells := 0, slots := 0, locals := 0 } : Room).slots) := by
  refine MetFree.of_bodySF (plainFor_of_name pn_1) hisR ?_
  intro p e s m args below meth c s₁ Bd hml0 hP hK
  obtain ⟨rfl, hZ, hh⟩ := hP
  have hx := Bd.exec
  have hby := Bd.bytes
  have hml : c.maxLocals = 0 := hml0
  have hown : s.vm.findClass "java/util/OptionalLong" = some m.cls := findClass_of_methodNamed Bd.named
  have hnm := (name_of_methodNamed Bd.named Bd.method).1
  have X0 : Stand p l e ({ frames := 0, cells := 0, slots := 0, locals := 0 } : Room) s m #[] below meth c s₁ [] 0 0 := Stand.of_body Bd
  have e0 : s₁.heap = h0 := by rw [← hh, Bd.state]; rfl
  have N0 := Fr.nil n0
  have pre0 : ∀ t, Steps p.tables e below (s₁.setTop (mkF m 0 #[] [])) t → Steps p.tables e below (s₁.setTop (entryFrame m #[] 0)) t := fun t k => castTop (ef_rm5_0 m ) k
  obtain ⟨T1, X1, e1, st1⟩ := getS2 X0 hx hZ hown (host := "") (Or.inl (hw _ (List.mem_of_getElem? (i := 27) rfl))) Via.refl e0 S_EMPTY (g := (mkF m 0 #[] [])) rfl (hb hby d5_0)
  obtain ⟨fs, hr, hrun, hended, hW, hsame⟩ := X1.leave (v := some (.ref w_EMPTY)) (fun h => by rw [Bd.returns] at h; cases h)
  refine ⟨_, _, pre0 _ ?_, hrun, hended, _, _, rfl, ?_, ⟨_, rfl⟩, hW, hsame.mono (by decide) (by decide)⟩
  ·
    show Steps p.tables e below (s₁.setTop (mkF m 0 #[] [])) _
    refine st1 _ ?_
    show Steps p.tables e below (T1.setTop (mkF m 3 #[] [(.ref w_EMPTY)])) _
    jvm_step X1.here [X1.here.top, hx, (hb hby d5_3), X1.method', Bd.returns, Value.isRef, FieldType.isReference]
    first | (intro acts; rw [hr _ acts rfl rfl rfl]) | rw [hr _ _ rfl rfl rfl]
    exact Steps.refl _
  · show Q5_0 Z w_EMPTY h0 n0 _ T1.heap _
    rw [e1]
    exact ⟨rfl, N0, rfl⟩
theorem pd_1 : parseMethodDescriptor "()Ljava/util/OptionalLong;" = some ⟨[], some (.object "java/util/OptionalLong")⟩ := by decide +kernel
theorem d4_20 : decode prog_2_method_7_code 20 = .ok (.areturn, 1) := by decide +kernel
theorem ef_rm4_0 (m : MethodId) (x0 : Addr) : entryFrame m #[(.ref x0)] 1 = mkF m 0 #[.val (.ref x0)] [] := by first | (simp [entryFrame, mkF, argsToLocals, Value.category]; done) | rfl
def Q4_0 (Z : State) (a1 : Addr) (w_EMPTY : Addr) (h0 : Heap) (n0 : Nat) (v : Option Value) (h : Heap) (L : List Loc) : Prop := v = some (.ref w_EMPTY) ∧ Fr n0 L ∧ h = h0
set_option maxRecDepth 65536 in
set_option maxHeartbeats 40000000 in
theorem rm4_0 (l : Launch) (Z : State) (a0 : Array Value) (hw : ∀ d ∈ tables_1, d.before a0 Z = true) (ws : List Jvm.Cond) (a1 : Addr) (w_EMPTY : Addr) (h0 : Heap) (n0 : Nat) (Z0 : n0 ≤ h0.size) (F_stopped_a1 : Fld Z h0 a1 "com/example/grebe/grebe/bench/Tally" "stopped" "Z" (.int (0 : Int32))) (S_EMPTY : Sta Z h0 "java/util/OptionalLong" "EMPTY" "Ljava/util/OptionalLong;" (.ref w_EMPTY)) :
    MetFree l (⟨"com/example/grebe/grebe/bench/Tally", "stopped", "()Ljava/util/OptionalLong;"⟩ : MethodName) (head1 (Jvm.Cond.code (⟨"com/example/grebe/grebe/bench/Tally", "stopped", "()Ljava/util/OptionalLong;"⟩ : MethodName) prog_2_method_7_code 1 (some (.object "java/util/OptionalLong")) :: ws) ({ frames := 1, cells := 0, slots := 0, locals := 11 } : Room)) (fun a U => a = #[(.ref a1)] ∧ Z.Warmed39 U.vm ∧ U.heap = h0) (fun _ _ _ _ _ => True) (fun _ U o U' => ∃ v L, o = .returned v ∧ Q4_0 Z a1 w_EMPTY h0 n0 v U'.heap L ∧ FrameEnd U o U' L ({ frames := 1, cells := 0, slots := 0, locals := 11 } : Room).cells ({ frames := 1, cells := 0, slots := 0, locals := 11 } : Room).slots) := by
  refine MetFree.of_bodySF (plainFor_of_name pn_0) hisR ?_
  intro p e s m args below meth c s₁ Bd hml0 hP hK
  obtain ⟨rfl, hZ, hh⟩ := hP
  have hx := Bd.exec
  have hby := Bd.bytes
  have hml : c.maxLocals = 1 := hml0
  have hown : s.vm.findClass "com/example/grebe/grebe/bench/Tally" = some m.cls := findClass_of_methodNamed Bd.named
  have hnm := (name_of_methodNamed Bd.named Bd.method).1
  have X0 : Stand p l e ({ frames := 1, cells := 0, slots := 0, locals := 11 } : Room) s m #[(.ref a1)] below meth c s₁ [] 0 0 := Stand.of_body Bd
  have e0 : s₁.heap = h0 := by rw [← hh, Bd.state]; rfl
  have N0 := Fr.nil n0
  have pre0 : ∀ t, Steps p.tables e below (s₁.setTop (mkF m 0 #[.val (.ref a1)] [])) t → Steps p.tables e below (s₁.setTop (entryFrame m #[(.ref a1)] 1)) t := fun t k => castTop (ef_rm4_0 m a1) k
  obtain ⟨T1, X1, e1, st1⟩ := getF X0 hx hZ hown (host := "") (Or.inl (hw _ (List.mem_of_getElem? (i := 21) rfl))) Via.refl e0 F_stopped_a1 (g := (mkF m 1 #[.val (.ref a1)] [(.ref a1)])) rfl rfl (hb hby d4_1)
  obtain ⟨_, _, ⟨T2, L2, k2, n2⟩, -, X2, ⟨Lc2, hQ2, l2, y2, z2⟩, st2⟩ := Jvm.LawKit.callS X1 hx (y := (⟨"java/util/OptionalLong", "empty", "()Ljava/util/OptionalLong;"⟩ : MethodName)) hown (mvT hZ (hw _ (List.mem_of_getElem? (i := 23) rfl))) (mvT hZ (hw _ (List.mem_of_getElem? (i := 24) rfl))) (mvT hZ (hw _ (List.mem_of_getElem? (i := 25) rfl))) (mvT hZ (hw _ (List.mem_of_getElem? (i := 26) rfl))) (by decide) (backOf (W := 0) (rm5_0 l Z a0 hw [] w_EMPTY h0 n0 Z0 S_EMPTY) hZ (hw _ (List.mem_of_getElem? (i := 26) rfl)) (hw _ (List.mem_of_getElem? (i := 25) rfl)) (by decide) (by decide)) (g := (mkF m 17 #[.val (.ref a1)] [])) rfl (by rw [hml]; rfl) (argsL := []) (rest := []) (lenOf pd_1 rfl) rfl (by show 2 * 0 + _ ≤ _; exact Nat.le_of_eq rfl) (hb hby d4_17) (fun _ _ => ⟨rfl, e1, (by decide : 0 + 0 ≤ _), (by decide : 0 + 0 ≤ _)⟩)
  dsimp only [Pt.U, Pt.locs, Pt.cells, Pt.slots] at X2 l2 y2 z2 st2 hQ2
  subst l2 y2 z2
  obtain ⟨rfl, N2q, e2⟩ := hQ2
  have N2 := Fr.app N0 N2q
  obtain ⟨fs, hr, hrun, hended, hW, hsame⟩ := X2.leave (v := some (.ref w_EMPTY)) (fun h => by rw [Bd.returns] at h; cases h)
  refine ⟨_, _, pre0 _ ?_, hrun, hended, _, _, rfl, ?_, ⟨_, rfl⟩, hW, hsame.mono (by decide) (by decide)⟩
  ·
    show Steps p.tables e below (s₁.setTop (mkF m 0 #[.val (.ref a1)] [])) _
    refine XS.aloadN X0.here hx rfl (hb hby d4_0) rfl rfl ?_
    show Steps p.tables e below (s₁.setTop (mkF m 1 #[.val (.ref a1)] [(.ref a1)])) _
    refine st1 _ ?_
    show Steps p.tables e below (T1.setTop (mkF m 4 #[.val (.ref a1)] [(.int (0 : Int32))])) _
    refine XS.ifYes X1.here hx rfl (pc0 := 4) (pc' := 17) rfl (hb hby d4_4) rfl ((if0 _ _).trans (teq (by decide : (0 : Int32) = (0 : Int32))).1) (by decide) (by decide) ?_
    show Steps p.tables e below (T1.setTop (mkF m 17 #[.val (.ref a1)] [])) _
    refine st2 _ ?_
    show Steps p.tables e below (T2.setTop (mkF m 20 #[.val (.ref a1)] [(.ref w_EMPTY)])) _
    jvm_step X2.here [X2.here.top, hx, (hb hby d4_20), X2.method', Bd.returns, Value.isRef, FieldType.isReference]
    first | (intro acts; rw [hr _ acts rfl rfl rfl]) | rw [hr _ _ rfl rfl rfl]
    exact Steps.refl _
  · show Q4_0 Z a1 w_EMPTY h0 n0 _ T2.heap _
    rw [e2]
    exact ⟨rfl, N2, rfl⟩
theorem d3_4 : decode method_2_code 4 = .ok (.astore 4, 2) := by decide +kernel
theorem d3_6 : decode method_2_code 6 = .ok (.iload_n 1, 1) := by decide +kernel
theorem d3_7 : decode method_2_code 7 = .ok (.ifCond .ne 17, 3) := by decide +kernel
theorem d3_10 : decode method_2_code 10 = .ok (.aload 4, 2) := by decide +kernel
theorem d3_12 : decode method_2_code 12 = .ok (.invokevirtual 13, 3) := by decide +kernel
theorem d6_0 : decode jdk_2650_method_6_code 0 = .ok (.aload_n 0, 1) := by decide +kernel
theorem d6_1 : decode jdk_2650_method_6_code 1 = .ok (.getfield 7, 3) := by decide +kernel
theorem d6_4 : decode jdk_2650_method_6_code 4 = .ok (.ireturn, 1) := by decide +kernel
theorem ef_rm6_0 (m : MethodId) (x0 : Addr) : entryFrame m #[(.ref x0)] 1 = mkF m 0 #[.val (.ref x0)] [] := by first | (simp [entryFrame, mkF, argsToLocals, Value.category]; done) | rfl
def Q6_0 (Z : State) (w_EMPTY : Addr) (h0 : Heap) (n0 : Nat) (v : Option Value) (h : Heap) (L : List Loc) : Prop := v = some (.int (0 : Int32)) ∧ Fr n0 L ∧ h = h0
set_option maxRecDepth 65536 in
set_option maxHeartbeats 40000000 in
theorem rm6_0 (l : Launch) (Z : State) (a0 : Array Value) (hw : ∀ d ∈ tables_1, d.before a0 Z = true) (ws : List Jvm.Cond) (w_EMPTY : Addr) (h0 : Heap) (n0 : Nat) (Z0 : n0 ≤ h0.size) (F_isPresent_EMPTY : Fld Z h0 w_EMPTY "java/util/OptionalLong" "isPresent" "Z" (.int (0 : Int32))) :
    MetFree l (⟨"java/util/OptionalLong", "isPresent", "()Z"⟩ : MethodName) (head1 (Jvm.Cond.code (⟨"java/util/OptionalLong", "isPresent", "()Z"⟩ : MethodName) jdk_2650_method_6_code 1 (some .boolean) :: ws) ({ frames := 0, cells := 0, slots := 0, locals := 0 } : Room)) (fun a U => a = #[(.ref w_EMPTY)] ∧ Z.Warmed39 U.vm ∧ U.heap = h0) (fun _ _ _ _ _ => True) (fun _ U o U' => ∃ v L, o = .returned v ∧ Q6_0 Z w_EMPTY h0 n0 v U'.heap L ∧ FrameEnd U o U' L ({ frames := 0, cells := 0, slots := 0, locals := 0 } : Room).cells ({ frames := 0, cells := 0, slots := 0, locals := 0 } : Room).slots) := by
  refine MetFree.of_bodySF (plainFor_of_name pn_1) hisR ?_
  intro p e s m args below meth c s₁ Bd hml0 hP hK
  obtain ⟨rfl, hZ, hh⟩ := hP
  have hx := Bd.exec
  have hby := Bd.bytes
  have hml : c.maxLocals = 1 := hml0
  have hown : s.vm.findClass "java/util/OptionalLong" = some m.cls := findClass_of_methodNamed Bd.named
  have hnm := (name_of_methodNamed Bd.named Bd.method).1
  have X0 : Stand p l e ({ frames := 0, cells := 0, slots := 0, locals := 0 } : Room) s m #[(.ref w_EMPTY)] below meth c s₁ [] 0 0 := Stand.of_body Bd
  have e0 : s₁.heap = h0 := by rw [← hh, Bd.state]; rfl
  have N0 := Fr.nil n0
  have pre0 : ∀ t, Steps p.tables e below (s₁.setTop (mkF m 0 #[.val (.ref w_EMPTY)] [])) t → Steps p.tables e below (s₁.setTop (entryFrame m #[(.ref w_EMPTY)] 1)) t := fun t k => castTop (ef_rm6_0 m w_EMPTY) k
  obtain ⟨T1, X1, e1, st1⟩ := getF X0 hx hZ hown (host := "") (Or.inl (hw _ (List.mem_of_getElem? (i := 33) rfl))) Via.refl e0 F_isPresent_EMPTY (g := (mkF m 1 #[.val (.ref w_EMPTY)] [(.ref w_EMPTY)])) rfl rfl (hb hby d6_1)
  obtain ⟨fs, hr, hrun, hended, hW, hsame⟩ := X1.leave (v := some (.int (0 : Int32))) (fun h => by rw [Bd.returns] at h; cases h)
  refine ⟨_, _, pre0 _ ?_, hrun, hended, _, _, rfl, ?_, ⟨_, rfl⟩, hW, hsame.mono (by decide) (by decide)⟩
  ·
    show Steps p.tables e below (s₁.setTop (mkF m 0 #[.val (.ref w_EMPTY)] [])) _
    refine XS.aloadN X0.here hx rfl (hb hby d6_0) rfl rfl ?_
    show Steps p.tables e below (s₁.setTop (mkF m 1 #[.val (.ref w_EMPTY)] [(.ref w_EMPTY)])) _
    refine st1 _ ?_
    show Steps p.tables e below (T1.setTop (mkF m 4 #[.val (.ref w_EMPTY)] [(.int (0 : Int32))])) _
    exact retN X1 hx (t := .boolean) Bd.returns (by simp) (hb hby d6_4) hr
  · show Q6_0 Z w_EMPTY h0 n0 _ T1.heap _
    rw [e1]
    exact ⟨rfl, N0, rfl⟩
theorem pd_2 : parseMethodDescriptor "()Z" = some ⟨[], some .boolean⟩ := by decide +kernel
theorem d3_15 : decode method_2_code 15 = .ok (.ifCond .ne 7, 3) := by decide +kernel
theorem d3_18 : decode method_2_code 18 = .ok (.iconst 1, 1) := by decide +kernel
theorem d3_19 : decode method_2_code 19 = .ok (.goto 4, 3) := by decide +kernel
theorem d3_23 : decode method_2_code 23 = .ok (.ireturn, 1) := by decide +kernel
theorem pn_2 : plainName "com/example/grebe/grebe/bench/TallyStopPinLaw" = true := by first | (simp [plainName, overriddenIn]; done) | decide +kernel
theorem ef_rm3_0 (m : MethodId) (x0 : Addr) : entryFrame m #[(.ref x0), (.int (0 : Int32)), (.long (0 : Int64))] 5 = mkF m 0 #[.val (.ref x0), .val (.int (0 : Int32)), .val (.long (0 : Int64)), .second, .unset] [] := by first | (simp [entryFrame, mkF, argsToLocals, Value.category]; done) | rfl
def Q3_0 (Z : State) (a1 : Addr) (w_EMPTY : Addr) (h0 : Heap) (n0 : Nat) (v : Option Value) (h : Heap) (L : List Loc) : Prop := v = some (.int (1 : Int32)) ∧ Fr n0 L ∧ h = h0
set_option maxRecDepth 65536 in
set_option maxHeartbeats 40000000 in
theorem rm3_0 (l : Launch) (Z : State) (a0 : Array Value) (hw : ∀ d ∈ tables_1, d.before a0 Z = true) (ws : List Jvm.Cond) (a1 : Addr) (w_EMPTY : Addr) (h0 : Heap) (n0 : Nat) (Z0 : n0 ≤ h0.size) (E_a1 : Exa Z h0 a1 "com/example/grebe/grebe/bench/Tally") (F_stopped_a1 : Fld Z h0 a1 "com/example/grebe/grebe/bench/Tally" "stopped" "Z" (.int (0 : Int32))) (S_EMPTY : Sta Z h0 "java/util/OptionalLong" "EMPTY" "Ljava/util/OptionalLong;" (.ref w_EMPTY)) (E_EMPTY : Exa Z h0 w_EMPTY "java/util/OptionalLong") (F_isPresent_EMPTY : Fld Z h0 w_EMPTY "java/util/OptionalLong" "isPresent" "Z" (.int (0 : Int32))) :
    MetFree l (⟨"com/example/grebe/grebe/bench/TallyStopPinLaw", "matches", "(Lcom/example/grebe/grebe/bench/Tally;ZJ)Z"⟩ : MethodName) (head1 (Jvm.Cond.code (⟨"com/example/grebe/grebe/bench/TallyStopPinLaw", "matches", "(Lcom/example/grebe/grebe/bench/Tally;ZJ)Z"⟩ : MethodName) method_2_code 5 (some .boolean) :: ws) ({ frames := 2, cells := 0, slots := 0, locals := 23 } : Room)) (fun a U => a = #[(.ref a1), (.int (0 : Int32)), (.long (0 : Int64))] ∧ Z.Warmed39 U.vm ∧ U.heap = h0) (fun _ _ _ _ _ => True) (fun _ U o U' => ∃ v L, o = .returned v ∧ Q3_0 Z a1 w_EMPTY h0 n0 v U'.heap L ∧ FrameEnd U o U' L ({ frames := 2, cells := 0, slots := 0, locals := 23 } : Room).cells ({ frames := 2, cells := 0, slots := 0, locals := 23 } : Room).slots) := by
  refine MetFree.of_bodySF (plainFor_of_name pn_2) hisR ?_
  intro p e s m args below meth c s₁ Bd hml0 hP hK
  obtain ⟨rfl, hZ, hh⟩ := hP
  have hx := Bd.exec
  have hby := Bd.bytes
  have hml : c.maxLocals = 5 := hml0
  have hown : s.vm.findClass "com/example/grebe/grebe/bench/TallyStopPinLaw" = some m.cls := findClass_of_methodNamed Bd.named
  have hnm := (name_of_methodNamed Bd.named Bd.method).1
  have X0 : Stand p l e ({ frames := 2, cells := 0, slots := 0, locals := 23 } : Room) s m #[(.ref a1), (.int (0 : Int32)), (.long (0 : Int64))] below meth c s₁ [] 0 0 := Stand.of_body Bd
  have e0 : s₁.heap = h0 := by rw [← hh, Bd.state]; rfl
  have N0 := Fr.nil n0
  have pre0 : ∀ t, Steps p.tables e below (s₁.setTop (mkF m 0 #[.val (.ref a1), .val (.int (0 : Int32)), .val (.long (0 : Int64)), .second, .unset] [])) t → Steps p.tables e below (s₁.setTop (entryFrame m #[(.ref a1), (.int (0 : Int32)), (.long (0 : Int64))] 5)) t := fun t k => castTop (ef_rm3_0 m a1) k
  obtain ⟨cq1, kq1, q1a, q1b, q1c⟩ := isOf hZ e0 E_a1
  obtain ⟨_, _, ⟨T1, L1, k1, n1⟩, -, X1, ⟨Lc1, hQ1, l1, y1, z1⟩, st1⟩ := X0.virtualBack hx (y := (⟨"com/example/grebe/grebe/bench/Tally", "stopped", "()Ljava/util/OptionalLong;"⟩ : MethodName)) (z := (⟨"com/example/grebe/grebe/bench/Tally", "stopped", "()Ljava/util/OptionalLong;"⟩ : MethodName)) hown (mvT hZ (hw _ (List.mem_of_getElem? (i := 16) rfl))) (mvT hZ (hw _ (List.mem_of_getElem? (i := 17) rfl))) (notFace_of_selects (args := #[]) (mvT hZ (hw _ (List.mem_of_getElem? (i := 19) rfl)))) (mvT hZ (hw _ (List.mem_of_getElem? (i := 19) rfl))) (mvT hZ (hw _ (List.mem_of_getElem? (i := 18) rfl))) (by decide) (backOf (W := 0) (rm4_0 l Z a0 hw [] a1 w_EMPTY h0 n0 Z0 F_stopped_a1 S_EMPTY) hZ (hw _ (List.mem_of_getElem? (i := 20) rfl)) (hw _ (List.mem_of_getElem? (i := 2) rfl)) (by decide) (by decide)) q1a q1c (g := (mkF m 1 #[.val (.ref a1), .val (.int (0 : Int32)), .val (.long (0 : Int64)), .second, .unset] [(.ref a1)])) rfl (by rw [hml]; rfl) (Steps.refl _) (argsL := []) (rest := []) (lenOf pd_1 rfl) rfl (by show 2 * 0 + _ ≤ _; exact Nat.le_of_eq rfl) (hb hby d3_1) (fun _ _ => ⟨rfl, e0, (by decide : 0 + 0 ≤ _), (by decide : 0 + 0 ≤ _)⟩)
  dsimp only [Pt.U, Pt.locs, Pt.cells, Pt.slots] at X1 l1 y1 z1 st1 hQ1
  subst l1 y1 z1
  obtain ⟨rfl, N1q, e1⟩ := hQ1
  have N1 := Fr.app N0 N1q
  obtain ⟨cq2, kq2, q2a, q2b, q2c⟩ := isOf hZ e1 E_EMPTY
  obtain ⟨_, _, ⟨T2, L2, k2, n2⟩, -, X2, ⟨Lc2, hQ2, l2, y2, z2⟩, st2⟩ := X1.virtualBack hx (y := (⟨"java/util/OptionalLong", "isPresent", "()Z"⟩ : MethodName)) (z := (⟨"java/util/OptionalLong", "isPresent", "()Z"⟩ : MethodName)) hown (mvT hZ (hw _ (List.mem_of_getElem? (i := 28) rfl))) (mvT hZ (hw _ (List.mem_of_getElem? (i := 29) rfl))) (notFace_of_selects (args := #[]) (mvT hZ (hw _ (List.mem_of_getElem? (i := 31) rfl)))) (mvT hZ (hw _ (List.mem_of_getElem? (i := 31) rfl))) (mvT hZ (hw _ (List.mem_of_getElem? (i := 30) rfl))) (by decide) (backOf (W := 0) (rm6_0 l Z a0 hw [] w_EMPTY h0 n0 Z0 F_isPresent_EMPTY) hZ (hw _ (List.mem_of_getElem? (i := 32) rfl)) (hw _ (List.mem_of_getElem? (i := 25) rfl)) (by decide) (by decide)) q2a q2c (g := (mkF m 12 #[.val (.ref a1), .val (.int (0 : Int32)), .val (.long (0 : Int64)), .second, .val (.ref w_EMPTY)] [(.ref w_EMPTY)])) rfl (by rw [hml]; rfl) (Steps.refl _) (argsL := []) (rest := []) (lenOf pd_2 rfl) rfl (by show 2 * 0 + _ ≤ _; exact Nat.le_of_eq rfl) (hb hby d3_12) (fun _ _ => ⟨rfl, e1, (by decide : 0 + 0 ≤ _), (by decide : 0 + 0 ≤ _)⟩)
  dsimp only [Pt.U, Pt.locs, Pt.cells, Pt.slots] at X2 l2 y2 z2 st2 hQ2
  subst l2 y2 z2
  obtain ⟨rfl, N2q, e2⟩ := hQ2
  have N2 := Fr.app N1 N2q
  obtain ⟨fs, hr, hrun, hended, hW, hsame⟩ := X2.leave (v := some (.int (1 : Int32))) (fun h => by rw [Bd.returns] at h; cases h)
  refine ⟨_, _, pre0 _ ?_, hrun, hended, _, _, rfl, ?_, ⟨_, rfl⟩, hW, hsame.mono (by decide) (by decide)⟩
  ·
    show Steps p.tables e below (s₁.setTop (mkF m 0 #[.val (.ref a1), .val (.int (0 : Int32)), .val (.long (0 : Int64)), .second, .unset] [])) _
    refine XS.aloadN X0.here hx rfl (hb hby d3_0) rfl rfl ?_
    show Steps p.tables e below (s₁.setTop (mkF m 1 #[.val (.ref a1), .val (.int (0 : Int32)), .val (.long (0 : Int64)), .second, .unset] [(.ref a1)])) _
    refine st1.trans ?_
    show Steps p.tables e below (T1.setTop (mkF m 4 #[.val (.ref a1), .val (.int (0 : Int32)), .val (.long (0 : Int64)), .second, .unset] [(.ref w_EMPTY)])) _
    refine XS.astore X1.here hx rfl (hb hby d3_4) rfl rfl (l' := #[.val (.ref a1), .val (.int (0 : Int32)), .val (.long (0 : Int64)), .second, .val (.ref w_EMPTY)]) rfl ?_
    show Steps p.tables e below (T1.setTop (mkF m 6 #[.val (.ref a1), .val (.int (0 : Int32)), .val (.long (0 : Int64)), .second, .val (.ref w_EMPTY)] [])) _
    refine XS.iloadN X1.here hx rfl (hb hby d3_6) rfl ?_
    show Steps p.tables e below (T1.setTop (mkF m 7 #[.val (.ref a1), .val (.int (0 : Int32)), .val (.long (0 : Int64)), .second, .val (.ref w_EMPTY)] [(.int (0 : Int32))])) _
    refine XS.ifNo X1.here hx rfl (hb hby d3_7) rfl ((if0 _ _).trans (teq (by decide : (0 : Int32) = (0 : Int32))).2) ?_
    show Steps p.tables e below (T1.setTop (mkF m 10 #[.val (.ref a1), .val (.int (0 : Int32)), .val (.long (0 : Int64)), .second, .val (.ref w_EMPTY)] [])) _
    refine XS.aload X1.here hx rfl (hb hby d3_10) rfl rfl ?_
    show Steps p.tables e below (T1.setTop (mkF m 12 #[.val (.ref a1), .val (.int (0 : Int32)), .val (.long (0 : Int64)), .second, .val (.ref w_EMPTY)] [(.ref w_EMPTY)])) _
    refine st2.trans ?_
    show Steps p.tables e below (T2.setTop (mkF m 15 #[.val (.ref a1), .val (.int (0 : Int32)), .val (.long (0 : Int64)), .second, .val (.ref w_EMPTY)] [(.int (0 : Int32))])) _
    refine XS.ifNo X2.here hx rfl (hb hby d3_15) rfl ((if0 _ _).trans (teq (by decide : (0 : Int32) = (0 : Int32))).2) ?_
    show Steps p.tables e below (T2.setTop (mkF m 18 #[.val (.ref a1), .val (.int (0 : Int32)), .val (.long (0 : Int64)), .second, .val (.ref w_EMPTY)] [])) _
    refine XS.iconst X2.here hx rfl (hb hby d3_18) ?_
    show Steps p.tables e below (T2.setTop (mkF m 19 #[.val (.ref a1), .val (.int (0 : Int32)), .val (.long (0 : Int64)), .second, .val (.ref w_EMPTY)] [(.int (1 : Int32))])) _
    refine XS.goto X2.here hx rfl (pc0 := 19) (pc' := 23) rfl (hb hby d3_19) (by decide) (by decide) ?_
    show Steps p.tables e below (T2.setTop (mkF m 23 #[.val (.ref a1), .val (.int (0 : Int32)), .val (.long (0 : Int64)), .second, .val (.ref w_EMPTY)] [(.int (1 : Int32))])) _
    exact retN X2 hx (t := .boolean) Bd.returns (by simp) (hb hby d3_23) hr
  · show Q3_0 Z a1 w_EMPTY h0 n0 _ T2.heap _
    rw [e2]
    exact ⟨rfl, N2, rfl⟩
theorem pd_3 : parseMethodDescriptor "(Lcom/example/grebe/grebe/bench/Tally;ZJ)Z" = some ⟨[(.object "com/example/grebe/grebe/bench/Tally"), .boolean, .long], some .boolean⟩ := by decide +kernel
theorem d11_0 : decode prog_2_method_6_code 0 = .ok (.aload_n 0, 1) := by decide +kernel
theorem d11_1 : decode prog_2_method_6_code 1 = .ok (.getfield 13, 3) := by decide +kernel
theorem d11_4 : decode prog_2_method_6_code 4 = .ok (.lreturn, 1) := by decide +kernel
theorem ef_rm11_0 (m : MethodId) (x0 : Addr) : entryFrame m #[(.ref x0)] 1 = mkF m 0 #[.val (.ref x0)] [] := by first | (simp [entryFrame, mkF, argsToLocals, Value.category]; done) | rfl
def Q11_0 (Z : State) (a1 : Addr) (h0 : Heap) (n0 : Nat) (v : Option Value) (h : Heap) (L : List Loc) : Prop := v = some (.long (0 : Int64)) ∧ Fr n0 L ∧ h = h0
set_option maxRecDepth 65536 in
set_option maxHeartbeats 40000000 in
theorem rm11_0 (l : Launch) (Z : State) (a0 : Array Value) (hw : ∀ d ∈ tables_1, d.before a0 Z = true) (ws : List Jvm.Cond) (a1 : Addr) (h0 : Heap) (n0 : Nat) (Z0 : n0 ≤ h0.size) (F_count_a1 : Fld Z h0 a1 "com/example/grebe/grebe/bench/Tally" "count" "J" (.long (0 : Int64))) :
    MetFree l (⟨"com/example/grebe/grebe/bench/Tally", "count", "()J"⟩ : MethodName) (head1 (Jvm.Cond.code (⟨"com/example/grebe/grebe/bench/Tally", "count", "()J"⟩ : MethodName) prog_2_method_6_code 1 (some .long) :: ws) ({ frames := 0, cells := 0, slots := 0, locals := 0 } : Room)) (fun a U => a = #[(.ref a1)] ∧ Z.Warmed39 U.vm ∧ U.heap = h0) (fun _ _ _ _ _ => True) (fun _ U o U' => ∃ v L, o = .returned v ∧ Q11_0 Z a1 h0 n0 v U'.heap L ∧ FrameEnd U o U' L ({ frames := 0, cells := 0, slots := 0, locals := 0 } : Room).cells ({ frames := 0, cells := 0, slots := 0, locals := 0 } : Room).slots) := by
  refine MetFree.of_bodySF (plainFor_of_name pn_0) hisR ?_
  intro p e s m args below meth c s₁ Bd hml0 hP hK
  obtain ⟨rfl, hZ, hh⟩ := hP
  have hx := Bd.exec
  have hby := Bd.bytes
  have hml : c.maxLocals = 1 := hml0
  have hown : s.vm.findClass "com/example/grebe/grebe/bench/Tally" = some m.cls := findClass_of_methodNamed Bd.named
  have hnm := (name_of_methodNamed Bd.named Bd.method).1
  have X0 : Stand p l e ({ frames := 0, cells := 0, slots := 0, locals := 0 } : Room) s m #[(.ref a1)] below meth c s₁ [] 0 0 := Stand.of_body Bd
  have e0 : s₁.heap = h0 := by rw [← hh, Bd.state]; rfl
  have N0 := Fr.nil n0
  have pre0 : ∀ t, Steps p.tables e below (s₁.setTop (mkF m 0 #[.val (.ref a1)] [])) t → Steps p.tables e below (s₁.setTop (entryFrame m #[(.ref a1)] 1)) t := fun t k => castTop (ef_rm11_0 m a1) k
  obtain ⟨T1, X1, e1, st1⟩ := getF X0 hx hZ hown (host := "") (Or.inl (hw _ (List.mem_of_getElem? (i := 64) rfl))) Via.refl e0 F_count_a1 (g := (mkF m 1 #[.val (.ref a1)] [(.ref a1)])) rfl rfl (hb hby d11_1)
  obtain ⟨fs, hr, hrun, hended, hW, hsame⟩ := X1.leave (v := some (.long (0 : Int64))) (fun h => by rw [Bd.returns] at h; cases h)
  refine ⟨_, _, pre0 _ ?_, hrun, hended, _, _, rfl, ?_, ⟨_, rfl⟩, hW, hsame.mono (by decide) (by decide)⟩
  ·
    show Steps p.tables e below (s₁.setTop (mkF m 0 #[.val (.ref a1)] [])) _
    refine XS.aloadN X0.here hx rfl (hb hby d11_0) rfl rfl ?_
    show Steps p.tables e below (s₁.setTop (mkF m 1 #[.val (.ref a1)] [(.ref a1)])) _
    refine st1 _ ?_
    show Steps p.tables e below (T1.setTop (mkF m 4 #[.val (.ref a1)] [(.long (0 : Int64))])) _
    jvm_step X1.here [X1.here.top, hx, (hb hby d11_4), X1.method', Bd.returns, narrow]
    first | (intro acts; rw [hr _ acts rfl rfl rfl]) | rw [hr _ _ rfl rfl rfl]
    exact Steps.refl _
  · show Q11_0 Z a1 h0 n0 _ T1.heap _
    rw [e1]
    exact ⟨rfl, N0, rfl⟩
theorem pd_4 : parseMethodDescriptor "()J" = some ⟨[], some .long⟩ := by decide +kernel
theorem d7_0 : decode prog_2_method_4_code 0 = .ok (.aload_n 0, 1) := by decide +kernel
theorem d7_1 : decode prog_2_method_4_code 1 = .ok (.getfield 33, 3) := by decide +kernel
theorem d7_4 : decode prog_2_method_4_code 4 = .ok (.ifCond .eq 14, 3) := by decide +kernel
theorem d7_18 : decode prog_2_method_4_code 18 = .ok (.aload_n 0, 1) := by decide +kernel
theorem d7_19 : decode prog_2_method_4_code 19 = .ok (.lload_n 1, 1) := by decide +kernel
theorem d7_20 : decode prog_2_method_4_code 20 = .ok (.putfield 37, 3) := by decide +kernel
theorem d7_23 : decode prog_2_method_4_code 23 = .ok (.aload_n 0, 1) := by decide +kernel
theorem d7_24 : decode prog_2_method_4_code 24 = .ok (.iconst 1, 1) := by decide +kernel
theorem d7_25 : decode prog_2_method_4_code 25 = .ok (.putfield 33, 3) := by decide +kernel
theorem d7_28 : decode prog_2_method_4_code 28 = .ok (.return_, 1) := by decide +kernel
theorem ef_rm7_0 (m : MethodId) (x0 : Addr) (x1 : Int64) : entryFrame m #[(.ref x0), (.long x1)] 3 = mkF m 0 #[.val (.ref x0), .val (.long x1), .second] [] := by first | (simp [entryFrame, mkF, argsToLocals, Value.category]; done) | rfl
def Q7_0 (Z : State) (a1 : Addr) (q2 : Int64) (a3 : Addr) (h0 : Heap) (n0 : Nat) (v : Option Value) (h : Heap) (L : List Loc) : Prop := v = none ∧ Fr n0 L ∧ Keep h0 h [a1] ∧ Exa Z h a1 "com/example/grebe/grebe/bench/Tally" ∧ Fld Z h a1 "com/example/grebe/grebe/bench/Tally" "times" "[J" (.ref a3) ∧ Fld Z h a1 "com/example/grebe/grebe/bench/Tally" "stopped" "Z" (.int (1 : Int32)) ∧ Fld Z h a1 "com/example/grebe/grebe/bench/Tally" "stop" "J" (.long q2) ∧ Fld Z h a1 "com/example/grebe/grebe/bench/Tally" "count" "J" (.long (0 : Int64))
set_option maxRecDepth 65536 in
set_option maxHeartbeats 40000000 in
theorem rm7_0 (l : Launch) (Z : State) (a0 : Array Value) (hw : ∀ d ∈ tables_1, d.before a0 Z = true) (ws : List Jvm.Cond) (a1 : Addr) (q2 : Int64) (a3 : Addr) (h0 : Heap) (n0 : Nat) (Z0 : n0 ≤ h0.size) (E_a1 : Exa Z h0 a1 "com/example/grebe/grebe/bench/Tally") (F_times_a1 : Fld Z h0 a1 "com/example/grebe/grebe/bench/Tally" "times" "[J" (.ref a3)) (F_stopped_a1 : Fld Z h0 a1 "com/example/grebe/grebe/bench/Tally" "stopped" "Z" (.int (0 : Int32))) (F_stop_a1 : Fld Z h0 a1 "com/example/grebe/grebe/bench/Tally" "stop" "J" (.long (0 : Int64))) (F_count_a1 : Fld Z h0 a1 "com/example/grebe/grebe/bench/Tally" "count" "J" (.long (0 : Int64))) (g_a1 : n0 ≤ a1) :
    MetFree l (⟨"com/example/grebe/grebe/bench/Tally", "stop", "(J)V"⟩ : MethodName) (head1 (Jvm.Cond.code (⟨"com/example/grebe/grebe/bench/Tally", "stop", "(J)V"⟩ : MethodName) prog_2_method_4_code 3 none :: ws) ({ frames := 0, cells := 0, slots := 0, locals := 0 } : Room)) (fun a U => a = #[(.ref a1), (.long q2)] ∧ Z.Warmed39 U.vm ∧ U.heap = h0) (fun _ _ _ _ _ => True) (fun _ U o U' => ∃ v L, o = .returned v ∧ Q7_0 Z a1 q2 a3 h0 n0 v U'.heap L ∧ FrameEnd U o U' L ({ frames := 0, cells := 0, slots := 0, locals := 0 } : Room).cells ({ frames := 0, cells := 0, slots := 0, locals := 0 } : Room).slots) := by
  refine MetFree.of_bodySF (plainFor_of_name pn_0) hisR ?_
  intro p e s m args below meth c s₁ Bd hml0 hP hK
  obtain ⟨rfl, hZ, hh⟩ := hP
  have hx := Bd.exec
  have hby := Bd.bytes
  have hml : c.maxLocals = 3 := hml0
  have hown : s.vm.findClass "com/example/grebe/grebe/bench/Tally" = some m.cls := findClass_of_methodNamed Bd.named
  have hnm := (name_of_methodNamed Bd.named Bd.method).1
  have X0 : Stand p l e ({ frames := 0, cells := 0, slots := 0, locals := 0 } : Room) s m #[(.ref a1), (.long q2)] below meth c s₁ [] 0 0 := Stand.of_body Bd
  have e0 : s₁.heap = h0 := by rw [← hh, Bd.state]; rfl
  have N0 := Fr.nil n0
  have pre0 : ∀ t, Steps p.tables e below (s₁.setTop (mkF m 0 #[.val (.ref a1), .val (.long q2), .second] [])) t → Steps p.tables e below (s₁.setTop (entryFrame m #[(.ref a1), (.long q2)] 3)) t := fun t k => castTop (ef_rm7_0 m a1 q2) k
  obtain ⟨T1, X1, e1, st1⟩ := getF X0 hx hZ hown (host := "") (Or.inl (hw _ (List.mem_of_getElem? (i := 21) rfl))) Via.refl e0 F_stopped_a1 (g := (mkF m 1 #[.val (.ref a1), .val (.long q2), .second] [(.ref a1)])) rfl rfl (hb hby d7_1)
  obtain ⟨T2, h2, X2, e2, W2, st2⟩ := putF X1 hx hZ hown (host := "") (Or.inl (hw _ (List.mem_of_getElem? (i := 40) rfl))) Via.refl e1 F_stop_a1 E_a1 (Or.inl (hw _ (List.mem_of_getElem? (i := 41) rfl))) (hw _ (List.mem_of_getElem? (i := 1) rfl)) (ty := .long) (by decide) rfl rfl (g := (mkF m 20 #[.val (.ref a1), .val (.long q2), .second] [(.long q2), (.ref a1)])) rfl rfl (hb hby d7_20)
  have K2 : Keep h0 h2 [a1] := (Keep.refl h0 [a1]).wr W2 (Or.inl (List.mem_of_getElem? (i := 0) rfl))
  have N2 := Fr.snoc X2 N0 g_a1
  have cf3 := (F_times_a1.other W2 (Or.inr (slot_ne (Or.inl (hw _ (List.mem_of_getElem? (i := 11) rfl))) (Or.inl (hw _ (List.mem_of_getElem? (i := 41) rfl))) (by decide) (t := (.array .long)) (t' := .long) (by decide) (by decide))))
  have cf4 := (F_stopped_a1.other W2 (Or.inr (slot_ne (Or.inl (hw _ (List.mem_of_getElem? (i := 22) rfl))) (Or.inl (hw _ (List.mem_of_getElem? (i := 41) rfl))) (by decide) (t := .boolean) (t' := .long) (by decide) (by decide))))
  have cf5 := (F_count_a1.other W2 (Or.inr (slot_ne (Or.inl (hw _ (List.mem_of_getElem? (i := 65) rfl))) (Or.inl (hw _ (List.mem_of_getElem? (i := 41) rfl))) (by decide) (t := .long) (t' := .long) (by decide) (by decide))))
  have Fw2 := F_stop_a1.same W2
  obtain ⟨T6, h6, X6, e6, W6, st6⟩ := putFN X2 hx hZ hown (hw _ (List.mem_of_getElem? (i := 21) rfl)) Via.refl e2 cf4 (E_a1.wr W2) (Or.inl (hw _ (List.mem_of_getElem? (i := 22) rfl))) (hw _ (List.mem_of_getElem? (i := 1) rfl)) (ty := .boolean) (v' := (.int (1 : Int32))) (by decide) rfl rfl (g := (mkF m 25 #[.val (.ref a1), .val (.long q2), .second] [(.int (1 : Int32)), (.ref a1)])) rfl rfl (hb hby d7_25)
  have K6 : Keep h0 h6 [a1] := K2.wr W6 (Or.inl (List.mem_of_getElem? (i := 0) rfl))
  have N6 := Fr.snoc X6 N2 g_a1
  have cf7 := (cf3.other W6 (Or.inr (slot_ne (Or.inl (hw _ (List.mem_of_getElem? (i := 11) rfl))) (Or.inl (hw _ (List.mem_of_getElem? (i := 22) rfl))) (by decide) (t := (.array .long)) (t' := .boolean) (by decide) (by decide))))
  have cf8 := (Fw2.other W6 (Or.inr (slot_ne (Or.inl (hw _ (List.mem_of_getElem? (i := 41) rfl))) (Or.inl (hw _ (List.mem_of_getElem? (i := 22) rfl))) (by decide) (t := .long) (t' := .boolean) (by decide) (by decide))))
  have cf9 := (cf5.other W6 (Or.inr (slot_ne (Or.inl (hw _ (List.mem_of_getElem? (i := 65) rfl))) (Or.inl (hw _ (List.mem_of_getElem? (i := 22) rfl))) (by decide) (t := .long) (t' := .boolean) (by decide) (by decide))))
  have Fw6 := cf4.same W6
  obtain ⟨fs, hr, hrun, hended, hW, hsame⟩ := X6.leave (v := none) (fun _ => rfl)
  refine ⟨_, _, pre0 _ ?_, hrun, hended, _, _, rfl, ?_, ⟨_, rfl⟩, hW, hsame.mono (by decide) (by decide)⟩
  ·
    show Steps p.tables e below (s₁.setTop (mkF m 0 #[.val (.ref a1), .val (.long q2), .second] [])) _
    refine XS.aloadN X0.here hx rfl (hb hby d7_0) rfl rfl ?_
    show Steps p.tables e below (s₁.setTop (mkF m 1 #[.val (.ref a1), .val (.long q2), .second] [(.ref a1)])) _
    refine st1 _ ?_
    show Steps p.tables e below (T1.setTop (mkF m 4 #[.val (.ref a1), .val (.long q2), .second] [(.int (0 : Int32))])) _
    refine XS.ifYes X1.here hx rfl (pc0 := 4) (pc' := 18) rfl (hb hby d7_4) rfl ((if0 _ _).trans (teq (by decide : (0 : Int32) = (0 : Int32))).1) (by decide) (by decide) ?_
    show Steps p.tables e below (T1.setTop (mkF m 18 #[.val (.ref a1), .val (.long q2), .second] [])) _
    refine XS.aloadN X1.here hx rfl (hb hby d7_18) rfl rfl ?_
    show Steps p.tables e below (T1.setTop (mkF m 19 #[.val (.ref a1), .val (.long q2), .second] [(.ref a1)])) _
    refine XS.lloadN X1.here hx rfl (hb hby d7_19) rfl ?_
    show Steps p.tables e below (T1.setTop (mkF m 20 #[.val (.ref a1), .val (.long q2), .second] [(.long q2), (.ref a1)])) _
    refine st2 _ ?_
    show Steps p.tables e below (T2.setTop (mkF m 23 #[.val (.ref a1), .val (.long q2), .second] [])) _
    refine XS.aloadN X2.here hx rfl (hb hby d7_23) rfl rfl ?_
    show Steps p.tables e below (T2.setTop (mkF m 24 #[.val (.ref a1), .val (.long q2), .second] [(.ref a1)])) _
    refine XS.iconst X2.here hx rfl (hb hby d7_24) ?_
    show Steps p.tables e below (T2.setTop (mkF m 25 #[.val (.ref a1), .val (.long q2), .second] [(.int (1 : Int32)), (.ref a1)])) _
    refine st6 _ ?_
    show Steps p.tables e below (T6.setTop (mkF m 28 #[.val (.ref a1), .val (.long q2), .second] [])) _
    exact X6.returnOut hx Bd.returns (hb hby d7_28) hr
  · show Q7_0 Z a1 q2 a3 h0 n0 _ T6.heap _
    rw [e6]
    exact ⟨rfl, N6, K6, ((E_a1.wr W2).wr W6), cf7, Fw6, cf8, cf9⟩
theorem pd_5 : parseMethodDescriptor "(J)V" = some ⟨[.long], none⟩ := by decide +kernel
theorem d4_7 : decode prog_2_method_7_code 7 = .ok (.aload_n 0, 1) := by decide +kernel
theorem d4_8 : decode prog_2_method_7_code 8 = .ok (.getfield 37, 3) := by decide +kernel
theorem d4_11 : decode prog_2_method_7_code 11 = .ok (.invokestatic 62, 3) := by decide +kernel
theorem d8_0 : decode jdk_2650_method_4_code 0 = .ok (.new 8, 3) := by decide +kernel
theorem d8_3 : decode jdk_2650_method_4_code 3 = .ok (.dup, 1) := by decide +kernel
theorem d8_4 : decode jdk_2650_method_4_code 4 = .ok (.lload_n 0, 1) := by decide +kernel
theorem d8_5 : decode jdk_2650_method_4_code 5 = .ok (.invokespecial 21, 3) := by decide +kernel
theorem d9_0 : decode jdk_2650_method_3_code 0 = .ok (.aload_n 0, 1) := by decide +kernel
theorem d9_1 : decode jdk_2650_method_3_code 1 = .ok (.invokespecial 1, 3) := by decide +kernel
theorem d9_4 : decode jdk_2650_method_3_code 4 = .ok (.aload_n 0, 1) := by decide +kernel
theorem d9_5 : decode jdk_2650_method_3_code 5 = .ok (.iconst 1, 1) := by decide +kernel
theorem d9_6 : decode jdk_2650_method_3_code 6 = .ok (.putfield 7, 3) := by decide +kernel
theorem d9_9 : decode jdk_2650_method_3_code 9 = .ok (.aload_n 0, 1) := by decide +kernel
theorem d9_10 : decode jdk_2650_method_3_code 10 = .ok (.lload_n 1, 1) := by decide +kernel
theorem d9_11 : decode jdk_2650_method_3_code 11 = .ok (.putfield 13, 3) := by decide +kernel
theorem d9_14 : decode jdk_2650_method_3_code 14 = .ok (.return_, 1) := by decide +kernel
theorem ef_rm9_0 (m : MethodId) (x0 : Addr) (x1 : Int64) : entryFrame m #[(.ref x0), (.long x1)] 3 = mkF m 0 #[.val (.ref x0), .val (.long x1), .second] [] := by first | (simp [entryFrame, mkF, argsToLocals, Value.category]; done) | rfl
def Q9_0 (Z : State) (a1 : Addr) (q2 : Int64) (h0 : Heap) (n0 : Nat) (v : Option Value) (h : Heap) (L : List Loc) : Prop := v = none ∧ Fr n0 L ∧ Keep h0 h [a1] ∧ Exa Z h a1 "java/util/OptionalLong" ∧ Fld Z h a1 "java/util/OptionalLong" "isPresent" "Z" (.int (1 : Int32)) ∧ Fld Z h a1 "java/util/OptionalLong" "value" "J" (.long q2)
set_option maxRecDepth 65536 in
set_option maxHeartbeats 40000000 in
theorem rm9_0 (l : Launch) (Z : State) (a0 : Array Value) (hw : ∀ d ∈ tables_1, d.before a0 Z = true) (ws : List Jvm.Cond) (a1 : Addr) (q2 : Int64) (h0 : Heap) (n0 : Nat) (Z0 : n0 ≤ h0.size) (E_a1 : Exa Z h0 a1 "java/util/OptionalLong") (F_isPresent_a1 : Fld Z h0 a1 "java/util/OptionalLong" "isPresent" "Z" (.int (0 : Int32))) (F_value_a1 : Fld Z h0 a1 "java/util/OptionalLong" "value" "J" (.long (0 : Int64))) (g_a1 : n0 ≤ a1) :
    MetFree l (⟨"java/util/OptionalLong", "<init>", "(J)V"⟩ : MethodName) (head1 (Jvm.Cond.code (⟨"java/util/OptionalLong", "<init>", "(J)V"⟩ : MethodName) jdk_2650_method_3_code 3 none :: ws) ({ frames := 1, cells := 0, slots := 0, locals := 12 } : Room)) (fun a U => a = #[(.ref a1), (.long q2)] ∧ Z.Warmed39 U.vm ∧ U.heap = h0) (fun _ _ _ _ _ => True) (fun _ U o U' => ∃ v L, o = .returned v ∧ Q9_0 Z a1 q2 h0 n0 v U'.heap L ∧ FrameEnd U o U' L ({ frames := 1, cells := 0, slots := 0, locals := 12 } : Room).cells ({ frames := 1, cells := 0, slots := 0, locals := 12 } : Room).slots) := by
  refine MetFree.of_bodySF (plainFor_of_name pn_1) hisR ?_
  intro p e s m args below meth c s₁ Bd hml0 hP hK
  obtain ⟨rfl, hZ, hh⟩ := hP
  have hx := Bd.exec
  have hby := Bd.bytes
  have hml : c.maxLocals = 3 := hml0
  have hown : s.vm.findClass "java/util/OptionalLong" = some m.cls := findClass_of_methodNamed Bd.named
  have hnm := (name_of_methodNamed Bd.named Bd.method).1
  have X0 : Stand p l e ({ frames := 1, cells := 0, slots := 0, locals := 12 } : Room) s m #[(.ref a1), (.long q2)] below meth c s₁ [] 0 0 := Stand.of_body Bd
  have e0 : s₁.heap = h0 := by rw [← hh, Bd.state]; rfl
  have N0 := Fr.nil n0
  have pre0 : ∀ t, Steps p.tables e below (s₁.setTop (mkF m 0 #[.val (.ref a1), .val (.long q2), .second] [])) t → Steps p.tables e below (s₁.setTop (entryFrame m #[(.ref a1), (.long q2)] 3)) t := fun t k => castTop (ef_rm9_0 m a1 q2) k
  obtain ⟨T1, X1, e1, st1⟩ := initO X0 hx hZ hown (hw _ (List.mem_of_getElem? (i := 51) rfl)) (hw _ (List.mem_of_getElem? (i := 7) rfl)) (hw _ (List.mem_of_getElem? (i := 8) rfl)) e0 (g := (mkF m 1 #[.val (.ref a1), .val (.long q2), .second] [(.ref a1)])) rfl (by rw [hml]; rfl) rfl (hb hby d9_1) (by decide) (W := 0) (by show 2 * 0 + _ ≤ _; exact Nat.le_of_eq rfl) (by decide)
  obtain ⟨T2, h2, X2, e2, W2, st2⟩ := putFN X1 hx hZ hown (hw _ (List.mem_of_getElem? (i := 33) rfl)) Via.refl e1 F_isPresent_a1 E_a1 (Or.inr ⟨(hw _ (List.mem_of_getElem? (i := 34) rfl)), rfl, hnm⟩) (hw _ (List.mem_of_getElem? (i := 46) rfl)) (ty := .boolean) (v' := (.int (1 : Int32))) (by decide) rfl rfl (g := (mkF m 6 #[.val (.ref a1), .val (.long q2), .second] [(.int (1 : Int32)), (.ref a1)])) rfl rfl (hb hby d9_6)
  have K2 : Keep h0 h2 [a1] := (Keep.refl h0 [a1]).wr W2 (Or.inl (List.mem_of_getElem? (i := 0) rfl))
  have N2 := Fr.snoc X2 N0 g_a1
  have cf3 := (F_value_a1.other W2 (Or.inr (slot_ne (Or.inr (hw _ (List.mem_of_getElem? (i := 53) rfl))) (Or.inr (hw _ (List.mem_of_getElem? (i := 34) rfl))) (by decide) (t := .long) (t' := .boolean) (by decide) (by decide))))
  have Fw2 := F_isPresent_a1.same W2
  obtain ⟨T4, h4, X4, e4, W4, st4⟩ := putF X2 hx hZ hown (host := "") (Or.inl (hw _ (List.mem_of_getElem? (i := 52) rfl))) Via.refl e2 cf3 (E_a1.wr W2) (Or.inr ⟨(hw _ (List.mem_of_getElem? (i := 53) rfl)), rfl, hnm⟩) (hw _ (List.mem_of_getElem? (i := 46) rfl)) (ty := .long) (by decide) rfl rfl (g := (mkF m 11 #[.val (.ref a1), .val (.long q2), .second] [(.long q2), (.ref a1)])) rfl rfl (hb hby d9_11)
  have K4 : Keep h0 h4 [a1] := K2.wr W4 (Or.inl (List.mem_of_getElem? (i := 0) rfl))
  have N4 := Fr.snoc X4 N2 g_a1
  have cf5 := (Fw2.other W4 (Or.inr (slot_ne (Or.inr (hw _ (List.mem_of_getElem? (i := 34) rfl))) (Or.inr (hw _ (List.mem_of_getElem? (i := 53) rfl))) (by decide) (t := .boolean) (t' := .long) (by decide) (by decide))))
  have Fw4 := cf3.same W4
  obtain ⟨fs, hr, hrun, hended, hW, hsame⟩ := X4.leave (v := none) (fun _ => rfl)
  refine ⟨_, _, pre0 _ ?_, hrun, hended, _, _, rfl, ?_, ⟨_, rfl⟩, hW, hsame.mono (by decide) (by decide)⟩
  ·
    show Steps p.tables e below (s₁.setTop (mkF m 0 #[.val (.ref a1), .val (.long q2), .second] [])) _
    refine XS.aloadN X0.here hx rfl (hb hby d9_0) rfl rfl ?_
    show Steps p.tables e below (s₁.setTop (mkF m 1 #[.val (.ref a1), .val (.long q2), .second] [(.ref a1)])) _
    refine st1 _ ?_
    show Steps p.tables e below (T1.setTop (mkF m 4 #[.val (.ref a1), .val (.long q2), .second] [])) _
    refine XS.aloadN X1.here hx rfl (hb hby d9_4) rfl rfl ?_
    show Steps p.tables e below (T1.setTop (mkF m 5 #[.val (.ref a1), .val (.long q2), .second] [(.ref a1)])) _
    refine XS.iconst X1.here hx rfl (hb hby d9_5) ?_
    show Steps p.tables e below (T1.setTop (mkF m 6 #[.val (.ref a1), .val (.long q2), .second] [(.int (1 : Int32)), (.ref a1)])) _
    refine st2 _ ?_
    show Steps p.tables e below (T2.setTop (mkF m 9 #[.val (.ref a1), .val (.long q2), .second] [])) _
    refine XS.aloadN X2.here hx rfl (hb hby d9_9) rfl rfl ?_
    show Steps p.tables e below (T2.setTop (mkF m 10 #[.val (.ref a1), .val (.long q2), .second] [(.ref a1)])) _
    refine XS.lloadN X2.here hx rfl (hb hby d9_10) rfl ?_
    show Steps p.tables e below (T2.setTop (mkF m 11 #[.val (.ref a1), .val (.long q2), .second] [(.long q2), (.ref a1)])) _
    refine st4 _ ?_
    show Steps p.tables e below (T4.setTop (mkF m 14 #[.val (.ref a1), .val (.long q2), .second] [])) _
    exact X4.returnOut hx Bd.returns (hb hby d9_14) hr
  · show Q9_0 Z a1 q2 h0 n0 _ T4.heap _
    rw [e4]
    exact ⟨rfl, N4, K4, ((E_a1.wr W2).wr W4), cf5, Fw4⟩
theorem d8_8 : decode jdk_2650_method_4_code 8 = .ok (.areturn, 1) := by decide +kernel
theorem ef_rm8_0 (m : MethodId) (x0 : Int64) : entryFrame m #[(.long x0)] 2 = mkF m 0 #[.val (.long x0), .second] [] := by first | (simp [entryFrame, mkF, argsToLocals, Value.category]; done) | rfl
def Q8_0 (Z : State) (q1 : Int64) (h0 : Heap) (n0 : Nat) (v : Option Value) (h : Heap) (L : List Loc) : Prop := ∃ b1 : Addr, v = some (.ref b1) ∧ Fr n0 L ∧ Keep h0 h [] ∧ n0 ≤ b1 ∧ h0.size ≤ b1 ∧ Exa Z h b1 "java/util/OptionalLong" ∧ Fld Z h b1 "java/util/OptionalLong" "isPresent" "Z" (.int (1 : Int32)) ∧ Fld Z h b1 "java/util/OptionalLong" "value" "J" (.long q1)
set_option maxRecDepth 65536 in
set_option maxHeartbeats 40000000 in
theorem rm8_0 (l : Launch) (Z : State) (a0 : Array Value) (hw : ∀ d ∈ tables_1, d.before a0 Z = true) (ws : List Jvm.Cond) (q1 : Int64) (h0 : Heap) (n0 : Nat) (Z0 : n0 ≤ h0.size) :
    MetFree l (⟨"java/util/OptionalLong", "of", "(J)Ljava/util/OptionalLong;"⟩ : MethodName) (head1 (Jvm.Cond.code (⟨"java/util/OptionalLong", "of", "(J)Ljava/util/OptionalLong;"⟩ : MethodName) jdk_2650_method_4_code 2 (some (.object "java/util/OptionalLong")) :: ws) ({ frames := 2, cells := 1, slots := 2, locals := 27 } : Room)) (fun a U => a = #[(.long q1)] ∧ Z.Warmed39 U.vm ∧ U.heap = h0) (fun _ _ _ _ _ => True) (fun _ U o U' => ∃ v L, o = .returned v ∧ Q8_0 Z q1 h0 n0 v U'.heap L ∧ FrameEnd U o U' L ({ frames := 2, cells := 1, slots := 2, locals := 27 } : Room).cells ({ frames := 2, cells := 1, slots := 2, locals := 27 } : Room).slots) := by
  refine MetFree.of_bodySF (plainFor_of_name pn_1) hisR ?_
  intro p e s m args below meth c s₁ Bd hml0 hP hK
  obtain ⟨rfl, hZ, hh⟩ := hP
  have hx := Bd.exec
  have hby := Bd.bytes
  have hml : c.maxLocals = 2 := hml0
  have hown : s.vm.findClass "java/util/OptionalLong" = some m.cls := findClass_of_methodNamed Bd.named
  have hnm := (name_of_methodNamed Bd.named Bd.method).1
  have X0 : Stand p l e ({ frames := 2, cells := 1, slots := 2, locals := 27 } : Room) s m #[(.long q1)] below meth c s₁ [] 0 0 := Stand.of_body Bd
  have e0 : s₁.heap = h0 := by rw [← hh, Bd.state]; rfl
  have N0 := Fr.nil n0
  have pre0 : ∀ t, Steps p.tables e below (s₁.setTop (mkF m 0 #[.val (.long q1), .second] [])) t → Steps p.tables e below (s₁.setTop (entryFrame m #[(.long q1)] 2)) t := fun t k => castTop (ef_rm8_0 m q1) k
  obtain ⟨T1, h1, X1, e1, E1, A1, D1, -, st1⟩ := newO X0 hx hZ hown (hw _ (List.mem_of_getElem? (i := 45) rfl)) (hw _ (List.mem_of_getElem? (i := 46) rfl)) (hw _ (List.mem_of_getElem? (i := 25) rfl)) e0 (g := (mkF m 0 #[.val (.long q1), .second] [])) rfl (hb hby d8_0) (by decide) (by decide)
  obtain ⟨b1, g1⟩ : ∃ z, z = h0.size := ⟨_, rfl⟩
  rw [← g1] at A1 D1 st1
  have g_b1 : n0 ≤ b1 := Nat.le_trans Z0 (Nat.le_of_eq g1.symm)
  have sz_b1 : h0.size ≤ b1 := Nat.le_of_eq g1.symm
  have K1 : Keep h0 h1 [] := (Keep.refl h0 []).ext E1
  have F_isPresent_b1 : Fld Z h1 b1 "java/util/OptionalLong" "isPresent" "Z" (.int (0 : Int32)) := D1 (Or.inr (hw _ (List.mem_of_getElem? (i := 34) rfl))) (ty := .boolean) (by decide)
  have F_value_b1 : Fld Z h1 b1 "java/util/OptionalLong" "value" "J" (.long (0 : Int64)) := D1 (Or.inr (hw _ (List.mem_of_getElem? (i := 53) rfl))) (ty := .long) (by decide)
  obtain ⟨_, _, ⟨T2, L2, k2, n2⟩, -, X2, ⟨Lc2, hQ2, l2, y2, z2⟩, st2⟩ := X1.specialBack hx (y := (⟨"java/util/OptionalLong", "<init>", "(J)V"⟩ : MethodName)) rfl hown (mvT hZ (hw _ (List.mem_of_getElem? (i := 47) rfl))) (mvT hZ (hw _ (List.mem_of_getElem? (i := 48) rfl))) (mvT hZ (hw _ (List.mem_of_getElem? (i := 50) rfl))) (by decide) (backOf (W := 1) (rm9_0 l Z a0 hw [] b1 q1 h1 n0 (Nat.le_trans Z0 K1.1) A1 F_isPresent_b1 F_value_b1 g_b1) hZ (hw _ (List.mem_of_getElem? (i := 50) rfl)) (hw _ (List.mem_of_getElem? (i := 25) rfl)) (by decide) (by decide)) (g := (mkF m 5 #[.val (.long q1), .second] [(.long q1), (.ref b1), (.ref b1)])) rfl (by rw [hml]; rfl) (Steps.refl _) (a := b1) (argsL := [(.long q1)]) (rest := [(.ref b1)]) (lenOf pd_5 rfl) rfl (by show 2 * 0 + _ ≤ _; exact Nat.le_of_eq rfl) (hb hby d8_5) (fun _ _ => ⟨rfl, e1, (by decide : 1 + 0 ≤ _), (by decide : 2 + 0 ≤ _)⟩)
  dsimp only [Pt.U, Pt.locs, Pt.cells, Pt.slots] at X2 l2 y2 z2 st2 hQ2
  subst l2 y2 z2
  obtain ⟨rfl, N2q, K2q, Fq2_0, Fq2_1, Fq2_2⟩ := hQ2
  have N2 := Fr.app N0 N2q
  have K2 : Keep h0 T2.heap [] := Keep.trans K1 K2q (allS (Or.inr sz_b1) all0)
  obtain ⟨fs, hr, hrun, hended, hW, hsame⟩ := X2.leave (v := some (.ref b1)) (fun h => by rw [Bd.returns] at h; cases h)
  refine ⟨_, _, pre0 _ ?_, hrun, hended, _, _, rfl, ?_, ⟨_, rfl⟩, hW, hsame.mono (by decide) (by decide)⟩
  ·
    show Steps p.tables e below (s₁.setTop (mkF m 0 #[.val (.long q1), .second] [])) _
    refine st1 _ ?_
    show Steps p.tables e below (T1.setTop (mkF m 3 #[.val (.long q1), .second] [(.ref b1)])) _
    refine XS.dup X1.here hx rfl (hb hby d8_3) rfl rfl ?_
    show Steps p.tables e below (T1.setTop (mkF m 4 #[.val (.long q1), .second] [(.ref b1), (.ref b1)])) _
    refine XS.lloadN X1.here hx rfl (hb hby d8_4) rfl ?_
    show Steps p.tables e below (T1.setTop (mkF m 5 #[.val (.long q1), .second] [(.long q1), (.ref b1), (.ref b1)])) _
    refine st2.trans ?_
    show Steps p.tables e below (T2.setTop (mkF m 8 #[.val (.long q1), .second] [(.ref b1)])) _
    jvm_step X2.here [X2.here.top, hx, (hb hby d8_8), X2.method', Bd.returns, Value.isRef, FieldType.isReference]
    first | (intro acts; rw [hr _ acts rfl rfl rfl]) | rw [hr _ _ rfl rfl rfl]
    exact Steps.refl _
  · show Q8_0 Z q1 h0 n0 _ T2.heap _
    exact ⟨b1, rfl, N2, K2, g_b1, sz_b1, Fq2_0, Fq2_1, Fq2_2⟩
theorem pd_6 : parseMethodDescriptor "(J)Ljava/util/OptionalLong;" = some ⟨[.long], some (.object "java/util/OptionalLong")⟩ := by decide +kernel
theorem d4_14 : decode prog_2_method_7_code 14 = .ok (.goto 6, 3) := by decide +kernel
theorem ef_rm4_1 (m : MethodId) (x0 : Addr) : entryFrame m #[(.ref x0)] 1 = mkF m 0 #[.val (.ref x0)] [] := by first | (simp [entryFrame, mkF, argsToLocals, Value.category]; done) | rfl
def Q4_1 (Z : State) (a1 : Addr) (q3 : Int64) (h0 : Heap) (n0 : Nat) (v : Option Value) (h : Heap) (L : List Loc) : Prop := ∃ b3_0 : Addr, v = some (.ref b3_0) ∧ Fr n0 L ∧ Keep h0 h [] ∧ n0 ≤ b3_0 ∧ h0.size ≤ b3_0 ∧ Exa Z h b3_0 "java/util/OptionalLong" ∧ Fld Z h b3_0 "java/util/OptionalLong" "isPresent" "Z" (.int (1 : Int32)) ∧ Fld Z h b3_0 "java/util/OptionalLong" "value" "J" (.long q3)
set_option maxRecDepth 65536 in
set_option maxHeartbeats 40000000 in
theorem rm4_1 (l : Launch) (Z : State) (a0 : Array Value) (hw : ∀ d ∈ tables_1, d.before a0 Z = true) (ws : List Jvm.Cond) (a1 : Addr) (q3 : Int64) (h0 : Heap) (n0 : Nat) (Z0 : n0 ≤ h0.size) (F_stopped_a1 : Fld Z h0 a1 "com/example/grebe/grebe/bench/Tally" "stopped" "Z" (.int (1 : Int32))) (F_stop_a1 : Fld Z h0 a1 "com/example/grebe/grebe/bench/Tally" "stop" "J" (.long q3)) :
    MetFree l (⟨"com/example/grebe/grebe/bench/Tally", "stopped", "()Ljava/util/OptionalLong;"⟩ : MethodName) (head1 (Jvm.Cond.code (⟨"com/example/grebe/grebe/bench/Tally", "stopped", "()Ljava/util/OptionalLong;"⟩ : MethodName) prog_2_method_7_code 1 (some (.object "java/util/OptionalLong")) :: ws) ({ frames := 3, cells := 1, slots := 2, locals := 40 } : Room)) (fun a U => a = #[(.ref a1)] ∧ Z.Warmed39 U.vm ∧ U.heap = h0) (fun _ _ _ _ _ => True) (fun _ U o U' => ∃ v L, o = .returned v ∧ Q4_1 Z a1 q3 h0 n0 v U'.heap L ∧ FrameEnd U o U' L ({ frames := 3, cells := 1, slots := 2, locals := 40 } : Room).cells ({ frames := 3, cells := 1, slots := 2, locals := 40 } : Room).slots) := by
  refine MetFree.of_bodySF (plainFor_of_name pn_0) hisR ?_
  intro p e s m args below meth c s₁ Bd hml0 hP hK
  obtain ⟨rfl, hZ, hh⟩ := hP
  have hx := Bd.exec
  have hby := Bd.bytes
  have hml : c.maxLocals = 1 := hml0
  have hown : s.vm.findClass "com/example/grebe/grebe/bench/Tally" = some m.cls := findClass_of_methodNamed Bd.named
  have hnm := (name_of_methodNamed Bd.named Bd.method).1
  have X0 : Stand p l e ({ frames := 3, cells := 1, slots := 2, locals := 40 } : Room) s m #[(.ref a1)] below meth c s₁ [] 0 0 := Stand.of_body Bd
  have e0 : s₁.heap = h0 := by rw [← hh, Bd.state]; rfl
  have N0 := Fr.nil n0
  have pre0 : ∀ t, Steps p.tables e below (s₁.setTop (mkF m 0 #[.val (.ref a1)] [])) t → Steps p.tables e below (s₁.setTop (entryFrame m #[(.ref a1)] 1)) t := fun t k => castTop (ef_rm4_1 m a1) k
  obtain ⟨T1, X1, e1, st1⟩ := getF X0 hx hZ hown (host := "") (Or.inl (hw _ (List.mem_of_getElem? (i := 21) rfl))) Via.refl e0 F_stopped_a1 (g := (mkF m 1 #[.val (.ref a1)] [(.ref a1)])) rfl rfl (hb hby d4_1)
  obtain ⟨T2, X2, e2, st2⟩ := getF X1 hx hZ hown (host := "") (Or.inl (hw _ (List.mem_of_getElem? (i := 40) rfl))) Via.refl e1 F_stop_a1 (g := (mkF m 8 #[.val (.ref a1)] [(.ref a1)])) rfl rfl (hb hby d4_8)
  obtain ⟨_, _, ⟨T3, L3, k3, n3⟩, -, X3, ⟨Lc3, hQ3, l3, y3, z3⟩, st3⟩ := Jvm.LawKit.callS X2 hx (y := (⟨"java/util/OptionalLong", "of", "(J)Ljava/util/OptionalLong;"⟩ : MethodName)) hown (mvT hZ (hw _ (List.mem_of_getElem? (i := 42) rfl))) (mvT hZ (hw _ (List.mem_of_getElem? (i := 43) rfl))) (mvT hZ (hw _ (List.mem_of_getElem? (i := 25) rfl))) (mvT hZ (hw _ (List.mem_of_getElem? (i := 44) rfl))) (by decide) (backOf (W := 0) (rm8_0 l Z a0 hw [] q3 h0 n0 Z0 ) hZ (hw _ (List.mem_of_getElem? (i := 44) rfl)) (hw _ (List.mem_of_getElem? (i := 25) rfl)) (by decide) (by decide)) (g := (mkF m 11 #[.val (.ref a1)] [(.long q3)])) rfl (by rw [hml]; rfl) (argsL := [(.long q3)]) (rest := []) (lenOf pd_6 rfl) rfl (by show 2 * 0 + _ ≤ _; exact Nat.le_of_eq rfl) (hb hby d4_11) (fun _ _ => ⟨rfl, e2, (by decide : 0 + 1 ≤ _), (by decide : 0 + 2 ≤ _)⟩)
  dsimp only [Pt.U, Pt.locs, Pt.cells, Pt.slots] at X3 l3 y3 z3 st3 hQ3
  subst l3 y3 z3
  obtain ⟨b3_0, rfl, N3q, K3q, g_b3_0, szq_b3_0, Fq3_0, Fq3_1, Fq3_2⟩ := hQ3
  have N3 := Fr.app N0 N3q
  have K3 : Keep h0 T3.heap [] := Keep.trans (Keep.refl h0 []) K3q all0
  have sz_b3_0 : h0.size ≤ b3_0 := szq_b3_0
  obtain ⟨fs, hr, hrun, hended, hW, hsame⟩ := X3.leave (v := some (.ref b3_0)) (fun h => by rw [Bd.returns] at h; cases h)
  refine ⟨_, _, pre0 _ ?_, hrun, hended, _, _, rfl, ?_, ⟨_, rfl⟩, hW, hsame.mono (by decide) (by decide)⟩
  ·
    show Steps p.tables e below (s₁.setTop (mkF m 0 #[.val (.ref a1)] [])) _
    refine XS.aloadN X0.here hx rfl (hb hby d4_0) rfl rfl ?_
    show Steps p.tables e below (s₁.setTop (mkF m 1 #[.val (.ref a1)] [(.ref a1)])) _
    refine st1 _ ?_
    show Steps p.tables e below (T1.setTop (mkF m 4 #[.val (.ref a1)] [(.int (1 : Int32))])) _
    refine XS.ifNo X1.here hx rfl (hb hby d4_4) rfl ((if0 _ _).trans (feq (by decide : ¬ ((1 : Int32) = (0 : Int32)))).1) ?_
    show Steps p.tables e below (T1.setTop (mkF m 7 #[.val (.ref a1)] [])) _
    refine XS.aloadN X1.here hx rfl (hb hby d4_7) rfl rfl ?_
    show Steps p.tables e below (T1.setTop (mkF m 8 #[.val (.ref a1)] [(.ref a1)])) _
    refine st2 _ ?_
    show Steps p.tables e below (T2.setTop (mkF m 11 #[.val (.ref a1)] [(.long q3)])) _
    refine st3 _ ?_
    show Steps p.tables e below (T3.setTop (mkF m 14 #[.val (.ref a1)] [(.ref b3_0)])) _
    refine XS.goto X3.here hx rfl (pc0 := 14) (pc' := 20) rfl (hb hby d4_14) (by decide) (by decide) ?_
    show Steps p.tables e below (T3.setTop (mkF m 20 #[.val (.ref a1)] [(.ref b3_0)])) _
    jvm_step X3.here [X3.here.top, hx, (hb hby d4_20), X3.method', Bd.returns, Value.isRef, FieldType.isReference]
    first | (intro acts; rw [hr _ acts rfl rfl rfl]) | rw [hr _ _ rfl rfl rfl]
    exact Steps.refl _
  · show Q4_1 Z a1 q3 h0 n0 _ T3.heap _
    exact ⟨b3_0, rfl, N3, K3, g_b3_0, sz_b3_0, Fq3_0, Fq3_1, Fq3_2⟩
theorem d3_24 : decode method_2_code 24 = .ok (.aload 4, 2) := by decide +kernel
theorem d3_26 : decode method_2_code 26 = .ok (.invokevirtual 13, 3) := by decide +kernel
theorem ef_rm6_1 (m : MethodId) (x0 : Addr) : entryFrame m #[(.ref x0)] 1 = mkF m 0 #[.val (.ref x0)] [] := by first | (simp [entryFrame, mkF, argsToLocals, Value.category]; done) | rfl
def Q6_1 (Z : State) (a1 : Addr) (h0 : Heap) (n0 : Nat) (v : Option Value) (h : Heap) (L : List Loc) : Prop := v = some (.int (1 : Int32)) ∧ Fr n0 L ∧ h = h0
set_option maxRecDepth 65536 in
set_option maxHeartbeats 40000000 in
theorem rm6_1 (l : Launch) (Z : State) (a0 : Array Value) (hw : ∀ d ∈ tables_1, d.before a0 Z = true) (ws : List Jvm.Cond) (a1 : Addr) (h0 : Heap) (n0 : Nat) (Z0 : n0 ≤ h0.size) (F_isPresent_a1 : Fld Z h0 a1 "java/util/OptionalLong" "isPresent" "Z" (.int (1 : Int32))) :
    MetFree l (⟨"java/util/OptionalLong", "isPresent", "()Z"⟩ : MethodName) (head1 (Jvm.Cond.code (⟨"java/util/OptionalLong", "isPresent", "()Z"⟩ : MethodName) jdk_2650_method_6_code 1 (some .boolean) :: ws) ({ frames := 0, cells := 0, slots := 0, locals := 0 } : Room)) (fun a U => a = #[(.ref a1)] ∧ Z.Warmed39 U.vm ∧ U.heap = h0) (fun _ _ _ _ _ => True) (fun _ U o U' => ∃ v L, o = .returned v ∧ Q6_1 Z a1 h0 n0 v U'.heap L ∧ FrameEnd U o U' L ({ frames := 0, cells := 0, slots := 0, locals := 0 } : Room).cells ({ frames := 0, cells := 0, slots := 0, locals := 0 } : Room).slots) := by
  refine MetFree.of_bodySF (plainFor_of_name pn_1) hisR ?_
  intro p e s m args below meth c s₁ Bd hml0 hP hK
  obtain ⟨rfl, hZ, hh⟩ := hP
  have hx := Bd.exec
  have hby := Bd.bytes
  have hml : c.maxLocals = 1 := hml0
  have hown : s.vm.findClass "java/util/OptionalLong" = some m.cls := findClass_of_methodNamed Bd.named
  have hnm := (name_of_methodNamed Bd.named Bd.method).1
  have X0 : Stand p l e ({ frames := 0, cells := 0, slots := 0, locals := 0 } : Room) s m #[(.ref a1)] below meth c s₁ [] 0 0 := Stand.of_body Bd
  have e0 : s₁.heap = h0 := by rw [← hh, Bd.state]; rfl
  have N0 := Fr.nil n0
  have pre0 : ∀ t, Steps p.tables e below (s₁.setTop (mkF m 0 #[.val (.ref a1)] [])) t → Steps p.tables e below (s₁.setTop (entryFrame m #[(.ref a1)] 1)) t := fun t k => castTop (ef_rm6_1 m a1) k
  obtain ⟨T1, X1, e1, st1⟩ := getF X0 hx hZ hown (host := "") (Or.inl (hw _ (List.mem_of_getElem? (i := 33) rfl))) Via.refl e0 F_isPresent_a1 (g := (mkF m 1 #[.val (.ref a1)] [(.ref a1)])) rfl rfl (hb hby d6_1)
  obtain ⟨fs, hr, hrun, hended, hW, hsame⟩ := X1.leave (v := some (.int (1 : Int32))) (fun h => by rw [Bd.returns] at h; cases h)
  refine ⟨_, _, pre0 _ ?_, hrun, hended, _, _, rfl, ?_, ⟨_, rfl⟩, hW, hsame.mono (by decide) (by decide)⟩
  ·
    show Steps p.tables e below (s₁.setTop (mkF m 0 #[.val (.ref a1)] [])) _
    refine XS.aloadN X0.here hx rfl (hb hby d6_0) rfl rfl ?_
    show Steps p.tables e below (s₁.setTop (mkF m 1 #[.val (.ref a1)] [(.ref a1)])) _
    refine st1 _ ?_
    show Steps p.tables e below (T1.setTop (mkF m 4 #[.val (.ref a1)] [(.int (1 : Int32))])) _
    exact retN X1 hx (t := .boolean) Bd.returns (by simp) (hb hby d6_4) hr
  · show Q6_1 Z a1 h0 n0 _ T1.heap _
    rw [e1]
    exact ⟨rfl, N0, rfl⟩
theorem d3_29 : decode method_2_code 29 = .ok (.ifCond .eq 17, 3) := by decide +kernel
theorem d3_32 : decode method_2_code 32 = .ok (.aload 4, 2) := by decide +kernel
theorem d3_34 : decode method_2_code 34 = .ok (.invokevirtual 19, 3) := by decide +kernel
theorem d10_0 : decode jdk_2650_method_5_code 0 = .ok (.aload_n 0, 1) := by decide +kernel
theorem d10_1 : decode jdk_2650_method_5_code 1 = .ok (.getfield 7, 3) := by decide +kernel
theorem d10_4 : decode jdk_2650_method_5_code 4 = .ok (.ifCond .ne 13, 3) := by decide +kernel
theorem d10_17 : decode jdk_2650_method_5_code 17 = .ok (.aload_n 0, 1) := by decide +kernel
theorem d10_18 : decode jdk_2650_method_5_code 18 = .ok (.getfield 13, 3) := by decide +kernel
theorem d10_21 : decode jdk_2650_method_5_code 21 = .ok (.lreturn, 1) := by decide +kernel
theorem ef_rm10_0 (m : MethodId) (x0 : Addr) : entryFrame m #[(.ref x0)] 1 = mkF m 0 #[.val (.ref x0)] [] := by first | (simp [entryFrame, mkF, argsToLocals, Value.category]; done) | rfl
def Q10_0 (Z : State) (a1 : Addr) (q2 : Int64) (h0 : Heap) (n0 : Nat) (v : Option Value) (h : Heap) (L : List Loc) : Prop := v = some (.long q2) ∧ Fr n0 L ∧ h = h0
set_option maxRecDepth 65536 in
set_option maxHeartbeats 40000000 in
theorem rm10_0 (l : Launch) (Z : State) (a0 : Array Value) (hw : ∀ d ∈ tables_1, d.before a0 Z = true) (ws : List Jvm.Cond) (a1 : Addr) (q2 : Int64) (h0 : Heap) (n0 : Nat) (Z0 : n0 ≤ h0.size) (F_isPresent_a1 : Fld Z h0 a1 "java/util/OptionalLong" "isPresent" "Z" (.int (1 : Int32))) (F_value_a1 : Fld Z h0 a1 "java/util/OptionalLong" "value" "J" (.long q2)) :
    MetFree l (⟨"java/util/OptionalLong", "getAsLong", "()J"⟩ : MethodName) (head1 (Jvm.Cond.code (⟨"java/util/OptionalLong", "getAsLong", "()J"⟩ : MethodName) jdk_2650_method_5_code 1 (some .long) :: ws) ({ frames := 0, cells := 0, slots := 0, locals := 0 } : Room)) (fun a U => a = #[(.ref a1)] ∧ Z.Warmed39 U.vm ∧ U.heap = h0) (fun _ _ _ _ _ => True) (fun _ U o U' => ∃ v L, o = .returned v ∧ Q10_0 Z a1 q2 h0 n0 v U'.heap L ∧ FrameEnd U o U' L ({ frames := 0, cells := 0, slots := 0, locals := 0 } : Room).cells ({ frames := 0, cells := 0, slots := 0, locals := 0 } : Room).slots) := by
  refine MetFree.of_bodySF (plainFor_of_name pn_1) hisR ?_
  intro p e s m args below meth c s₁ Bd hml0 hP hK
  obtain ⟨rfl, hZ, hh⟩ := hP
  have hx := Bd.exec
  have hby := Bd.bytes
  have hml : c.maxLocals = 1 := hml0
  have hown : s.vm.findClass "java/util/OptionalLong" = some m.cls := findClass_of_methodNamed Bd.named
  have hnm := (name_of_methodNamed Bd.named Bd.method).1
  have X0 : Stand p l e ({ frames := 0, cells := 0, slots := 0, locals := 0 } : Room) s m #[(.ref a1)] below meth c s₁ [] 0 0 := Stand.of_body Bd
  have e0 : s₁.heap = h0 := by rw [← hh, Bd.state]; rfl
  have N0 := Fr.nil n0
  have pre0 : ∀ t, Steps p.tables e below (s₁.setTop (mkF m 0 #[.val (.ref a1)] [])) t → Steps p.tables e below (s₁.setTop (entryFrame m #[(.ref a1)] 1)) t := fun t k => castTop (ef_rm10_0 m a1) k
  obtain ⟨T1, X1, e1, st1⟩ := getF X0 hx hZ hown (host := "") (Or.inl (hw _ (List.mem_of_getElem? (i := 33) rfl))) Via.refl e0 F_isPresent_a1 (g := (mkF m 1 #[.val (.ref a1)] [(.ref a1)])) rfl rfl (hb hby d10_1)
  obtain ⟨T2, X2, e2, st2⟩ := getF X1 hx hZ hown (host := "") (Or.inl (hw _ (List.mem_of_getElem? (i := 52) rfl))) Via.refl e1 F_value_a1 (g := (mkF m 18 #[.val (.ref a1)] [(.ref a1)])) rfl rfl (hb hby d10_18)
  obtain ⟨fs, hr, hrun, hended, hW, hsame⟩ := X2.leave (v := some (.long q2)) (fun h => by rw [Bd.returns] at h; cases h)
  refine ⟨_, _, pre0 _ ?_, hrun, hended, _, _, rfl, ?_, ⟨_, rfl⟩, hW, hsame.mono (by decide) (by decide)⟩
  ·
    show Steps p.tables e below (s₁.setTop (mkF m 0 #[.val (.ref a1)] [])) _
    refine XS.aloadN X0.here hx rfl (hb hby d10_0) rfl rfl ?_
    show Steps p.tables e below (s₁.setTop (mkF m 1 #[.val (.ref a1)] [(.ref a1)])) _
    refine st1 _ ?_
    show Steps p.tables e below (T1.setTop (mkF m 4 #[.val (.ref a1)] [(.int (1 : Int32))])) _
    refine XS.ifYes X1.here hx rfl (pc0 := 4) (pc' := 17) rfl (hb hby d10_4) rfl ((if0 _ _).trans (feq (by decide : ¬ ((1 : Int32) = (0 : Int32)))).2) (by decide) (by decide) ?_
    show Steps p.tables e below (T1.setTop (mkF m 17 #[.val (.ref a1)] [])) _
    refine XS.aloadN X1.here hx rfl (hb hby d10_17) rfl rfl ?_
    show Steps p.tables e below (T1.setTop (mkF m 18 #[.val (.ref a1)] [(.ref a1)])) _
    refine st2 _ ?_
    show Steps p.tables e below (T2.setTop (mkF m 21 #[.val (.ref a1)] [(.long q2)])) _
    jvm_step X2.here [X2.here.top, hx, (hb hby d10_21), X2.method', Bd.returns, narrow]
    first | (intro acts; rw [hr _ acts rfl rfl rfl]) | rw [hr _ _ rfl rfl rfl]
    exact Steps.refl _
  · show Q10_0 Z a1 q2 h0 n0 _ T2.heap _
    rw [e2]
    exact ⟨rfl, N0, rfl⟩
theorem d3_37 : decode method_2_code 37 = .ok (.lload_n 2, 1) := by decide +kernel
theorem d3_38 : decode method_2_code 38 = .ok (.lcmp, 1) := by decide +kernel
theorem d3_39 : decode method_2_code 39 = .ok (.ifCond .ne 7, 3) := by decide +kernel
theorem d3_42 : decode method_2_code 42 = .ok (.iconst 1, 1) := by decide +kernel
theorem d3_43 : decode method_2_code 43 = .ok (.goto 4, 3) := by decide +kernel
theorem d3_47 : decode method_2_code 47 = .ok (.ireturn, 1) := by decide +kernel
theorem ef_rm3_1 (m : MethodId) (x0 : Addr) (x1 : Int64) : entryFrame m #[(.ref x0), (.int (1 : Int32)), (.long x1)] 5 = mkF m 0 #[.val (.ref x0), .val (.int (1 : Int32)), .val (.long x1), .second, .unset] [] := by first | (simp [entryFrame, mkF, argsToLocals, Value.category]; done) | rfl
def Q3_1 (Z : State) (a1 : Addr) (q2 : Int64) (h0 : Heap) (n0 : Nat) (v : Option Value) (h : Heap) (L : List Loc) : Prop := v = some (.int (1 : Int32)) ∧ Fr n0 L ∧ Keep h0 h []
set_option maxRecDepth 65536 in
set_option maxHeartbeats 40000000 in
theorem rm3_1 (l : Launch) (Z : State) (a0 : Array Value) (hw : ∀ d ∈ tables_1, d.before a0 Z = true) (ws : List Jvm.Cond) (a1 : Addr) (q2 : Int64) (h0 : Heap) (n0 : Nat) (Z0 : n0 ≤ h0.size) (E_a1 : Exa Z h0 a1 "com/example/grebe/grebe/bench/Tally") (F_stopped_a1 : Fld Z h0 a1 "com/example/grebe/grebe/bench/Tally" "stopped" "Z" (.int (1 : Int32))) (F_stop_a1 : Fld Z h0 a1 "com/example/grebe/grebe/bench/Tally" "stop" "J" (.long q2)) :
    MetFree l (⟨"com/example/grebe/grebe/bench/TallyStopPinLaw", "matches", "(Lcom/example/grebe/grebe/bench/Tally;ZJ)Z"⟩ : MethodName) (head1 (Jvm.Cond.code (⟨"com/example/grebe/grebe/bench/TallyStopPinLaw", "matches", "(Lcom/example/grebe/grebe/bench/Tally;ZJ)Z"⟩ : MethodName) method_2_code 5 (some .boolean) :: ws) ({ frames := 4, cells := 1, slots := 2, locals := 52 } : Room)) (fun a U => a = #[(.ref a1), (.int (1 : Int32)), (.long q2)] ∧ Z.Warmed39 U.vm ∧ U.heap = h0) (fun _ _ _ _ _ => True) (fun _ U o U' => ∃ v L, o = .returned v ∧ Q3_1 Z a1 q2 h0 n0 v U'.heap L ∧ FrameEnd U o U' L ({ frames := 4, cells := 1, slots := 2, locals := 52 } : Room).cells ({ frames := 4, cells := 1, slots := 2, locals := 52 } : Room).slots) := by
  refine MetFree.of_bodySF (plainFor_of_name pn_2) hisR ?_
  intro p e s m args below meth c s₁ Bd hml0 hP hK
  obtain ⟨rfl, hZ, hh⟩ := hP
  have hx := Bd.exec
  have hby := Bd.bytes
  have hml : c.maxLocals = 5 := hml0
  have hown : s.vm.findClass "com/example/grebe/grebe/bench/TallyStopPinLaw" = some m.cls := findClass_of_methodNamed Bd.named
  have hnm := (name_of_methodNamed Bd.named Bd.method).1
  have X0 : Stand p l e ({ frames := 4, cells := 1, slots := 2, locals := 52 } : Room) s m #[(.ref a1), (.int (1 : Int32)), (.long q2)] below meth c s₁ [] 0 0 := Stand.of_body Bd
  have e0 : s₁.heap = h0 := by rw [← hh, Bd.state]; rfl
  have N0 := Fr.nil n0
  have pre0 : ∀ t, Steps p.tables e below (s₁.setTop (mkF m 0 #[.val (.ref a1), .val (.int (1 : Int32)), .val (.long q2), .second, .unset] [])) t → Steps p.tables e below (s₁.setTop (entryFrame m #[(.ref a1), (.int (1 : Int32)), (.long q2)] 5)) t := fun t k => castTop (ef_rm3_1 m a1 q2) k
  obtain ⟨cq1, kq1, q1a, q1b, q1c⟩ := isOf hZ e0 E_a1
  obtain ⟨_, _, ⟨T1, L1, k1, n1⟩, -, X1, ⟨Lc1, hQ1, l1, y1, z1⟩, st1⟩ := X0.virtualBack hx (y := (⟨"com/example/grebe/grebe/bench/Tally", "stopped", "()Ljava/util/OptionalLong;"⟩ : MethodName)) (z := (⟨"com/example/grebe/grebe/bench/Tally", "stopped", "()Ljava/util/OptionalLong;"⟩ : MethodName)) hown (mvT hZ (hw _ (List.mem_of_getElem? (i := 16) rfl))) (mvT hZ (hw _ (List.mem_of_getElem? (i := 17) rfl))) (notFace_of_selects (args := #[]) (mvT hZ (hw _ (List.mem_of_getElem? (i := 19) rfl)))) (mvT hZ (hw _ (List.mem_of_getElem? (i := 19) rfl))) (mvT hZ (hw _ (List.mem_of_getElem? (i := 18) rfl))) (by decide) (backOf (W := 0) (rm4_1 l Z a0 hw [] a1 q2 h0 n0 Z0 F_stopped_a1 F_stop_a1) hZ (hw _ (List.mem_of_getElem? (i := 20) rfl)) (hw _ (List.mem_of_getElem? (i := 2) rfl)) (by decide) (by decide)) q1a q1c (g := (mkF m 1 #[.val (.ref a1), .val (.int (1 : Int32)), .val (.long q2), .second, .unset] [(.ref a1)])) rfl (by rw [hml]; rfl) (Steps.refl _) (argsL := []) (rest := []) (lenOf pd_1 rfl) rfl (by show 2 * 0 + _ ≤ _; exact Nat.le_of_eq rfl) (hb hby d3_1) (fun _ _ => ⟨rfl, e0, (by decide : 0 + 1 ≤ _), (by decide : 0 + 2 ≤ _)⟩)
  dsimp only [Pt.U, Pt.locs, Pt.cells, Pt.slots] at X1 l1 y1 z1 st1 hQ1
  subst l1 y1 z1
  obtain ⟨b1_0, rfl, N1q, K1q, g_b1_0, szq_b1_0, Fq1_0, Fq1_1, Fq1_2⟩ := hQ1
  have N1 := Fr.app N0 N1q
  have K1 : Keep h0 T1.heap [] := Keep.trans (Keep.refl h0 []) K1q all0
  have sz_b1_0 : h0.size ≤ b1_0 := szq_b1_0
  obtain ⟨cq2, kq2, q2a, q2b, q2c⟩ := isOf hZ rfl Fq1_0
  obtain ⟨_, _, ⟨T2, L2, k2, n2⟩, -, X2, ⟨Lc2, hQ2, l2, y2, z2⟩, st2⟩ := X1.virtualBack hx (y := (⟨"java/util/OptionalLong", "isPresent", "()Z"⟩ : MethodName)) (z := (⟨"java/util/OptionalLong", "isPresent", "()Z"⟩ : MethodName)) hown (mvT hZ (hw _ (List.mem_of_getElem? (i := 28) rfl))) (mvT hZ (hw _ (List.mem_of_getElem? (i := 29) rfl))) (notFace_of_selects (args := #[]) (mvT hZ (hw _ (List.mem_of_getElem? (i := 31) rfl)))) (mvT hZ (hw _ (List.mem_of_getElem? (i := 31) rfl))) (mvT hZ (hw _ (List.mem_of_getElem? (i := 30) rfl))) (by decide) (backOf (W := 0) (rm6_1 l Z a0 hw [] b1_0 T1.heap n0 (Nat.le_trans Z0 K1.1) Fq1_1) hZ (hw _ (List.mem_of_getElem? (i := 32) rfl)) (hw _ (List.mem_of_getElem? (i := 25) rfl)) (by decide) (by decide)) q2a q2c (g := (mkF m 26 #[.val (.ref a1), .val (.int (1 : Int32)), .val (.long q2), .second, .val (.ref b1_0)] [(.ref b1_0)])) rfl (by rw [hml]; rfl) (Steps.refl _) (argsL := []) (rest := []) (lenOf pd_2 rfl) rfl (by show 2 * 0 + _ ≤ _; exact Nat.le_of_eq rfl) (hb hby d3_26) (fun _ _ => ⟨rfl, rfl, (by decide : 1 + 0 ≤ _), (by decide : 2 + 0 ≤ _)⟩)
  dsimp only [Pt.U, Pt.locs, Pt.cells, Pt.slots] at X2 l2 y2 z2 st2 hQ2
  subst l2 y2 z2
  obtain ⟨rfl, N2q, e2⟩ := hQ2
  have N2 := Fr.app N1 N2q
  obtain ⟨cq3, kq3, q3a, q3b, q3c⟩ := isOf hZ e2 Fq1_0
  obtain ⟨_, _, ⟨T3, L3, k3, n3⟩, -, X3, ⟨Lc3, hQ3, l3, y3, z3⟩, st3⟩ := X2.virtualBack hx (y := (⟨"java/util/OptionalLong", "getAsLong", "()J"⟩ : MethodName)) (z := (⟨"java/util/OptionalLong", "getAsLong", "()J"⟩ : MethodName)) hown (mvT hZ (hw _ (List.mem_of_getElem? (i := 54) rfl))) (mvT hZ (hw _ (List.mem_of_getElem? (i := 55) rfl))) (notFace_of_selects (args := #[]) (mvT hZ (hw _ (List.mem_of_getElem? (i := 57) rfl)))) (mvT hZ (hw _ (List.mem_of_getElem? (i := 57) rfl))) (mvT hZ (hw _ (List.mem_of_getElem? (i := 56) rfl))) (by decide) (backOf (W := 0) (rm10_0 l Z a0 hw [] b1_0 q2 T1.heap n0 (Nat.le_trans Z0 K1.1) Fq1_1 Fq1_2) hZ (hw _ (List.mem_of_getElem? (i := 58) rfl)) (hw _ (List.mem_of_getElem? (i := 25) rfl)) (by decide) (by decide)) q3a q3c (g := (mkF m 34 #[.val (.ref a1), .val (.int (1 : Int32)), .val (.long q2), .second, .val (.ref b1_0)] [(.ref b1_0)])) rfl (by rw [hml]; rfl) (Steps.refl _) (argsL := []) (rest := []) (lenOf pd_4 rfl) rfl (by show 2 * 0 + _ ≤ _; exact Nat.le_of_eq rfl) (hb hby d3_34) (fun _ _ => ⟨rfl, e2, (by decide : 1 + 0 ≤ _), (by decide : 2 + 0 ≤ _)⟩)
  dsimp only [Pt.U, Pt.locs, Pt.cells, Pt.slots] at X3 l3 y3 z3 st3 hQ3
  subst l3 y3 z3
  obtain ⟨rfl, N3q, e3⟩ := hQ3
  have N3 := Fr.app N2 N3q
  obtain ⟨fs, hr, hrun, hended, hW, hsame⟩ := X3.leave (v := some (.int (1 : Int32))) (fun h => by rw [Bd.returns] at h; cases h)
  refine ⟨_, _, pre0 _ ?_, hrun, hended, _, _, rfl, ?_, ⟨_, rfl⟩, hW, hsame.mono (by decide) (by decide)⟩
  ·
    show Steps p.tables e below (s₁.setTop (mkF m 0 #[.val (.ref a1), .val (.int (1 : Int32)), .val (.long q2), .second, .unset] [])) _
    refine XS.aloadN X0.here hx rfl (hb hby d3_0) rfl rfl ?_
    show Steps p.tables e below (s₁.setTop (mkF m 1 #[.val (.ref a1), .val (.int (1 : Int32)), .val (.long q2), .second, .unset] [(.ref a1)])) _
    refine st1.trans ?_
    show Steps p.tables e below (T1.setTop (mkF m 4 #[.val (.ref a1), .val (.int (1 : Int32)), .val (.long q2), .second, .unset] [(.ref b1_0)])) _
    refine XS.astore X1.here hx rfl (hb hby d3_4) rfl rfl (l' := #[.val (.ref a1), .val (.int (1 : Int32)), .val (.long q2), .second, .val (.ref b1_0)]) rfl ?_
    show Steps p.tables e below (T1.setTop (mkF m 6 #[.val (.ref a1), .val (.int (1 : Int32)), .val (.long q2), .second, .val (.ref b1_0)] [])) _
    refine XS.iloadN X1.here hx rfl (hb hby d3_6) rfl ?_
    show Steps p.tables e below (T1.setTop (mkF m 7 #[.val (.ref a1), .val (.int (1 : Int32)), .val (.long q2), .second, .val (.ref b1_0)] [(.int (1 : Int32))])) _
    refine XS.ifYes X1.here hx rfl (pc0 := 7) (pc' := 24) rfl (hb hby d3_7) rfl ((if0 _ _).trans (feq (by decide : ¬ ((1 : Int32) = (0 : Int32)))).2) (by decide) (by decide) ?_
    show Steps p.tables e below (T1.setTop (mkF m 24 #[.val (.ref a1), .val (.int (1 : Int32)), .val (.long q2), .second, .val (.ref b1_0)] [])) _
    refine XS.aload X1.here hx rfl (hb hby d3_24) rfl rfl ?_
    show Steps p.tables e below (T1.setTop (mkF m 26 #[.val (.ref a1), .val (.int (1 : Int32)), .val (.long q2), .second, .val (.ref b1_0)] [(.ref b1_0)])) _
    refine st2.trans ?_
    show Steps p.tables e below (T2.setTop (mkF m 29 #[.val (.ref a1), .val (.int (1 : Int32)), .val (.long q2), .second, .val (.ref b1_0)] [(.int (1 : Int32))])) _
    refine XS.ifNo X2.here hx rfl (hb hby d3_29) rfl ((if0 _ _).trans (feq (by decide : ¬ ((1 : Int32) = (0 : Int32)))).1) ?_
    show Steps p.tables e below (T2.setTop (mkF m 32 #[.val (.ref a1), .val (.int (1 : Int32)), .val (.long q2), .second, .val (.ref b1_0)] [])) _
    refine XS.aload X2.here hx rfl (hb hby d3_32) rfl rfl ?_
    show Steps p.tables e below (T2.setTop (mkF m 34 #[.val (.ref a1), .val (.int (1 : Int32)), .val (.long q2), .second, .val (.ref b1_0)] [(.ref b1_0)])) _
    refine st3.trans ?_
    show Steps p.tables e below (T3.setTop (mkF m 37 #[.val (.ref a1), .val (.int (1 : Int32)), .val (.long q2), .second, .val (.ref b1_0)] [(.long q2)])) _
    refine XS.lloadN X3.here hx rfl (hb hby d3_37) rfl ?_
    show Steps p.tables e below (T3.setTop (mkF m 38 #[.val (.ref a1), .val (.int (1 : Int32)), .val (.long q2), .second, .val (.ref b1_0)] [(.long q2), (.long q2)])) _
    refine XS.lcmp X3.here hx rfl (hb hby d3_38) rfl ?_
    show Steps p.tables e below (T3.setTop (mkF m 39 #[.val (.ref a1), .val (.int (1 : Int32)), .val (.long q2), .second, .val (.ref b1_0)] [(.int (lcmpW q2 q2))])) _
    rewrite [(lw_eq q2 q2).mpr rfl]
    show Steps p.tables e below (T3.setTop (mkF m 39 #[.val (.ref a1), .val (.int (1 : Int32)), .val (.long q2), .second, .val (.ref b1_0)] [(.int (0 : Int32))])) _
    refine XS.ifNo X3.here hx rfl (hb hby d3_39) rfl ((if0 _ _).trans (teq (by decide : (0 : Int32) = (0 : Int32))).2) ?_
    show Steps p.tables e below (T3.setTop (mkF m 42 #[.val (.ref a1), .val (.int (1 : Int32)), .val (.long q2), .second, .val (.ref b1_0)] [])) _
    refine XS.iconst X3.here hx rfl (hb hby d3_42) ?_
    show Steps p.tables e below (T3.setTop (mkF m 43 #[.val (.ref a1), .val (.int (1 : Int32)), .val (.long q2), .second, .val (.ref b1_0)] [(.int (1 : Int32))])) _
    refine XS.goto X3.here hx rfl (pc0 := 43) (pc' := 47) rfl (hb hby d3_43) (by decide) (by decide) ?_
    show Steps p.tables e below (T3.setTop (mkF m 47 #[.val (.ref a1), .val (.int (1 : Int32)), .val (.long q2), .second, .val (.ref b1_0)] [(.int (1 : Int32))])) _
    exact retN X3 hx (t := .boolean) Bd.returns (by simp) (hb hby d3_47) hr
  · show Q3_1 Z a1 q2 h0 n0 _ T3.heap _
    rw [e3]
    exact ⟨rfl, N3, K1⟩
theorem ef_rm11_1 (m : MethodId) (x0 : Addr) : entryFrame m #[(.ref x0)] 1 = mkF m 0 #[.val (.ref x0)] [] := by first | (simp [entryFrame, mkF, argsToLocals, Value.category]; done) | rfl
def Q11_1 (Z : State) (a1 : Addr) (h0 : Heap) (n0 : Nat) (v : Option Value) (h : Heap) (L : List Loc) : Prop := v = some (.long (0 : Int64)) ∧ Fr n0 L ∧ h = h0
set_option maxRecDepth 65536 in
set_option maxHeartbeats 40000000 in
theorem rm11_1 (l : Launch) (Z : State) (a0 : Array Value) (hw : ∀ d ∈ tables_1, d.before a0 Z = true) (ws : List Jvm.Cond) (a1 : Addr) (h0 : Heap) (n0 : Nat) (Z0 : n0 ≤ h0.size) (F_count_a1 : Fld Z h0 a1 "com/example/grebe/grebe/bench/Tally" "count" "J" (.long (0 : Int64))) :
    MetFree l (⟨"com/example/grebe/grebe/bench/Tally", "count", "()J"⟩ : MethodName) (head1 (Jvm.Cond.code (⟨"com/example/grebe/grebe/bench/Tally", "count", "()J"⟩ : MethodName) prog_2_method_6_code 1 (some .long) :: ws) ({ frames := 0, cells := 0, slots := 0, locals := 0 } : Room)) (fun a U => a = #[(.ref a1)] ∧ Z.Warmed39 U.vm ∧ U.heap = h0) (fun _ _ _ _ _ => True) (fun _ U o U' => ∃ v L, o = .returned v ∧ Q11_1 Z a1 h0 n0 v U'.heap L ∧ FrameEnd U o U' L ({ frames := 0, cells := 0, slots := 0, locals := 0 } : Room).cells ({ frames := 0, cells := 0, slots := 0, locals := 0 } : Room).slots) := by
  refine MetFree.of_bodySF (plainFor_of_name pn_0) hisR ?_
  intro p e s m args below meth c s₁ Bd hml0 hP hK
  obtain ⟨rfl, hZ, hh⟩ := hP
  have hx := Bd.exec
  have hby := Bd.bytes
  have hml : c.maxLocals = 1 := hml0
  have hown : s.vm.findClass "com/example/grebe/grebe/bench/Tally" = some m.cls := findClass_of_methodNamed Bd.named
  have hnm := (name_of_methodNamed Bd.named Bd.method).1
  have X0 : Stand p l e ({ frames := 0, cells := 0, slots := 0, locals := 0 } : Room) s m #[(.ref a1)] below meth c s₁ [] 0 0 := Stand.of_body Bd
  have e0 : s₁.heap = h0 := by rw [← hh, Bd.state]; rfl
  have N0 := Fr.nil n0
  have pre0 : ∀ t, Steps p.tables e below (s₁.setTop (mkF m 0 #[.val (.ref a1)] [])) t → Steps p.tables e below (s₁.setTop (entryFrame m #[(.ref a1)] 1)) t := fun t k => castTop (ef_rm11_1 m a1) k
  obtain ⟨T1, X1, e1, st1⟩ := getF X0 hx hZ hown (host := "") (Or.inl (hw _ (List.mem_of_getElem? (i := 64) rfl))) Via.refl e0 F_count_a1 (g := (mkF m 1 #[.val (.ref a1)] [(.ref a1)])) rfl rfl (hb hby d11_1)
  obtain ⟨fs, hr, hrun, hended, hW, hsame⟩ := X1.leave (v := some (.long (0 : Int64))) (fun h => by rw [Bd.returns] at h; cases h)
  refine ⟨_, _, pre0 _ ?_, hrun, hended, _, _, rfl, ?_, ⟨_, rfl⟩, hW, hsame.mono (by decide) (by decide)⟩
  ·
    show Steps p.tables e below (s₁.setTop (mkF m 0 #[.val (.ref a1)] [])) _
    refine XS.aloadN X0.here hx rfl (hb hby d11_0) rfl rfl ?_
    show Steps p.tables e below (s₁.setTop (mkF m 1 #[.val (.ref a1)] [(.ref a1)])) _
    refine st1 _ ?_
    show Steps p.tables e below (T1.setTop (mkF m 4 #[.val (.ref a1)] [(.long (0 : Int64))])) _
    jvm_step X1.here [X1.here.top, hx, (hb hby d11_4), X1.method', Bd.returns, narrow]
    first | (intro acts; rw [hr _ acts rfl rfl rfl]) | rw [hr _ _ rfl rfl rfl]
    exact Steps.refl _
  · show Q11_1 Z a1 h0 n0 _ T1.heap _
    rw [e1]
    exact ⟨rfl, N0, rfl⟩
theorem d7_7 : decode prog_2_method_4_code 7 = .ok (.lload_n 1, 1) := by decide +kernel
theorem d7_8 : decode prog_2_method_4_code 8 = .ok (.aload_n 0, 1) := by decide +kernel
theorem d7_9 : decode prog_2_method_4_code 9 = .ok (.getfield 37, 3) := by decide +kernel
theorem d7_12 : decode prog_2_method_4_code 12 = .ok (.lsub, 1) := by decide +kernel
theorem d7_13 : decode prog_2_method_4_code 13 = .ok (.lconst 0, 1) := by decide +kernel
theorem d7_14 : decode prog_2_method_4_code 14 = .ok (.lcmp, 1) := by decide +kernel
theorem d7_15 : decode prog_2_method_4_code 15 = .ok (.ifCond .le 13, 3) := by decide +kernel
theorem ef_rm7_1 (m : MethodId) (x0 : Addr) (x1 : Int64) : entryFrame m #[(.ref x0), (.long x1)] 3 = mkF m 0 #[.val (.ref x0), .val (.long x1), .second] [] := by first | (simp [entryFrame, mkF, argsToLocals, Value.category]; done) | rfl
def Q7_1 (Z : State) (a1 : Addr) (q2 : Int64) (a3 : Addr) (q4 : Int64) (h0 : Heap) (n0 : Nat) (v : Option Value) (h : Heap) (L : List Loc) : Prop := v = none ∧ Fr n0 L ∧ Keep h0 h [a1] ∧ Exa Z h a1 "com/example/grebe/grebe/bench/Tally" ∧ Fld Z h a1 "com/example/grebe/grebe/bench/Tally" "times" "[J" (.ref a3) ∧ Fld Z h a1 "com/example/grebe/grebe/bench/Tally" "stopped" "Z" (.int (1 : Int32)) ∧ Fld Z h a1 "com/example/grebe/grebe/bench/Tally" "stop" "J" (.long q2) ∧ Fld Z h a1 "com/example/grebe/grebe/bench/Tally" "count" "J" (.long (0 : Int64))
set_option maxRecDepth 65536 in
set_option maxHeartbeats 40000000 in
theorem rm7_1 (l : Launch) (Z : State) (a0 : Array Value) (hw : ∀ d ∈ tables_1, d.before a0 Z = true) (ws : List Jvm.Cond) (a1 : Addr) (q2 : Int64) (a3 : Addr) (q4 : Int64) (h0 : Heap) (n0 : Nat) (Z0 : n0 ≤ h0.size) (E_a1 : Exa Z h0 a1 "com/example/grebe/grebe/bench/Tally") (F_times_a1 : Fld Z h0 a1 "com/example/grebe/grebe/bench/Tally" "times" "[J" (.ref a3)) (F_stopped_a1 : Fld Z h0 a1 "com/example/grebe/grebe/bench/Tally" "stopped" "Z" (.int (1 : Int32))) (F_stop_a1 : Fld Z h0 a1 "com/example/grebe/grebe/bench/Tally" "stop" "J" (.long q4)) (F_count_a1 : Fld Z h0 a1 "com/example/grebe/grebe/bench/Tally" "count" "J" (.long (0 : Int64))) (hq0 : (0 : Int32) < (lcmpW (q2 - q4) (0 : Int64))) (g_a1 : n0 ≤ a1) :
    MetFree l (⟨"com/example/grebe/grebe/bench/Tally", "stop", "(J)V"⟩ : MethodName) (head1 (Jvm.Cond.code (⟨"com/example/grebe/grebe/bench/Tally", "stop", "(J)V"⟩ : MethodName) prog_2_method_4_code 3 none :: ws) ({ frames := 0, cells := 0, slots := 0, locals := 0 } : Room)) (fun a U => a = #[(.ref a1), (.long q2)] ∧ Z.Warmed39 U.vm ∧ U.heap = h0) (fun _ _ _ _ _ => True) (fun _ U o U' => ∃ v L, o = .returned v ∧ Q7_1 Z a1 q2 a3 q4 h0 n0 v U'.heap L ∧ FrameEnd U o U' L ({ frames := 0, cells := 0, slots := 0, locals := 0 } : Room).cells ({ frames := 0, cells := 0, slots := 0, locals := 0 } : Room).slots) := by
  refine MetFree.of_bodySF (plainFor_of_name pn_0) hisR ?_
  intro p e s m args below meth c s₁ Bd hml0 hP hK
  obtain ⟨rfl, hZ, hh⟩ := hP
  have hx := Bd.exec
  have hby := Bd.bytes
  have hml : c.maxLocals = 3 := hml0
  have hown : s.vm.findClass "com/example/grebe/grebe/bench/Tally" = some m.cls := findClass_of_methodNamed Bd.named
  have hnm := (name_of_methodNamed Bd.named Bd.method).1
  have X0 : Stand p l e ({ frames := 0, cells := 0, slots := 0, locals := 0 } : Room) s m #[(.ref a1), (.long q2)] below meth c s₁ [] 0 0 := Stand.of_body Bd
  have e0 : s₁.heap = h0 := by rw [← hh, Bd.state]; rfl
  have N0 := Fr.nil n0
  have pre0 : ∀ t, Steps p.tables e below (s₁.setTop (mkF m 0 #[.val (.ref a1), .val (.long q2), .second] [])) t → Steps p.tables e below (s₁.setTop (entryFrame m #[(.ref a1), (.long q2)] 3)) t := fun t k => castTop (ef_rm7_1 m a1 q2) k
  obtain ⟨T1, X1, e1, st1⟩ := getF X0 hx hZ hown (host := "") (Or.inl (hw _ (List.mem_of_getElem? (i := 21) rfl))) Via.refl e0 F_stopped_a1 (g := (mkF m 1 #[.val (.ref a1), .val (.long q2), .second] [(.ref a1)])) rfl rfl (hb hby d7_1)
  obtain ⟨T2, X2, e2, st2⟩ := getF X1 hx hZ hown (host := "") (Or.inl (hw _ (List.mem_of_getElem? (i := 40) rfl))) Via.refl e1 F_stop_a1 (g := (mkF m 9 #[.val (.ref a1), .val (.long q2), .second] [(.ref a1), (.long q2)])) rfl rfl (hb hby d7_9)
  obtain ⟨T3, h3, X3, e3, W3, st3⟩ := putF X2 hx hZ hown (host := "") (Or.inl (hw _ (List.mem_of_getElem? (i := 40) rfl))) Via.refl e2 F_stop_a1 E_a1 (Or.inl (hw _ (List.mem_of_getElem? (i := 41) rfl))) (hw _ (List.mem_of_getElem? (i := 1) rfl)) (ty := .long) (by decide) rfl rfl (g := (mkF m 20 #[.val (.ref a1), .val (.long q2), .second] [(.long q2), (.ref a1)])) rfl rfl (hb hby d7_20)
  have K3 : Keep h0 h3 [a1] := (Keep.refl h0 [a1]).wr W3 (Or.inl (List.mem_of_getElem? (i := 0) rfl))
  have N3 := Fr.snoc X3 N0 g_a1
  have cf4 := (F_times_a1.other W3 (Or.inr (slot_ne (Or.inl (hw _ (List.mem_of_getElem? (i := 11) rfl))) (Or.inl (hw _ (List.mem_of_getElem? (i := 41) rfl))) (by decide) (t := (.array .long)) (t' := .long) (by decide) (by decide))))
  have cf5 := (F_stopped_a1.other W3 (Or.inr (slot_ne (Or.inl (hw _ (List.mem_of_getElem? (i := 22) rfl))) (Or.inl (hw _ (List.mem_of_getElem? (i := 41) rfl))) (by decide) (t := .boolean) (t' := .long) (by decide) (by decide))))
  have cf6 := (F_count_a1.other W3 (Or.inr (slot_ne (Or.inl (hw _ (List.mem_of_getElem? (i := 65) rfl))) (Or.inl (hw _ (List.mem_of_getElem? (i := 41) rfl))) (by decide) (t := .long) (t' := .long) (by decide) (by decide))))
  have Fw3 := F_stop_a1.same W3
  obtain ⟨T7, h7, X7, e7, W7, st7⟩ := putFN X3 hx hZ hown (hw _ (List.mem_of_getElem? (i := 21) rfl)) Via.refl e3 cf5 (E_a1.wr W3) (Or.inl (hw _ (List.mem_of_getElem? (i := 22) rfl))) (hw _ (List.mem_of_getElem? (i := 1) rfl)) (ty := .boolean) (v' := (.int (1 : Int32))) (by decide) rfl rfl (g := (mkF m 25 #[.val (.ref a1), .val (.long q2), .second] [(.int (1 : Int32)), (.ref a1)])) rfl rfl (hb hby d7_25)
  have K7 : Keep h0 h7 [a1] := K3.wr W7 (Or.inl (List.mem_of_getElem? (i := 0) rfl))
  have N7 := Fr.snoc X7 N3 g_a1
  have cf8 := (cf4.other W7 (Or.inr (slot_ne (Or.inl (hw _ (List.mem_of_getElem? (i := 11) rfl))) (Or.inl (hw _ (List.mem_of_getElem? (i := 22) rfl))) (by decide) (t := (.array .long)) (t' := .boolean) (by decide) (by decide))))
  have cf9 := (Fw3.other W7 (Or.inr (slot_ne (Or.inl (hw _ (List.mem_of_getElem? (i := 41) rfl))) (Or.inl (hw _ (List.mem_of_getElem? (i := 22) rfl))) (by decide) (t := .long) (t' := .boolean) (by decide) (by decide))))
  have cf10 := (cf6.other W7 (Or.inr (slot_ne (Or.inl (hw _ (List.mem_of_getElem? (i := 65) rfl))) (Or.inl (hw _ (List.mem_of_getElem? (i := 22) rfl))) (by decide) (t := .long) (t' := .boolean) (by decide) (by decide))))
  have Fw7 := cf5.same W7
  obtain ⟨fs, hr, hrun, hended, hW, hsame⟩ := X7.leave (v := none) (fun _ => rfl)
  refine ⟨_, _, pre0 _ ?_, hrun, hended, _, _, rfl, ?_, ⟨_, rfl⟩, hW, hsame.mono (by decide) (by decide)⟩
  ·
    show Steps p.tables e below (s₁.setTop (mkF m 0 #[.val (.ref a1), .val (.long q2), .second] [])) _
    refine XS.aloadN X0.here hx rfl (hb hby d7_0) rfl rfl ?_
    show Steps p.tables e below (s₁.setTop (mkF m 1 #[.val (.ref a1), .val (.long q2), .second] [(.ref a1)])) _
    refine st1 _ ?_
    show Steps p.tables e below (T1.setTop (mkF m 4 #[.val (.ref a1), .val (.long q2), .second] [(.int (1 : Int32))])) _
    refine XS.ifNo X1.here hx rfl (hb hby d7_4) rfl ((if0 _ _).trans (feq (by decide : ¬ ((1 : Int32) = (0 : Int32)))).1) ?_
    show Steps p.tables e below (T1.setTop (mkF m 7 #[.val (.ref a1), .val (.long q2), .second] [])) _
    refine XS.lloadN X1.here hx rfl (hb hby d7_7) rfl ?_
    show Steps p.tables e below (T1.setTop (mkF m 8 #[.val (.ref a1), .val (.long q2), .second] [(.long q2)])) _
    refine XS.aloadN X1.here hx rfl (hb hby d7_8) rfl rfl ?_
    show Steps p.tables e below (T1.setTop (mkF m 9 #[.val (.ref a1), .val (.long q2), .second] [(.ref a1), (.long q2)])) _
    refine st2 _ ?_
    show Steps p.tables e below (T2.setTop (mkF m 12 #[.val (.ref a1), .val (.long q2), .second] [(.long q4), (.long q2)])) _
    refine XS.lsub X2.here hx rfl (hb hby d7_12) rfl ?_
    show Steps p.tables e below (T2.setTop (mkF m 13 #[.val (.ref a1), .val (.long q2), .second] [(.long (q2 - q4))])) _
    refine XS.lconst X2.here hx rfl (hb hby d7_13) ?_
    show Steps p.tables e below (T2.setTop (mkF m 14 #[.val (.ref a1), .val (.long q2), .second] [(.long (0 : Int64)), (.long (q2 - q4))])) _
    refine XS.lcmp X2.here hx rfl (hb hby d7_14) rfl ?_
    show Steps p.tables e below (T2.setTop (mkF m 15 #[.val (.ref a1), .val (.long q2), .second] [(.int (lcmpW (q2 - q4) (0 : Int64)))])) _
    refine XS.ifNo X2.here hx rfl (hb hby d7_15) rfl ((if0 _ _).trans (tlt hq0).2.2.2) ?_
    show Steps p.tables e below (T2.setTop (mkF m 18 #[.val (.ref a1), .val (.long q2), .second] [])) _
    refine XS.aloadN X2.here hx rfl (hb hby d7_18) rfl rfl ?_
    show Steps p.tables e below (T2.setTop (mkF m 19 #[.val (.ref a1), .val (.long q2), .second] [(.ref a1)])) _
    refine XS.lloadN X2.here hx rfl (hb hby d7_19) rfl ?_
    show Steps p.tables e below (T2.setTop (mkF m 20 #[.val (.ref a1), .val (.long q2), .second] [(.long q2), (.ref a1)])) _
    refine st3 _ ?_
    show Steps p.tables e below (T3.setTop (mkF m 23 #[.val (.ref a1), .val (.long q2), .second] [])) _
    refine XS.aloadN X3.here hx rfl (hb hby d7_23) rfl rfl ?_
    show Steps p.tables e below (T3.setTop (mkF m 24 #[.val (.ref a1), .val (.long q2), .second] [(.ref a1)])) _
    refine XS.iconst X3.here hx rfl (hb hby d7_24) ?_
    show Steps p.tables e below (T3.setTop (mkF m 25 #[.val (.ref a1), .val (.long q2), .second] [(.int (1 : Int32)), (.ref a1)])) _
    refine st7 _ ?_
    show Steps p.tables e below (T7.setTop (mkF m 28 #[.val (.ref a1), .val (.long q2), .second] [])) _
    exact X7.returnOut hx Bd.returns (hb hby d7_28) hr
  · show Q7_1 Z a1 q2 a3 q4 h0 n0 _ T7.heap _
    rw [e7]
    exact ⟨rfl, N7, K7, ((E_a1.wr W3).wr W7), cf8, Fw7, cf9, cf10⟩
theorem d12_0 : decode method_3_code 0 = .ok (.lload_n 0, 1) := by decide +kernel
theorem d12_1 : decode method_3_code 1 = .ok (.lload_n 2, 1) := by decide +kernel
theorem d12_2 : decode method_3_code 2 = .ok (.lsub, 1) := by decide +kernel
theorem d12_3 : decode method_3_code 3 = .ok (.lstore 4, 2) := by decide +kernel
theorem d12_5 : decode method_3_code 5 = .ok (.lload 4, 2) := by decide +kernel
theorem d12_7 : decode method_3_code 7 = .ok (.lconst 0, 1) := by decide +kernel
theorem d12_8 : decode method_3_code 8 = .ok (.lcmp, 1) := by decide +kernel
theorem d12_9 : decode method_3_code 9 = .ok (.ifCond .le 7, 3) := by decide +kernel
theorem d12_12 : decode method_3_code 12 = .ok (.iconst 1, 1) := by decide +kernel
theorem d12_13 : decode method_3_code 13 = .ok (.goto 4, 3) := by decide +kernel
theorem d12_17 : decode method_3_code 17 = .ok (.ireturn, 1) := by decide +kernel
theorem ef_rm12_0 (m : MethodId) (x0 : Int64) (x1 : Int64) : entryFrame m #[(.long x0), (.long x1)] 6 = mkF m 0 #[.val (.long x0), .second, .val (.long x1), .second, .unset, .unset] [] := by first | (simp [entryFrame, mkF, argsToLocals, Value.category]; done) | rfl
def Q12_0 (Z : State) (q1 : Int64) (q2 : Int64) (h0 : Heap) (n0 : Nat) (v : Option Value) (h : Heap) (L : List Loc) : Prop := v = some (.int (1 : Int32)) ∧ Fr n0 L ∧ h = h0
set_option maxRecDepth 65536 in
set_option maxHeartbeats 40000000 in
theorem rm12_0 (l : Launch) (Z : State) (a0 : Array Value) (hw : ∀ d ∈ tables_1, d.before a0 Z = true) (ws : List Jvm.Cond) (q1 : Int64) (q2 : Int64) (h0 : Heap) (n0 : Nat) (Z0 : n0 ≤ h0.size) (hq0 : (0 : Int32) < (lcmpW (q1 - q2) (0 : Int64))) :
    MetFree l (⟨"com/example/grebe/grebe/bench/TallyStopPinLaw", "laterThan", "(JJ)Z"⟩ : MethodName) (head1 (Jvm.Cond.code (⟨"com/example/grebe/grebe/bench/TallyStopPinLaw", "laterThan", "(JJ)Z"⟩ : MethodName) method_3_code 6 (some .boolean) :: ws) ({ frames := 0, cells := 0, slots := 0, locals := 0 } : Room)) (fun a U => a = #[(.long q1), (.long q2)] ∧ Z.Warmed39 U.vm ∧ U.heap = h0) (fun _ _ _ _ _ => True) (fun _ U o U' => ∃ v L, o = .returned v ∧ Q12_0 Z q1 q2 h0 n0 v U'.heap L ∧ FrameEnd U o U' L ({ frames := 0, cells := 0, slots := 0, locals := 0 } : Room).cells ({ frames := 0, cells := 0, slots := 0, locals := 0 } : Room).slots) := by
  refine MetFree.of_bodySF (plainFor_of_name pn_2) hisR ?_
  intro p e s m args below meth c s₁ Bd hml0 hP hK
  obtain ⟨rfl, hZ, hh⟩ := hP
  have hx := Bd.exec
  have hby := Bd.bytes
  have hml : c.maxLocals = 6 := hml0
  have hown : s.vm.findClass "com/example/grebe/grebe/bench/TallyStopPinLaw" = some m.cls := findClass_of_methodNamed Bd.named
  have hnm := (name_of_methodNamed Bd.named Bd.method).1
  have X0 : Stand p l e ({ frames := 0, cells := 0, slots := 0, locals := 0 } : Room) s m #[(.long q1), (.long q2)] below meth c s₁ [] 0 0 := Stand.of_body Bd
  have e0 : s₁.heap = h0 := by rw [← hh, Bd.state]; rfl
  have N0 := Fr.nil n0
  have pre0 : ∀ t, Steps p.tables e below (s₁.setTop (mkF m 0 #[.val (.long q1), .second, .val (.long q2), .second, .unset, .unset] [])) t → Steps p.tables e below (s₁.setTop (entryFrame m #[(.long q1), (.long q2)] 6)) t := fun t k => castTop (ef_rm12_0 m q1 q2) k
  obtain ⟨fs, hr, hrun, hended, hW, hsame⟩ := X0.leave (v := some (.int (1 : Int32))) (fun h => by rw [Bd.returns] at h; cases h)
  refine ⟨_, _, pre0 _ ?_, hrun, hended, _, _, rfl, ?_, ⟨_, rfl⟩, hW, hsame.mono (by decide) (by decide)⟩
  ·
    show Steps p.tables e below (s₁.setTop (mkF m 0 #[.val (.long q1), .second, .val (.long q2), .second, .unset, .unset] [])) _
    refine XS.lloadN X0.here hx rfl (hb hby d12_0) rfl ?_
    show Steps p.tables e below (s₁.setTop (mkF m 1 #[.val (.long q1), .second, .val (.long q2), .second, .unset, .unset] [(.long q1)])) _
    refine XS.lloadN X0.here hx rfl (hb hby d12_1) rfl ?_
    show Steps p.tables e below (s₁.setTop (mkF m 2 #[.val (.long q1), .second, .val (.long q2), .second, .unset, .unset] [(.long q2), (.long q1)])) _
    refine XS.lsub X0.here hx rfl (hb hby d12_2) rfl ?_
    show Steps p.tables e below (s₁.setTop (mkF m 3 #[.val (.long q1), .second, .val (.long q2), .second, .unset, .unset] [(.long (q1 - q2))])) _
    refine XS.lstore X0.here hx rfl (hb hby d12_3) rfl (l' := #[.val (.long q1), .second, .val (.long q2), .second, .val (.long (q1 - q2)), .second]) rfl ?_
    show Steps p.tables e below (s₁.setTop (mkF m 5 #[.val (.long q1), .second, .val (.long q2), .second, .val (.long (q1 - q2)), .second] [])) _
    refine XS.lload X0.here hx rfl (hb hby d12_5) rfl ?_
    show Steps p.tables e below (s₁.setTop (mkF m 7 #[.val (.long q1), .second, .val (.long q2), .second, .val (.long (q1 - q2)), .second] [(.long (q1 - q2))])) _
    refine XS.lconst X0.here hx rfl (hb hby d12_7) ?_
    show Steps p.tables e below (s₁.setTop (mkF m 8 #[.val (.long q1), .second, .val (.long q2), .second, .val (.long (q1 - q2)), .second] [(.long (0 : Int64)), (.long (q1 - q2))])) _
    refine XS.lcmp X0.here hx rfl (hb hby d12_8) rfl ?_
    show Steps p.tables e below (s₁.setTop (mkF m 9 #[.val (.long q1), .second, .val (.long q2), .second, .val (.long (q1 - q2)), .second] [(.int (lcmpW (q1 - q2) (0 : Int64)))])) _
    refine XS.ifNo X0.here hx rfl (hb hby d12_9) rfl ((if0 _ _).trans (tlt hq0).2.2.2) ?_
    show Steps p.tables e below (s₁.setTop (mkF m 12 #[.val (.long q1), .second, .val (.long q2), .second, .val (.long (q1 - q2)), .second] [])) _
    refine XS.iconst X0.here hx rfl (hb hby d12_12) ?_
    show Steps p.tables e below (s₁.setTop (mkF m 13 #[.val (.long q1), .second, .val (.long q2), .second, .val (.long (q1 - q2)), .second] [(.int (1 : Int32))])) _
    refine XS.goto X0.here hx rfl (pc0 := 13) (pc' := 17) rfl (hb hby d12_13) (by decide) (by decide) ?_
    show Steps p.tables e below (s₁.setTop (mkF m 17 #[.val (.long q1), .second, .val (.long q2), .second, .val (.long (q1 - q2)), .second] [(.int (1 : Int32))])) _
    exact retN X0 hx (t := .boolean) Bd.returns (by simp) (hb hby d12_17) hr
  · show Q12_0 Z q1 q2 h0 n0 _ s₁.heap _
    rw [e0]
    exact ⟨rfl, N0, rfl⟩
theorem pd_7 : parseMethodDescriptor "(JJ)Z" = some ⟨[.long, .long], some .boolean⟩ := by decide +kernel
theorem ef_rm7_2 (m : MethodId) (x0 : Addr) (x1 : Int64) : entryFrame m #[(.ref x0), (.long x1)] 3 = mkF m 0 #[.val (.ref x0), .val (.long x1), .second] [] := by first | (simp [entryFrame, mkF, argsToLocals, Value.category]; done) | rfl
def Q7_2 (Z : State) (a1 : Addr) (q2 : Int64) (q4 : Int64) (h0 : Heap) (n0 : Nat) (v : Option Value) (h : Heap) (L : List Loc) : Prop := v = none ∧ Fr n0 L ∧ h = h0
set_option maxRecDepth 65536 in
set_option maxHeartbeats 40000000 in
theorem rm7_2 (l : Launch) (Z : State) (a0 : Array Value) (hw : ∀ d ∈ tables_1, d.before a0 Z = true) (ws : List Jvm.Cond) (a1 : Addr) (q2 : Int64) (q4 : Int64) (h0 : Heap) (n0 : Nat) (Z0 : n0 ≤ h0.size) (F_stopped_a1 : Fld Z h0 a1 "com/example/grebe/grebe/bench/Tally" "stopped" "Z" (.int (1 : Int32))) (F_stop_a1 : Fld Z h0 a1 "com/example/grebe/grebe/bench/Tally" "stop" "J" (.long q4)) (hq0 : ¬ ((0 : Int32) < (lcmpW (q2 - q4) (0 : Int64)))) :
    MetFree l (⟨"com/example/grebe/grebe/bench/Tally", "stop", "(J)V"⟩ : MethodName) (head1 (Jvm.Cond.code (⟨"com/example/grebe/grebe/bench/Tally", "stop", "(J)V"⟩ : MethodName) prog_2_method_4_code 3 none :: ws) ({ frames := 0, cells := 0, slots := 0, locals := 0 } : Room)) (fun a U => a = #[(.ref a1), (.long q2)] ∧ Z.Warmed39 U.vm ∧ U.heap = h0) (fun _ _ _ _ _ => True) (fun _ U o U' => ∃ v L, o = .returned v ∧ Q7_2 Z a1 q2 q4 h0 n0 v U'.heap L ∧ FrameEnd U o U' L ({ frames := 0, cells := 0, slots := 0, locals := 0 } : Room).cells ({ frames := 0, cells := 0, slots := 0, locals := 0 } : Room).slots) := by
  refine MetFree.of_bodySF (plainFor_of_name pn_0) hisR ?_
  intro p e s m args below meth c s₁ Bd hml0 hP hK
  obtain ⟨rfl, hZ, hh⟩ := hP
  have hx := Bd.exec
  have hby := Bd.bytes
  have hml : c.maxLocals = 3 := hml0
  have hown : s.vm.findClass "com/example/grebe/grebe/bench/Tally" = some m.cls := findClass_of_methodNamed Bd.named
  have hnm := (name_of_methodNamed Bd.named Bd.method).1
  have X0 : Stand p l e ({ frames := 0, cells := 0, slots := 0, locals := 0 } : Room) s m #[(.ref a1), (.long q2)] below meth c s₁ [] 0 0 := Stand.of_body Bd
  have e0 : s₁.heap = h0 := by rw [← hh, Bd.state]; rfl
  have N0 := Fr.nil n0
  have pre0 : ∀ t, Steps p.tables e below (s₁.setTop (mkF m 0 #[.val (.ref a1), .val (.long q2), .second] [])) t → Steps p.tables e below (s₁.setTop (entryFrame m #[(.ref a1), (.long q2)] 3)) t := fun t k => castTop (ef_rm7_2 m a1 q2) k
  obtain ⟨T1, X1, e1, st1⟩ := getF X0 hx hZ hown (host := "") (Or.inl (hw _ (List.mem_of_getElem? (i := 21) rfl))) Via.refl e0 F_stopped_a1 (g := (mkF m 1 #[.val (.ref a1), .val (.long q2), .second] [(.ref a1)])) rfl rfl (hb hby d7_1)
  obtain ⟨T2, X2, e2, st2⟩ := getF X1 hx hZ hown (host := "") (Or.inl (hw _ (List.mem_of_getElem? (i := 40) rfl))) Via.refl e1 F_stop_a1 (g := (mkF m 9 #[.val (.ref a1), .val (.long q2), .second] [(.ref a1), (.long q2)])) rfl rfl (hb hby d7_9)
  obtain ⟨fs, hr, hrun, hended, hW, hsame⟩ := X2.leave (v := none) (fun _ => rfl)
  refine ⟨_, _, pre0 _ ?_, hrun, hended, _, _, rfl, ?_, ⟨_, rfl⟩, hW, hsame.mono (by decide) (by decide)⟩
  ·
    show Steps p.tables e below (s₁.setTop (mkF m 0 #[.val (.ref a1), .val (.long q2), .second] [])) _
    refine XS.aloadN X0.here hx rfl (hb hby d7_0) rfl rfl ?_
    show Steps p.tables e below (s₁.setTop (mkF m 1 #[.val (.ref a1), .val (.long q2), .second] [(.ref a1)])) _
    refine st1 _ ?_
    show Steps p.tables e below (T1.setTop (mkF m 4 #[.val (.ref a1), .val (.long q2), .second] [(.int (1 : Int32))])) _
    refine XS.ifNo X1.here hx rfl (hb hby d7_4) rfl ((if0 _ _).trans (feq (by decide : ¬ ((1 : Int32) = (0 : Int32)))).1) ?_
    show Steps p.tables e below (T1.setTop (mkF m 7 #[.val (.ref a1), .val (.long q2), .second] [])) _
    refine XS.lloadN X1.here hx rfl (hb hby d7_7) rfl ?_
    show Steps p.tables e below (T1.setTop (mkF m 8 #[.val (.ref a1), .val (.long q2), .second] [(.long q2)])) _
    refine XS.aloadN X1.here hx rfl (hb hby d7_8) rfl rfl ?_
    show Steps p.tables e below (T1.setTop (mkF m 9 #[.val (.ref a1), .val (.long q2), .second] [(.ref a1), (.long q2)])) _
    refine st2 _ ?_
    show Steps p.tables e below (T2.setTop (mkF m 12 #[.val (.ref a1), .val (.long q2), .second] [(.long q4), (.long q2)])) _
    refine XS.lsub X2.here hx rfl (hb hby d7_12) rfl ?_
    show Steps p.tables e below (T2.setTop (mkF m 13 #[.val (.ref a1), .val (.long q2), .second] [(.long (q2 - q4))])) _
    refine XS.lconst X2.here hx rfl (hb hby d7_13) ?_
    show Steps p.tables e below (T2.setTop (mkF m 14 #[.val (.ref a1), .val (.long q2), .second] [(.long (0 : Int64)), (.long (q2 - q4))])) _
    refine XS.lcmp X2.here hx rfl (hb hby d7_14) rfl ?_
    show Steps p.tables e below (T2.setTop (mkF m 15 #[.val (.ref a1), .val (.long q2), .second] [(.int (lcmpW (q2 - q4) (0 : Int64)))])) _
    refine XS.ifYes X2.here hx rfl (pc0 := 15) (pc' := 28) rfl (hb hby d7_15) rfl ((if0 _ _).trans (flt hq0).2.2.2) (by decide) (by decide) ?_
    show Steps p.tables e below (T2.setTop (mkF m 28 #[.val (.ref a1), .val (.long q2), .second] [])) _
    exact X2.returnOut hx Bd.returns (hb hby d7_28) hr
  · show Q7_2 Z a1 q2 q4 h0 n0 _ T2.heap _
    rw [e2]
    exact ⟨rfl, N0, rfl⟩
theorem d12_16 : decode method_3_code 16 = .ok (.iconst 0, 1) := by decide +kernel
theorem ef_rm12_1 (m : MethodId) (x0 : Int64) (x1 : Int64) : entryFrame m #[(.long x0), (.long x1)] 6 = mkF m 0 #[.val (.long x0), .second, .val (.long x1), .second, .unset, .unset] [] := by first | (simp [entryFrame, mkF, argsToLocals, Value.category]; done) | rfl
def Q12_1 (Z : State) (q1 : Int64) (q2 : Int64) (h0 : Heap) (n0 : Nat) (v : Option Value) (h : Heap) (L : List Loc) : Prop := v = some (.int (0 : Int32)) ∧ Fr n0 L ∧ h = h0
set_option maxRecDepth 65536 in
set_option maxHeartbeats 40000000 in
theorem rm12_1 (l : Launch) (Z : State) (a0 : Array Value) (hw : ∀ d ∈ tables_1, d.before a0 Z = true) (ws : List Jvm.Cond) (q1 : Int64) (q2 : Int64) (h0 : Heap) (n0 : Nat) (Z0 : n0 ≤ h0.size) (hq0 : ¬ ((0 : Int32) < (lcmpW (q1 - q2) (0 : Int64)))) :
    MetFree l (⟨"com/example/grebe/grebe/bench/TallyStopPinLaw", "laterThan", "(JJ)Z"⟩ : MethodName) (head1 (Jvm.Cond.code (⟨"com/example/grebe/grebe/bench/TallyStopPinLaw", "laterThan", "(JJ)Z"⟩ : MethodName) method_3_code 6 (some .boolean) :: ws) ({ frames := 0, cells := 0, slots := 0, locals := 0 } : Room)) (fun a U => a = #[(.long q1), (.long q2)] ∧ Z.Warmed39 U.vm ∧ U.heap = h0) (fun _ _ _ _ _ => True) (fun _ U o U' => ∃ v L, o = .returned v ∧ Q12_1 Z q1 q2 h0 n0 v U'.heap L ∧ FrameEnd U o U' L ({ frames := 0, cells := 0, slots := 0, locals := 0 } : Room).cells ({ frames := 0, cells := 0, slots := 0, locals := 0 } : Room).slots) := by
  refine MetFree.of_bodySF (plainFor_of_name pn_2) hisR ?_
  intro p e s m args below meth c s₁ Bd hml0 hP hK
  obtain ⟨rfl, hZ, hh⟩ := hP
  have hx := Bd.exec
  have hby := Bd.bytes
  have hml : c.maxLocals = 6 := hml0
  have hown : s.vm.findClass "com/example/grebe/grebe/bench/TallyStopPinLaw" = some m.cls := findClass_of_methodNamed Bd.named
  have hnm := (name_of_methodNamed Bd.named Bd.method).1
  have X0 : Stand p l e ({ frames := 0, cells := 0, slots := 0, locals := 0 } : Room) s m #[(.long q1), (.long q2)] below meth c s₁ [] 0 0 := Stand.of_body Bd
  have e0 : s₁.heap = h0 := by rw [← hh, Bd.state]; rfl
  have N0 := Fr.nil n0
  have pre0 : ∀ t, Steps p.tables e below (s₁.setTop (mkF m 0 #[.val (.long q1), .second, .val (.long q2), .second, .unset, .unset] [])) t → Steps p.tables e below (s₁.setTop (entryFrame m #[(.long q1), (.long q2)] 6)) t := fun t k => castTop (ef_rm12_1 m q1 q2) k
  obtain ⟨fs, hr, hrun, hended, hW, hsame⟩ := X0.leave (v := some (.int (0 : Int32))) (fun h => by rw [Bd.returns] at h; cases h)
  refine ⟨_, _, pre0 _ ?_, hrun, hended, _, _, rfl, ?_, ⟨_, rfl⟩, hW, hsame.mono (by decide) (by decide)⟩
  ·
    show Steps p.tables e below (s₁.setTop (mkF m 0 #[.val (.long q1), .second, .val (.long q2), .second, .unset, .unset] [])) _
    refine XS.lloadN X0.here hx rfl (hb hby d12_0) rfl ?_
    show Steps p.tables e below (s₁.setTop (mkF m 1 #[.val (.long q1), .second, .val (.long q2), .second, .unset, .unset] [(.long q1)])) _
    refine XS.lloadN X0.here hx rfl (hb hby d12_1) rfl ?_
    show Steps p.tables e below (s₁.setTop (mkF m 2 #[.val (.long q1), .second, .val (.long q2), .second, .unset, .unset] [(.long q2), (.long q1)])) _
    refine XS.lsub X0.here hx rfl (hb hby d12_2) rfl ?_
    show Steps p.tables e below (s₁.setTop (mkF m 3 #[.val (.long q1), .second, .val (.long q2), .second, .unset, .unset] [(.long (q1 - q2))])) _
    refine XS.lstore X0.here hx rfl (hb hby d12_3) rfl (l' := #[.val (.long q1), .second, .val (.long q2), .second, .val (.long (q1 - q2)), .second]) rfl ?_
    show Steps p.tables e below (s₁.setTop (mkF m 5 #[.val (.long q1), .second, .val (.long q2), .second, .val (.long (q1 - q2)), .second] [])) _
    refine XS.lload X0.here hx rfl (hb hby d12_5) rfl ?_
    show Steps p.tables e below (s₁.setTop (mkF m 7 #[.val (.long q1), .second, .val (.long q2), .second, .val (.long (q1 - q2)), .second] [(.long (q1 - q2))])) _
    refine XS.lconst X0.here hx rfl (hb hby d12_7) ?_
    show Steps p.tables e below (s₁.setTop (mkF m 8 #[.val (.long q1), .second, .val (.long q2), .second, .val (.long (q1 - q2)), .second] [(.long (0 : Int64)), (.long (q1 - q2))])) _
    refine XS.lcmp X0.here hx rfl (hb hby d12_8) rfl ?_
    show Steps p.tables e below (s₁.setTop (mkF m 9 #[.val (.long q1), .second, .val (.long q2), .second, .val (.long (q1 - q2)), .second] [(.int (lcmpW (q1 - q2) (0 : Int64)))])) _
    refine XS.ifYes X0.here hx rfl (pc0 := 9) (pc' := 16) rfl (hb hby d12_9) rfl ((if0 _ _).trans (flt hq0).2.2.2) (by decide) (by decide) ?_
    show Steps p.tables e below (s₁.setTop (mkF m 16 #[.val (.long q1), .second, .val (.long q2), .second, .val (.long (q1 - q2)), .second] [])) _
    refine XS.iconst X0.here hx rfl (hb hby d12_16) ?_
    show Steps p.tables e below (s₁.setTop (mkF m 17 #[.val (.long q1), .second, .val (.long q2), .second, .val (.long (q1 - q2)), .second] [(.int (0 : Int32))])) _
    exact retN X0 hx (t := .boolean) Bd.returns (by simp) (hb hby d12_17) hr
  · show Q12_1 Z q1 q2 h0 n0 _ s₁.heap _
    rw [e0]
    exact ⟨rfl, N0, rfl⟩
theorem ef_rm0_0 (m : MethodId) (x0 : Int64) (x1 : Int64) (x2 : Int64) (x3 : Int32) : entryFrame m #[(.long x0), (.long x1), (.long x2), (.int x3)] maxLocals = mkF m 0 #[.val (.long x0), .second, .val (.long x1), .second, .val (.long x2), .second, .val (.int x3), .unset, .unset, .unset, .unset, .unset] [] := by first | (simp [entryFrame, mkF, argsToLocals, Value.category, maxLocals]; done) | rfl
def Q0_0 (Z : State) (q1 : Int64) (q2 : Int64) (q3 : Int64) (p4 : Int32) (w_EMPTY : Addr) (h0 : Heap) (n0 : Nat) (v : Option Value) (h : Heap) (L : List Loc) : Prop := v = some (.int (1 : Int32)) ∧ Fr n0 L
set_option maxRecDepth 65536 in
set_option maxHeartbeats 40000000 in
theorem rm0_0 (l : Launch) (Z : State) (a0 : Array Value) (hw : ∀ d ∈ tables_1, d.before a0 Z = true) (ws : List Jvm.Cond) (q1 : Int64) (q2 : Int64) (q3 : Int64) (p4 : Int32) (w_EMPTY : Addr) (h0 : Heap) (n0 : Nat) (Z0 : n0 ≤ h0.size) (S_EMPTY : Sta Z h0 "java/util/OptionalLong" "EMPTY" "Ljava/util/OptionalLong;" (.ref w_EMPTY)) (E_EMPTY : Exa Z h0 w_EMPTY "java/util/OptionalLong") (F_isPresent_EMPTY : Fld Z h0 w_EMPTY "java/util/OptionalLong" "isPresent" "Z" (.int (0 : Int32))) :
    MetFree l x (head1 (Jvm.Cond.code x code maxLocals ret :: ws) room_1) (fun a U => a = #[(.long q1), (.long q2), (.long q3), (.int p4)] ∧ Z.Warmed39 U.vm ∧ U.heap = h0) (fun _ _ _ _ _ => True) (fun _ U o U' => ∃ v L, o = .returned v ∧ Q0_0 Z q1 q2 q3 p4 w_EMPTY h0 n0 v U'.heap L ∧ FrameEnd U o U' L room_1.cells room_1.slots) := by
  refine MetFree.of_bodySF (plainFor_of_name pn_2) hisR ?_
  intro p e s m args below meth c s₁ Bd hml0 hP hK
  obtain ⟨rfl, hZ, hh⟩ := hP
  have hx := Bd.exec
  have hby := Bd.bytes
  have hml : c.maxLocals = 12 := hml0
  have hown : s.vm.findClass "com/example/grebe/grebe/bench/TallyStopPinLaw" = some m.cls := findClass_of_methodNamed Bd.named
  have hnm := (name_of_methodNamed Bd.named Bd.method).1
  have X0 : Stand p l e room_1 s m #[(.long q1), (.long q2), (.long q3), (.int p4)] below meth c s₁ [] 0 0 := Stand.of_body Bd
  have e0 : s₁.heap = h0 := by rw [← hh, Bd.state]; rfl
  have N0 := Fr.nil n0
  have pre0 : ∀ t, Steps p.tables e below (s₁.setTop (mkF m 0 #[.val (.long q1), .second, .val (.long q2), .second, .val (.long q3), .second, .val (.int p4), .unset, .unset, .unset, .unset, .unset] [])) t → Steps p.tables e below (s₁.setTop (entryFrame m #[(.long q1), (.long q2), (.long q3), (.int p4)] maxLocals)) t := fun t k => castTop (ef_rm0_0 m q1 q2 q3 p4) k
  have k1 : ∀ t, Steps p.tables e below (s₁.setTop (mkF m 5 #[.val (.long q1), .second, .val (.long q2), .second, .val (.long q3), .second, .val (.int p4), .unset, .unset, .unset, .unset, .unset] [(.int (p4 &&& (8 : Int32)))])) t → Steps p.tables e below (s₁.setTop (entryFrame m #[(.long q1), (.long q2), (.long q3), (.int p4)] maxLocals)) t := by
    intro t k
    refine pre0 t ?_
    show Steps p.tables e below (s₁.setTop (mkF m 0 #[.val (.long q1), .second, .val (.long q2), .second, .val (.long q3), .second, .val (.int p4), .unset, .unset, .unset, .unset, .unset] [])) _
    refine XS.iload X0.here hx rfl (hb hby at_0) rfl ?_
    show Steps p.tables e below (s₁.setTop (mkF m 2 #[.val (.long q1), .second, .val (.long q2), .second, .val (.long q3), .second, .val (.int p4), .unset, .unset, .unset, .unset, .unset] [(.int p4)])) _
    refine XS.bipush X0.here hx rfl (hb hby at_2) ?_
    show Steps p.tables e below (s₁.setTop (mkF m 4 #[.val (.long q1), .second, .val (.long q2), .second, .val (.long q3), .second, .val (.int p4), .unset, .unset, .unset, .unset, .unset] [(.int (8 : Int32)), (.int p4)])) _
    refine XS.iand X0.here hx rfl (hb hby at_4) rfl ?_
    exact k
  obtain ⟨j2_0, T2, L2, X2, e2, N2, k2⟩ : ∃ (j2_0 : Int64) (T' : State) (L' : List Loc), Stand p l e room_1 s m #[(.long q1), (.long q2), (.long q3), (.int p4)] below meth c T' L' 0 0 ∧ T'.heap = h0 ∧ Fr n0 L' ∧ ∀ t, Steps p.tables e below (T'.setTop (mkF m 10 #[.val (.long q1), .second, .val (.long j2_0), .second, .val (.long q3), .second, .val (.int p4), .unset, .unset, .unset, .unset, .unset] [])) t → Steps p.tables e below (s₁.setTop (entryFrame m #[(.long q1), (.long q2), (.long q3), (.int p4)] maxLocals)) t := by
    by_cases hc5_1 : (p4 &&& (8 : Int32)) = (0 : Int32)
    ·
      have k3 : ∀ t, Steps p.tables e below (s₁.setTop (mkF m 10 #[.val (.long q1), .second, .val (.long q2), .second, .val (.long q3), .second, .val (.int p4), .unset, .unset, .unset, .unset, .unset] [])) t → Steps p.tables e below (s₁.setTop (entryFrame m #[(.long q1), (.long q2), (.long q3), (.int p4)] maxLocals)) t := by
        intro t k
        refine k1 t ?_
        show Steps p.tables e below (s₁.setTop (mkF m 5 #[.val (.long q1), .second, .val (.long q2), .second, .val (.long q3), .second, .val (.int p4), .unset, .unset, .unset, .unset, .unset] [(.int (p4 &&& (8 : Int32)))])) _
        refine XS.ifYes X0.here hx rfl (pc0 := 5) (pc' := 10) rfl (hb hby at_5) rfl ((if0 _ _).trans (teq hc5_1).1) (by decide) (by decide) ?_
        exact k
      exact ⟨q2, s₁, _, X0, e0, N0, k3⟩
    ·
      have k4 : ∀ t, Steps p.tables e below (s₁.setTop (mkF m 10 #[.val (.long q1), .second, .val (.long q1), .second, .val (.long q3), .second, .val (.int p4), .unset, .unset, .unset, .unset, .unset] [])) t → Steps p.tables e below (s₁.setTop (entryFrame m #[(.long q1), (.long q2), (.long q3), (.int p4)] maxLocals)) t := by
        intro t k
        refine k1 t ?_
        show Steps p.tables e below (s₁.setTop (mkF m 5 #[.val (.long q1), .second, .val (.long q2), .second, .val (.long q3), .second, .val (.int p4), .unset, .unset, .unset, .unset, .unset] [(.int (p4 &&& (8 : Int32)))])) _
        refine XS.ifNo X0.here hx rfl (hb hby at_5) rfl ((if0 _ _).trans (feq hc5_1).1) ?_
        show Steps p.tables e below (s₁.setTop (mkF m 8 #[.val (.long q1), .second, .val (.long q2), .second, .val (.long q3), .second, .val (.int p4), .unset, .unset, .unset, .unset, .unset] [])) _
        refine XS.lloadN X0.here hx rfl (hb hby at_8) rfl ?_
        show Steps p.tables e below (s₁.setTop (mkF m 9 #[.val (.long q1), .second, .val (.long q2), .second, .val (.long q3), .second, .val (.int p4), .unset, .unset, .unset, .unset, .unset] [(.long q1)])) _
        refine XS.lstoreN X0.here hx rfl (hb hby at_9) rfl (l' := #[.val (.long q1), .second, .val (.long q1), .second, .val (.long q3), .second, .val (.int p4), .unset, .unset, .unset, .unset, .unset]) rfl ?_
        exact k
      exact ⟨q1, s₁, _, X0, e0, N0, k4⟩
  have k5 : ∀ t, Steps p.tables e below (T2.setTop (mkF m 15 #[.val (.long q1), .second, .val (.long j2_0), .second, .val (.long q3), .second, .val (.int p4), .unset, .unset, .unset, .unset, .unset] [(.int (p4 &&& (16 : Int32)))])) t → Steps p.tables e below (s₁.setTop (entryFrame m #[(.long q1), (.long q2), (.long q3), (.int p4)] maxLocals)) t := by
    intro t k
    refine k2 t ?_
    show Steps p.tables e below (T2.setTop (mkF m 10 #[.val (.long q1), .second, .val (.long j2_0), .second, .val (.long q3), .second, .val (.int p4), .unset, .unset, .unset, .unset, .unset] [])) _
    refine XS.iload X2.here hx rfl (hb hby at_10) rfl ?_
    show Steps p.tables e below (T2.setTop (mkF m 12 #[.val (.long q1), .second, .val (.long j2_0), .second, .val (.long q3), .second, .val (.int p4), .unset, .unset, .unset, .unset, .unset] [(.int p4)])) _
    refine XS.bipush X2.here hx rfl (hb hby at_12) ?_
    show Steps p.tables e below (T2.setTop (mkF m 14 #[.val (.long q1), .second, .val (.long j2_0), .second, .val (.long q3), .second, .val (.int p4), .unset, .unset, .unset, .unset, .unset] [(.int (16 : Int32)), (.int p4)])) _
    refine XS.iand X2.here hx rfl (hb hby at_14) rfl ?_
    exact k
  obtain ⟨j6_0, T6, L6, X6, e6, N6, k6⟩ : ∃ (j6_0 : Int64) (T' : State) (L' : List Loc), Stand p l e room_1 s m #[(.long q1), (.long q2), (.long q3), (.int p4)] below meth c T' L' 0 0 ∧ T'.heap = h0 ∧ Fr n0 L' ∧ ∀ t, Steps p.tables e below (T'.setTop (mkF m 25 #[.val (.long q1), .second, .val (.long j2_0), .second, .val (.long j6_0), .second, .val (.int p4), .unset, .unset, .unset, .unset, .unset] [])) t → Steps p.tables e below (s₁.setTop (entryFrame m #[(.long q1), (.long q2), (.long q3), (.int p4)] maxLocals)) t := by
    by_cases hc15_2 : (p4 &&& (16 : Int32)) = (0 : Int32)
    ·
      have k7 : ∀ t, Steps p.tables e below (T2.setTop (mkF m 25 #[.val (.long q1), .second, .val (.long j2_0), .second, .val (.long q3), .second, .val (.int p4), .unset, .unset, .unset, .unset, .unset] [])) t → Steps p.tables e below (s₁.setTop (entryFrame m #[(.long q1), (.long q2), (.long q3), (.int p4)] maxLocals)) t := by
        intro t k
        refine k5 t ?_
        show Steps p.tables e below (T2.setTop (mkF m 15 #[.val (.long q1), .second, .val (.long j2_0), .second, .val (.long q3), .second, .val (.int p4), .unset, .unset, .unset, .unset, .unset] [(.int (p4 &&& (16 : Int32)))])) _
        refine XS.ifYes X2.here hx rfl (pc0 := 15) (pc' := 25) rfl (hb hby at_15) rfl ((if0 _ _).trans (teq hc15_2).1) (by decide) (by decide) ?_
        exact k
      exact ⟨q3, T2, _, X2, e2, N2, k7⟩
    ·
      have k8 : ∀ t, Steps p.tables e below (T2.setTop (mkF m 25 #[.val (.long q1), .second, .val (.long j2_0), .second, .val (.long (q1 + (-9223372036854775808 : Int64))), .second, .val (.int p4), .unset, .unset, .unset, .unset, .unset] [])) t → Steps p.tables e below (s₁.setTop (entryFrame m #[(.long q1), (.long q2), (.long q3), (.int p4)] maxLocals)) t := by
        intro t k
        refine k5 t ?_
        show Steps p.tables e below (T2.setTop (mkF m 15 #[.val (.long q1), .second, .val (.long j2_0), .second, .val (.long q3), .second, .val (.int p4), .unset, .unset, .unset, .unset, .unset] [(.int (p4 &&& (16 : Int32)))])) _
        refine XS.ifNo X2.here hx rfl (hb hby at_15) rfl ((if0 _ _).trans (feq hc15_2).1) ?_
        show Steps p.tables e below (T2.setTop (mkF m 18 #[.val (.long q1), .second, .val (.long j2_0), .second, .val (.long q3), .second, .val (.int p4), .unset, .unset, .unset, .unset, .unset] [])) _
        refine XS.lloadN X2.here hx rfl (hb hby at_18) rfl ?_
        show Steps p.tables e below (T2.setTop (mkF m 19 #[.val (.long q1), .second, .val (.long j2_0), .second, .val (.long q3), .second, .val (.int p4), .unset, .unset, .unset, .unset, .unset] [(.long q1)])) _
        refine X2.ldc2Long hx hown (mvT hZ (hw _ (List.mem_of_getElem? (i := 66) rfl))) (g := (mkF m 19 #[.val (.long q1), .second, .val (.long j2_0), .second, .val (.long q3), .second, .val (.int p4), .unset, .unset, .unset, .unset, .unset] [(.long q1)])) rfl (hb hby at_19) _ ?_
        show Steps p.tables e below (T2.setTop (mkF m 22 #[.val (.long q1), .second, .val (.long j2_0), .second, .val (.long q3), .second, .val (.int p4), .unset, .unset, .unset, .unset, .unset] [(.long (-9223372036854775808 : Int64)), (.long q1)])) _
        refine XS.ladd X2.here hx rfl (hb hby at_22) rfl ?_
        show Steps p.tables e below (T2.setTop (mkF m 23 #[.val (.long q1), .second, .val (.long j2_0), .second, .val (.long q3), .second, .val (.int p4), .unset, .unset, .unset, .unset, .unset] [(.long (q1 + (-9223372036854775808 : Int64)))])) _
        refine XS.lstore X2.here hx rfl (hb hby at_23) rfl (l' := #[.val (.long q1), .second, .val (.long j2_0), .second, .val (.long (q1 + (-9223372036854775808 : Int64))), .second, .val (.int p4), .unset, .unset, .unset, .unset, .unset]) rfl ?_
        exact k
      exact ⟨(q1 + (-9223372036854775808 : Int64)), T2, _, X2, e2, N2, k8⟩
  obtain ⟨T9, h9, X9, e9, E9, A9, D9, -, st9⟩ := newO X6 hx hZ hown (hw _ (List.mem_of_getElem? (i := 0) rfl)) (hw _ (List.mem_of_getElem? (i := 1) rfl)) (hw _ (List.mem_of_getElem? (i := 2) rfl)) e6 (g := (mkF m 25 #[.val (.long q1), .second, .val (.long j2_0), .second, .val (.long j6_0), .second, .val (.int p4), .unset, .unset, .unset, .unset, .unset] [])) rfl (hb hby at_25) (by decide) (by decide)
  obtain ⟨b9, g9⟩ : ∃ z, z = h0.size := ⟨_, rfl⟩
  rw [← g9] at A9 D9 st9
  have g_b9 : n0 ≤ b9 := Nat.le_trans Z0 (Nat.le_of_eq g9.symm)
  have sz_b9 : h0.size ≤ b9 := Nat.le_of_eq g9.symm
  have K9 : Keep h0 h9 [] := (Keep.refl h0 []).ext E9
  have F_times_b9 : Fld Z h9 b9 "com/example/grebe/grebe/bench/Tally" "times" "[J" .null := D9 (Or.inl (hw _ (List.mem_of_getElem? (i := 11) rfl))) (ty := (.array .long)) (by decide)
  have F_stopped_b9 : Fld Z h9 b9 "com/example/grebe/grebe/bench/Tally" "stopped" "Z" (.int (0 : Int32)) := D9 (Or.inl (hw _ (List.mem_of_getElem? (i := 22) rfl))) (ty := .boolean) (by decide)
  have F_stop_b9 : Fld Z h9 b9 "com/example/grebe/grebe/bench/Tally" "stop" "J" (.long (0 : Int64)) := D9 (Or.inl (hw _ (List.mem_of_getElem? (i := 41) rfl))) (ty := .long) (by decide)
  have F_count_b9 : Fld Z h9 b9 "com/example/grebe/grebe/bench/Tally" "count" "J" (.long (0 : Int64)) := D9 (Or.inl (hw _ (List.mem_of_getElem? (i := 65) rfl))) (ty := .long) (by decide)
  obtain ⟨_, _, ⟨T10, L10, k10, n10⟩, -, X10, ⟨Lc10, hQ10, l10, y10, z10⟩, st10⟩ := X9.specialBack hx (y := (⟨"com/example/grebe/grebe/bench/Tally", "<init>", "()V"⟩ : MethodName)) rfl hown (mvT hZ (hw _ (List.mem_of_getElem? (i := 3) rfl))) (mvT hZ (hw _ (List.mem_of_getElem? (i := 4) rfl))) (mvT hZ (hw _ (List.mem_of_getElem? (i := 5) rfl))) (by decide) (backOf (W := 1) (rm1_0 l Z a0 hw [] b9 h9 n0 (Nat.le_trans Z0 K9.1) A9 F_times_b9 F_stopped_b9 F_stop_b9 F_count_b9 g_b9) hZ (hw _ (List.mem_of_getElem? (i := 5) rfl)) (hw _ (List.mem_of_getElem? (i := 2) rfl)) (by decide) (by decide)) (g := (mkF m 29 #[.val (.long q1), .second, .val (.long j2_0), .second, .val (.long j6_0), .second, .val (.int p4), .unset, .unset, .unset, .unset, .unset] [(.ref b9), (.ref b9)])) rfl (by rw [hml]; rfl) (Steps.refl _) (a := b9) (argsL := []) (rest := [(.ref b9)]) (lenOf pd_0 rfl) rfl (by show 2 * 0 + _ ≤ _; exact Nat.le_of_eq rfl) (hb hby at_29) (fun _ _ => ⟨rfl, e9, (by decide : 1 + 1 ≤ _), (by decide : 5 + 1024 ≤ _)⟩)
  dsimp only [Pt.U, Pt.locs, Pt.cells, Pt.slots] at X10 l10 y10 z10 st10 hQ10
  subst l10 y10 z10
  obtain ⟨b10_0, kc10_0, rfl, N10q, K10q, g_b10_0, szq_b10_0, Fq10_0, Fq10_1, Fq10_2, Fq10_3, Fq10_4, Fq10_5⟩ := hQ10
  have N10 := Fr.app N6 N10q
  have K10 : Keep h0 T10.heap [] := Keep.trans K9 K10q (allS (Or.inr sz_b9) all0)
  have sz_b10_0 : h0.size ≤ b10_0 := Nat.le_trans K9.1 szq_b10_0
  have ne_b9_b10_0 : b9 ≠ b10_0 := Nat.ne_of_lt (Nat.lt_of_lt_of_le A9.lt szq_b10_0)
  obtain ⟨_, _, ⟨T11, L11, k11, n11⟩, -, X11, ⟨Lc11, hQ11, l11, y11, z11⟩, st11⟩ := Jvm.LawKit.callS X10 hx (y := (⟨"com/example/grebe/grebe/bench/TallyStopPinLaw", "matches", "(Lcom/example/grebe/grebe/bench/Tally;ZJ)Z"⟩ : MethodName)) hown (mvT hZ (hw _ (List.mem_of_getElem? (i := 12) rfl))) (mvT hZ (hw _ (List.mem_of_getElem? (i := 13) rfl))) (mvT hZ (hw _ (List.mem_of_getElem? (i := 14) rfl))) (mvT hZ (hw _ (List.mem_of_getElem? (i := 15) rfl))) (by decide) (backOf (W := 0) (rm3_0 l Z a0 hw [] b9 w_EMPTY T10.heap n0 (Nat.le_trans Z0 K10.1) Fq10_0 Fq10_2 (own_staK S_EMPTY K10 all0) (E_EMPTY.keep K10) (F_isPresent_EMPTY.keep K10 nin0)) hZ (hw _ (List.mem_of_getElem? (i := 15) rfl)) (hw _ (List.mem_of_getElem? (i := 14) rfl)) (by decide) (by decide)) (g := (mkF m 38 #[.val (.long q1), .second, .val (.long j2_0), .second, .val (.long j6_0), .second, .val (.int p4), .val (.ref b9), .unset, .unset, .unset, .unset] [(.long (0 : Int64)), (.int (0 : Int32)), (.ref b9)])) rfl (by rw [hml]; rfl) (argsL := [(.ref b9), (.int (0 : Int32)), (.long (0 : Int64))]) (rest := []) (lenOf pd_3 rfl) rfl (by show 2 * 0 + _ ≤ _; exact Nat.le_of_eq rfl) (hb hby at_38) (fun _ _ => ⟨rfl, rfl, (by decide : 2 + 0 ≤ _), (by decide : 1029 + 0 ≤ _)⟩)
  dsimp only [Pt.U, Pt.locs, Pt.cells, Pt.slots] at X11 l11 y11 z11 st11 hQ11
  subst l11 y11 z11
  obtain ⟨rfl, N11q, e11⟩ := hQ11
  have N11 := Fr.app N10 N11q
  have k12 : ∀ t, Steps p.tables e below (T11.setTop (mkF m 53 #[.val (.long q1), .second, .val (.long j2_0), .second, .val (.long j6_0), .second, .val (.int p4), .val (.ref b9), .val (.int (1 : Int32)), .val (.int (0 : Int32)), .val (.long (0 : Int64)), .second] [(.int (p4 &&& (1 : Int32)))])) t → Steps p.tables e below (s₁.setTop (entryFrame m #[(.long q1), (.long q2), (.long q3), (.int p4)] maxLocals)) t := by
    intro t k
    refine k6 t ?_
    show Steps p.tables e below (T6.setTop (mkF m 25 #[.val (.long q1), .second, .val (.long j2_0), .second, .val (.long j6_0), .second, .val (.int p4), .unset, .unset, .unset, .unset, .unset] [])) _
    refine st9 _ ?_
    show Steps p.tables e below (T9.setTop (mkF m 28 #[.val (.long q1), .second, .val (.long j2_0), .second, .val (.long j6_0), .second, .val (.int p4), .unset, .unset, .unset, .unset, .unset] [(.ref b9)])) _
    refine XS.dup X9.here hx rfl (hb hby at_28) rfl rfl ?_
    show Steps p.tables e below (T9.setTop (mkF m 29 #[.val (.long q1), .second, .val (.long j2_0), .second, .val (.long j6_0), .second, .val (.int p4), .unset, .unset, .unset, .unset, .unset] [(.ref b9), (.ref b9)])) _
    refine st10.trans ?_
    show Steps p.tables e below (T10.setTop (mkF m 32 #[.val (.long q1), .second, .val (.long j2_0), .second, .val (.long j6_0), .second, .val (.int p4), .unset, .unset, .unset, .unset, .unset] [(.ref b9)])) _
    refine XS.astore X10.here hx rfl (hb hby at_32) rfl rfl (l' := #[.val (.long q1), .second, .val (.long j2_0), .second, .val (.long j6_0), .second, .val (.int p4), .val (.ref b9), .unset, .unset, .unset, .unset]) rfl ?_
    show Steps p.tables e below (T10.setTop (mkF m 34 #[.val (.long q1), .second, .val (.long j2_0), .second, .val (.long j6_0), .second, .val (.int p4), .val (.ref b9), .unset, .unset, .unset, .unset] [])) _
    refine XS.aload X10.here hx rfl (hb hby at_34) rfl rfl ?_
    show Steps p.tables e below (T10.setTop (mkF m 36 #[.val (.long q1), .second, .val (.long j2_0), .second, .val (.long j6_0), .second, .val (.int p4), .val (.ref b9), .unset, .unset, .unset, .unset] [(.ref b9)])) _
    refine XS.iconst X10.here hx rfl (hb hby at_36) ?_
    show Steps p.tables e below (T10.setTop (mkF m 37 #[.val (.long q1), .second, .val (.long j2_0), .second, .val (.long j6_0), .second, .val (.int p4), .val (.ref b9), .unset, .unset, .unset, .unset] [(.int (0 : Int32)), (.ref b9)])) _
    refine XS.lconst X10.here hx rfl (hb hby at_37) ?_
    show Steps p.tables e below (T10.setTop (mkF m 38 #[.val (.long q1), .second, .val (.long j2_0), .second, .val (.long j6_0), .second, .val (.int p4), .val (.ref b9), .unset, .unset, .unset, .unset] [(.long (0 : Int64)), (.int (0 : Int32)), (.ref b9)])) _
    refine st11 _ ?_
    show Steps p.tables e below (T11.setTop (mkF m 41 #[.val (.long q1), .second, .val (.long j2_0), .second, .val (.long j6_0), .second, .val (.int p4), .val (.ref b9), .unset, .unset, .unset, .unset] [(.int (1 : Int32))])) _
    refine XS.istore X11.here hx rfl (hb hby at_41) rfl (l' := #[.val (.long q1), .second, .val (.long j2_0), .second, .val (.long j6_0), .second, .val (.int p4), .val (.ref b9), .val (.int (1 : Int32)), .unset, .unset, .unset]) rfl ?_
    show Steps p.tables e below (T11.setTop (mkF m 43 #[.val (.long q1), .second, .val (.long j2_0), .second, .val (.long j6_0), .second, .val (.int p4), .val (.ref b9), .val (.int (1 : Int32)), .unset, .unset, .unset] [])) _
    refine XS.iconst X11.here hx rfl (hb hby at_43) ?_
    show Steps p.tables e below (T11.setTop (mkF m 44 #[.val (.long q1), .second, .val (.long j2_0), .second, .val (.long j6_0), .second, .val (.int p4), .val (.ref b9), .val (.int (1 : Int32)), .unset, .unset, .unset] [(.int (0 : Int32))])) _
    refine XS.istore X11.here hx rfl (hb hby at_44) rfl (l' := #[.val (.long q1), .second, .val (.long j2_0), .second, .val (.long j6_0), .second, .val (.int p4), .val (.ref b9), .val (.int (1 : Int32)), .val (.int (0 : Int32)), .unset, .unset]) rfl ?_
    show Steps p.tables e below (T11.setTop (mkF m 46 #[.val (.long q1), .second, .val (.long j2_0), .second, .val (.long j6_0), .second, .val (.int p4), .val (.ref b9), .val (.int (1 : Int32)), .val (.int (0 : Int32)), .unset, .unset] [])) _
    refine XS.lconst X11.here hx rfl (hb hby at_46) ?_
    show Steps p.tables e below (T11.setTop (mkF m 47 #[.val (.long q1), .second, .val (.long j2_0), .second, .val (.long j6_0), .second, .val (.int p4), .val (.ref b9), .val (.int (1 : Int32)), .val (.int (0 : Int32)), .unset, .unset] [(.long (0 : Int64))])) _
    refine XS.lstore X11.here hx rfl (hb hby at_47) rfl (l' := #[.val (.long q1), .second, .val (.long j2_0), .second, .val (.long j6_0), .second, .val (.int p4), .val (.ref b9), .val (.int (1 : Int32)), .val (.int (0 : Int32)), .val (.long (0 : Int64)), .second]) rfl ?_
    show Steps p.tables e below (T11.setTop (mkF m 49 #[.val (.long q1), .second, .val (.long j2_0), .second, .val (.long j6_0), .second, .val (.int p4), .val (.ref b9), .val (.int (1 : Int32)), .val (.int (0 : Int32)), .val (.long (0 : Int64)), .second] [])) _
    refine XS.iload X11.here hx rfl (hb hby at_49) rfl ?_
    show Steps p.tables e below (T11.setTop (mkF m 51 #[.val (.long q1), .second, .val (.long j2_0), .second, .val (.long j6_0), .second, .val (.int p4), .val (.ref b9), .val (.int (1 : Int32)), .val (.int (0 : Int32)), .val (.long (0 : Int64)), .second] [(.int p4)])) _
    refine XS.iconst X11.here hx rfl (hb hby at_51) ?_
    show Steps p.tables e below (T11.setTop (mkF m 52 #[.val (.long q1), .second, .val (.long j2_0), .second, .val (.long j6_0), .second, .val (.int p4), .val (.ref b9), .val (.int (1 : Int32)), .val (.int (0 : Int32)), .val (.long (0 : Int64)), .second] [(.int (1 : Int32)), (.int p4)])) _
    refine XS.iand X11.here hx rfl (hb hby at_52) rfl ?_
    exact k
  by_cases hc53_3 : (p4 &&& (1 : Int32)) = (0 : Int32)
  ·
    have k13 : ∀ t, Steps p.tables e below (T11.setTop (mkF m 110 #[.val (.long q1), .second, .val (.long j2_0), .second, .val (.long j6_0), .second, .val (.int p4), .val (.ref b9), .val (.int (1 : Int32)), .val (.int (0 : Int32)), .val (.long (0 : Int64)), .second] [(.int (p4 &&& (2 : Int32)))])) t → Steps p.tables e below (s₁.setTop (entryFrame m #[(.long q1), (.long q2), (.long q3), (.int p4)] maxLocals)) t := by
      intro t k
      refine k12 t ?_
      show Steps p.tables e below (T11.setTop (mkF m 53 #[.val (.long q1), .second, .val (.long j2_0), .second, .val (.long j6_0), .second, .val (.int p4), .val (.ref b9), .val (.int (1 : Int32)), .val (.int (0 : Int32)), .val (.long (0 : Int64)), .second] [(.int (p4 &&& (1 : Int32)))])) _
      refine XS.ifYes X11.here hx rfl (pc0 := 53) (pc' := 106) rfl (hb hby at_53) rfl ((if0 _ _).trans (teq hc53_3).1) (by decide) (by decide) ?_
      show Steps p.tables e below (T11.setTop (mkF m 106 #[.val (.long q1), .second, .val (.long j2_0), .second, .val (.long j6_0), .second, .val (.int p4), .val (.ref b9), .val (.int (1 : Int32)), .val (.int (0 : Int32)), .val (.long (0 : Int64)), .second] [])) _
      refine XS.iload X11.here hx rfl (hb hby at_106) rfl ?_
      show Steps p.tables e below (T11.setTop (mkF m 108 #[.val (.long q1), .second, .val (.long j2_0), .second, .val (.long j6_0), .second, .val (.int p4), .val (.ref b9), .val (.int (1 : Int32)), .val (.int (0 : Int32)), .val (.long (0 : Int64)), .second] [(.int p4)])) _
      refine XS.iconst X11.here hx rfl (hb hby at_108) ?_
      show Steps p.tables e below (T11.setTop (mkF m 109 #[.val (.long q1), .second, .val (.long j2_0), .second, .val (.long j6_0), .second, .val (.int p4), .val (.ref b9), .val (.int (1 : Int32)), .val (.int (0 : Int32)), .val (.long (0 : Int64)), .second] [(.int (2 : Int32)), (.int p4)])) _
      refine XS.iand X11.here hx rfl (hb hby at_109) rfl ?_
      exact k
    by_cases hc110_4 : (p4 &&& (2 : Int32)) = (0 : Int32)
    ·
      have k14 : ∀ t, Steps p.tables e below (T11.setTop (mkF m 167 #[.val (.long q1), .second, .val (.long j2_0), .second, .val (.long j6_0), .second, .val (.int p4), .val (.ref b9), .val (.int (1 : Int32)), .val (.int (0 : Int32)), .val (.long (0 : Int64)), .second] [(.int (p4 &&& (4 : Int32)))])) t → Steps p.tables e below (s₁.setTop (entryFrame m #[(.long q1), (.long q2), (.long q3), (.int p4)] maxLocals)) t := by
        intro t k
        refine k13 t ?_
        show Steps p.tables e below (T11.setTop (mkF m 110 #[.val (.long q1), .second, .val (.long j2_0), .second, .val (.long j6_0), .second, .val (.int p4), .val (.ref b9), .val (.int (1 : Int32)), .val (.int (0 : Int32)), .val (.long (0 : Int64)), .second] [(.int (p4 &&& (2 : Int32)))])) _
        refine XS.ifYes X11.here hx rfl (pc0 := 110) (pc' := 163) rfl (hb hby at_110) rfl ((if0 _ _).trans (teq hc110_4).1) (by decide) (by decide) ?_
        show Steps p.tables e below (T11.setTop (mkF m 163 #[.val (.long q1), .second, .val (.long j2_0), .second, .val (.long j6_0), .second, .val (.int p4), .val (.ref b9), .val (.int (1 : Int32)), .val (.int (0 : Int32)), .val (.long (0 : Int64)), .second] [])) _
        refine XS.iload X11.here hx rfl (hb hby at_163) rfl ?_
        show Steps p.tables e below (T11.setTop (mkF m 165 #[.val (.long q1), .second, .val (.long j2_0), .second, .val (.long j6_0), .second, .val (.int p4), .val (.ref b9), .val (.int (1 : Int32)), .val (.int (0 : Int32)), .val (.long (0 : Int64)), .second] [(.int p4)])) _
        refine XS.iconst X11.here hx rfl (hb hby at_165) ?_
        show Steps p.tables e below (T11.setTop (mkF m 166 #[.val (.long q1), .second, .val (.long j2_0), .second, .val (.long j6_0), .second, .val (.int p4), .val (.ref b9), .val (.int (1 : Int32)), .val (.int (0 : Int32)), .val (.long (0 : Int64)), .second] [(.int (4 : Int32)), (.int p4)])) _
        refine XS.iand X11.here hx rfl (hb hby at_166) rfl ?_
        exact k
      by_cases hc167_5 : (p4 &&& (4 : Int32)) = (0 : Int32)
      ·
        obtain ⟨cq15, kq15, q15a, q15b, q15c⟩ := isOf hZ e11 Fq10_0
        obtain ⟨_, _, ⟨T15, L15, k15, n15⟩, -, X15, ⟨Lc15, hQ15, l15, y15, z15⟩, st15⟩ := X11.virtualBack hx (y := (⟨"com/example/grebe/grebe/bench/Tally", "count", "()J"⟩ : MethodName)) (z := (⟨"com/example/grebe/grebe/bench/Tally", "count", "()J"⟩ : MethodName)) hown (mvT hZ (hw _ (List.mem_of_getElem? (i := 59) rfl))) (mvT hZ (hw _ (List.mem_of_getElem? (i := 60) rfl))) (notFace_of_selects (args := #[]) (mvT hZ (hw _ (List.mem_of_getElem? (i := 62) rfl)))) (mvT hZ (hw _ (List.mem_of_getElem? (i := 62) rfl))) (mvT hZ (hw _ (List.mem_of_getElem? (i := 61) rfl))) (by decide) (backOf (W := 0) (rm11_0 l Z a0 hw [] b9 T10.heap n0 (Nat.le_trans Z0 K10.1) Fq10_4) hZ (hw _ (List.mem_of_getElem? (i := 63) rfl)) (hw _ (List.mem_of_getElem? (i := 2) rfl)) (by decide) (by decide)) q15a q15c (g := (mkF m 230 #[.val (.long q1), .second, .val (.long j2_0), .second, .val (.long j6_0), .second, .val (.int p4), .val (.ref b9), .val (.int (1 : Int32)), .val (.int (0 : Int32)), .val (.long (0 : Int64)), .second] [(.ref b9)])) rfl (by rw [hml]; rfl) (Steps.refl _) (argsL := []) (rest := []) (lenOf pd_4 rfl) rfl (by show 2 * 0 + _ ≤ _; exact Nat.le_of_eq rfl) (hb hby at_230) (fun _ _ => ⟨rfl, e11, (by decide : 2 + 0 ≤ _), (by decide : 1029 + 0 ≤ _)⟩)
        dsimp only [Pt.U, Pt.locs, Pt.cells, Pt.slots] at X15 l15 y15 z15 st15 hQ15
        subst l15 y15 z15
        obtain ⟨rfl, N15q, e15⟩ := hQ15
        have N15 := Fr.app N11 N15q
        obtain ⟨fs, hr, hrun, hended, hW, hsame⟩ := X15.leave (v := some (.int (1 : Int32))) (fun h => by rw [Bd.returns] at h; cases h)
        refine ⟨_, _, k14 _ ?_, hrun, hended, _, _, rfl, ?_, ⟨_, rfl⟩, hW, hsame.mono (by decide) (by decide)⟩
        ·
          show Steps p.tables e below (T11.setTop (mkF m 167 #[.val (.long q1), .second, .val (.long j2_0), .second, .val (.long j6_0), .second, .val (.int p4), .val (.ref b9), .val (.int (1 : Int32)), .val (.int (0 : Int32)), .val (.long (0 : Int64)), .second] [(.int (p4 &&& (4 : Int32)))])) _
          refine XS.ifYes X11.here hx rfl (pc0 := 167) (pc' := 223) rfl (hb hby at_167) rfl ((if0 _ _).trans (teq hc167_5).1) (by decide) (by decide) ?_
          show Steps p.tables e below (T11.setTop (mkF m 223 #[.val (.long q1), .second, .val (.long j2_0), .second, .val (.long j6_0), .second, .val (.int p4), .val (.ref b9), .val (.int (1 : Int32)), .val (.int (0 : Int32)), .val (.long (0 : Int64)), .second] [])) _
          refine XS.iload X11.here hx rfl (hb hby at_223) rfl ?_
          show Steps p.tables e below (T11.setTop (mkF m 225 #[.val (.long q1), .second, .val (.long j2_0), .second, .val (.long j6_0), .second, .val (.int p4), .val (.ref b9), .val (.int (1 : Int32)), .val (.int (0 : Int32)), .val (.long (0 : Int64)), .second] [(.int (1 : Int32))])) _
          refine XS.ifNo X11.here hx rfl (hb hby at_225) rfl ((if0 _ _).trans (feq (by decide : ¬ ((1 : Int32) = (0 : Int32)))).1) ?_
          show Steps p.tables e below (T11.setTop (mkF m 228 #[.val (.long q1), .second, .val (.long j2_0), .second, .val (.long j6_0), .second, .val (.int p4), .val (.ref b9), .val (.int (1 : Int32)), .val (.int (0 : Int32)), .val (.long (0 : Int64)), .second] [])) _
          refine XS.aload X11.here hx rfl (hb hby at_228) rfl rfl ?_
          show Steps p.tables e below (T11.setTop (mkF m 230 #[.val (.long q1), .second, .val (.long j2_0), .second, .val (.long j6_0), .second, .val (.int p4), .val (.ref b9), .val (.int (1 : Int32)), .val (.int (0 : Int32)), .val (.long (0 : Int64)), .second] [(.ref b9)])) _
          refine st15.trans ?_
          show Steps p.tables e below (T15.setTop (mkF m 233 #[.val (.long q1), .second, .val (.long j2_0), .second, .val (.long j6_0), .second, .val (.int p4), .val (.ref b9), .val (.int (1 : Int32)), .val (.int (0 : Int32)), .val (.long (0 : Int64)), .second] [(.long (0 : Int64))])) _
          refine XS.lconst X15.here hx rfl (hb hby at_233) ?_
          show Steps p.tables e below (T15.setTop (mkF m 234 #[.val (.long q1), .second, .val (.long j2_0), .second, .val (.long j6_0), .second, .val (.int p4), .val (.ref b9), .val (.int (1 : Int32)), .val (.int (0 : Int32)), .val (.long (0 : Int64)), .second] [(.long (0 : Int64)), (.long (0 : Int64))])) _
          refine XS.lcmp X15.here hx rfl (hb hby at_234) rfl ?_
          show Steps p.tables e below (T15.setTop (mkF m 235 #[.val (.long q1), .second, .val (.long j2_0), .second, .val (.long j6_0), .second, .val (.int p4), .val (.ref b9), .val (.int (1 : Int32)), .val (.int (0 : Int32)), .val (.long (0 : Int64)), .second] [(.int (lcmpW (0 : Int64) (0 : Int64)))])) _
          rewrite [(lw_eq (0 : Int64) (0 : Int64)).mpr rfl]
          show Steps p.tables e below (T15.setTop (mkF m 235 #[.val (.long q1), .second, .val (.long j2_0), .second, .val (.long j6_0), .second, .val (.int p4), .val (.ref b9), .val (.int (1 : Int32)), .val (.int (0 : Int32)), .val (.long (0 : Int64)), .second] [(.int (0 : Int32))])) _
          refine XS.ifNo X15.here hx rfl (hb hby at_235) rfl ((if0 _ _).trans (teq (by decide : (0 : Int32) = (0 : Int32))).2) ?_
          show Steps p.tables e below (T15.setTop (mkF m 238 #[.val (.long q1), .second, .val (.long j2_0), .second, .val (.long j6_0), .second, .val (.int p4), .val (.ref b9), .val (.int (1 : Int32)), .val (.int (0 : Int32)), .val (.long (0 : Int64)), .second] [])) _
          refine XS.iconst X15.here hx rfl (hb hby at_238) ?_
          show Steps p.tables e below (T15.setTop (mkF m 239 #[.val (.long q1), .second, .val (.long j2_0), .second, .val (.long j6_0), .second, .val (.int p4), .val (.ref b9), .val (.int (1 : Int32)), .val (.int (0 : Int32)), .val (.long (0 : Int64)), .second] [(.int (1 : Int32))])) _
          refine XS.goto X15.here hx rfl (pc0 := 239) (pc' := 243) rfl (hb hby at_239) (by decide) (by decide) ?_
          show Steps p.tables e below (T15.setTop (mkF m 243 #[.val (.long q1), .second, .val (.long j2_0), .second, .val (.long j6_0), .second, .val (.int p4), .val (.ref b9), .val (.int (1 : Int32)), .val (.int (0 : Int32)), .val (.long (0 : Int64)), .second] [(.int (1 : Int32))])) _
          exact retN X15 hx (t := .boolean) Bd.returns (by simp) (hb hby at_243) hr
        · show Q0_0 Z q1 q2 q3 p4 w_EMPTY h0 n0 _ T15.heap _
          rw [e15]
          exact ⟨rfl, N15⟩
      ·
        obtain ⟨cq16, kq16, q16a, q16b, q16c⟩ := isOf hZ e11 Fq10_0
        obtain ⟨_, _, ⟨T16, L16, k16, n16⟩, -, X16, ⟨Lc16, hQ16, l16, y16, z16⟩, st16⟩ := X11.virtualBack hx (y := (⟨"com/example/grebe/grebe/bench/Tally", "stop", "(J)V"⟩ : MethodName)) (z := (⟨"com/example/grebe/grebe/bench/Tally", "stop", "(J)V"⟩ : MethodName)) hown (mvT hZ (hw _ (List.mem_of_getElem? (i := 35) rfl))) (mvT hZ (hw _ (List.mem_of_getElem? (i := 36) rfl))) (notFace_of_selects (args := #[]) (mvT hZ (hw _ (List.mem_of_getElem? (i := 38) rfl)))) (mvT hZ (hw _ (List.mem_of_getElem? (i := 38) rfl))) (mvT hZ (hw _ (List.mem_of_getElem? (i := 37) rfl))) (by decide) (backOf (W := 0) (rm7_0 l Z a0 hw [] b9 j6_0 b10_0 T10.heap n0 (Nat.le_trans Z0 K10.1) Fq10_0 Fq10_1 Fq10_2 Fq10_3 Fq10_4 g_b9) hZ (hw _ (List.mem_of_getElem? (i := 39) rfl)) (hw _ (List.mem_of_getElem? (i := 2) rfl)) (by decide) (by decide)) q16a q16c (g := (mkF m 174 #[.val (.long q1), .second, .val (.long j2_0), .second, .val (.long j6_0), .second, .val (.int p4), .val (.ref b9), .val (.int (1 : Int32)), .val (.int (0 : Int32)), .val (.long (0 : Int64)), .second] [(.long j6_0), (.ref b9)])) rfl (by rw [hml]; rfl) (Steps.refl _) (argsL := [(.long j6_0)]) (rest := []) (lenOf pd_5 rfl) rfl (by show 2 * 0 + _ ≤ _; exact Nat.le_of_eq rfl) (hb hby at_174) (fun _ _ => ⟨rfl, e11, (by decide : 2 + 0 ≤ _), (by decide : 1029 + 0 ≤ _)⟩)
        dsimp only [Pt.U, Pt.locs, Pt.cells, Pt.slots] at X16 l16 y16 z16 st16 hQ16
        subst l16 y16 z16
        obtain ⟨rfl, N16q, K16q, Fq16_0, Fq16_1, Fq16_2, Fq16_3, Fq16_4⟩ := hQ16
        have N16 := Fr.app N11 N16q
        have K16 : Keep h0 T16.heap [] := Keep.trans K10 K16q (allS (Or.inr sz_b9) all0)
        have cf17 := (Fq10_5.keep K16q (ninS (Ne.symm ne_b9_b10_0) nin0))
        obtain ⟨_, _, ⟨T18, L18, k18, n18⟩, -, X18, ⟨Lc18, hQ18, l18, y18, z18⟩, st18⟩ := Jvm.LawKit.callS X16 hx (y := (⟨"com/example/grebe/grebe/bench/TallyStopPinLaw", "matches", "(Lcom/example/grebe/grebe/bench/Tally;ZJ)Z"⟩ : MethodName)) hown (mvT hZ (hw _ (List.mem_of_getElem? (i := 12) rfl))) (mvT hZ (hw _ (List.mem_of_getElem? (i := 13) rfl))) (mvT hZ (hw _ (List.mem_of_getElem? (i := 14) rfl))) (mvT hZ (hw _ (List.mem_of_getElem? (i := 15) rfl))) (by decide) (backOf (W := 0) (rm3_1 l Z a0 hw [] b9 j6_0 T16.heap n0 (Nat.le_trans Z0 K16.1) Fq16_0 Fq16_2 Fq16_3) hZ (hw _ (List.mem_of_getElem? (i := 15) rfl)) (hw _ (List.mem_of_getElem? (i := 14) rfl)) (by decide) (by decide)) (g := (mkF m 210 #[.val (.long q1), .second, .val (.long j2_0), .second, .val (.long j6_0), .second, .val (.int p4), .val (.ref b9), .val (.int (1 : Int32)), .val (.int (1 : Int32)), .val (.long j6_0), .second] [(.long j6_0), (.int (1 : Int32)), (.ref b9)])) rfl (by rw [hml]; rfl) (argsL := [(.ref b9), (.int (1 : Int32)), (.long j6_0)]) (rest := []) (lenOf pd_3 rfl) rfl (by show 2 * 0 + _ ≤ _; exact Nat.le_of_eq rfl) (hb hby at_210) (fun _ _ => ⟨rfl, rfl, (by decide : 2 + 1 ≤ _), (by decide : 1029 + 2 ≤ _)⟩)
        dsimp only [Pt.U, Pt.locs, Pt.cells, Pt.slots] at X18 l18 y18 z18 st18 hQ18
        subst l18 y18 z18
        obtain ⟨rfl, N18q, K18q⟩ := hQ18
        have N18 := Fr.app N16 N18q
        have K18 : Keep h0 T18.heap [] := Keep.trans K16 K18q all0
        obtain ⟨cq19, kq19, q19a, q19b, q19c⟩ := isOf hZ rfl (Fq16_0.keep K18q)
        obtain ⟨_, _, ⟨T19, L19, k19, n19⟩, -, X19, ⟨Lc19, hQ19, l19, y19, z19⟩, st19⟩ := X18.virtualBack hx (y := (⟨"com/example/grebe/grebe/bench/Tally", "count", "()J"⟩ : MethodName)) (z := (⟨"com/example/grebe/grebe/bench/Tally", "count", "()J"⟩ : MethodName)) hown (mvT hZ (hw _ (List.mem_of_getElem? (i := 59) rfl))) (mvT hZ (hw _ (List.mem_of_getElem? (i := 60) rfl))) (notFace_of_selects (args := #[]) (mvT hZ (hw _ (List.mem_of_getElem? (i := 62) rfl)))) (mvT hZ (hw _ (List.mem_of_getElem? (i := 62) rfl))) (mvT hZ (hw _ (List.mem_of_getElem? (i := 61) rfl))) (by decide) (backOf (W := 0) (rm11_1 l Z a0 hw [] b9 T18.heap n0 (Nat.le_trans Z0 K18.1) (Fq16_4.keep K18q nin0)) hZ (hw _ (List.mem_of_getElem? (i := 63) rfl)) (hw _ (List.mem_of_getElem? (i := 2) rfl)) (by decide) (by decide)) q19a q19c (g := (mkF m 230 #[.val (.long q1), .second, .val (.long j2_0), .second, .val (.long j6_0), .second, .val (.int p4), .val (.ref b9), .val (.int (1 : Int32)), .val (.int (1 : Int32)), .val (.long j6_0), .second] [(.ref b9)])) rfl (by rw [hml]; rfl) (Steps.refl _) (argsL := []) (rest := []) (lenOf pd_4 rfl) rfl (by show 2 * 0 + _ ≤ _; exact Nat.le_of_eq rfl) (hb hby at_230) (fun _ _ => ⟨rfl, rfl, (by decide : 3 + 0 ≤ _), (by decide : 1031 + 0 ≤ _)⟩)
        dsimp only [Pt.U, Pt.locs, Pt.cells, Pt.slots] at X19 l19 y19 z19 st19 hQ19
        subst l19 y19 z19
        obtain ⟨rfl, N19q, e19⟩ := hQ19
        have N19 := Fr.app N18 N19q
        obtain ⟨fs, hr, hrun, hended, hW, hsame⟩ := X19.leave (v := some (.int (1 : Int32))) (fun h => by rw [Bd.returns] at h; cases h)
        refine ⟨_, _, k14 _ ?_, hrun, hended, _, _, rfl, ?_, ⟨_, rfl⟩, hW, hsame.mono (by decide) (by decide)⟩
        ·
          show Steps p.tables e below (T11.setTop (mkF m 167 #[.val (.long q1), .second, .val (.long j2_0), .second, .val (.long j6_0), .second, .val (.int p4), .val (.ref b9), .val (.int (1 : Int32)), .val (.int (0 : Int32)), .val (.long (0 : Int64)), .second] [(.int (p4 &&& (4 : Int32)))])) _
          refine XS.ifNo X11.here hx rfl (hb hby at_167) rfl ((if0 _ _).trans (feq hc167_5).1) ?_
          show Steps p.tables e below (T11.setTop (mkF m 170 #[.val (.long q1), .second, .val (.long j2_0), .second, .val (.long j6_0), .second, .val (.int p4), .val (.ref b9), .val (.int (1 : Int32)), .val (.int (0 : Int32)), .val (.long (0 : Int64)), .second] [])) _
          refine XS.aload X11.here hx rfl (hb hby at_170) rfl rfl ?_
          show Steps p.tables e below (T11.setTop (mkF m 172 #[.val (.long q1), .second, .val (.long j2_0), .second, .val (.long j6_0), .second, .val (.int p4), .val (.ref b9), .val (.int (1 : Int32)), .val (.int (0 : Int32)), .val (.long (0 : Int64)), .second] [(.ref b9)])) _
          refine XS.lload X11.here hx rfl (hb hby at_172) rfl ?_
          show Steps p.tables e below (T11.setTop (mkF m 174 #[.val (.long q1), .second, .val (.long j2_0), .second, .val (.long j6_0), .second, .val (.int p4), .val (.ref b9), .val (.int (1 : Int32)), .val (.int (0 : Int32)), .val (.long (0 : Int64)), .second] [(.long j6_0), (.ref b9)])) _
          refine st16.trans ?_
          show Steps p.tables e below (T16.setTop (mkF m 177 #[.val (.long q1), .second, .val (.long j2_0), .second, .val (.long j6_0), .second, .val (.int p4), .val (.ref b9), .val (.int (1 : Int32)), .val (.int (0 : Int32)), .val (.long (0 : Int64)), .second] [])) _
          refine XS.iload X16.here hx rfl (hb hby at_177) rfl ?_
          show Steps p.tables e below (T16.setTop (mkF m 179 #[.val (.long q1), .second, .val (.long j2_0), .second, .val (.long j6_0), .second, .val (.int p4), .val (.ref b9), .val (.int (1 : Int32)), .val (.int (0 : Int32)), .val (.long (0 : Int64)), .second] [(.int (0 : Int32))])) _
          refine XS.ifYes X16.here hx rfl (pc0 := 179) (pc' := 192) rfl (hb hby at_179) rfl ((if0 _ _).trans (teq (by decide : (0 : Int32) = (0 : Int32))).1) (by decide) (by decide) ?_
          show Steps p.tables e below (T16.setTop (mkF m 192 #[.val (.long q1), .second, .val (.long j2_0), .second, .val (.long j6_0), .second, .val (.int p4), .val (.ref b9), .val (.int (1 : Int32)), .val (.int (0 : Int32)), .val (.long (0 : Int64)), .second] [])) _
          refine XS.lload X16.here hx rfl (hb hby at_192) rfl ?_
          show Steps p.tables e below (T16.setTop (mkF m 194 #[.val (.long q1), .second, .val (.long j2_0), .second, .val (.long j6_0), .second, .val (.int p4), .val (.ref b9), .val (.int (1 : Int32)), .val (.int (0 : Int32)), .val (.long (0 : Int64)), .second] [(.long j6_0)])) _
          refine XS.lstore X16.here hx rfl (hb hby at_194) rfl (l' := #[.val (.long q1), .second, .val (.long j2_0), .second, .val (.long j6_0), .second, .val (.int p4), .val (.ref b9), .val (.int (1 : Int32)), .val (.int (0 : Int32)), .val (.long j6_0), .second]) rfl ?_
          show Steps p.tables e below (T16.setTop (mkF m 196 #[.val (.long q1), .second, .val (.long j2_0), .second, .val (.long j6_0), .second, .val (.int p4), .val (.ref b9), .val (.int (1 : Int32)), .val (.int (0 : Int32)), .val (.long j6_0), .second] [])) _
          refine XS.iconst X16.here hx rfl (hb hby at_196) ?_
          show Steps p.tables e below (T16.setTop (mkF m 197 #[.val (.long q1), .second, .val (.long j2_0), .second, .val (.long j6_0), .second, .val (.int p4), .val (.ref b9), .val (.int (1 : Int32)), .val (.int (0 : Int32)), .val (.long j6_0), .second] [(.int (1 : Int32))])) _
          refine XS.istore X16.here hx rfl (hb hby at_197) rfl (l' := #[.val (.long q1), .second, .val (.long j2_0), .second, .val (.long j6_0), .second, .val (.int p4), .val (.ref b9), .val (.int (1 : Int32)), .val (.int (1 : Int32)), .val (.long j6_0), .second]) rfl ?_
          show Steps p.tables e below (T16.setTop (mkF m 199 #[.val (.long q1), .second, .val (.long j2_0), .second, .val (.long j6_0), .second, .val (.int p4), .val (.ref b9), .val (.int (1 : Int32)), .val (.int (1 : Int32)), .val (.long j6_0), .second] [])) _
          refine XS.iload X16.here hx rfl (hb hby at_199) rfl ?_
          show Steps p.tables e below (T16.setTop (mkF m 201 #[.val (.long q1), .second, .val (.long j2_0), .second, .val (.long j6_0), .second, .val (.int p4), .val (.ref b9), .val (.int (1 : Int32)), .val (.int (1 : Int32)), .val (.long j6_0), .second] [(.int (1 : Int32))])) _
          refine XS.ifNo X16.here hx rfl (hb hby at_201) rfl ((if0 _ _).trans (feq (by decide : ¬ ((1 : Int32) = (0 : Int32)))).1) ?_
          show Steps p.tables e below (T16.setTop (mkF m 204 #[.val (.long q1), .second, .val (.long j2_0), .second, .val (.long j6_0), .second, .val (.int p4), .val (.ref b9), .val (.int (1 : Int32)), .val (.int (1 : Int32)), .val (.long j6_0), .second] [])) _
          refine XS.aload X16.here hx rfl (hb hby at_204) rfl rfl ?_
          show Steps p.tables e below (T16.setTop (mkF m 206 #[.val (.long q1), .second, .val (.long j2_0), .second, .val (.long j6_0), .second, .val (.int p4), .val (.ref b9), .val (.int (1 : Int32)), .val (.int (1 : Int32)), .val (.long j6_0), .second] [(.ref b9)])) _
          refine XS.iload X16.here hx rfl (hb hby at_206) rfl ?_
          show Steps p.tables e below (T16.setTop (mkF m 208 #[.val (.long q1), .second, .val (.long j2_0), .second, .val (.long j6_0), .second, .val (.int p4), .val (.ref b9), .val (.int (1 : Int32)), .val (.int (1 : Int32)), .val (.long j6_0), .second] [(.int (1 : Int32)), (.ref b9)])) _
          refine XS.lload X16.here hx rfl (hb hby at_208) rfl ?_
          show Steps p.tables e below (T16.setTop (mkF m 210 #[.val (.long q1), .second, .val (.long j2_0), .second, .val (.long j6_0), .second, .val (.int p4), .val (.ref b9), .val (.int (1 : Int32)), .val (.int (1 : Int32)), .val (.long j6_0), .second] [(.long j6_0), (.int (1 : Int32)), (.ref b9)])) _
          refine st18 _ ?_
          show Steps p.tables e below (T18.setTop (mkF m 213 #[.val (.long q1), .second, .val (.long j2_0), .second, .val (.long j6_0), .second, .val (.int p4), .val (.ref b9), .val (.int (1 : Int32)), .val (.int (1 : Int32)), .val (.long j6_0), .second] [(.int (1 : Int32))])) _
          refine XS.ifNo X18.here hx rfl (hb hby at_213) rfl ((if0 _ _).trans (feq (by decide : ¬ ((1 : Int32) = (0 : Int32)))).1) ?_
          show Steps p.tables e below (T18.setTop (mkF m 216 #[.val (.long q1), .second, .val (.long j2_0), .second, .val (.long j6_0), .second, .val (.int p4), .val (.ref b9), .val (.int (1 : Int32)), .val (.int (1 : Int32)), .val (.long j6_0), .second] [])) _
          refine XS.iconst X18.here hx rfl (hb hby at_216) ?_
          show Steps p.tables e below (T18.setTop (mkF m 217 #[.val (.long q1), .second, .val (.long j2_0), .second, .val (.long j6_0), .second, .val (.int p4), .val (.ref b9), .val (.int (1 : Int32)), .val (.int (1 : Int32)), .val (.long j6_0), .second] [(.int (1 : Int32))])) _
          refine XS.goto X18.here hx rfl (pc0 := 217) (pc' := 221) rfl (hb hby at_217) (by decide) (by decide) ?_
          show Steps p.tables e below (T18.setTop (mkF m 221 #[.val (.long q1), .second, .val (.long j2_0), .second, .val (.long j6_0), .second, .val (.int p4), .val (.ref b9), .val (.int (1 : Int32)), .val (.int (1 : Int32)), .val (.long j6_0), .second] [(.int (1 : Int32))])) _
          refine XS.istore X18.here hx rfl (hb hby at_221) rfl (l' := #[.val (.long q1), .second, .val (.long j2_0), .second, .val (.long j6_0), .second, .val (.int p4), .val (.ref b9), .val (.int (1 : Int32)), .val (.int (1 : Int32)), .val (.long j6_0), .second]) rfl ?_
          show Steps p.tables e below (T18.setTop (mkF m 223 #[.val (.long q1), .second, .val (.long j2_0), .second, .val (.long j6_0), .second, .val (.int p4), .val (.ref b9), .val (.int (1 : Int32)), .val (.int (1 : Int32)), .val (.long j6_0), .second] [])) _
          refine XS.iload X18.here hx rfl (hb hby at_223) rfl ?_
          show Steps p.tables e below (T18.setTop (mkF m 225 #[.val (.long q1), .second, .val (.long j2_0), .second, .val (.long j6_0), .second, .val (.int p4), .val (.ref b9), .val (.int (1 : Int32)), .val (.int (1 : Int32)), .val (.long j6_0), .second] [(.int (1 : Int32))])) _
          refine XS.ifNo X18.here hx rfl (hb hby at_225) rfl ((if0 _ _).trans (feq (by decide : ¬ ((1 : Int32) = (0 : Int32)))).1) ?_
          show Steps p.tables e below (T18.setTop (mkF m 228 #[.val (.long q1), .second, .val (.long j2_0), .second, .val (.long j6_0), .second, .val (.int p4), .val (.ref b9), .val (.int (1 : Int32)), .val (.int (1 : Int32)), .val (.long j6_0), .second] [])) _
          refine XS.aload X18.here hx rfl (hb hby at_228) rfl rfl ?_
          show Steps p.tables e below (T18.setTop (mkF m 230 #[.val (.long q1), .second, .val (.long j2_0), .second, .val (.long j6_0), .second, .val (.int p4), .val (.ref b9), .val (.int (1 : Int32)), .val (.int (1 : Int32)), .val (.long j6_0), .second] [(.ref b9)])) _
          refine st19.trans ?_
          show Steps p.tables e below (T19.setTop (mkF m 233 #[.val (.long q1), .second, .val (.long j2_0), .second, .val (.long j6_0), .second, .val (.int p4), .val (.ref b9), .val (.int (1 : Int32)), .val (.int (1 : Int32)), .val (.long j6_0), .second] [(.long (0 : Int64))])) _
          refine XS.lconst X19.here hx rfl (hb hby at_233) ?_
          show Steps p.tables e below (T19.setTop (mkF m 234 #[.val (.long q1), .second, .val (.long j2_0), .second, .val (.long j6_0), .second, .val (.int p4), .val (.ref b9), .val (.int (1 : Int32)), .val (.int (1 : Int32)), .val (.long j6_0), .second] [(.long (0 : Int64)), (.long (0 : Int64))])) _
          refine XS.lcmp X19.here hx rfl (hb hby at_234) rfl ?_
          show Steps p.tables e below (T19.setTop (mkF m 235 #[.val (.long q1), .second, .val (.long j2_0), .second, .val (.long j6_0), .second, .val (.int p4), .val (.ref b9), .val (.int (1 : Int32)), .val (.int (1 : Int32)), .val (.long j6_0), .second] [(.int (lcmpW (0 : Int64) (0 : Int64)))])) _
          rewrite [(lw_eq (0 : Int64) (0 : Int64)).mpr rfl]
          show Steps p.tables e below (T19.setTop (mkF m 235 #[.val (.long q1), .second, .val (.long j2_0), .second, .val (.long j6_0), .second, .val (.int p4), .val (.ref b9), .val (.int (1 : Int32)), .val (.int (1 : Int32)), .val (.long j6_0), .second] [(.int (0 : Int32))])) _
          refine XS.ifNo X19.here hx rfl (hb hby at_235) rfl ((if0 _ _).trans (teq (by decide : (0 : Int32) = (0 : Int32))).2) ?_
          show Steps p.tables e below (T19.setTop (mkF m 238 #[.val (.long q1), .second, .val (.long j2_0), .second, .val (.long j6_0), .second, .val (.int p4), .val (.ref b9), .val (.int (1 : Int32)), .val (.int (1 : Int32)), .val (.long j6_0), .second] [])) _
          refine XS.iconst X19.here hx rfl (hb hby at_238) ?_
          show Steps p.tables e below (T19.setTop (mkF m 239 #[.val (.long q1), .second, .val (.long j2_0), .second, .val (.long j6_0), .second, .val (.int p4), .val (.ref b9), .val (.int (1 : Int32)), .val (.int (1 : Int32)), .val (.long j6_0), .second] [(.int (1 : Int32))])) _
          refine XS.goto X19.here hx rfl (pc0 := 239) (pc' := 243) rfl (hb hby at_239) (by decide) (by decide) ?_
          show Steps p.tables e below (T19.setTop (mkF m 243 #[.val (.long q1), .second, .val (.long j2_0), .second, .val (.long j6_0), .second, .val (.int p4), .val (.ref b9), .val (.int (1 : Int32)), .val (.int (1 : Int32)), .val (.long j6_0), .second] [(.int (1 : Int32))])) _
          exact retN X19 hx (t := .boolean) Bd.returns (by simp) (hb hby at_243) hr
        · show Q0_0 Z q1 q2 q3 p4 w_EMPTY h0 n0 _ T19.heap _
          rw [e19]
          exact ⟨rfl, N19⟩
    ·
      obtain ⟨cq20, kq20, q20a, q20b, q20c⟩ := isOf hZ e11 Fq10_0
      obtain ⟨_, _, ⟨T20, L20, k20, n20⟩, -, X20, ⟨Lc20, hQ20, l20, y20, z20⟩, st20⟩ := X11.virtualBack hx (y := (⟨"com/example/grebe/grebe/bench/Tally", "stop", "(J)V"⟩ : MethodName)) (z := (⟨"com/example/grebe/grebe/bench/Tally", "stop", "(J)V"⟩ : MethodName)) hown (mvT hZ (hw _ (List.mem_of_getElem? (i := 35) rfl))) (mvT hZ (hw _ (List.mem_of_getElem? (i := 36) rfl))) (notFace_of_selects (args := #[]) (mvT hZ (hw _ (List.mem_of_getElem? (i := 38) rfl)))) (mvT hZ (hw _ (List.mem_of_getElem? (i := 38) rfl))) (mvT hZ (hw _ (List.mem_of_getElem? (i := 37) rfl))) (by decide) (backOf (W := 0) (rm7_0 l Z a0 hw [] b9 j2_0 b10_0 T10.heap n0 (Nat.le_trans Z0 K10.1) Fq10_0 Fq10_1 Fq10_2 Fq10_3 Fq10_4 g_b9) hZ (hw _ (List.mem_of_getElem? (i := 39) rfl)) (hw _ (List.mem_of_getElem? (i := 2) rfl)) (by decide) (by decide)) q20a q20c (g := (mkF m 116 #[.val (.long q1), .second, .val (.long j2_0), .second, .val (.long j6_0), .second, .val (.int p4), .val (.ref b9), .val (.int (1 : Int32)), .val (.int (0 : Int32)), .val (.long (0 : Int64)), .second] [(.long j2_0), (.ref b9)])) rfl (by rw [hml]; rfl) (Steps.refl _) (argsL := [(.long j2_0)]) (rest := []) (lenOf pd_5 rfl) rfl (by show 2 * 0 + _ ≤ _; exact Nat.le_of_eq rfl) (hb hby at_116) (fun _ _ => ⟨rfl, e11, (by decide : 2 + 0 ≤ _), (by decide : 1029 + 0 ≤ _)⟩)
      dsimp only [Pt.U, Pt.locs, Pt.cells, Pt.slots] at X20 l20 y20 z20 st20 hQ20
      subst l20 y20 z20
      obtain ⟨rfl, N20q, K20q, Fq20_0, Fq20_1, Fq20_2, Fq20_3, Fq20_4⟩ := hQ20
      have N20 := Fr.app N11 N20q
      have K20 : Keep h0 T20.heap [] := Keep.trans K10 K20q (allS (Or.inr sz_b9) all0)
      have cf21 := (Fq10_5.keep K20q (ninS (Ne.symm ne_b9_b10_0) nin0))
      obtain ⟨_, _, ⟨T22, L22, k22, n22⟩, -, X22, ⟨Lc22, hQ22, l22, y22, z22⟩, st22⟩ := Jvm.LawKit.callS X20 hx (y := (⟨"com/example/grebe/grebe/bench/TallyStopPinLaw", "matches", "(Lcom/example/grebe/grebe/bench/Tally;ZJ)Z"⟩ : MethodName)) hown (mvT hZ (hw _ (List.mem_of_getElem? (i := 12) rfl))) (mvT hZ (hw _ (List.mem_of_getElem? (i := 13) rfl))) (mvT hZ (hw _ (List.mem_of_getElem? (i := 14) rfl))) (mvT hZ (hw _ (List.mem_of_getElem? (i := 15) rfl))) (by decide) (backOf (W := 0) (rm3_1 l Z a0 hw [] b9 j2_0 T20.heap n0 (Nat.le_trans Z0 K20.1) Fq20_0 Fq20_2 Fq20_3) hZ (hw _ (List.mem_of_getElem? (i := 15) rfl)) (hw _ (List.mem_of_getElem? (i := 14) rfl)) (by decide) (by decide)) (g := (mkF m 150 #[.val (.long q1), .second, .val (.long j2_0), .second, .val (.long j6_0), .second, .val (.int p4), .val (.ref b9), .val (.int (1 : Int32)), .val (.int (1 : Int32)), .val (.long j2_0), .second] [(.long j2_0), (.int (1 : Int32)), (.ref b9)])) rfl (by rw [hml]; rfl) (argsL := [(.ref b9), (.int (1 : Int32)), (.long j2_0)]) (rest := []) (lenOf pd_3 rfl) rfl (by show 2 * 0 + _ ≤ _; exact Nat.le_of_eq rfl) (hb hby at_150) (fun _ _ => ⟨rfl, rfl, (by decide : 2 + 1 ≤ _), (by decide : 1029 + 2 ≤ _)⟩)
      dsimp only [Pt.U, Pt.locs, Pt.cells, Pt.slots] at X22 l22 y22 z22 st22 hQ22
      subst l22 y22 z22
      obtain ⟨rfl, N22q, K22q⟩ := hQ22
      have N22 := Fr.app N20 N22q
      have K22 : Keep h0 T22.heap [] := Keep.trans K20 K22q all0
      have k23 : ∀ t, Steps p.tables e below (T22.setTop (mkF m 167 #[.val (.long q1), .second, .val (.long j2_0), .second, .val (.long j6_0), .second, .val (.int p4), .val (.ref b9), .val (.int (1 : Int32)), .val (.int (1 : Int32)), .val (.long j2_0), .second] [(.int (p4 &&& (4 : Int32)))])) t → Steps p.tables e below (s₁.setTop (entryFrame m #[(.long q1), (.long q2), (.long q3), (.int p4)] maxLocals)) t := by
        intro t k
        refine k13 t ?_
        show Steps p.tables e below (T11.setTop (mkF m 110 #[.val (.long q1), .second, .val (.long j2_0), .second, .val (.long j6_0), .second, .val (.int p4), .val (.ref b9), .val (.int (1 : Int32)), .val (.int (0 : Int32)), .val (.long (0 : Int64)), .second] [(.int (p4 &&& (2 : Int32)))])) _
        refine XS.ifNo X11.here hx rfl (hb hby at_110) rfl ((if0 _ _).trans (feq hc110_4).1) ?_
        show Steps p.tables e below (T11.setTop (mkF m 113 #[.val (.long q1), .second, .val (.long j2_0), .second, .val (.long j6_0), .second, .val (.int p4), .val (.ref b9), .val (.int (1 : Int32)), .val (.int (0 : Int32)), .val (.long (0 : Int64)), .second] [])) _
        refine XS.aload X11.here hx rfl (hb hby at_113) rfl rfl ?_
        show Steps p.tables e below (T11.setTop (mkF m 115 #[.val (.long q1), .second, .val (.long j2_0), .second, .val (.long j6_0), .second, .val (.int p4), .val (.ref b9), .val (.int (1 : Int32)), .val (.int (0 : Int32)), .val (.long (0 : Int64)), .second] [(.ref b9)])) _
        refine XS.lloadN X11.here hx rfl (hb hby at_115) rfl ?_
        show Steps p.tables e below (T11.setTop (mkF m 116 #[.val (.long q1), .second, .val (.long j2_0), .second, .val (.long j6_0), .second, .val (.int p4), .val (.ref b9), .val (.int (1 : Int32)), .val (.int (0 : Int32)), .val (.long (0 : Int64)), .second] [(.long j2_0), (.ref b9)])) _
        refine st20.trans ?_
        show Steps p.tables e below (T20.setTop (mkF m 119 #[.val (.long q1), .second, .val (.long j2_0), .second, .val (.long j6_0), .second, .val (.int p4), .val (.ref b9), .val (.int (1 : Int32)), .val (.int (0 : Int32)), .val (.long (0 : Int64)), .second] [])) _
        refine XS.iload X20.here hx rfl (hb hby at_119) rfl ?_
        show Steps p.tables e below (T20.setTop (mkF m 121 #[.val (.long q1), .second, .val (.long j2_0), .second, .val (.long j6_0), .second, .val (.int p4), .val (.ref b9), .val (.int (1 : Int32)), .val (.int (0 : Int32)), .val (.long (0 : Int64)), .second] [(.int (0 : Int32))])) _
        refine XS.ifYes X20.here hx rfl (pc0 := 121) (pc' := 133) rfl (hb hby at_121) rfl ((if0 _ _).trans (teq (by decide : (0 : Int32) = (0 : Int32))).1) (by decide) (by decide) ?_
        show Steps p.tables e below (T20.setTop (mkF m 133 #[.val (.long q1), .second, .val (.long j2_0), .second, .val (.long j6_0), .second, .val (.int p4), .val (.ref b9), .val (.int (1 : Int32)), .val (.int (0 : Int32)), .val (.long (0 : Int64)), .second] [])) _
        refine XS.lloadN X20.here hx rfl (hb hby at_133) rfl ?_
        show Steps p.tables e below (T20.setTop (mkF m 134 #[.val (.long q1), .second, .val (.long j2_0), .second, .val (.long j6_0), .second, .val (.int p4), .val (.ref b9), .val (.int (1 : Int32)), .val (.int (0 : Int32)), .val (.long (0 : Int64)), .second] [(.long j2_0)])) _
        refine XS.lstore X20.here hx rfl (hb hby at_134) rfl (l' := #[.val (.long q1), .second, .val (.long j2_0), .second, .val (.long j6_0), .second, .val (.int p4), .val (.ref b9), .val (.int (1 : Int32)), .val (.int (0 : Int32)), .val (.long j2_0), .second]) rfl ?_
        show Steps p.tables e below (T20.setTop (mkF m 136 #[.val (.long q1), .second, .val (.long j2_0), .second, .val (.long j6_0), .second, .val (.int p4), .val (.ref b9), .val (.int (1 : Int32)), .val (.int (0 : Int32)), .val (.long j2_0), .second] [])) _
        refine XS.iconst X20.here hx rfl (hb hby at_136) ?_
        show Steps p.tables e below (T20.setTop (mkF m 137 #[.val (.long q1), .second, .val (.long j2_0), .second, .val (.long j6_0), .second, .val (.int p4), .val (.ref b9), .val (.int (1 : Int32)), .val (.int (0 : Int32)), .val (.long j2_0), .second] [(.int (1 : Int32))])) _
        refine XS.istore X20.here hx rfl (hb hby at_137) rfl (l' := #[.val (.long q1), .second, .val (.long j2_0), .second, .val (.long j6_0), .second, .val (.int p4), .val (.ref b9), .val (.int (1 : Int32)), .val (.int (1 : Int32)), .val (.long j2_0), .second]) rfl ?_
        show Steps p.tables e below (T20.setTop (mkF m 139 #[.val (.long q1), .second, .val (.long j2_0), .second, .val (.long j6_0), .second, .val (.int p4), .val (.ref b9), .val (.int (1 : Int32)), .val (.int (1 : Int32)), .val (.long j2_0), .second] [])) _
        refine XS.iload X20.here hx rfl (hb hby at_139) rfl ?_
        show Steps p.tables e below (T20.setTop (mkF m 141 #[.val (.long q1), .second, .val (.long j2_0), .second, .val (.long j6_0), .second, .val (.int p4), .val (.ref b9), .val (.int (1 : Int32)), .val (.int (1 : Int32)), .val (.long j2_0), .second] [(.int (1 : Int32))])) _
        refine XS.ifNo X20.here hx rfl (hb hby at_141) rfl ((if0 _ _).trans (feq (by decide : ¬ ((1 : Int32) = (0 : Int32)))).1) ?_
        show Steps p.tables e below (T20.setTop (mkF m 144 #[.val (.long q1), .second, .val (.long j2_0), .second, .val (.long j6_0), .second, .val (.int p4), .val (.ref b9), .val (.int (1 : Int32)), .val (.int (1 : Int32)), .val (.long j2_0), .second] [])) _
        refine XS.aload X20.here hx rfl (hb hby at_144) rfl rfl ?_
        show Steps p.tables e below (T20.setTop (mkF m 146 #[.val (.long q1), .second, .val (.long j2_0), .second, .val (.long j6_0), .second, .val (.int p4), .val (.ref b9), .val (.int (1 : Int32)), .val (.int (1 : Int32)), .val (.long j2_0), .second] [(.ref b9)])) _
        refine XS.iload X20.here hx rfl (hb hby at_146) rfl ?_
        show Steps p.tables e below (T20.setTop (mkF m 148 #[.val (.long q1), .second, .val (.long j2_0), .second, .val (.long j6_0), .second, .val (.int p4), .val (.ref b9), .val (.int (1 : Int32)), .val (.int (1 : Int32)), .val (.long j2_0), .second] [(.int (1 : Int32)), (.ref b9)])) _
        refine XS.lload X20.here hx rfl (hb hby at_148) rfl ?_
        show Steps p.tables e below (T20.setTop (mkF m 150 #[.val (.long q1), .second, .val (.long j2_0), .second, .val (.long j6_0), .second, .val (.int p4), .val (.ref b9), .val (.int (1 : Int32)), .val (.int (1 : Int32)), .val (.long j2_0), .second] [(.long j2_0), (.int (1 : Int32)), (.ref b9)])) _
        refine st22 _ ?_
        show Steps p.tables e below (T22.setTop (mkF m 153 #[.val (.long q1), .second, .val (.long j2_0), .second, .val (.long j6_0), .second, .val (.int p4), .val (.ref b9), .val (.int (1 : Int32)), .val (.int (1 : Int32)), .val (.long j2_0), .second] [(.int (1 : Int32))])) _
        refine XS.ifNo X22.here hx rfl (hb hby at_153) rfl ((if0 _ _).trans (feq (by decide : ¬ ((1 : Int32) = (0 : Int32)))).1) ?_
        show Steps p.tables e below (T22.setTop (mkF m 156 #[.val (.long q1), .second, .val (.long j2_0), .second, .val (.long j6_0), .second, .val (.int p4), .val (.ref b9), .val (.int (1 : Int32)), .val (.int (1 : Int32)), .val (.long j2_0), .second] [])) _
        refine XS.iconst X22.here hx rfl (hb hby at_156) ?_
        show Steps p.tables e below (T22.setTop (mkF m 157 #[.val (.long q1), .second, .val (.long j2_0), .second, .val (.long j6_0), .second, .val (.int p4), .val (.ref b9), .val (.int (1 : Int32)), .val (.int (1 : Int32)), .val (.long j2_0), .second] [(.int (1 : Int32))])) _
        refine XS.goto X22.here hx rfl (pc0 := 157) (pc' := 161) rfl (hb hby at_157) (by decide) (by decide) ?_
        show Steps p.tables e below (T22.setTop (mkF m 161 #[.val (.long q1), .second, .val (.long j2_0), .second, .val (.long j6_0), .second, .val (.int p4), .val (.ref b9), .val (.int (1 : Int32)), .val (.int (1 : Int32)), .val (.long j2_0), .second] [(.int (1 : Int32))])) _
        refine XS.istore X22.here hx rfl (hb hby at_161) rfl (l' := #[.val (.long q1), .second, .val (.long j2_0), .second, .val (.long j6_0), .second, .val (.int p4), .val (.ref b9), .val (.int (1 : Int32)), .val (.int (1 : Int32)), .val (.long j2_0), .second]) rfl ?_
        show Steps p.tables e below (T22.setTop (mkF m 163 #[.val (.long q1), .second, .val (.long j2_0), .second, .val (.long j6_0), .second, .val (.int p4), .val (.ref b9), .val (.int (1 : Int32)), .val (.int (1 : Int32)), .val (.long j2_0), .second] [])) _
        refine XS.iload X22.here hx rfl (hb hby at_163) rfl ?_
        show Steps p.tables e below (T22.setTop (mkF m 165 #[.val (.long q1), .second, .val (.long j2_0), .second, .val (.long j6_0), .second, .val (.int p4), .val (.ref b9), .val (.int (1 : Int32)), .val (.int (1 : Int32)), .val (.long j2_0), .second] [(.int p4)])) _
        refine XS.iconst X22.here hx rfl (hb hby at_165) ?_
        show Steps p.tables e below (T22.setTop (mkF m 166 #[.val (.long q1), .second, .val (.long j2_0), .second, .val (.long j6_0), .second, .val (.int p4), .val (.ref b9), .val (.int (1 : Int32)), .val (.int (1 : Int32)), .val (.long j2_0), .second] [(.int (4 : Int32)), (.int p4)])) _
        refine XS.iand X22.here hx rfl (hb hby at_166) rfl ?_
        exact k
      by_cases hc167_6 : (p4 &&& (4 : Int32)) = (0 : Int32)
      ·
        obtain ⟨cq24, kq24, q24a, q24b, q24c⟩ := isOf hZ rfl (Fq20_0.keep K22q)
        obtain ⟨_, _, ⟨T24, L24, k24, n24⟩, -, X24, ⟨Lc24, hQ24, l24, y24, z24⟩, st24⟩ := X22.virtualBack hx (y := (⟨"com/example/grebe/grebe/bench/Tally", "count", "()J"⟩ : MethodName)) (z := (⟨"com/example/grebe/grebe/bench/Tally", "count", "()J"⟩ : MethodName)) hown (mvT hZ (hw _ (List.mem_of_getElem? (i := 59) rfl))) (mvT hZ (hw _ (List.mem_of_getElem? (i := 60) rfl))) (notFace_of_selects (args := #[]) (mvT hZ (hw _ (List.mem_of_getElem? (i := 62) rfl)))) (mvT hZ (hw _ (List.mem_of_getElem? (i := 62) rfl))) (mvT hZ (hw _ (List.mem_of_getElem? (i := 61) rfl))) (by decide) (backOf (W := 0) (rm11_1 l Z a0 hw [] b9 T22.heap n0 (Nat.le_trans Z0 K22.1) (Fq20_4.keep K22q nin0)) hZ (hw _ (List.mem_of_getElem? (i := 63) rfl)) (hw _ (List.mem_of_getElem? (i := 2) rfl)) (by decide) (by decide)) q24a q24c (g := (mkF m 230 #[.val (.long q1), .second, .val (.long j2_0), .second, .val (.long j6_0), .second, .val (.int p4), .val (.ref b9), .val (.int (1 : Int32)), .val (.int (1 : Int32)), .val (.long j2_0), .second] [(.ref b9)])) rfl (by rw [hml]; rfl) (Steps.refl _) (argsL := []) (rest := []) (lenOf pd_4 rfl) rfl (by show 2 * 0 + _ ≤ _; exact Nat.le_of_eq rfl) (hb hby at_230) (fun _ _ => ⟨rfl, rfl, (by decide : 3 + 0 ≤ _), (by decide : 1031 + 0 ≤ _)⟩)
        dsimp only [Pt.U, Pt.locs, Pt.cells, Pt.slots] at X24 l24 y24 z24 st24 hQ24
        subst l24 y24 z24
        obtain ⟨rfl, N24q, e24⟩ := hQ24
        have N24 := Fr.app N22 N24q
        obtain ⟨fs, hr, hrun, hended, hW, hsame⟩ := X24.leave (v := some (.int (1 : Int32))) (fun h => by rw [Bd.returns] at h; cases h)
        refine ⟨_, _, k23 _ ?_, hrun, hended, _, _, rfl, ?_, ⟨_, rfl⟩, hW, hsame.mono (by decide) (by decide)⟩
        ·
          show Steps p.tables e below (T22.setTop (mkF m 167 #[.val (.long q1), .second, .val (.long j2_0), .second, .val (.long j6_0), .second, .val (.int p4), .val (.ref b9), .val (.int (1 : Int32)), .val (.int (1 : Int32)), .val (.long j2_0), .second] [(.int (p4 &&& (4 : Int32)))])) _
          refine XS.ifYes X22.here hx rfl (pc0 := 167) (pc' := 223) rfl (hb hby at_167) rfl ((if0 _ _).trans (teq hc167_6).1) (by decide) (by decide) ?_
          show Steps p.tables e below (T22.setTop (mkF m 223 #[.val (.long q1), .second, .val (.long j2_0), .second, .val (.long j6_0), .second, .val (.int p4), .val (.ref b9), .val (.int (1 : Int32)), .val (.int (1 : Int32)), .val (.long j2_0), .second] [])) _
          refine XS.iload X22.here hx rfl (hb hby at_223) rfl ?_
          show Steps p.tables e below (T22.setTop (mkF m 225 #[.val (.long q1), .second, .val (.long j2_0), .second, .val (.long j6_0), .second, .val (.int p4), .val (.ref b9), .val (.int (1 : Int32)), .val (.int (1 : Int32)), .val (.long j2_0), .second] [(.int (1 : Int32))])) _
          refine XS.ifNo X22.here hx rfl (hb hby at_225) rfl ((if0 _ _).trans (feq (by decide : ¬ ((1 : Int32) = (0 : Int32)))).1) ?_
          show Steps p.tables e below (T22.setTop (mkF m 228 #[.val (.long q1), .second, .val (.long j2_0), .second, .val (.long j6_0), .second, .val (.int p4), .val (.ref b9), .val (.int (1 : Int32)), .val (.int (1 : Int32)), .val (.long j2_0), .second] [])) _
          refine XS.aload X22.here hx rfl (hb hby at_228) rfl rfl ?_
          show Steps p.tables e below (T22.setTop (mkF m 230 #[.val (.long q1), .second, .val (.long j2_0), .second, .val (.long j6_0), .second, .val (.int p4), .val (.ref b9), .val (.int (1 : Int32)), .val (.int (1 : Int32)), .val (.long j2_0), .second] [(.ref b9)])) _
          refine st24.trans ?_
          show Steps p.tables e below (T24.setTop (mkF m 233 #[.val (.long q1), .second, .val (.long j2_0), .second, .val (.long j6_0), .second, .val (.int p4), .val (.ref b9), .val (.int (1 : Int32)), .val (.int (1 : Int32)), .val (.long j2_0), .second] [(.long (0 : Int64))])) _
          refine XS.lconst X24.here hx rfl (hb hby at_233) ?_
          show Steps p.tables e below (T24.setTop (mkF m 234 #[.val (.long q1), .second, .val (.long j2_0), .second, .val (.long j6_0), .second, .val (.int p4), .val (.ref b9), .val (.int (1 : Int32)), .val (.int (1 : Int32)), .val (.long j2_0), .second] [(.long (0 : Int64)), (.long (0 : Int64))])) _
          refine XS.lcmp X24.here hx rfl (hb hby at_234) rfl ?_
          show Steps p.tables e below (T24.setTop (mkF m 235 #[.val (.long q1), .second, .val (.long j2_0), .second, .val (.long j6_0), .second, .val (.int p4), .val (.ref b9), .val (.int (1 : Int32)), .val (.int (1 : Int32)), .val (.long j2_0), .second] [(.int (lcmpW (0 : Int64) (0 : Int64)))])) _
          rewrite [(lw_eq (0 : Int64) (0 : Int64)).mpr rfl]
          show Steps p.tables e below (T24.setTop (mkF m 235 #[.val (.long q1), .second, .val (.long j2_0), .second, .val (.long j6_0), .second, .val (.int p4), .val (.ref b9), .val (.int (1 : Int32)), .val (.int (1 : Int32)), .val (.long j2_0), .second] [(.int (0 : Int32))])) _
          refine XS.ifNo X24.here hx rfl (hb hby at_235) rfl ((if0 _ _).trans (teq (by decide : (0 : Int32) = (0 : Int32))).2) ?_
          show Steps p.tables e below (T24.setTop (mkF m 238 #[.val (.long q1), .second, .val (.long j2_0), .second, .val (.long j6_0), .second, .val (.int p4), .val (.ref b9), .val (.int (1 : Int32)), .val (.int (1 : Int32)), .val (.long j2_0), .second] [])) _
          refine XS.iconst X24.here hx rfl (hb hby at_238) ?_
          show Steps p.tables e below (T24.setTop (mkF m 239 #[.val (.long q1), .second, .val (.long j2_0), .second, .val (.long j6_0), .second, .val (.int p4), .val (.ref b9), .val (.int (1 : Int32)), .val (.int (1 : Int32)), .val (.long j2_0), .second] [(.int (1 : Int32))])) _
          refine XS.goto X24.here hx rfl (pc0 := 239) (pc' := 243) rfl (hb hby at_239) (by decide) (by decide) ?_
          show Steps p.tables e below (T24.setTop (mkF m 243 #[.val (.long q1), .second, .val (.long j2_0), .second, .val (.long j6_0), .second, .val (.int p4), .val (.ref b9), .val (.int (1 : Int32)), .val (.int (1 : Int32)), .val (.long j2_0), .second] [(.int (1 : Int32))])) _
          exact retN X24 hx (t := .boolean) Bd.returns (by simp) (hb hby at_243) hr
        · show Q0_0 Z q1 q2 q3 p4 w_EMPTY h0 n0 _ T24.heap _
          rw [e24]
          exact ⟨rfl, N24⟩
      ·
        have k25 : ∀ t, Steps p.tables e below (T22.setTop (mkF m 174 #[.val (.long q1), .second, .val (.long j2_0), .second, .val (.long j6_0), .second, .val (.int p4), .val (.ref b9), .val (.int (1 : Int32)), .val (.int (1 : Int32)), .val (.long j2_0), .second] [(.long j6_0), (.ref b9)])) t → Steps p.tables e below (s₁.setTop (entryFrame m #[(.long q1), (.long q2), (.long q3), (.int p4)] maxLocals)) t := by
          intro t k
          refine k23 t ?_
          show Steps p.tables e below (T22.setTop (mkF m 167 #[.val (.long q1), .second, .val (.long j2_0), .second, .val (.long j6_0), .second, .val (.int p4), .val (.ref b9), .val (.int (1 : Int32)), .val (.int (1 : Int32)), .val (.long j2_0), .second] [(.int (p4 &&& (4 : Int32)))])) _
          refine XS.ifNo X22.here hx rfl (hb hby at_167) rfl ((if0 _ _).trans (feq hc167_6).1) ?_
          show Steps p.tables e below (T22.setTop (mkF m 170 #[.val (.long q1), .second, .val (.long j2_0), .second, .val (.long j6_0), .second, .val (.int p4), .val (.ref b9), .val (.int (1 : Int32)), .val (.int (1 : Int32)), .val (.long j2_0), .second] [])) _
          refine XS.aload X22.here hx rfl (hb hby at_170) rfl rfl ?_
          show Steps p.tables e below (T22.setTop (mkF m 172 #[.val (.long q1), .second, .val (.long j2_0), .second, .val (.long j6_0), .second, .val (.int p4), .val (.ref b9), .val (.int (1 : Int32)), .val (.int (1 : Int32)), .val (.long j2_0), .second] [(.ref b9)])) _
          refine XS.lload X22.here hx rfl (hb hby at_172) rfl ?_
          exact k
        by_cases hc174_7 : (0 : Int32) < (lcmpW (j6_0 - j2_0) (0 : Int64))
        ·
          obtain ⟨cq26, kq26, q26a, q26b, q26c⟩ := isOf hZ rfl (Fq20_0.keep K22q)
          obtain ⟨_, _, ⟨T26, L26, k26, n26⟩, -, X26, ⟨Lc26, hQ26, l26, y26, z26⟩, st26⟩ := X22.virtualBack hx (y := (⟨"com/example/grebe/grebe/bench/Tally", "stop", "(J)V"⟩ : MethodName)) (z := (⟨"com/example/grebe/grebe/bench/Tally", "stop", "(J)V"⟩ : MethodName)) hown (mvT hZ (hw _ (List.mem_of_getElem? (i := 35) rfl))) (mvT hZ (hw _ (List.mem_of_getElem? (i := 36) rfl))) (notFace_of_selects (args := #[]) (mvT hZ (hw _ (List.mem_of_getElem? (i := 38) rfl)))) (mvT hZ (hw _ (List.mem_of_getElem? (i := 38) rfl))) (mvT hZ (hw _ (List.mem_of_getElem? (i := 37) rfl))) (by decide) (backOf (W := 0) (rm7_1 l Z a0 hw [] b9 j6_0 b10_0 j2_0 T22.heap n0 (Nat.le_trans Z0 K22.1) (Fq20_0.keep K22q) (Fq20_1.keep K22q nin0) (Fq20_2.keep K22q nin0) (Fq20_3.keep K22q nin0) (Fq20_4.keep K22q nin0) hc174_7 g_b9) hZ (hw _ (List.mem_of_getElem? (i := 39) rfl)) (hw _ (List.mem_of_getElem? (i := 2) rfl)) (by decide) (by decide)) q26a q26c (g := (mkF m 174 #[.val (.long q1), .second, .val (.long j2_0), .second, .val (.long j6_0), .second, .val (.int p4), .val (.ref b9), .val (.int (1 : Int32)), .val (.int (1 : Int32)), .val (.long j2_0), .second] [(.long j6_0), (.ref b9)])) rfl (by rw [hml]; rfl) (Steps.refl _) (argsL := [(.long j6_0)]) (rest := []) (lenOf pd_5 rfl) rfl (by show 2 * 0 + _ ≤ _; exact Nat.le_of_eq rfl) (hb hby at_174) (fun _ _ => ⟨rfl, rfl, (by decide : 3 + 0 ≤ _), (by decide : 1031 + 0 ≤ _)⟩)
          dsimp only [Pt.U, Pt.locs, Pt.cells, Pt.slots] at X26 l26 y26 z26 st26 hQ26
          subst l26 y26 z26
          obtain ⟨rfl, N26q, K26q, Fq26_0, Fq26_1, Fq26_2, Fq26_3, Fq26_4⟩ := hQ26
          have N26 := Fr.app N22 N26q
          have K26 : Keep h0 T26.heap [] := Keep.trans K22 K26q (allS (Or.inr sz_b9) all0)
          have cf27 := ((cf21.keep K22q nin0).keep K26q (ninS (Ne.symm ne_b9_b10_0) nin0))
          obtain ⟨_, _, ⟨T28, L28, k28, n28⟩, -, X28, ⟨Lc28, hQ28, l28, y28, z28⟩, st28⟩ := Jvm.LawKit.callS X26 hx (y := (⟨"com/example/grebe/grebe/bench/TallyStopPinLaw", "laterThan", "(JJ)Z"⟩ : MethodName)) hown (mvT hZ (hw _ (List.mem_of_getElem? (i := 67) rfl))) (mvT hZ (hw _ (List.mem_of_getElem? (i := 68) rfl))) (mvT hZ (hw _ (List.mem_of_getElem? (i := 14) rfl))) (mvT hZ (hw _ (List.mem_of_getElem? (i := 69) rfl))) (by decide) (backOf (W := 0) (rm12_0 l Z a0 hw [] j6_0 j2_0 T26.heap n0 (Nat.le_trans Z0 K26.1) hc174_7) hZ (hw _ (List.mem_of_getElem? (i := 69) rfl)) (hw _ (List.mem_of_getElem? (i := 14) rfl)) (by decide) (by decide)) (g := (mkF m 186 #[.val (.long q1), .second, .val (.long j2_0), .second, .val (.long j6_0), .second, .val (.int p4), .val (.ref b9), .val (.int (1 : Int32)), .val (.int (1 : Int32)), .val (.long j2_0), .second] [(.long j2_0), (.long j6_0)])) rfl (by rw [hml]; rfl) (argsL := [(.long j6_0), (.long j2_0)]) (rest := []) (lenOf pd_7 rfl) rfl (by show 2 * 0 + _ ≤ _; exact Nat.le_of_eq rfl) (hb hby at_186) (fun _ _ => ⟨rfl, rfl, (by decide : 3 + 0 ≤ _), (by decide : 1031 + 0 ≤ _)⟩)
          dsimp only [Pt.U, Pt.locs, Pt.cells, Pt.slots] at X28 l28 y28 z28 st28 hQ28
          subst l28 y28 z28
          obtain ⟨rfl, N28q, e28⟩ := hQ28
          have N28 := Fr.app N26 N28q
          obtain ⟨_, _, ⟨T29, L29, k29, n29⟩, -, X29, ⟨Lc29, hQ29, l29, y29, z29⟩, st29⟩ := Jvm.LawKit.callS X28 hx (y := (⟨"com/example/grebe/grebe/bench/TallyStopPinLaw", "matches", "(Lcom/example/grebe/grebe/bench/Tally;ZJ)Z"⟩ : MethodName)) hown (mvT hZ (hw _ (List.mem_of_getElem? (i := 12) rfl))) (mvT hZ (hw _ (List.mem_of_getElem? (i := 13) rfl))) (mvT hZ (hw _ (List.mem_of_getElem? (i := 14) rfl))) (mvT hZ (hw _ (List.mem_of_getElem? (i := 15) rfl))) (by decide) (backOf (W := 0) (rm3_1 l Z a0 hw [] b9 j6_0 T26.heap n0 (Nat.le_trans Z0 K26.1) Fq26_0 Fq26_2 Fq26_3) hZ (hw _ (List.mem_of_getElem? (i := 15) rfl)) (hw _ (List.mem_of_getElem? (i := 14) rfl)) (by decide) (by decide)) (g := (mkF m 210 #[.val (.long q1), .second, .val (.long j2_0), .second, .val (.long j6_0), .second, .val (.int p4), .val (.ref b9), .val (.int (1 : Int32)), .val (.int (1 : Int32)), .val (.long j6_0), .second] [(.long j6_0), (.int (1 : Int32)), (.ref b9)])) rfl (by rw [hml]; rfl) (argsL := [(.ref b9), (.int (1 : Int32)), (.long j6_0)]) (rest := []) (lenOf pd_3 rfl) rfl (by show 2 * 0 + _ ≤ _; exact Nat.le_of_eq rfl) (hb hby at_210) (fun _ _ => ⟨rfl, e28, (by decide : 3 + 1 ≤ _), (by decide : 1031 + 2 ≤ _)⟩)
          dsimp only [Pt.U, Pt.locs, Pt.cells, Pt.slots] at X29 l29 y29 z29 st29 hQ29
          subst l29 y29 z29
          obtain ⟨rfl, N29q, K29q⟩ := hQ29
          have N29 := Fr.app N28 N29q
          have K29 : Keep h0 T29.heap [] := Keep.trans K26 K29q all0
          obtain ⟨cq30, kq30, q30a, q30b, q30c⟩ := isOf hZ rfl (Fq26_0.keep K29q)
          obtain ⟨_, _, ⟨T30, L30, k30, n30⟩, -, X30, ⟨Lc30, hQ30, l30, y30, z30⟩, st30⟩ := X29.virtualBack hx (y := (⟨"com/example/grebe/grebe/bench/Tally", "count", "()J"⟩ : MethodName)) (z := (⟨"com/example/grebe/grebe/bench/Tally", "count", "()J"⟩ : MethodName)) hown (mvT hZ (hw _ (List.mem_of_getElem? (i := 59) rfl))) (mvT hZ (hw _ (List.mem_of_getElem? (i := 60) rfl))) (notFace_of_selects (args := #[]) (mvT hZ (hw _ (List.mem_of_getElem? (i := 62) rfl)))) (mvT hZ (hw _ (List.mem_of_getElem? (i := 62) rfl))) (mvT hZ (hw _ (List.mem_of_getElem? (i := 61) rfl))) (by decide) (backOf (W := 0) (rm11_1 l Z a0 hw [] b9 T29.heap n0 (Nat.le_trans Z0 K29.1) (Fq26_4.keep K29q nin0)) hZ (hw _ (List.mem_of_getElem? (i := 63) rfl)) (hw _ (List.mem_of_getElem? (i := 2) rfl)) (by decide) (by decide)) q30a q30c (g := (mkF m 230 #[.val (.long q1), .second, .val (.long j2_0), .second, .val (.long j6_0), .second, .val (.int p4), .val (.ref b9), .val (.int (1 : Int32)), .val (.int (1 : Int32)), .val (.long j6_0), .second] [(.ref b9)])) rfl (by rw [hml]; rfl) (Steps.refl _) (argsL := []) (rest := []) (lenOf pd_4 rfl) rfl (by show 2 * 0 + _ ≤ _; exact Nat.le_of_eq rfl) (hb hby at_230) (fun _ _ => ⟨rfl, rfl, (by decide : 4 + 0 ≤ _), (by decide : 1033 + 0 ≤ _)⟩)
          dsimp only [Pt.U, Pt.locs, Pt.cells, Pt.slots] at X30 l30 y30 z30 st30 hQ30
          subst l30 y30 z30
          obtain ⟨rfl, N30q, e30⟩ := hQ30
          have N30 := Fr.app N29 N30q
          obtain ⟨fs, hr, hrun, hended, hW, hsame⟩ := X30.leave (v := some (.int (1 : Int32))) (fun h => by rw [Bd.returns] at h; cases h)
          refine ⟨_, _, k25 _ ?_, hrun, hended, _, _, rfl, ?_, ⟨_, rfl⟩, hW, hsame.mono (by decide) (by decide)⟩
          ·
            show Steps p.tables e below (T22.setTop (mkF m 174 #[.val (.long q1), .second, .val (.long j2_0), .second, .val (.long j6_0), .second, .val (.int p4), .val (.ref b9), .val (.int (1 : Int32)), .val (.int (1 : Int32)), .val (.long j2_0), .second] [(.long j6_0), (.ref b9)])) _
            refine st26.trans ?_
            show Steps p.tables e below (T26.setTop (mkF m 177 #[.val (.long q1), .second, .val (.long j2_0), .second, .val (.long j6_0), .second, .val (.int p4), .val (.ref b9), .val (.int (1 : Int32)), .val (.int (1 : Int32)), .val (.long j2_0), .second] [])) _
            refine XS.iload X26.here hx rfl (hb hby at_177) rfl ?_
            show Steps p.tables e below (T26.setTop (mkF m 179 #[.val (.long q1), .second, .val (.long j2_0), .second, .val (.long j6_0), .second, .val (.int p4), .val (.ref b9), .val (.int (1 : Int32)), .val (.int (1 : Int32)), .val (.long j2_0), .second] [(.int (1 : Int32))])) _
            refine XS.ifNo X26.here hx rfl (hb hby at_179) rfl ((if0 _ _).trans (feq (by decide : ¬ ((1 : Int32) = (0 : Int32)))).1) ?_
            show Steps p.tables e below (T26.setTop (mkF m 182 #[.val (.long q1), .second, .val (.long j2_0), .second, .val (.long j6_0), .second, .val (.int p4), .val (.ref b9), .val (.int (1 : Int32)), .val (.int (1 : Int32)), .val (.long j2_0), .second] [])) _
            refine XS.lload X26.here hx rfl (hb hby at_182) rfl ?_
            show Steps p.tables e below (T26.setTop (mkF m 184 #[.val (.long q1), .second, .val (.long j2_0), .second, .val (.long j6_0), .second, .val (.int p4), .val (.ref b9), .val (.int (1 : Int32)), .val (.int (1 : Int32)), .val (.long j2_0), .second] [(.long j6_0)])) _
            refine XS.lload X26.here hx rfl (hb hby at_184) rfl ?_
            show Steps p.tables e below (T26.setTop (mkF m 186 #[.val (.long q1), .second, .val (.long j2_0), .second, .val (.long j6_0), .second, .val (.int p4), .val (.ref b9), .val (.int (1 : Int32)), .val (.int (1 : Int32)), .val (.long j2_0), .second] [(.long j2_0), (.long j6_0)])) _
            refine st28 _ ?_
            show Steps p.tables e below (T28.setTop (mkF m 189 #[.val (.long q1), .second, .val (.long j2_0), .second, .val (.long j6_0), .second, .val (.int p4), .val (.ref b9), .val (.int (1 : Int32)), .val (.int (1 : Int32)), .val (.long j2_0), .second] [(.int (1 : Int32))])) _
            refine XS.ifNo X28.here hx rfl (hb hby at_189) rfl ((if0 _ _).trans (feq (by decide : ¬ ((1 : Int32) = (0 : Int32)))).1) ?_
            show Steps p.tables e below (T28.setTop (mkF m 192 #[.val (.long q1), .second, .val (.long j2_0), .second, .val (.long j6_0), .second, .val (.int p4), .val (.ref b9), .val (.int (1 : Int32)), .val (.int (1 : Int32)), .val (.long j2_0), .second] [])) _
            refine XS.lload X28.here hx rfl (hb hby at_192) rfl ?_
            show Steps p.tables e below (T28.setTop (mkF m 194 #[.val (.long q1), .second, .val (.long j2_0), .second, .val (.long j6_0), .second, .val (.int p4), .val (.ref b9), .val (.int (1 : Int32)), .val (.int (1 : Int32)), .val (.long j2_0), .second] [(.long j6_0)])) _
            refine XS.lstore X28.here hx rfl (hb hby at_194) rfl (l' := #[.val (.long q1), .second, .val (.long j2_0), .second, .val (.long j6_0), .second, .val (.int p4), .val (.ref b9), .val (.int (1 : Int32)), .val (.int (1 : Int32)), .val (.long j6_0), .second]) rfl ?_
            show Steps p.tables e below (T28.setTop (mkF m 196 #[.val (.long q1), .second, .val (.long j2_0), .second, .val (.long j6_0), .second, .val (.int p4), .val (.ref b9), .val (.int (1 : Int32)), .val (.int (1 : Int32)), .val (.long j6_0), .second] [])) _
            refine XS.iconst X28.here hx rfl (hb hby at_196) ?_
            show Steps p.tables e below (T28.setTop (mkF m 197 #[.val (.long q1), .second, .val (.long j2_0), .second, .val (.long j6_0), .second, .val (.int p4), .val (.ref b9), .val (.int (1 : Int32)), .val (.int (1 : Int32)), .val (.long j6_0), .second] [(.int (1 : Int32))])) _
            refine XS.istore X28.here hx rfl (hb hby at_197) rfl (l' := #[.val (.long q1), .second, .val (.long j2_0), .second, .val (.long j6_0), .second, .val (.int p4), .val (.ref b9), .val (.int (1 : Int32)), .val (.int (1 : Int32)), .val (.long j6_0), .second]) rfl ?_
            show Steps p.tables e below (T28.setTop (mkF m 199 #[.val (.long q1), .second, .val (.long j2_0), .second, .val (.long j6_0), .second, .val (.int p4), .val (.ref b9), .val (.int (1 : Int32)), .val (.int (1 : Int32)), .val (.long j6_0), .second] [])) _
            refine XS.iload X28.here hx rfl (hb hby at_199) rfl ?_
            show Steps p.tables e below (T28.setTop (mkF m 201 #[.val (.long q1), .second, .val (.long j2_0), .second, .val (.long j6_0), .second, .val (.int p4), .val (.ref b9), .val (.int (1 : Int32)), .val (.int (1 : Int32)), .val (.long j6_0), .second] [(.int (1 : Int32))])) _
            refine XS.ifNo X28.here hx rfl (hb hby at_201) rfl ((if0 _ _).trans (feq (by decide : ¬ ((1 : Int32) = (0 : Int32)))).1) ?_
            show Steps p.tables e below (T28.setTop (mkF m 204 #[.val (.long q1), .second, .val (.long j2_0), .second, .val (.long j6_0), .second, .val (.int p4), .val (.ref b9), .val (.int (1 : Int32)), .val (.int (1 : Int32)), .val (.long j6_0), .second] [])) _
            refine XS.aload X28.here hx rfl (hb hby at_204) rfl rfl ?_
            show Steps p.tables e below (T28.setTop (mkF m 206 #[.val (.long q1), .second, .val (.long j2_0), .second, .val (.long j6_0), .second, .val (.int p4), .val (.ref b9), .val (.int (1 : Int32)), .val (.int (1 : Int32)), .val (.long j6_0), .second] [(.ref b9)])) _
            refine XS.iload X28.here hx rfl (hb hby at_206) rfl ?_
            show Steps p.tables e below (T28.setTop (mkF m 208 #[.val (.long q1), .second, .val (.long j2_0), .second, .val (.long j6_0), .second, .val (.int p4), .val (.ref b9), .val (.int (1 : Int32)), .val (.int (1 : Int32)), .val (.long j6_0), .second] [(.int (1 : Int32)), (.ref b9)])) _
            refine XS.lload X28.here hx rfl (hb hby at_208) rfl ?_
            show Steps p.tables e below (T28.setTop (mkF m 210 #[.val (.long q1), .second, .val (.long j2_0), .second, .val (.long j6_0), .second, .val (.int p4), .val (.ref b9), .val (.int (1 : Int32)), .val (.int (1 : Int32)), .val (.long j6_0), .second] [(.long j6_0), (.int (1 : Int32)), (.ref b9)])) _
            refine st29 _ ?_
            show Steps p.tables e below (T29.setTop (mkF m 213 #[.val (.long q1), .second, .val (.long j2_0), .second, .val (.long j6_0), .second, .val (.int p4), .val (.ref b9), .val (.int (1 : Int32)), .val (.int (1 : Int32)), .val (.long j6_0), .second] [(.int (1 : Int32))])) _
            refine XS.ifNo X29.here hx rfl (hb hby at_213) rfl ((if0 _ _).trans (feq (by decide : ¬ ((1 : Int32) = (0 : Int32)))).1) ?_
            show Steps p.tables e below (T29.setTop (mkF m 216 #[.val (.long q1), .second, .val (.long j2_0), .second, .val (.long j6_0), .second, .val (.int p4), .val (.ref b9), .val (.int (1 : Int32)), .val (.int (1 : Int32)), .val (.long j6_0), .second] [])) _
            refine XS.iconst X29.here hx rfl (hb hby at_216) ?_
            show Steps p.tables e below (T29.setTop (mkF m 217 #[.val (.long q1), .second, .val (.long j2_0), .second, .val (.long j6_0), .second, .val (.int p4), .val (.ref b9), .val (.int (1 : Int32)), .val (.int (1 : Int32)), .val (.long j6_0), .second] [(.int (1 : Int32))])) _
            refine XS.goto X29.here hx rfl (pc0 := 217) (pc' := 221) rfl (hb hby at_217) (by decide) (by decide) ?_
            show Steps p.tables e below (T29.setTop (mkF m 221 #[.val (.long q1), .second, .val (.long j2_0), .second, .val (.long j6_0), .second, .val (.int p4), .val (.ref b9), .val (.int (1 : Int32)), .val (.int (1 : Int32)), .val (.long j6_0), .second] [(.int (1 : Int32))])) _
            refine XS.istore X29.here hx rfl (hb hby at_221) rfl (l' := #[.val (.long q1), .second, .val (.long j2_0), .second, .val (.long j6_0), .second, .val (.int p4), .val (.ref b9), .val (.int (1 : Int32)), .val (.int (1 : Int32)), .val (.long j6_0), .second]) rfl ?_
            show Steps p.tables e below (T29.setTop (mkF m 223 #[.val (.long q1), .second, .val (.long j2_0), .second, .val (.long j6_0), .second, .val (.int p4), .val (.ref b9), .val (.int (1 : Int32)), .val (.int (1 : Int32)), .val (.long j6_0), .second] [])) _
            refine XS.iload X29.here hx rfl (hb hby at_223) rfl ?_
            show Steps p.tables e below (T29.setTop (mkF m 225 #[.val (.long q1), .second, .val (.long j2_0), .second, .val (.long j6_0), .second, .val (.int p4), .val (.ref b9), .val (.int (1 : Int32)), .val (.int (1 : Int32)), .val (.long j6_0), .second] [(.int (1 : Int32))])) _
            refine XS.ifNo X29.here hx rfl (hb hby at_225) rfl ((if0 _ _).trans (feq (by decide : ¬ ((1 : Int32) = (0 : Int32)))).1) ?_
            show Steps p.tables e below (T29.setTop (mkF m 228 #[.val (.long q1), .second, .val (.long j2_0), .second, .val (.long j6_0), .second, .val (.int p4), .val (.ref b9), .val (.int (1 : Int32)), .val (.int (1 : Int32)), .val (.long j6_0), .second] [])) _
            refine XS.aload X29.here hx rfl (hb hby at_228) rfl rfl ?_
            show Steps p.tables e below (T29.setTop (mkF m 230 #[.val (.long q1), .second, .val (.long j2_0), .second, .val (.long j6_0), .second, .val (.int p4), .val (.ref b9), .val (.int (1 : Int32)), .val (.int (1 : Int32)), .val (.long j6_0), .second] [(.ref b9)])) _
            refine st30.trans ?_
            show Steps p.tables e below (T30.setTop (mkF m 233 #[.val (.long q1), .second, .val (.long j2_0), .second, .val (.long j6_0), .second, .val (.int p4), .val (.ref b9), .val (.int (1 : Int32)), .val (.int (1 : Int32)), .val (.long j6_0), .second] [(.long (0 : Int64))])) _
            refine XS.lconst X30.here hx rfl (hb hby at_233) ?_
            show Steps p.tables e below (T30.setTop (mkF m 234 #[.val (.long q1), .second, .val (.long j2_0), .second, .val (.long j6_0), .second, .val (.int p4), .val (.ref b9), .val (.int (1 : Int32)), .val (.int (1 : Int32)), .val (.long j6_0), .second] [(.long (0 : Int64)), (.long (0 : Int64))])) _
            refine XS.lcmp X30.here hx rfl (hb hby at_234) rfl ?_
            show Steps p.tables e below (T30.setTop (mkF m 235 #[.val (.long q1), .second, .val (.long j2_0), .second, .val (.long j6_0), .second, .val (.int p4), .val (.ref b9), .val (.int (1 : Int32)), .val (.int (1 : Int32)), .val (.long j6_0), .second] [(.int (lcmpW (0 : Int64) (0 : Int64)))])) _
            rewrite [(lw_eq (0 : Int64) (0 : Int64)).mpr rfl]
            show Steps p.tables e below (T30.setTop (mkF m 235 #[.val (.long q1), .second, .val (.long j2_0), .second, .val (.long j6_0), .second, .val (.int p4), .val (.ref b9), .val (.int (1 : Int32)), .val (.int (1 : Int32)), .val (.long j6_0), .second] [(.int (0 : Int32))])) _
            refine XS.ifNo X30.here hx rfl (hb hby at_235) rfl ((if0 _ _).trans (teq (by decide : (0 : Int32) = (0 : Int32))).2) ?_
            show Steps p.tables e below (T30.setTop (mkF m 238 #[.val (.long q1), .second, .val (.long j2_0), .second, .val (.long j6_0), .second, .val (.int p4), .val (.ref b9), .val (.int (1 : Int32)), .val (.int (1 : Int32)), .val (.long j6_0), .second] [])) _
            refine XS.iconst X30.here hx rfl (hb hby at_238) ?_
            show Steps p.tables e below (T30.setTop (mkF m 239 #[.val (.long q1), .second, .val (.long j2_0), .second, .val (.long j6_0), .second, .val (.int p4), .val (.ref b9), .val (.int (1 : Int32)), .val (.int (1 : Int32)), .val (.long j6_0), .second] [(.int (1 : Int32))])) _
            refine XS.goto X30.here hx rfl (pc0 := 239) (pc' := 243) rfl (hb hby at_239) (by decide) (by decide) ?_
            show Steps p.tables e below (T30.setTop (mkF m 243 #[.val (.long q1), .second, .val (.long j2_0), .second, .val (.long j6_0), .second, .val (.int p4), .val (.ref b9), .val (.int (1 : Int32)), .val (.int (1 : Int32)), .val (.long j6_0), .second] [(.int (1 : Int32))])) _
            exact retN X30 hx (t := .boolean) Bd.returns (by simp) (hb hby at_243) hr
          · show Q0_0 Z q1 q2 q3 p4 w_EMPTY h0 n0 _ T30.heap _
            rw [e30]
            exact ⟨rfl, N30⟩
        ·
          obtain ⟨cq31, kq31, q31a, q31b, q31c⟩ := isOf hZ rfl (Fq20_0.keep K22q)
          obtain ⟨_, _, ⟨T31, L31, k31, n31⟩, -, X31, ⟨Lc31, hQ31, l31, y31, z31⟩, st31⟩ := X22.virtualBack hx (y := (⟨"com/example/grebe/grebe/bench/Tally", "stop", "(J)V"⟩ : MethodName)) (z := (⟨"com/example/grebe/grebe/bench/Tally", "stop", "(J)V"⟩ : MethodName)) hown (mvT hZ (hw _ (List.mem_of_getElem? (i := 35) rfl))) (mvT hZ (hw _ (List.mem_of_getElem? (i := 36) rfl))) (notFace_of_selects (args := #[]) (mvT hZ (hw _ (List.mem_of_getElem? (i := 38) rfl)))) (mvT hZ (hw _ (List.mem_of_getElem? (i := 38) rfl))) (mvT hZ (hw _ (List.mem_of_getElem? (i := 37) rfl))) (by decide) (backOf (W := 0) (rm7_2 l Z a0 hw [] b9 j6_0 j2_0 T22.heap n0 (Nat.le_trans Z0 K22.1) (Fq20_2.keep K22q nin0) (Fq20_3.keep K22q nin0) hc174_7) hZ (hw _ (List.mem_of_getElem? (i := 39) rfl)) (hw _ (List.mem_of_getElem? (i := 2) rfl)) (by decide) (by decide)) q31a q31c (g := (mkF m 174 #[.val (.long q1), .second, .val (.long j2_0), .second, .val (.long j6_0), .second, .val (.int p4), .val (.ref b9), .val (.int (1 : Int32)), .val (.int (1 : Int32)), .val (.long j2_0), .second] [(.long j6_0), (.ref b9)])) rfl (by rw [hml]; rfl) (Steps.refl _) (argsL := [(.long j6_0)]) (rest := []) (lenOf pd_5 rfl) rfl (by show 2 * 0 + _ ≤ _; exact Nat.le_of_eq rfl) (hb hby at_174) (fun _ _ => ⟨rfl, rfl, (by decide : 3 + 0 ≤ _), (by decide : 1031 + 0 ≤ _)⟩)
          dsimp only [Pt.U, Pt.locs, Pt.cells, Pt.slots] at X31 l31 y31 z31 st31 hQ31
          subst l31 y31 z31
          obtain ⟨rfl, N31q, e31⟩ := hQ31
          have N31 := Fr.app N22 N31q
          obtain ⟨_, _, ⟨T32, L32, k32, n32⟩, -, X32, ⟨Lc32, hQ32, l32, y32, z32⟩, st32⟩ := Jvm.LawKit.callS X31 hx (y := (⟨"com/example/grebe/grebe/bench/TallyStopPinLaw", "laterThan", "(JJ)Z"⟩ : MethodName)) hown (mvT hZ (hw _ (List.mem_of_getElem? (i := 67) rfl))) (mvT hZ (hw _ (List.mem_of_getElem? (i := 68) rfl))) (mvT hZ (hw _ (List.mem_of_getElem? (i := 14) rfl))) (mvT hZ (hw _ (List.mem_of_getElem? (i := 69) rfl))) (by decide) (backOf (W := 0) (rm12_1 l Z a0 hw [] j6_0 j2_0 T22.heap n0 (Nat.le_trans Z0 K22.1) hc174_7) hZ (hw _ (List.mem_of_getElem? (i := 69) rfl)) (hw _ (List.mem_of_getElem? (i := 14) rfl)) (by decide) (by decide)) (g := (mkF m 186 #[.val (.long q1), .second, .val (.long j2_0), .second, .val (.long j6_0), .second, .val (.int p4), .val (.ref b9), .val (.int (1 : Int32)), .val (.int (1 : Int32)), .val (.long j2_0), .second] [(.long j2_0), (.long j6_0)])) rfl (by rw [hml]; rfl) (argsL := [(.long j6_0), (.long j2_0)]) (rest := []) (lenOf pd_7 rfl) rfl (by show 2 * 0 + _ ≤ _; exact Nat.le_of_eq rfl) (hb hby at_186) (fun _ _ => ⟨rfl, e31, (by decide : 3 + 0 ≤ _), (by decide : 1031 + 0 ≤ _)⟩)
          dsimp only [Pt.U, Pt.locs, Pt.cells, Pt.slots] at X32 l32 y32 z32 st32 hQ32
          subst l32 y32 z32
          obtain ⟨rfl, N32q, e32⟩ := hQ32
          have N32 := Fr.app N31 N32q
          obtain ⟨_, _, ⟨T33, L33, k33, n33⟩, -, X33, ⟨Lc33, hQ33, l33, y33, z33⟩, st33⟩ := Jvm.LawKit.callS X32 hx (y := (⟨"com/example/grebe/grebe/bench/TallyStopPinLaw", "matches", "(Lcom/example/grebe/grebe/bench/Tally;ZJ)Z"⟩ : MethodName)) hown (mvT hZ (hw _ (List.mem_of_getElem? (i := 12) rfl))) (mvT hZ (hw _ (List.mem_of_getElem? (i := 13) rfl))) (mvT hZ (hw _ (List.mem_of_getElem? (i := 14) rfl))) (mvT hZ (hw _ (List.mem_of_getElem? (i := 15) rfl))) (by decide) (backOf (W := 0) (rm3_1 l Z a0 hw [] b9 j2_0 T22.heap n0 (Nat.le_trans Z0 K22.1) (Fq20_0.keep K22q) (Fq20_2.keep K22q nin0) (Fq20_3.keep K22q nin0)) hZ (hw _ (List.mem_of_getElem? (i := 15) rfl)) (hw _ (List.mem_of_getElem? (i := 14) rfl)) (by decide) (by decide)) (g := (mkF m 210 #[.val (.long q1), .second, .val (.long j2_0), .second, .val (.long j6_0), .second, .val (.int p4), .val (.ref b9), .val (.int (1 : Int32)), .val (.int (1 : Int32)), .val (.long j2_0), .second] [(.long j2_0), (.int (1 : Int32)), (.ref b9)])) rfl (by rw [hml]; rfl) (argsL := [(.ref b9), (.int (1 : Int32)), (.long j2_0)]) (rest := []) (lenOf pd_3 rfl) rfl (by show 2 * 0 + _ ≤ _; exact Nat.le_of_eq rfl) (hb hby at_210) (fun _ _ => ⟨rfl, e32, (by decide : 3 + 1 ≤ _), (by decide : 1031 + 2 ≤ _)⟩)
          dsimp only [Pt.U, Pt.locs, Pt.cells, Pt.slots] at X33 l33 y33 z33 st33 hQ33
          subst l33 y33 z33
          obtain ⟨rfl, N33q, K33q⟩ := hQ33
          have N33 := Fr.app N32 N33q
          have K33 : Keep h0 T33.heap [] := Keep.trans K22 K33q all0
          have cf34 := ((cf21.keep K22q nin0).keep K33q nin0)
          obtain ⟨cq35, kq35, q35a, q35b, q35c⟩ := isOf hZ rfl ((Fq20_0.keep K22q).keep K33q)
          obtain ⟨_, _, ⟨T35, L35, k35, n35⟩, -, X35, ⟨Lc35, hQ35, l35, y35, z35⟩, st35⟩ := X33.virtualBack hx (y := (⟨"com/example/grebe/grebe/bench/Tally", "count", "()J"⟩ : MethodName)) (z := (⟨"com/example/grebe/grebe/bench/Tally", "count", "()J"⟩ : MethodName)) hown (mvT hZ (hw _ (List.mem_of_getElem? (i := 59) rfl))) (mvT hZ (hw _ (List.mem_of_getElem? (i := 60) rfl))) (notFace_of_selects (args := #[]) (mvT hZ (hw _ (List.mem_of_getElem? (i := 62) rfl)))) (mvT hZ (hw _ (List.mem_of_getElem? (i := 62) rfl))) (mvT hZ (hw _ (List.mem_of_getElem? (i := 61) rfl))) (by decide) (backOf (W := 0) (rm11_1 l Z a0 hw [] b9 T33.heap n0 (Nat.le_trans Z0 K33.1) ((Fq20_4.keep K22q nin0).keep K33q nin0)) hZ (hw _ (List.mem_of_getElem? (i := 63) rfl)) (hw _ (List.mem_of_getElem? (i := 2) rfl)) (by decide) (by decide)) q35a q35c (g := (mkF m 230 #[.val (.long q1), .second, .val (.long j2_0), .second, .val (.long j6_0), .second, .val (.int p4), .val (.ref b9), .val (.int (1 : Int32)), .val (.int (1 : Int32)), .val (.long j2_0), .second] [(.ref b9)])) rfl (by rw [hml]; rfl) (Steps.refl _) (argsL := []) (rest := []) (lenOf pd_4 rfl) rfl (by show 2 * 0 + _ ≤ _; exact Nat.le_of_eq rfl) (hb hby at_230) (fun _ _ => ⟨rfl, rfl, (by decide : 4 + 0 ≤ _), (by decide : 1033 + 0 ≤ _)⟩)
          dsimp only [Pt.U, Pt.locs, Pt.cells, Pt.slots] at X35 l35 y35 z35 st35 hQ35
          subst l35 y35 z35
          obtain ⟨rfl, N35q, e35⟩ := hQ35
          have N35 := Fr.app N33 N35q
          obtain ⟨fs, hr, hrun, hended, hW, hsame⟩ := X35.leave (v := some (.int (1 : Int32))) (fun h => by rw [Bd.returns] at h; cases h)
          refine ⟨_, _, k25 _ ?_, hrun, hended, _, _, rfl, ?_, ⟨_, rfl⟩, hW, hsame.mono (by decide) (by decide)⟩
          ·
            show Steps p.tables e below (T22.setTop (mkF m 174 #[.val (.long q1), .second, .val (.long j2_0), .second, .val (.long j6_0), .second, .val (.int p4), .val (.ref b9), .val (.int (1 : Int32)), .val (.int (1 : Int32)), .val (.long j2_0), .second] [(.long j6_0), (.ref b9)])) _
            refine st31.trans ?_
            show Steps p.tables e below (T31.setTop (mkF m 177 #[.val (.long q1), .second, .val (.long j2_0), .second, .val (.long j6_0), .second, .val (.int p4), .val (.ref b9), .val (.int (1 : Int32)), .val (.int (1 : Int32)), .val (.long j2_0), .second] [])) _
            refine XS.iload X31.here hx rfl (hb hby at_177) rfl ?_
            show Steps p.tables e below (T31.setTop (mkF m 179 #[.val (.long q1), .second, .val (.long j2_0), .second, .val (.long j6_0), .second, .val (.int p4), .val (.ref b9), .val (.int (1 : Int32)), .val (.int (1 : Int32)), .val (.long j2_0), .second] [(.int (1 : Int32))])) _
            refine XS.ifNo X31.here hx rfl (hb hby at_179) rfl ((if0 _ _).trans (feq (by decide : ¬ ((1 : Int32) = (0 : Int32)))).1) ?_
            show Steps p.tables e below (T31.setTop (mkF m 182 #[.val (.long q1), .second, .val (.long j2_0), .second, .val (.long j6_0), .second, .val (.int p4), .val (.ref b9), .val (.int (1 : Int32)), .val (.int (1 : Int32)), .val (.long j2_0), .second] [])) _
            refine XS.lload X31.here hx rfl (hb hby at_182) rfl ?_
            show Steps p.tables e below (T31.setTop (mkF m 184 #[.val (.long q1), .second, .val (.long j2_0), .second, .val (.long j6_0), .second, .val (.int p4), .val (.ref b9), .val (.int (1 : Int32)), .val (.int (1 : Int32)), .val (.long j2_0), .second] [(.long j6_0)])) _
            refine XS.lload X31.here hx rfl (hb hby at_184) rfl ?_
            show Steps p.tables e below (T31.setTop (mkF m 186 #[.val (.long q1), .second, .val (.long j2_0), .second, .val (.long j6_0), .second, .val (.int p4), .val (.ref b9), .val (.int (1 : Int32)), .val (.int (1 : Int32)), .val (.long j2_0), .second] [(.long j2_0), (.long j6_0)])) _
            refine st32 _ ?_
            show Steps p.tables e below (T32.setTop (mkF m 189 #[.val (.long q1), .second, .val (.long j2_0), .second, .val (.long j6_0), .second, .val (.int p4), .val (.ref b9), .val (.int (1 : Int32)), .val (.int (1 : Int32)), .val (.long j2_0), .second] [(.int (0 : Int32))])) _
            refine XS.ifYes X32.here hx rfl (pc0 := 189) (pc' := 196) rfl (hb hby at_189) rfl ((if0 _ _).trans (teq (by decide : (0 : Int32) = (0 : Int32))).1) (by decide) (by decide) ?_
            show Steps p.tables e below (T32.setTop (mkF m 196 #[.val (.long q1), .second, .val (.long j2_0), .second, .val (.long j6_0), .second, .val (.int p4), .val (.ref b9), .val (.int (1 : Int32)), .val (.int (1 : Int32)), .val (.long j2_0), .second] [])) _
            refine XS.iconst X32.here hx rfl (hb hby at_196) ?_
            show Steps p.tables e below (T32.setTop (mkF m 197 #[.val (.long q1), .second, .val (.long j2_0), .second, .val (.long j6_0), .second, .val (.int p4), .val (.ref b9), .val (.int (1 : Int32)), .val (.int (1 : Int32)), .val (.long j2_0), .second] [(.int (1 : Int32))])) _
            refine XS.istore X32.here hx rfl (hb hby at_197) rfl (l' := #[.val (.long q1), .second, .val (.long j2_0), .second, .val (.long j6_0), .second, .val (.int p4), .val (.ref b9), .val (.int (1 : Int32)), .val (.int (1 : Int32)), .val (.long j2_0), .second]) rfl ?_
            show Steps p.tables e below (T32.setTop (mkF m 199 #[.val (.long q1), .second, .val (.long j2_0), .second, .val (.long j6_0), .second, .val (.int p4), .val (.ref b9), .val (.int (1 : Int32)), .val (.int (1 : Int32)), .val (.long j2_0), .second] [])) _
            refine XS.iload X32.here hx rfl (hb hby at_199) rfl ?_
            show Steps p.tables e below (T32.setTop (mkF m 201 #[.val (.long q1), .second, .val (.long j2_0), .second, .val (.long j6_0), .second, .val (.int p4), .val (.ref b9), .val (.int (1 : Int32)), .val (.int (1 : Int32)), .val (.long j2_0), .second] [(.int (1 : Int32))])) _
            refine XS.ifNo X32.here hx rfl (hb hby at_201) rfl ((if0 _ _).trans (feq (by decide : ¬ ((1 : Int32) = (0 : Int32)))).1) ?_
            show Steps p.tables e below (T32.setTop (mkF m 204 #[.val (.long q1), .second, .val (.long j2_0), .second, .val (.long j6_0), .second, .val (.int p4), .val (.ref b9), .val (.int (1 : Int32)), .val (.int (1 : Int32)), .val (.long j2_0), .second] [])) _
            refine XS.aload X32.here hx rfl (hb hby at_204) rfl rfl ?_
            show Steps p.tables e below (T32.setTop (mkF m 206 #[.val (.long q1), .second, .val (.long j2_0), .second, .val (.long j6_0), .second, .val (.int p4), .val (.ref b9), .val (.int (1 : Int32)), .val (.int (1 : Int32)), .val (.long j2_0), .second] [(.ref b9)])) _
            refine XS.iload X32.here hx rfl (hb hby at_206) rfl ?_
            show Steps p.tables e below (T32.setTop (mkF m 208 #[.val (.long q1), .second, .val (.long j2_0), .second, .val (.long j6_0), .second, .val (.int p4), .val (.ref b9), .val (.int (1 : Int32)), .val (.int (1 : Int32)), .val (.long j2_0), .second] [(.int (1 : Int32)), (.ref b9)])) _
            refine XS.lload X32.here hx rfl (hb hby at_208) rfl ?_
            show Steps p.tables e below (T32.setTop (mkF m 210 #[.val (.long q1), .second, .val (.long j2_0), .second, .val (.long j6_0), .second, .val (.int p4), .val (.ref b9), .val (.int (1 : Int32)), .val (.int (1 : Int32)), .val (.long j2_0), .second] [(.long j2_0), (.int (1 : Int32)), (.ref b9)])) _
            refine st33 _ ?_
            show Steps p.tables e below (T33.setTop (mkF m 213 #[.val (.long q1), .second, .val (.long j2_0), .second, .val (.long j6_0), .second, .val (.int p4), .val (.ref b9), .val (.int (1 : Int32)), .val (.int (1 : Int32)), .val (.long j2_0), .second] [(.int (1 : Int32))])) _
            refine XS.ifNo X33.here hx rfl (hb hby at_213) rfl ((if0 _ _).trans (feq (by decide : ¬ ((1 : Int32) = (0 : Int32)))).1) ?_
            show Steps p.tables e below (T33.setTop (mkF m 216 #[.val (.long q1), .second, .val (.long j2_0), .second, .val (.long j6_0), .second, .val (.int p4), .val (.ref b9), .val (.int (1 : Int32)), .val (.int (1 : Int32)), .val (.long j2_0), .second] [])) _
            refine XS.iconst X33.here hx rfl (hb hby at_216) ?_
            show Steps p.tables e below (T33.setTop (mkF m 217 #[.val (.long q1), .second, .val (.long j2_0), .second, .val (.long j6_0), .second, .val (.int p4), .val (.ref b9), .val (.int (1 : Int32)), .val (.int (1 : Int32)), .val (.long j2_0), .second] [(.int (1 : Int32))])) _
            refine XS.goto X33.here hx rfl (pc0 := 217) (pc' := 221) rfl (hb hby at_217) (by decide) (by decide) ?_
            show Steps p.tables e below (T33.setTop (mkF m 221 #[.val (.long q1), .second, .val (.long j2_0), .second, .val (.long j6_0), .second, .val (.int p4), .val (.ref b9), .val (.int (1 : Int32)), .val (.int (1 : Int32)), .val (.long j2_0), .second] [(.int (1 : Int32))])) _
            refine XS.istore X33.here hx rfl (hb hby at_221) rfl (l' := #[.val (.long q1), .second, .val (.long j2_0), .second, .val (.long j6_0), .second, .val (.int p4), .val (.ref b9), .val (.int (1 : Int32)), .val (.int (1 : Int32)), .val (.long j2_0), .second]) rfl ?_
            show Steps p.tables e below (T33.setTop (mkF m 223 #[.val (.long q1), .second, .val (.long j2_0), .second, .val (.long j6_0), .second, .val (.int p4), .val (.ref b9), .val (.int (1 : Int32)), .val (.int (1 : Int32)), .val (.long j2_0), .second] [])) _
            refine XS.iload X33.here hx rfl (hb hby at_223) rfl ?_
            show Steps p.tables e below (T33.setTop (mkF m 225 #[.val (.long q1), .second, .val (.long j2_0), .second, .val (.long j6_0), .second, .val (.int p4), .val (.ref b9), .val (.int (1 : Int32)), .val (.int (1 : Int32)), .val (.long j2_0), .second] [(.int (1 : Int32))])) _
            refine XS.ifNo X33.here hx rfl (hb hby at_225) rfl ((if0 _ _).trans (feq (by decide : ¬ ((1 : Int32) = (0 : Int32)))).1) ?_
            show Steps p.tables e below (T33.setTop (mkF m 228 #[.val (.long q1), .second, .val (.long j2_0), .second, .val (.long j6_0), .second, .val (.int p4), .val (.ref b9), .val (.int (1 : Int32)), .val (.int (1 : Int32)), .val (.long j2_0), .second] [])) _
            refine XS.aload X33.here hx rfl (hb hby at_228) rfl rfl ?_
            show Steps p.tables e below (T33.setTop (mkF m 230 #[.val (.long q1), .second, .val (.long j2_0), .second, .val (.long j6_0), .second, .val (.int p4), .val (.ref b9), .val (.int (1 : Int32)), .val (.int (1 : Int32)), .val (.long j2_0), .second] [(.ref b9)])) _
            refine st35.trans ?_
            show Steps p.tables e below (T35.setTop (mkF m 233 #[.val (.long q1), .second, .val (.long j2_0), .second, .val (.long j6_0), .second, .val (.int p4), .val (.ref b9), .val (.int (1 : Int32)), .val (.int (1 : Int32)), .val (.long j2_0), .second] [(.long (0 : Int64))])) _
            refine XS.lconst X35.here hx rfl (hb hby at_233) ?_
            show Steps p.tables e below (T35.setTop (mkF m 234 #[.val (.long q1), .second, .val (.long j2_0), .second, .val (.long j6_0), .second, .val (.int p4), .val (.ref b9), .val (.int (1 : Int32)), .val (.int (1 : Int32)), .val (.long j2_0), .second] [(.long (0 : Int64)), (.long (0 : Int64))])) _
            refine XS.lcmp X35.here hx rfl (hb hby at_234) rfl ?_
            show Steps p.tables e below (T35.setTop (mkF m 235 #[.val (.long q1), .second, .val (.long j2_0), .second, .val (.long j6_0), .second, .val (.int p4), .val (.ref b9), .val (.int (1 : Int32)), .val (.int (1 : Int32)), .val (.long j2_0), .second] [(.int (lcmpW (0 : Int64) (0 : Int64)))])) _
            rewrite [(lw_eq (0 : Int64) (0 : Int64)).mpr rfl]
            show Steps p.tables e below (T35.setTop (mkF m 235 #[.val (.long q1), .second, .val (.long j2_0), .second, .val (.long j6_0), .second, .val (.int p4), .val (.ref b9), .val (.int (1 : Int32)), .val (.int (1 : Int32)), .val (.long j2_0), .second] [(.int (0 : Int32))])) _
            refine XS.ifNo X35.here hx rfl (hb hby at_235) rfl ((if0 _ _).trans (teq (by decide : (0 : Int32) = (0 : Int32))).2) ?_
            show Steps p.tables e below (T35.setTop (mkF m 238 #[.val (.long q1), .second, .val (.long j2_0), .second, .val (.long j6_0), .second, .val (.int p4), .val (.ref b9), .val (.int (1 : Int32)), .val (.int (1 : Int32)), .val (.long j2_0), .second] [])) _
            refine XS.iconst X35.here hx rfl (hb hby at_238) ?_
            show Steps p.tables e below (T35.setTop (mkF m 239 #[.val (.long q1), .second, .val (.long j2_0), .second, .val (.long j6_0), .second, .val (.int p4), .val (.ref b9), .val (.int (1 : Int32)), .val (.int (1 : Int32)), .val (.long j2_0), .second] [(.int (1 : Int32))])) _
            refine XS.goto X35.here hx rfl (pc0 := 239) (pc' := 243) rfl (hb hby at_239) (by decide) (by decide) ?_
            show Steps p.tables e below (T35.setTop (mkF m 243 #[.val (.long q1), .second, .val (.long j2_0), .second, .val (.long j6_0), .second, .val (.int p4), .val (.ref b9), .val (.int (1 : Int32)), .val (.int (1 : Int32)), .val (.long j2_0), .second] [(.int (1 : Int32))])) _
            exact retN X35 hx (t := .boolean) Bd.returns (by simp) (hb hby at_243) hr
          · show Q0_0 Z q1 q2 q3 p4 w_EMPTY h0 n0 _ T35.heap _
            rw [e35]
            exact ⟨rfl, N35⟩
  ·
    obtain ⟨cq36, kq36, q36a, q36b, q36c⟩ := isOf hZ e11 Fq10_0
    obtain ⟨_, _, ⟨T36, L36, k36, n36⟩, -, X36, ⟨Lc36, hQ36, l36, y36, z36⟩, st36⟩ := X11.virtualBack hx (y := (⟨"com/example/grebe/grebe/bench/Tally", "stop", "(J)V"⟩ : MethodName)) (z := (⟨"com/example/grebe/grebe/bench/Tally", "stop", "(J)V"⟩ : MethodName)) hown (mvT hZ (hw _ (List.mem_of_getElem? (i := 35) rfl))) (mvT hZ (hw _ (List.mem_of_getElem? (i := 36) rfl))) (notFace_of_selects (args := #[]) (mvT hZ (hw _ (List.mem_of_getElem? (i := 38) rfl)))) (mvT hZ (hw _ (List.mem_of_getElem? (i := 38) rfl))) (mvT hZ (hw _ (List.mem_of_getElem? (i := 37) rfl))) (by decide) (backOf (W := 0) (rm7_0 l Z a0 hw [] b9 q1 b10_0 T10.heap n0 (Nat.le_trans Z0 K10.1) Fq10_0 Fq10_1 Fq10_2 Fq10_3 Fq10_4 g_b9) hZ (hw _ (List.mem_of_getElem? (i := 39) rfl)) (hw _ (List.mem_of_getElem? (i := 2) rfl)) (by decide) (by decide)) q36a q36c (g := (mkF m 59 #[.val (.long q1), .second, .val (.long j2_0), .second, .val (.long j6_0), .second, .val (.int p4), .val (.ref b9), .val (.int (1 : Int32)), .val (.int (0 : Int32)), .val (.long (0 : Int64)), .second] [(.long q1), (.ref b9)])) rfl (by rw [hml]; rfl) (Steps.refl _) (argsL := [(.long q1)]) (rest := []) (lenOf pd_5 rfl) rfl (by show 2 * 0 + _ ≤ _; exact Nat.le_of_eq rfl) (hb hby at_59) (fun _ _ => ⟨rfl, e11, (by decide : 2 + 0 ≤ _), (by decide : 1029 + 0 ≤ _)⟩)
    dsimp only [Pt.U, Pt.locs, Pt.cells, Pt.slots] at X36 l36 y36 z36 st36 hQ36
    subst l36 y36 z36
    obtain ⟨rfl, N36q, K36q, Fq36_0, Fq36_1, Fq36_2, Fq36_3, Fq36_4⟩ := hQ36
    have N36 := Fr.app N11 N36q
    have K36 : Keep h0 T36.heap [] := Keep.trans K10 K36q (allS (Or.inr sz_b9) all0)
    have cf37 := (Fq10_5.keep K36q (ninS (Ne.symm ne_b9_b10_0) nin0))
    obtain ⟨_, _, ⟨T38, L38, k38, n38⟩, -, X38, ⟨Lc38, hQ38, l38, y38, z38⟩, st38⟩ := Jvm.LawKit.callS X36 hx (y := (⟨"com/example/grebe/grebe/bench/TallyStopPinLaw", "matches", "(Lcom/example/grebe/grebe/bench/Tally;ZJ)Z"⟩ : MethodName)) hown (mvT hZ (hw _ (List.mem_of_getElem? (i := 12) rfl))) (mvT hZ (hw _ (List.mem_of_getElem? (i := 13) rfl))) (mvT hZ (hw _ (List.mem_of_getElem? (i := 14) rfl))) (mvT hZ (hw _ (List.mem_of_getElem? (i := 15) rfl))) (by decide) (backOf (W := 0) (rm3_1 l Z a0 hw [] b9 q1 T36.heap n0 (Nat.le_trans Z0 K36.1) Fq36_0 Fq36_2 Fq36_3) hZ (hw _ (List.mem_of_getElem? (i := 15) rfl)) (hw _ (List.mem_of_getElem? (i := 14) rfl)) (by decide) (by decide)) (g := (mkF m 93 #[.val (.long q1), .second, .val (.long j2_0), .second, .val (.long j6_0), .second, .val (.int p4), .val (.ref b9), .val (.int (1 : Int32)), .val (.int (1 : Int32)), .val (.long q1), .second] [(.long q1), (.int (1 : Int32)), (.ref b9)])) rfl (by rw [hml]; rfl) (argsL := [(.ref b9), (.int (1 : Int32)), (.long q1)]) (rest := []) (lenOf pd_3 rfl) rfl (by show 2 * 0 + _ ≤ _; exact Nat.le_of_eq rfl) (hb hby at_93) (fun _ _ => ⟨rfl, rfl, (by decide : 2 + 1 ≤ _), (by decide : 1029 + 2 ≤ _)⟩)
    dsimp only [Pt.U, Pt.locs, Pt.cells, Pt.slots] at X38 l38 y38 z38 st38 hQ38
    subst l38 y38 z38
    obtain ⟨rfl, N38q, K38q⟩ := hQ38
    have N38 := Fr.app N36 N38q
    have K38 : Keep h0 T38.heap [] := Keep.trans K36 K38q all0
    have k39 : ∀ t, Steps p.tables e below (T38.setTop (mkF m 110 #[.val (.long q1), .second, .val (.long j2_0), .second, .val (.long j6_0), .second, .val (.int p4), .val (.ref b9), .val (.int (1 : Int32)), .val (.int (1 : Int32)), .val (.long q1), .second] [(.int (p4 &&& (2 : Int32)))])) t → Steps p.tables e below (s₁.setTop (entryFrame m #[(.long q1), (.long q2), (.long q3), (.int p4)] maxLocals)) t := by
      intro t k
      refine k12 t ?_
      show Steps p.tables e below (T11.setTop (mkF m 53 #[.val (.long q1), .second, .val (.long j2_0), .second, .val (.long j6_0), .second, .val (.int p4), .val (.ref b9), .val (.int (1 : Int32)), .val (.int (0 : Int32)), .val (.long (0 : Int64)), .second] [(.int (p4 &&& (1 : Int32)))])) _
      refine XS.ifNo X11.here hx rfl (hb hby at_53) rfl ((if0 _ _).trans (feq hc53_3).1) ?_
      show Steps p.tables e below (T11.setTop (mkF m 56 #[.val (.long q1), .second, .val (.long j2_0), .second, .val (.long j6_0), .second, .val (.int p4), .val (.ref b9), .val (.int (1 : Int32)), .val (.int (0 : Int32)), .val (.long (0 : Int64)), .second] [])) _
      refine XS.aload X11.here hx rfl (hb hby at_56) rfl rfl ?_
      show Steps p.tables e below (T11.setTop (mkF m 58 #[.val (.long q1), .second, .val (.long j2_0), .second, .val (.long j6_0), .second, .val (.int p4), .val (.ref b9), .val (.int (1 : Int32)), .val (.int (0 : Int32)), .val (.long (0 : Int64)), .second] [(.ref b9)])) _
      refine XS.lloadN X11.here hx rfl (hb hby at_58) rfl ?_
      show Steps p.tables e below (T11.setTop (mkF m 59 #[.val (.long q1), .second, .val (.long j2_0), .second, .val (.long j6_0), .second, .val (.int p4), .val (.ref b9), .val (.int (1 : Int32)), .val (.int (0 : Int32)), .val (.long (0 : Int64)), .second] [(.long q1), (.ref b9)])) _
      refine st36.trans ?_
      show Steps p.tables e below (T36.setTop (mkF m 62 #[.val (.long q1), .second, .val (.long j2_0), .second, .val (.long j6_0), .second, .val (.int p4), .val (.ref b9), .val (.int (1 : Int32)), .val (.int (0 : Int32)), .val (.long (0 : Int64)), .second] [])) _
      refine XS.iload X36.here hx rfl (hb hby at_62) rfl ?_
      show Steps p.tables e below (T36.setTop (mkF m 64 #[.val (.long q1), .second, .val (.long j2_0), .second, .val (.long j6_0), .second, .val (.int p4), .val (.ref b9), .val (.int (1 : Int32)), .val (.int (0 : Int32)), .val (.long (0 : Int64)), .second] [(.int (0 : Int32))])) _
      refine XS.ifYes X36.here hx rfl (pc0 := 64) (pc' := 76) rfl (hb hby at_64) rfl ((if0 _ _).trans (teq (by decide : (0 : Int32) = (0 : Int32))).1) (by decide) (by decide) ?_
      show Steps p.tables e below (T36.setTop (mkF m 76 #[.val (.long q1), .second, .val (.long j2_0), .second, .val (.long j6_0), .second, .val (.int p4), .val (.ref b9), .val (.int (1 : Int32)), .val (.int (0 : Int32)), .val (.long (0 : Int64)), .second] [])) _
      refine XS.lloadN X36.here hx rfl (hb hby at_76) rfl ?_
      show Steps p.tables e below (T36.setTop (mkF m 77 #[.val (.long q1), .second, .val (.long j2_0), .second, .val (.long j6_0), .second, .val (.int p4), .val (.ref b9), .val (.int (1 : Int32)), .val (.int (0 : Int32)), .val (.long (0 : Int64)), .second] [(.long q1)])) _
      refine XS.lstore X36.here hx rfl (hb hby at_77) rfl (l' := #[.val (.long q1), .second, .val (.long j2_0), .second, .val (.long j6_0), .second, .val (.int p4), .val (.ref b9), .val (.int (1 : Int32)), .val (.int (0 : Int32)), .val (.long q1), .second]) rfl ?_
      show Steps p.tables e below (T36.setTop (mkF m 79 #[.val (.long q1), .second, .val (.long j2_0), .second, .val (.long j6_0), .second, .val (.int p4), .val (.ref b9), .val (.int (1 : Int32)), .val (.int (0 : Int32)), .val (.long q1), .second] [])) _
      refine XS.iconst X36.here hx rfl (hb hby at_79) ?_
      show Steps p.tables e below (T36.setTop (mkF m 80 #[.val (.long q1), .second, .val (.long j2_0), .second, .val (.long j6_0), .second, .val (.int p4), .val (.ref b9), .val (.int (1 : Int32)), .val (.int (0 : Int32)), .val (.long q1), .second] [(.int (1 : Int32))])) _
      refine XS.istore X36.here hx rfl (hb hby at_80) rfl (l' := #[.val (.long q1), .second, .val (.long j2_0), .second, .val (.long j6_0), .second, .val (.int p4), .val (.ref b9), .val (.int (1 : Int32)), .val (.int (1 : Int32)), .val (.long q1), .second]) rfl ?_
      show Steps p.tables e below (T36.setTop (mkF m 82 #[.val (.long q1), .second, .val (.long j2_0), .second, .val (.long j6_0), .second, .val (.int p4), .val (.ref b9), .val (.int (1 : Int32)), .val (.int (1 : Int32)), .val (.long q1), .second] [])) _
      refine XS.iload X36.here hx rfl (hb hby at_82) rfl ?_
      show Steps p.tables e below (T36.setTop (mkF m 84 #[.val (.long q1), .second, .val (.long j2_0), .second, .val (.long j6_0), .second, .val (.int p4), .val (.ref b9), .val (.int (1 : Int32)), .val (.int (1 : Int32)), .val (.long q1), .second] [(.int (1 : Int32))])) _
      refine XS.ifNo X36.here hx rfl (hb hby at_84) rfl ((if0 _ _).trans (feq (by decide : ¬ ((1 : Int32) = (0 : Int32)))).1) ?_
      show Steps p.tables e below (T36.setTop (mkF m 87 #[.val (.long q1), .second, .val (.long j2_0), .second, .val (.long j6_0), .second, .val (.int p4), .val (.ref b9), .val (.int (1 : Int32)), .val (.int (1 : Int32)), .val (.long q1), .second] [])) _
      refine XS.aload X36.here hx rfl (hb hby at_87) rfl rfl ?_
      show Steps p.tables e below (T36.setTop (mkF m 89 #[.val (.long q1), .second, .val (.long j2_0), .second, .val (.long j6_0), .second, .val (.int p4), .val (.ref b9), .val (.int (1 : Int32)), .val (.int (1 : Int32)), .val (.long q1), .second] [(.ref b9)])) _
      refine XS.iload X36.here hx rfl (hb hby at_89) rfl ?_
      show Steps p.tables e below (T36.setTop (mkF m 91 #[.val (.long q1), .second, .val (.long j2_0), .second, .val (.long j6_0), .second, .val (.int p4), .val (.ref b9), .val (.int (1 : Int32)), .val (.int (1 : Int32)), .val (.long q1), .second] [(.int (1 : Int32)), (.ref b9)])) _
      refine XS.lload X36.here hx rfl (hb hby at_91) rfl ?_
      show Steps p.tables e below (T36.setTop (mkF m 93 #[.val (.long q1), .second, .val (.long j2_0), .second, .val (.long j6_0), .second, .val (.int p4), .val (.ref b9), .val (.int (1 : Int32)), .val (.int (1 : Int32)), .val (.long q1), .second] [(.long q1), (.int (1 : Int32)), (.ref b9)])) _
      refine st38 _ ?_
      show Steps p.tables e below (T38.setTop (mkF m 96 #[.val (.long q1), .second, .val (.long j2_0), .second, .val (.long j6_0), .second, .val (.int p4), .val (.ref b9), .val (.int (1 : Int32)), .val (.int (1 : Int32)), .val (.long q1), .second] [(.int (1 : Int32))])) _
      refine XS.ifNo X38.here hx rfl (hb hby at_96) rfl ((if0 _ _).trans (feq (by decide : ¬ ((1 : Int32) = (0 : Int32)))).1) ?_
      show Steps p.tables e below (T38.setTop (mkF m 99 #[.val (.long q1), .second, .val (.long j2_0), .second, .val (.long j6_0), .second, .val (.int p4), .val (.ref b9), .val (.int (1 : Int32)), .val (.int (1 : Int32)), .val (.long q1), .second] [])) _
      refine XS.iconst X38.here hx rfl (hb hby at_99) ?_
      show Steps p.tables e below (T38.setTop (mkF m 100 #[.val (.long q1), .second, .val (.long j2_0), .second, .val (.long j6_0), .second, .val (.int p4), .val (.ref b9), .val (.int (1 : Int32)), .val (.int (1 : Int32)), .val (.long q1), .second] [(.int (1 : Int32))])) _
      refine XS.goto X38.here hx rfl (pc0 := 100) (pc' := 104) rfl (hb hby at_100) (by decide) (by decide) ?_
      show Steps p.tables e below (T38.setTop (mkF m 104 #[.val (.long q1), .second, .val (.long j2_0), .second, .val (.long j6_0), .second, .val (.int p4), .val (.ref b9), .val (.int (1 : Int32)), .val (.int (1 : Int32)), .val (.long q1), .second] [(.int (1 : Int32))])) _
      refine XS.istore X38.here hx rfl (hb hby at_104) rfl (l' := #[.val (.long q1), .second, .val (.long j2_0), .second, .val (.long j6_0), .second, .val (.int p4), .val (.ref b9), .val (.int (1 : Int32)), .val (.int (1 : Int32)), .val (.long q1), .second]) rfl ?_
      show Steps p.tables e below (T38.setTop (mkF m 106 #[.val (.long q1), .second, .val (.long j2_0), .second, .val (.long j6_0), .second, .val (.int p4), .val (.ref b9), .val (.int (1 : Int32)), .val (.int (1 : Int32)), .val (.long q1), .second] [])) _
      refine XS.iload X38.here hx rfl (hb hby at_106) rfl ?_
      show Steps p.tables e below (T38.setTop (mkF m 108 #[.val (.long q1), .second, .val (.long j2_0), .second, .val (.long j6_0), .second, .val (.int p4), .val (.ref b9), .val (.int (1 : Int32)), .val (.int (1 : Int32)), .val (.long q1), .second] [(.int p4)])) _
      refine XS.iconst X38.here hx rfl (hb hby at_108) ?_
      show Steps p.tables e below (T38.setTop (mkF m 109 #[.val (.long q1), .second, .val (.long j2_0), .second, .val (.long j6_0), .second, .val (.int p4), .val (.ref b9), .val (.int (1 : Int32)), .val (.int (1 : Int32)), .val (.long q1), .second] [(.int (2 : Int32)), (.int p4)])) _
      refine XS.iand X38.here hx rfl (hb hby at_109) rfl ?_
      exact k
    by_cases hc110_8 : (p4 &&& (2 : Int32)) = (0 : Int32)
    ·
      have k40 : ∀ t, Steps p.tables e below (T38.setTop (mkF m 167 #[.val (.long q1), .second, .val (.long j2_0), .second, .val (.long j6_0), .second, .val (.int p4), .val (.ref b9), .val (.int (1 : Int32)), .val (.int (1 : Int32)), .val (.long q1), .second] [(.int (p4 &&& (4 : Int32)))])) t → Steps p.tables e below (s₁.setTop (entryFrame m #[(.long q1), (.long q2), (.long q3), (.int p4)] maxLocals)) t := by
        intro t k
        refine k39 t ?_
        show Steps p.tables e below (T38.setTop (mkF m 110 #[.val (.long q1), .second, .val (.long j2_0), .second, .val (.long j6_0), .second, .val (.int p4), .val (.ref b9), .val (.int (1 : Int32)), .val (.int (1 : Int32)), .val (.long q1), .second] [(.int (p4 &&& (2 : Int32)))])) _
        refine XS.ifYes X38.here hx rfl (pc0 := 110) (pc' := 163) rfl (hb hby at_110) rfl ((if0 _ _).trans (teq hc110_8).1) (by decide) (by decide) ?_
        show Steps p.tables e below (T38.setTop (mkF m 163 #[.val (.long q1), .second, .val (.long j2_0), .second, .val (.long j6_0), .second, .val (.int p4), .val (.ref b9), .val (.int (1 : Int32)), .val (.int (1 : Int32)), .val (.long q1), .second] [])) _
        refine XS.iload X38.here hx rfl (hb hby at_163) rfl ?_
        show Steps p.tables e below (T38.setTop (mkF m 165 #[.val (.long q1), .second, .val (.long j2_0), .second, .val (.long j6_0), .second, .val (.int p4), .val (.ref b9), .val (.int (1 : Int32)), .val (.int (1 : Int32)), .val (.long q1), .second] [(.int p4)])) _
        refine XS.iconst X38.here hx rfl (hb hby at_165) ?_
        show Steps p.tables e below (T38.setTop (mkF m 166 #[.val (.long q1), .second, .val (.long j2_0), .second, .val (.long j6_0), .second, .val (.int p4), .val (.ref b9), .val (.int (1 : Int32)), .val (.int (1 : Int32)), .val (.long q1), .second] [(.int (4 : Int32)), (.int p4)])) _
        refine XS.iand X38.here hx rfl (hb hby at_166) rfl ?_
        exact k
      by_cases hc167_9 : (p4 &&& (4 : Int32)) = (0 : Int32)
      ·
        obtain ⟨cq41, kq41, q41a, q41b, q41c⟩ := isOf hZ rfl (Fq36_0.keep K38q)
        obtain ⟨_, _, ⟨T41, L41, k41, n41⟩, -, X41, ⟨Lc41, hQ41, l41, y41, z41⟩, st41⟩ := X38.virtualBack hx (y := (⟨"com/example/grebe/grebe/bench/Tally", "count", "()J"⟩ : MethodName)) (z := (⟨"com/example/grebe/grebe/bench/Tally", "count", "()J"⟩ : MethodName)) hown (mvT hZ (hw _ (List.mem_of_getElem? (i := 59) rfl))) (mvT hZ (hw _ (List.mem_of_getElem? (i := 60) rfl))) (notFace_of_selects (args := #[]) (mvT hZ (hw _ (List.mem_of_getElem? (i := 62) rfl)))) (mvT hZ (hw _ (List.mem_of_getElem? (i := 62) rfl))) (mvT hZ (hw _ (List.mem_of_getElem? (i := 61) rfl))) (by decide) (backOf (W := 0) (rm11_1 l Z a0 hw [] b9 T38.heap n0 (Nat.le_trans Z0 K38.1) (Fq36_4.keep K38q nin0)) hZ (hw _ (List.mem_of_getElem? (i := 63) rfl)) (hw _ (List.mem_of_getElem? (i := 2) rfl)) (by decide) (by decide)) q41a q41c (g := (mkF m 230 #[.val (.long q1), .second, .val (.long j2_0), .second, .val (.long j6_0), .second, .val (.int p4), .val (.ref b9), .val (.int (1 : Int32)), .val (.int (1 : Int32)), .val (.long q1), .second] [(.ref b9)])) rfl (by rw [hml]; rfl) (Steps.refl _) (argsL := []) (rest := []) (lenOf pd_4 rfl) rfl (by show 2 * 0 + _ ≤ _; exact Nat.le_of_eq rfl) (hb hby at_230) (fun _ _ => ⟨rfl, rfl, (by decide : 3 + 0 ≤ _), (by decide : 1031 + 0 ≤ _)⟩)
        dsimp only [Pt.U, Pt.locs, Pt.cells, Pt.slots] at X41 l41 y41 z41 st41 hQ41
        subst l41 y41 z41
        obtain ⟨rfl, N41q, e41⟩ := hQ41
        have N41 := Fr.app N38 N41q
        obtain ⟨fs, hr, hrun, hended, hW, hsame⟩ := X41.leave (v := some (.int (1 : Int32))) (fun h => by rw [Bd.returns] at h; cases h)
        refine ⟨_, _, k40 _ ?_, hrun, hended, _, _, rfl, ?_, ⟨_, rfl⟩, hW, hsame.mono (by decide) (by decide)⟩
        ·
          show Steps p.tables e below (T38.setTop (mkF m 167 #[.val (.long q1), .second, .val (.long j2_0), .second, .val (.long j6_0), .second, .val (.int p4), .val (.ref b9), .val (.int (1 : Int32)), .val (.int (1 : Int32)), .val (.long q1), .second] [(.int (p4 &&& (4 : Int32)))])) _
          refine XS.ifYes X38.here hx rfl (pc0 := 167) (pc' := 223) rfl (hb hby at_167) rfl ((if0 _ _).trans (teq hc167_9).1) (by decide) (by decide) ?_
          show Steps p.tables e below (T38.setTop (mkF m 223 #[.val (.long q1), .second, .val (.long j2_0), .second, .val (.long j6_0), .second, .val (.int p4), .val (.ref b9), .val (.int (1 : Int32)), .val (.int (1 : Int32)), .val (.long q1), .second] [])) _
          refine XS.iload X38.here hx rfl (hb hby at_223) rfl ?_
          show Steps p.tables e below (T38.setTop (mkF m 225 #[.val (.long q1), .second, .val (.long j2_0), .second, .val (.long j6_0), .second, .val (.int p4), .val (.ref b9), .val (.int (1 : Int32)), .val (.int (1 : Int32)), .val (.long q1), .second] [(.int (1 : Int32))])) _
          refine XS.ifNo X38.here hx rfl (hb hby at_225) rfl ((if0 _ _).trans (feq (by decide : ¬ ((1 : Int32) = (0 : Int32)))).1) ?_
          show Steps p.tables e below (T38.setTop (mkF m 228 #[.val (.long q1), .second, .val (.long j2_0), .second, .val (.long j6_0), .second, .val (.int p4), .val (.ref b9), .val (.int (1 : Int32)), .val (.int (1 : Int32)), .val (.long q1), .second] [])) _
          refine XS.aload X38.here hx rfl (hb hby at_228) rfl rfl ?_
          show Steps p.tables e below (T38.setTop (mkF m 230 #[.val (.long q1), .second, .val (.long j2_0), .second, .val (.long j6_0), .second, .val (.int p4), .val (.ref b9), .val (.int (1 : Int32)), .val (.int (1 : Int32)), .val (.long q1), .second] [(.ref b9)])) _
          refine st41.trans ?_
          show Steps p.tables e below (T41.setTop (mkF m 233 #[.val (.long q1), .second, .val (.long j2_0), .second, .val (.long j6_0), .second, .val (.int p4), .val (.ref b9), .val (.int (1 : Int32)), .val (.int (1 : Int32)), .val (.long q1), .second] [(.long (0 : Int64))])) _
          refine XS.lconst X41.here hx rfl (hb hby at_233) ?_
          show Steps p.tables e below (T41.setTop (mkF m 234 #[.val (.long q1), .second, .val (.long j2_0), .second, .val (.long j6_0), .second, .val (.int p4), .val (.ref b9), .val (.int (1 : Int32)), .val (.int (1 : Int32)), .val (.long q1), .second] [(.long (0 : Int64)), (.long (0 : Int64))])) _
          refine XS.lcmp X41.here hx rfl (hb hby at_234) rfl ?_
          show Steps p.tables e below (T41.setTop (mkF m 235 #[.val (.long q1), .second, .val (.long j2_0), .second, .val (.long j6_0), .second, .val (.int p4), .val (.ref b9), .val (.int (1 : Int32)), .val (.int (1 : Int32)), .val (.long q1), .second] [(.int (lcmpW (0 : Int64) (0 : Int64)))])) _
          rewrite [(lw_eq (0 : Int64) (0 : Int64)).mpr rfl]
          show Steps p.tables e below (T41.setTop (mkF m 235 #[.val (.long q1), .second, .val (.long j2_0), .second, .val (.long j6_0), .second, .val (.int p4), .val (.ref b9), .val (.int (1 : Int32)), .val (.int (1 : Int32)), .val (.long q1), .second] [(.int (0 : Int32))])) _
          refine XS.ifNo X41.here hx rfl (hb hby at_235) rfl ((if0 _ _).trans (teq (by decide : (0 : Int32) = (0 : Int32))).2) ?_
          show Steps p.tables e below (T41.setTop (mkF m 238 #[.val (.long q1), .second, .val (.long j2_0), .second, .val (.long j6_0), .second, .val (.int p4), .val (.ref b9), .val (.int (1 : Int32)), .val (.int (1 : Int32)), .val (.long q1), .second] [])) _
          refine XS.iconst X41.here hx rfl (hb hby at_238) ?_
          show Steps p.tables e below (T41.setTop (mkF m 239 #[.val (.long q1), .second, .val (.long j2_0), .second, .val (.long j6_0), .second, .val (.int p4), .val (.ref b9), .val (.int (1 : Int32)), .val (.int (1 : Int32)), .val (.long q1), .second] [(.int (1 : Int32))])) _
          refine XS.goto X41.here hx rfl (pc0 := 239) (pc' := 243) rfl (hb hby at_239) (by decide) (by decide) ?_
          show Steps p.tables e below (T41.setTop (mkF m 243 #[.val (.long q1), .second, .val (.long j2_0), .second, .val (.long j6_0), .second, .val (.int p4), .val (.ref b9), .val (.int (1 : Int32)), .val (.int (1 : Int32)), .val (.long q1), .second] [(.int (1 : Int32))])) _
          exact retN X41 hx (t := .boolean) Bd.returns (by simp) (hb hby at_243) hr
        · show Q0_0 Z q1 q2 q3 p4 w_EMPTY h0 n0 _ T41.heap _
          rw [e41]
          exact ⟨rfl, N41⟩
      ·
        have k42 : ∀ t, Steps p.tables e below (T38.setTop (mkF m 174 #[.val (.long q1), .second, .val (.long j2_0), .second, .val (.long j6_0), .second, .val (.int p4), .val (.ref b9), .val (.int (1 : Int32)), .val (.int (1 : Int32)), .val (.long q1), .second] [(.long j6_0), (.ref b9)])) t → Steps p.tables e below (s₁.setTop (entryFrame m #[(.long q1), (.long q2), (.long q3), (.int p4)] maxLocals)) t := by
          intro t k
          refine k40 t ?_
          show Steps p.tables e below (T38.setTop (mkF m 167 #[.val (.long q1), .second, .val (.long j2_0), .second, .val (.long j6_0), .second, .val (.int p4), .val (.ref b9), .val (.int (1 : Int32)), .val (.int (1 : Int32)), .val (.long q1), .second] [(.int (p4 &&& (4 : Int32)))])) _
          refine XS.ifNo X38.here hx rfl (hb hby at_167) rfl ((if0 _ _).trans (feq hc167_9).1) ?_
          show Steps p.tables e below (T38.setTop (mkF m 170 #[.val (.long q1), .second, .val (.long j2_0), .second, .val (.long j6_0), .second, .val (.int p4), .val (.ref b9), .val (.int (1 : Int32)), .val (.int (1 : Int32)), .val (.long q1), .second] [])) _
          refine XS.aload X38.here hx rfl (hb hby at_170) rfl rfl ?_
          show Steps p.tables e below (T38.setTop (mkF m 172 #[.val (.long q1), .second, .val (.long j2_0), .second, .val (.long j6_0), .second, .val (.int p4), .val (.ref b9), .val (.int (1 : Int32)), .val (.int (1 : Int32)), .val (.long q1), .second] [(.ref b9)])) _
          refine XS.lload X38.here hx rfl (hb hby at_172) rfl ?_
          exact k
        by_cases hc174_10 : (0 : Int32) < (lcmpW (j6_0 - q1) (0 : Int64))
        ·
          obtain ⟨cq43, kq43, q43a, q43b, q43c⟩ := isOf hZ rfl (Fq36_0.keep K38q)
          obtain ⟨_, _, ⟨T43, L43, k43, n43⟩, -, X43, ⟨Lc43, hQ43, l43, y43, z43⟩, st43⟩ := X38.virtualBack hx (y := (⟨"com/example/grebe/grebe/bench/Tally", "stop", "(J)V"⟩ : MethodName)) (z := (⟨"com/example/grebe/grebe/bench/Tally", "stop", "(J)V"⟩ : MethodName)) hown (mvT hZ (hw _ (List.mem_of_getElem? (i := 35) rfl))) (mvT hZ (hw _ (List.mem_of_getElem? (i := 36) rfl))) (notFace_of_selects (args := #[]) (mvT hZ (hw _ (List.mem_of_getElem? (i := 38) rfl)))) (mvT hZ (hw _ (List.mem_of_getElem? (i := 38) rfl))) (mvT hZ (hw _ (List.mem_of_getElem? (i := 37) rfl))) (by decide) (backOf (W := 0) (rm7_1 l Z a0 hw [] b9 j6_0 b10_0 q1 T38.heap n0 (Nat.le_trans Z0 K38.1) (Fq36_0.keep K38q) (Fq36_1.keep K38q nin0) (Fq36_2.keep K38q nin0) (Fq36_3.keep K38q nin0) (Fq36_4.keep K38q nin0) hc174_10 g_b9) hZ (hw _ (List.mem_of_getElem? (i := 39) rfl)) (hw _ (List.mem_of_getElem? (i := 2) rfl)) (by decide) (by decide)) q43a q43c (g := (mkF m 174 #[.val (.long q1), .second, .val (.long j2_0), .second, .val (.long j6_0), .second, .val (.int p4), .val (.ref b9), .val (.int (1 : Int32)), .val (.int (1 : Int32)), .val (.long q1), .second] [(.long j6_0), (.ref b9)])) rfl (by rw [hml]; rfl) (Steps.refl _) (argsL := [(.long j6_0)]) (rest := []) (lenOf pd_5 rfl) rfl (by show 2 * 0 + _ ≤ _; exact Nat.le_of_eq rfl) (hb hby at_174) (fun _ _ => ⟨rfl, rfl, (by decide : 3 + 0 ≤ _), (by decide : 1031 + 0 ≤ _)⟩)
          dsimp only [Pt.U, Pt.locs, Pt.cells, Pt.slots] at X43 l43 y43 z43 st43 hQ43
          subst l43 y43 z43
          obtain ⟨rfl, N43q, K43q, Fq43_0, Fq43_1, Fq43_2, Fq43_3, Fq43_4⟩ := hQ43
          have N43 := Fr.app N38 N43q
          have K43 : Keep h0 T43.heap [] := Keep.trans K38 K43q (allS (Or.inr sz_b9) all0)
          have cf44 := ((cf37.keep K38q nin0).keep K43q (ninS (Ne.symm ne_b9_b10_0) nin0))
          obtain ⟨_, _, ⟨T45, L45, k45, n45⟩, -, X45, ⟨Lc45, hQ45, l45, y45, z45⟩, st45⟩ := Jvm.LawKit.callS X43 hx (y := (⟨"com/example/grebe/grebe/bench/TallyStopPinLaw", "laterThan", "(JJ)Z"⟩ : MethodName)) hown (mvT hZ (hw _ (List.mem_of_getElem? (i := 67) rfl))) (mvT hZ (hw _ (List.mem_of_getElem? (i := 68) rfl))) (mvT hZ (hw _ (List.mem_of_getElem? (i := 14) rfl))) (mvT hZ (hw _ (List.mem_of_getElem? (i := 69) rfl))) (by decide) (backOf (W := 0) (rm12_0 l Z a0 hw [] j6_0 q1 T43.heap n0 (Nat.le_trans Z0 K43.1) hc174_10) hZ (hw _ (List.mem_of_getElem? (i := 69) rfl)) (hw _ (List.mem_of_getElem? (i := 14) rfl)) (by decide) (by decide)) (g := (mkF m 186 #[.val (.long q1), .second, .val (.long j2_0), .second, .val (.long j6_0), .second, .val (.int p4), .val (.ref b9), .val (.int (1 : Int32)), .val (.int (1 : Int32)), .val (.long q1), .second] [(.long q1), (.long j6_0)])) rfl (by rw [hml]; rfl) (argsL := [(.long j6_0), (.long q1)]) (rest := []) (lenOf pd_7 rfl) rfl (by show 2 * 0 + _ ≤ _; exact Nat.le_of_eq rfl) (hb hby at_186) (fun _ _ => ⟨rfl, rfl, (by decide : 3 + 0 ≤ _), (by decide : 1031 + 0 ≤ _)⟩)
          dsimp only [Pt.U, Pt.locs, Pt.cells, Pt.slots] at X45 l45 y45 z45 st45 hQ45
          subst l45 y45 z45
          obtain ⟨rfl, N45q, e45⟩ := hQ45
          have N45 := Fr.app N43 N45q
          obtain ⟨_, _, ⟨T46, L46, k46, n46⟩, -, X46, ⟨Lc46, hQ46, l46, y46, z46⟩, st46⟩ := Jvm.LawKit.callS X45 hx (y := (⟨"com/example/grebe/grebe/bench/TallyStopPinLaw", "matches", "(Lcom/example/grebe/grebe/bench/Tally;ZJ)Z"⟩ : MethodName)) hown (mvT hZ (hw _ (List.mem_of_getElem? (i := 12) rfl))) (mvT hZ (hw _ (List.mem_of_getElem? (i := 13) rfl))) (mvT hZ (hw _ (List.mem_of_getElem? (i := 14) rfl))) (mvT hZ (hw _ (List.mem_of_getElem? (i := 15) rfl))) (by decide) (backOf (W := 0) (rm3_1 l Z a0 hw [] b9 j6_0 T43.heap n0 (Nat.le_trans Z0 K43.1) Fq43_0 Fq43_2 Fq43_3) hZ (hw _ (List.mem_of_getElem? (i := 15) rfl)) (hw _ (List.mem_of_getElem? (i := 14) rfl)) (by decide) (by decide)) (g := (mkF m 210 #[.val (.long q1), .second, .val (.long j2_0), .second, .val (.long j6_0), .second, .val (.int p4), .val (.ref b9), .val (.int (1 : Int32)), .val (.int (1 : Int32)), .val (.long j6_0), .second] [(.long j6_0), (.int (1 : Int32)), (.ref b9)])) rfl (by rw [hml]; rfl) (argsL := [(.ref b9), (.int (1 : Int32)), (.long j6_0)]) (rest := []) (lenOf pd_3 rfl) rfl (by show 2 * 0 + _ ≤ _; exact Nat.le_of_eq rfl) (hb hby at_210) (fun _ _ => ⟨rfl, e45, (by decide : 3 + 1 ≤ _), (by decide : 1031 + 2 ≤ _)⟩)
          dsimp only [Pt.U, Pt.locs, Pt.cells, Pt.slots] at X46 l46 y46 z46 st46 hQ46
          subst l46 y46 z46
          obtain ⟨rfl, N46q, K46q⟩ := hQ46
          have N46 := Fr.app N45 N46q
          have K46 : Keep h0 T46.heap [] := Keep.trans K43 K46q all0
          obtain ⟨cq47, kq47, q47a, q47b, q47c⟩ := isOf hZ rfl (Fq43_0.keep K46q)
          obtain ⟨_, _, ⟨T47, L47, k47, n47⟩, -, X47, ⟨Lc47, hQ47, l47, y47, z47⟩, st47⟩ := X46.virtualBack hx (y := (⟨"com/example/grebe/grebe/bench/Tally", "count", "()J"⟩ : MethodName)) (z := (⟨"com/example/grebe/grebe/bench/Tally", "count", "()J"⟩ : MethodName)) hown (mvT hZ (hw _ (List.mem_of_getElem? (i := 59) rfl))) (mvT hZ (hw _ (List.mem_of_getElem? (i := 60) rfl))) (notFace_of_selects (args := #[]) (mvT hZ (hw _ (List.mem_of_getElem? (i := 62) rfl)))) (mvT hZ (hw _ (List.mem_of_getElem? (i := 62) rfl))) (mvT hZ (hw _ (List.mem_of_getElem? (i := 61) rfl))) (by decide) (backOf (W := 0) (rm11_1 l Z a0 hw [] b9 T46.heap n0 (Nat.le_trans Z0 K46.1) (Fq43_4.keep K46q nin0)) hZ (hw _ (List.mem_of_getElem? (i := 63) rfl)) (hw _ (List.mem_of_getElem? (i := 2) rfl)) (by decide) (by decide)) q47a q47c (g := (mkF m 230 #[.val (.long q1), .second, .val (.long j2_0), .second, .val (.long j6_0), .second, .val (.int p4), .val (.ref b9), .val (.int (1 : Int32)), .val (.int (1 : Int32)), .val (.long j6_0), .second] [(.ref b9)])) rfl (by rw [hml]; rfl) (Steps.refl _) (argsL := []) (rest := []) (lenOf pd_4 rfl) rfl (by show 2 * 0 + _ ≤ _; exact Nat.le_of_eq rfl) (hb hby at_230) (fun _ _ => ⟨rfl, rfl, (by decide : 4 + 0 ≤ _), (by decide : 1033 + 0 ≤ _)⟩)
          dsimp only [Pt.U, Pt.locs, Pt.cells, Pt.slots] at X47 l47 y47 z47 st47 hQ47
          subst l47 y47 z47
          obtain ⟨rfl, N47q, e47⟩ := hQ47
          have N47 := Fr.app N46 N47q
          obtain ⟨fs, hr, hrun, hended, hW, hsame⟩ := X47.leave (v := some (.int (1 : Int32))) (fun h => by rw [Bd.returns] at h; cases h)
          refine ⟨_, _, k42 _ ?_, hrun, hended, _, _, rfl, ?_, ⟨_, rfl⟩, hW, hsame.mono (by decide) (by decide)⟩
          ·
            show Steps p.tables e below (T38.setTop (mkF m 174 #[.val (.long q1), .second, .val (.long j2_0), .second, .val (.long j6_0), .second, .val (.int p4), .val (.ref b9), .val (.int (1 : Int32)), .val (.int (1 : Int32)), .val (.long q1), .second] [(.long j6_0), (.ref b9)])) _
            refine st43.trans ?_
            show Steps p.tables e below (T43.setTop (mkF m 177 #[.val (.long q1), .second, .val (.long j2_0), .second, .val (.long j6_0), .second, .val (.int p4), .val (.ref b9), .val (.int (1 : Int32)), .val (.int (1 : Int32)), .val (.long q1), .second] [])) _
            refine XS.iload X43.here hx rfl (hb hby at_177) rfl ?_
            show Steps p.tables e below (T43.setTop (mkF m 179 #[.val (.long q1), .second, .val (.long j2_0), .second, .val (.long j6_0), .second, .val (.int p4), .val (.ref b9), .val (.int (1 : Int32)), .val (.int (1 : Int32)), .val (.long q1), .second] [(.int (1 : Int32))])) _
            refine XS.ifNo X43.here hx rfl (hb hby at_179) rfl ((if0 _ _).trans (feq (by decide : ¬ ((1 : Int32) = (0 : Int32)))).1) ?_
            show Steps p.tables e below (T43.setTop (mkF m 182 #[.val (.long q1), .second, .val (.long j2_0), .second, .val (.long j6_0), .second, .val (.int p4), .val (.ref b9), .val (.int (1 : Int32)), .val (.int (1 : Int32)), .val (.long q1), .second] [])) _
            refine XS.lload X43.here hx rfl (hb hby at_182) rfl ?_
            show Steps p.tables e below (T43.setTop (mkF m 184 #[.val (.long q1), .second, .val (.long j2_0), .second, .val (.long j6_0), .second, .val (.int p4), .val (.ref b9), .val (.int (1 : Int32)), .val (.int (1 : Int32)), .val (.long q1), .second] [(.long j6_0)])) _
            refine XS.lload X43.here hx rfl (hb hby at_184) rfl ?_
            show Steps p.tables e below (T43.setTop (mkF m 186 #[.val (.long q1), .second, .val (.long j2_0), .second, .val (.long j6_0), .second, .val (.int p4), .val (.ref b9), .val (.int (1 : Int32)), .val (.int (1 : Int32)), .val (.long q1), .second] [(.long q1), (.long j6_0)])) _
            refine st45 _ ?_
            show Steps p.tables e below (T45.setTop (mkF m 189 #[.val (.long q1), .second, .val (.long j2_0), .second, .val (.long j6_0), .second, .val (.int p4), .val (.ref b9), .val (.int (1 : Int32)), .val (.int (1 : Int32)), .val (.long q1), .second] [(.int (1 : Int32))])) _
            refine XS.ifNo X45.here hx rfl (hb hby at_189) rfl ((if0 _ _).trans (feq (by decide : ¬ ((1 : Int32) = (0 : Int32)))).1) ?_
            show Steps p.tables e below (T45.setTop (mkF m 192 #[.val (.long q1), .second, .val (.long j2_0), .second, .val (.long j6_0), .second, .val (.int p4), .val (.ref b9), .val (.int (1 : Int32)), .val (.int (1 : Int32)), .val (.long q1), .second] [])) _
            refine XS.lload X45.here hx rfl (hb hby at_192) rfl ?_
            show Steps p.tables e below (T45.setTop (mkF m 194 #[.val (.long q1), .second, .val (.long j2_0), .second, .val (.long j6_0), .second, .val (.int p4), .val (.ref b9), .val (.int (1 : Int32)), .val (.int (1 : Int32)), .val (.long q1), .second] [(.long j6_0)])) _
            refine XS.lstore X45.here hx rfl (hb hby at_194) rfl (l' := #[.val (.long q1), .second, .val (.long j2_0), .second, .val (.long j6_0), .second, .val (.int p4), .val (.ref b9), .val (.int (1 : Int32)), .val (.int (1 : Int32)), .val (.long j6_0), .second]) rfl ?_
            show Steps p.tables e below (T45.setTop (mkF m 196 #[.val (.long q1), .second, .val (.long j2_0), .second, .val (.long j6_0), .second, .val (.int p4), .val (.ref b9), .val (.int (1 : Int32)), .val (.int (1 : Int32)), .val (.long j6_0), .second] [])) _
            refine XS.iconst X45.here hx rfl (hb hby at_196) ?_
            show Steps p.tables e below (T45.setTop (mkF m 197 #[.val (.long q1), .second, .val (.long j2_0), .second, .val (.long j6_0), .second, .val (.int p4), .val (.ref b9), .val (.int (1 : Int32)), .val (.int (1 : Int32)), .val (.long j6_0), .second] [(.int (1 : Int32))])) _
            refine XS.istore X45.here hx rfl (hb hby at_197) rfl (l' := #[.val (.long q1), .second, .val (.long j2_0), .second, .val (.long j6_0), .second, .val (.int p4), .val (.ref b9), .val (.int (1 : Int32)), .val (.int (1 : Int32)), .val (.long j6_0), .second]) rfl ?_
            show Steps p.tables e below (T45.setTop (mkF m 199 #[.val (.long q1), .second, .val (.long j2_0), .second, .val (.long j6_0), .second, .val (.int p4), .val (.ref b9), .val (.int (1 : Int32)), .val (.int (1 : Int32)), .val (.long j6_0), .second] [])) _
            refine XS.iload X45.here hx rfl (hb hby at_199) rfl ?_
            show Steps p.tables e below (T45.setTop (mkF m 201 #[.val (.long q1), .second, .val (.long j2_0), .second, .val (.long j6_0), .second, .val (.int p4), .val (.ref b9), .val (.int (1 : Int32)), .val (.int (1 : Int32)), .val (.long j6_0), .second] [(.int (1 : Int32))])) _
            refine XS.ifNo X45.here hx rfl (hb hby at_201) rfl ((if0 _ _).trans (feq (by decide : ¬ ((1 : Int32) = (0 : Int32)))).1) ?_
            show Steps p.tables e below (T45.setTop (mkF m 204 #[.val (.long q1), .second, .val (.long j2_0), .second, .val (.long j6_0), .second, .val (.int p4), .val (.ref b9), .val (.int (1 : Int32)), .val (.int (1 : Int32)), .val (.long j6_0), .second] [])) _
            refine XS.aload X45.here hx rfl (hb hby at_204) rfl rfl ?_
            show Steps p.tables e below (T45.setTop (mkF m 206 #[.val (.long q1), .second, .val (.long j2_0), .second, .val (.long j6_0), .second, .val (.int p4), .val (.ref b9), .val (.int (1 : Int32)), .val (.int (1 : Int32)), .val (.long j6_0), .second] [(.ref b9)])) _
            refine XS.iload X45.here hx rfl (hb hby at_206) rfl ?_
            show Steps p.tables e below (T45.setTop (mkF m 208 #[.val (.long q1), .second, .val (.long j2_0), .second, .val (.long j6_0), .second, .val (.int p4), .val (.ref b9), .val (.int (1 : Int32)), .val (.int (1 : Int32)), .val (.long j6_0), .second] [(.int (1 : Int32)), (.ref b9)])) _
            refine XS.lload X45.here hx rfl (hb hby at_208) rfl ?_
            show Steps p.tables e below (T45.setTop (mkF m 210 #[.val (.long q1), .second, .val (.long j2_0), .second, .val (.long j6_0), .second, .val (.int p4), .val (.ref b9), .val (.int (1 : Int32)), .val (.int (1 : Int32)), .val (.long j6_0), .second] [(.long j6_0), (.int (1 : Int32)), (.ref b9)])) _
            refine st46 _ ?_
            show Steps p.tables e below (T46.setTop (mkF m 213 #[.val (.long q1), .second, .val (.long j2_0), .second, .val (.long j6_0), .second, .val (.int p4), .val (.ref b9), .val (.int (1 : Int32)), .val (.int (1 : Int32)), .val (.long j6_0), .second] [(.int (1 : Int32))])) _
            refine XS.ifNo X46.here hx rfl (hb hby at_213) rfl ((if0 _ _).trans (feq (by decide : ¬ ((1 : Int32) = (0 : Int32)))).1) ?_
            show Steps p.tables e below (T46.setTop (mkF m 216 #[.val (.long q1), .second, .val (.long j2_0), .second, .val (.long j6_0), .second, .val (.int p4), .val (.ref b9), .val (.int (1 : Int32)), .val (.int (1 : Int32)), .val (.long j6_0), .second] [])) _
            refine XS.iconst X46.here hx rfl (hb hby at_216) ?_
            show Steps p.tables e below (T46.setTop (mkF m 217 #[.val (.long q1), .second, .val (.long j2_0), .second, .val (.long j6_0), .second, .val (.int p4), .val (.ref b9), .val (.int (1 : Int32)), .val (.int (1 : Int32)), .val (.long j6_0), .second] [(.int (1 : Int32))])) _
            refine XS.goto X46.here hx rfl (pc0 := 217) (pc' := 221) rfl (hb hby at_217) (by decide) (by decide) ?_
            show Steps p.tables e below (T46.setTop (mkF m 221 #[.val (.long q1), .second, .val (.long j2_0), .second, .val (.long j6_0), .second, .val (.int p4), .val (.ref b9), .val (.int (1 : Int32)), .val (.int (1 : Int32)), .val (.long j6_0), .second] [(.int (1 : Int32))])) _
            refine XS.istore X46.here hx rfl (hb hby at_221) rfl (l' := #[.val (.long q1), .second, .val (.long j2_0), .second, .val (.long j6_0), .second, .val (.int p4), .val (.ref b9), .val (.int (1 : Int32)), .val (.int (1 : Int32)), .val (.long j6_0), .second]) rfl ?_
            show Steps p.tables e below (T46.setTop (mkF m 223 #[.val (.long q1), .second, .val (.long j2_0), .second, .val (.long j6_0), .second, .val (.int p4), .val (.ref b9), .val (.int (1 : Int32)), .val (.int (1 : Int32)), .val (.long j6_0), .second] [])) _
            refine XS.iload X46.here hx rfl (hb hby at_223) rfl ?_
            show Steps p.tables e below (T46.setTop (mkF m 225 #[.val (.long q1), .second, .val (.long j2_0), .second, .val (.long j6_0), .second, .val (.int p4), .val (.ref b9), .val (.int (1 : Int32)), .val (.int (1 : Int32)), .val (.long j6_0), .second] [(.int (1 : Int32))])) _
            refine XS.ifNo X46.here hx rfl (hb hby at_225) rfl ((if0 _ _).trans (feq (by decide : ¬ ((1 : Int32) = (0 : Int32)))).1) ?_
            show Steps p.tables e below (T46.setTop (mkF m 228 #[.val (.long q1), .second, .val (.long j2_0), .second, .val (.long j6_0), .second, .val (.int p4), .val (.ref b9), .val (.int (1 : Int32)), .val (.int (1 : Int32)), .val (.long j6_0), .second] [])) _
            refine XS.aload X46.here hx rfl (hb hby at_228) rfl rfl ?_
            show Steps p.tables e below (T46.setTop (mkF m 230 #[.val (.long q1), .second, .val (.long j2_0), .second, .val (.long j6_0), .second, .val (.int p4), .val (.ref b9), .val (.int (1 : Int32)), .val (.int (1 : Int32)), .val (.long j6_0), .second] [(.ref b9)])) _
            refine st47.trans ?_
            show Steps p.tables e below (T47.setTop (mkF m 233 #[.val (.long q1), .second, .val (.long j2_0), .second, .val (.long j6_0), .second, .val (.int p4), .val (.ref b9), .val (.int (1 : Int32)), .val (.int (1 : Int32)), .val (.long j6_0), .second] [(.long (0 : Int64))])) _
            refine XS.lconst X47.here hx rfl (hb hby at_233) ?_
            show Steps p.tables e below (T47.setTop (mkF m 234 #[.val (.long q1), .second, .val (.long j2_0), .second, .val (.long j6_0), .second, .val (.int p4), .val (.ref b9), .val (.int (1 : Int32)), .val (.int (1 : Int32)), .val (.long j6_0), .second] [(.long (0 : Int64)), (.long (0 : Int64))])) _
            refine XS.lcmp X47.here hx rfl (hb hby at_234) rfl ?_
            show Steps p.tables e below (T47.setTop (mkF m 235 #[.val (.long q1), .second, .val (.long j2_0), .second, .val (.long j6_0), .second, .val (.int p4), .val (.ref b9), .val (.int (1 : Int32)), .val (.int (1 : Int32)), .val (.long j6_0), .second] [(.int (lcmpW (0 : Int64) (0 : Int64)))])) _
            rewrite [(lw_eq (0 : Int64) (0 : Int64)).mpr rfl]
            show Steps p.tables e below (T47.setTop (mkF m 235 #[.val (.long q1), .second, .val (.long j2_0), .second, .val (.long j6_0), .second, .val (.int p4), .val (.ref b9), .val (.int (1 : Int32)), .val (.int (1 : Int32)), .val (.long j6_0), .second] [(.int (0 : Int32))])) _
            refine XS.ifNo X47.here hx rfl (hb hby at_235) rfl ((if0 _ _).trans (teq (by decide : (0 : Int32) = (0 : Int32))).2) ?_
            show Steps p.tables e below (T47.setTop (mkF m 238 #[.val (.long q1), .second, .val (.long j2_0), .second, .val (.long j6_0), .second, .val (.int p4), .val (.ref b9), .val (.int (1 : Int32)), .val (.int (1 : Int32)), .val (.long j6_0), .second] [])) _
            refine XS.iconst X47.here hx rfl (hb hby at_238) ?_
            show Steps p.tables e below (T47.setTop (mkF m 239 #[.val (.long q1), .second, .val (.long j2_0), .second, .val (.long j6_0), .second, .val (.int p4), .val (.ref b9), .val (.int (1 : Int32)), .val (.int (1 : Int32)), .val (.long j6_0), .second] [(.int (1 : Int32))])) _
            refine XS.goto X47.here hx rfl (pc0 := 239) (pc' := 243) rfl (hb hby at_239) (by decide) (by decide) ?_
            show Steps p.tables e below (T47.setTop (mkF m 243 #[.val (.long q1), .second, .val (.long j2_0), .second, .val (.long j6_0), .second, .val (.int p4), .val (.ref b9), .val (.int (1 : Int32)), .val (.int (1 : Int32)), .val (.long j6_0), .second] [(.int (1 : Int32))])) _
            exact retN X47 hx (t := .boolean) Bd.returns (by simp) (hb hby at_243) hr
          · show Q0_0 Z q1 q2 q3 p4 w_EMPTY h0 n0 _ T47.heap _
            rw [e47]
            exact ⟨rfl, N47⟩
        ·
          obtain ⟨cq48, kq48, q48a, q48b, q48c⟩ := isOf hZ rfl (Fq36_0.keep K38q)
          obtain ⟨_, _, ⟨T48, L48, k48, n48⟩, -, X48, ⟨Lc48, hQ48, l48, y48, z48⟩, st48⟩ := X38.virtualBack hx (y := (⟨"com/example/grebe/grebe/bench/Tally", "stop", "(J)V"⟩ : MethodName)) (z := (⟨"com/example/grebe/grebe/bench/Tally", "stop", "(J)V"⟩ : MethodName)) hown (mvT hZ (hw _ (List.mem_of_getElem? (i := 35) rfl))) (mvT hZ (hw _ (List.mem_of_getElem? (i := 36) rfl))) (notFace_of_selects (args := #[]) (mvT hZ (hw _ (List.mem_of_getElem? (i := 38) rfl)))) (mvT hZ (hw _ (List.mem_of_getElem? (i := 38) rfl))) (mvT hZ (hw _ (List.mem_of_getElem? (i := 37) rfl))) (by decide) (backOf (W := 0) (rm7_2 l Z a0 hw [] b9 j6_0 q1 T38.heap n0 (Nat.le_trans Z0 K38.1) (Fq36_2.keep K38q nin0) (Fq36_3.keep K38q nin0) hc174_10) hZ (hw _ (List.mem_of_getElem? (i := 39) rfl)) (hw _ (List.mem_of_getElem? (i := 2) rfl)) (by decide) (by decide)) q48a q48c (g := (mkF m 174 #[.val (.long q1), .second, .val (.long j2_0), .second, .val (.long j6_0), .second, .val (.int p4), .val (.ref b9), .val (.int (1 : Int32)), .val (.int (1 : Int32)), .val (.long q1), .second] [(.long j6_0), (.ref b9)])) rfl (by rw [hml]; rfl) (Steps.refl _) (argsL := [(.long j6_0)]) (rest := []) (lenOf pd_5 rfl) rfl (by show 2 * 0 + _ ≤ _; exact Nat.le_of_eq rfl) (hb hby at_174) (fun _ _ => ⟨rfl, rfl, (by decide : 3 + 0 ≤ _), (by decide : 1031 + 0 ≤ _)⟩)
          dsimp only [Pt.U, Pt.locs, Pt.cells, Pt.slots] at X48 l48 y48 z48 st48 hQ48
          subst l48 y48 z48
          obtain ⟨rfl, N48q, e48⟩ := hQ48
          have N48 := Fr.app N38 N48q
          obtain ⟨_, _, ⟨T49, L49, k49, n49⟩, -, X49, ⟨Lc49, hQ49, l49, y49, z49⟩, st49⟩ := Jvm.LawKit.callS X48 hx (y := (⟨"com/example/grebe/grebe/bench/TallyStopPinLaw", "laterThan", "(JJ)Z"⟩ : MethodName)) hown (mvT hZ (hw _ (List.mem_of_getElem? (i := 67) rfl))) (mvT hZ (hw _ (List.mem_of_getElem? (i := 68) rfl))) (mvT hZ (hw _ (List.mem_of_getElem? (i := 14) rfl))) (mvT hZ (hw _ (List.mem_of_getElem? (i := 69) rfl))) (by decide) (backOf (W := 0) (rm12_1 l Z a0 hw [] j6_0 q1 T38.heap n0 (Nat.le_trans Z0 K38.1) hc174_10) hZ (hw _ (List.mem_of_getElem? (i := 69) rfl)) (hw _ (List.mem_of_getElem? (i := 14) rfl)) (by decide) (by decide)) (g := (mkF m 186 #[.val (.long q1), .second, .val (.long j2_0), .second, .val (.long j6_0), .second, .val (.int p4), .val (.ref b9), .val (.int (1 : Int32)), .val (.int (1 : Int32)), .val (.long q1), .second] [(.long q1), (.long j6_0)])) rfl (by rw [hml]; rfl) (argsL := [(.long j6_0), (.long q1)]) (rest := []) (lenOf pd_7 rfl) rfl (by show 2 * 0 + _ ≤ _; exact Nat.le_of_eq rfl) (hb hby at_186) (fun _ _ => ⟨rfl, e48, (by decide : 3 + 0 ≤ _), (by decide : 1031 + 0 ≤ _)⟩)
          dsimp only [Pt.U, Pt.locs, Pt.cells, Pt.slots] at X49 l49 y49 z49 st49 hQ49
          subst l49 y49 z49
          obtain ⟨rfl, N49q, e49⟩ := hQ49
          have N49 := Fr.app N48 N49q
          obtain ⟨_, _, ⟨T50, L50, k50, n50⟩, -, X50, ⟨Lc50, hQ50, l50, y50, z50⟩, st50⟩ := Jvm.LawKit.callS X49 hx (y := (⟨"com/example/grebe/grebe/bench/TallyStopPinLaw", "matches", "(Lcom/example/grebe/grebe/bench/Tally;ZJ)Z"⟩ : MethodName)) hown (mvT hZ (hw _ (List.mem_of_getElem? (i := 12) rfl))) (mvT hZ (hw _ (List.mem_of_getElem? (i := 13) rfl))) (mvT hZ (hw _ (List.mem_of_getElem? (i := 14) rfl))) (mvT hZ (hw _ (List.mem_of_getElem? (i := 15) rfl))) (by decide) (backOf (W := 0) (rm3_1 l Z a0 hw [] b9 q1 T38.heap n0 (Nat.le_trans Z0 K38.1) (Fq36_0.keep K38q) (Fq36_2.keep K38q nin0) (Fq36_3.keep K38q nin0)) hZ (hw _ (List.mem_of_getElem? (i := 15) rfl)) (hw _ (List.mem_of_getElem? (i := 14) rfl)) (by decide) (by decide)) (g := (mkF m 210 #[.val (.long q1), .second, .val (.long j2_0), .second, .val (.long j6_0), .second, .val (.int p4), .val (.ref b9), .val (.int (1 : Int32)), .val (.int (1 : Int32)), .val (.long q1), .second] [(.long q1), (.int (1 : Int32)), (.ref b9)])) rfl (by rw [hml]; rfl) (argsL := [(.ref b9), (.int (1 : Int32)), (.long q1)]) (rest := []) (lenOf pd_3 rfl) rfl (by show 2 * 0 + _ ≤ _; exact Nat.le_of_eq rfl) (hb hby at_210) (fun _ _ => ⟨rfl, e49, (by decide : 3 + 1 ≤ _), (by decide : 1031 + 2 ≤ _)⟩)
          dsimp only [Pt.U, Pt.locs, Pt.cells, Pt.slots] at X50 l50 y50 z50 st50 hQ50
          subst l50 y50 z50
          obtain ⟨rfl, N50q, K50q⟩ := hQ50
          have N50 := Fr.app N49 N50q
          have K50 : Keep h0 T50.heap [] := Keep.trans K38 K50q all0
          have cf51 := ((cf37.keep K38q nin0).keep K50q nin0)
          obtain ⟨cq52, kq52, q52a, q52b, q52c⟩ := isOf hZ rfl ((Fq36_0.keep K38q).keep K50q)
          obtain ⟨_, _, ⟨T52, L52, k52, n52⟩, -, X52, ⟨Lc52, hQ52, l52, y52, z52⟩, st52⟩ := X50.virtualBack hx (y := (⟨"com/example/grebe/grebe/bench/Tally", "count", "()J"⟩ : MethodName)) (z := (⟨"com/example/grebe/grebe/bench/Tally", "count", "()J"⟩ : MethodName)) hown (mvT hZ (hw _ (List.mem_of_getElem? (i := 59) rfl))) (mvT hZ (hw _ (List.mem_of_getElem? (i := 60) rfl))) (notFace_of_selects (args := #[]) (mvT hZ (hw _ (List.mem_of_getElem? (i := 62) rfl)))) (mvT hZ (hw _ (List.mem_of_getElem? (i := 62) rfl))) (mvT hZ (hw _ (List.mem_of_getElem? (i := 61) rfl))) (by decide) (backOf (W := 0) (rm11_1 l Z a0 hw [] b9 T50.heap n0 (Nat.le_trans Z0 K50.1) ((Fq36_4.keep K38q nin0).keep K50q nin0)) hZ (hw _ (List.mem_of_getElem? (i := 63) rfl)) (hw _ (List.mem_of_getElem? (i := 2) rfl)) (by decide) (by decide)) q52a q52c (g := (mkF m 230 #[.val (.long q1), .second, .val (.long j2_0), .second, .val (.long j6_0), .second, .val (.int p4), .val (.ref b9), .val (.int (1 : Int32)), .val (.int (1 : Int32)), .val (.long q1), .second] [(.ref b9)])) rfl (by rw [hml]; rfl) (Steps.refl _) (argsL := []) (rest := []) (lenOf pd_4 rfl) rfl (by show 2 * 0 + _ ≤ _; exact Nat.le_of_eq rfl) (hb hby at_230) (fun _ _ => ⟨rfl, rfl, (by decide : 4 + 0 ≤ _), (by decide : 1033 + 0 ≤ _)⟩)
          dsimp only [Pt.U, Pt.locs, Pt.cells, Pt.slots] at X52 l52 y52 z52 st52 hQ52
          subst l52 y52 z52
          obtain ⟨rfl, N52q, e52⟩ := hQ52
          have N52 := Fr.app N50 N52q
          obtain ⟨fs, hr, hrun, hended, hW, hsame⟩ := X52.leave (v := some (.int (1 : Int32))) (fun h => by rw [Bd.returns] at h; cases h)
          refine ⟨_, _, k42 _ ?_, hrun, hended, _, _, rfl, ?_, ⟨_, rfl⟩, hW, hsame.mono (by decide) (by decide)⟩
          ·
            show Steps p.tables e below (T38.setTop (mkF m 174 #[.val (.long q1), .second, .val (.long j2_0), .second, .val (.long j6_0), .second, .val (.int p4), .val (.ref b9), .val (.int (1 : Int32)), .val (.int (1 : Int32)), .val (.long q1), .second] [(.long j6_0), (.ref b9)])) _
            refine st48.trans ?_
            show Steps p.tables e below (T48.setTop (mkF m 177 #[.val (.long q1), .second, .val (.long j2_0), .second, .val (.long j6_0), .second, .val (.int p4), .val (.ref b9), .val (.int (1 : Int32)), .val (.int (1 : Int32)), .val (.long q1), .second] [])) _
            refine XS.iload X48.here hx rfl (hb hby at_177) rfl ?_
            show Steps p.tables e below (T48.setTop (mkF m 179 #[.val (.long q1), .second, .val (.long j2_0), .second, .val (.long j6_0), .second, .val (.int p4), .val (.ref b9), .val (.int (1 : Int32)), .val (.int (1 : Int32)), .val (.long q1), .second] [(.int (1 : Int32))])) _
            refine XS.ifNo X48.here hx rfl (hb hby at_179) rfl ((if0 _ _).trans (feq (by decide : ¬ ((1 : Int32) = (0 : Int32)))).1) ?_
            show Steps p.tables e below (T48.setTop (mkF m 182 #[.val (.long q1), .second, .val (.long j2_0), .second, .val (.long j6_0), .second, .val (.int p4), .val (.ref b9), .val (.int (1 : Int32)), .val (.int (1 : Int32)), .val (.long q1), .second] [])) _
            refine XS.lload X48.here hx rfl (hb hby at_182) rfl ?_
            show Steps p.tables e below (T48.setTop (mkF m 184 #[.val (.long q1), .second, .val (.long j2_0), .second, .val (.long j6_0), .second, .val (.int p4), .val (.ref b9), .val (.int (1 : Int32)), .val (.int (1 : Int32)), .val (.long q1), .second] [(.long j6_0)])) _
            refine XS.lload X48.here hx rfl (hb hby at_184) rfl ?_
            show Steps p.tables e below (T48.setTop (mkF m 186 #[.val (.long q1), .second, .val (.long j2_0), .second, .val (.long j6_0), .second, .val (.int p4), .val (.ref b9), .val (.int (1 : Int32)), .val (.int (1 : Int32)), .val (.long q1), .second] [(.long q1), (.long j6_0)])) _
            refine st49 _ ?_
            show Steps p.tables e below (T49.setTop (mkF m 189 #[.val (.long q1), .second, .val (.long j2_0), .second, .val (.long j6_0), .second, .val (.int p4), .val (.ref b9), .val (.int (1 : Int32)), .val (.int (1 : Int32)), .val (.long q1), .second] [(.int (0 : Int32))])) _
            refine XS.ifYes X49.here hx rfl (pc0 := 189) (pc' := 196) rfl (hb hby at_189) rfl ((if0 _ _).trans (teq (by decide : (0 : Int32) = (0 : Int32))).1) (by decide) (by decide) ?_
            show Steps p.tables e below (T49.setTop (mkF m 196 #[.val (.long q1), .second, .val (.long j2_0), .second, .val (.long j6_0), .second, .val (.int p4), .val (.ref b9), .val (.int (1 : Int32)), .val (.int (1 : Int32)), .val (.long q1), .second] [])) _
            refine XS.iconst X49.here hx rfl (hb hby at_196) ?_
            show Steps p.tables e below (T49.setTop (mkF m 197 #[.val (.long q1), .second, .val (.long j2_0), .second, .val (.long j6_0), .second, .val (.int p4), .val (.ref b9), .val (.int (1 : Int32)), .val (.int (1 : Int32)), .val (.long q1), .second] [(.int (1 : Int32))])) _
            refine XS.istore X49.here hx rfl (hb hby at_197) rfl (l' := #[.val (.long q1), .second, .val (.long j2_0), .second, .val (.long j6_0), .second, .val (.int p4), .val (.ref b9), .val (.int (1 : Int32)), .val (.int (1 : Int32)), .val (.long q1), .second]) rfl ?_
            show Steps p.tables e below (T49.setTop (mkF m 199 #[.val (.long q1), .second, .val (.long j2_0), .second, .val (.long j6_0), .second, .val (.int p4), .val (.ref b9), .val (.int (1 : Int32)), .val (.int (1 : Int32)), .val (.long q1), .second] [])) _
            refine XS.iload X49.here hx rfl (hb hby at_199) rfl ?_
            show Steps p.tables e below (T49.setTop (mkF m 201 #[.val (.long q1), .second, .val (.long j2_0), .second, .val (.long j6_0), .second, .val (.int p4), .val (.ref b9), .val (.int (1 : Int32)), .val (.int (1 : Int32)), .val (.long q1), .second] [(.int (1 : Int32))])) _
            refine XS.ifNo X49.here hx rfl (hb hby at_201) rfl ((if0 _ _).trans (feq (by decide : ¬ ((1 : Int32) = (0 : Int32)))).1) ?_
            show Steps p.tables e below (T49.setTop (mkF m 204 #[.val (.long q1), .second, .val (.long j2_0), .second, .val (.long j6_0), .second, .val (.int p4), .val (.ref b9), .val (.int (1 : Int32)), .val (.int (1 : Int32)), .val (.long q1), .second] [])) _
            refine XS.aload X49.here hx rfl (hb hby at_204) rfl rfl ?_
            show Steps p.tables e below (T49.setTop (mkF m 206 #[.val (.long q1), .second, .val (.long j2_0), .second, .val (.long j6_0), .second, .val (.int p4), .val (.ref b9), .val (.int (1 : Int32)), .val (.int (1 : Int32)), .val (.long q1), .second] [(.ref b9)])) _
            refine XS.iload X49.here hx rfl (hb hby at_206) rfl ?_
            show Steps p.tables e below (T49.setTop (mkF m 208 #[.val (.long q1), .second, .val (.long j2_0), .second, .val (.long j6_0), .second, .val (.int p4), .val (.ref b9), .val (.int (1 : Int32)), .val (.int (1 : Int32)), .val (.long q1), .second] [(.int (1 : Int32)), (.ref b9)])) _
            refine XS.lload X49.here hx rfl (hb hby at_208) rfl ?_
            show Steps p.tables e below (T49.setTop (mkF m 210 #[.val (.long q1), .second, .val (.long j2_0), .second, .val (.long j6_0), .second, .val (.int p4), .val (.ref b9), .val (.int (1 : Int32)), .val (.int (1 : Int32)), .val (.long q1), .second] [(.long q1), (.int (1 : Int32)), (.ref b9)])) _
            refine st50 _ ?_
            show Steps p.tables e below (T50.setTop (mkF m 213 #[.val (.long q1), .second, .val (.long j2_0), .second, .val (.long j6_0), .second, .val (.int p4), .val (.ref b9), .val (.int (1 : Int32)), .val (.int (1 : Int32)), .val (.long q1), .second] [(.int (1 : Int32))])) _
            refine XS.ifNo X50.here hx rfl (hb hby at_213) rfl ((if0 _ _).trans (feq (by decide : ¬ ((1 : Int32) = (0 : Int32)))).1) ?_
            show Steps p.tables e below (T50.setTop (mkF m 216 #[.val (.long q1), .second, .val (.long j2_0), .second, .val (.long j6_0), .second, .val (.int p4), .val (.ref b9), .val (.int (1 : Int32)), .val (.int (1 : Int32)), .val (.long q1), .second] [])) _
            refine XS.iconst X50.here hx rfl (hb hby at_216) ?_
            show Steps p.tables e below (T50.setTop (mkF m 217 #[.val (.long q1), .second, .val (.long j2_0), .second, .val (.long j6_0), .second, .val (.int p4), .val (.ref b9), .val (.int (1 : Int32)), .val (.int (1 : Int32)), .val (.long q1), .second] [(.int (1 : Int32))])) _
            refine XS.goto X50.here hx rfl (pc0 := 217) (pc' := 221) rfl (hb hby at_217) (by decide) (by decide) ?_
            show Steps p.tables e below (T50.setTop (mkF m 221 #[.val (.long q1), .second, .val (.long j2_0), .second, .val (.long j6_0), .second, .val (.int p4), .val (.ref b9), .val (.int (1 : Int32)), .val (.int (1 : Int32)), .val (.long q1), .second] [(.int (1 : Int32))])) _
            refine XS.istore X50.here hx rfl (hb hby at_221) rfl (l' := #[.val (.long q1), .second, .val (.long j2_0), .second, .val (.long j6_0), .second, .val (.int p4), .val (.ref b9), .val (.int (1 : Int32)), .val (.int (1 : Int32)), .val (.long q1), .second]) rfl ?_
            show Steps p.tables e below (T50.setTop (mkF m 223 #[.val (.long q1), .second, .val (.long j2_0), .second, .val (.long j6_0), .second, .val (.int p4), .val (.ref b9), .val (.int (1 : Int32)), .val (.int (1 : Int32)), .val (.long q1), .second] [])) _
            refine XS.iload X50.here hx rfl (hb hby at_223) rfl ?_
            show Steps p.tables e below (T50.setTop (mkF m 225 #[.val (.long q1), .second, .val (.long j2_0), .second, .val (.long j6_0), .second, .val (.int p4), .val (.ref b9), .val (.int (1 : Int32)), .val (.int (1 : Int32)), .val (.long q1), .second] [(.int (1 : Int32))])) _
            refine XS.ifNo X50.here hx rfl (hb hby at_225) rfl ((if0 _ _).trans (feq (by decide : ¬ ((1 : Int32) = (0 : Int32)))).1) ?_
            show Steps p.tables e below (T50.setTop (mkF m 228 #[.val (.long q1), .second, .val (.long j2_0), .second, .val (.long j6_0), .second, .val (.int p4), .val (.ref b9), .val (.int (1 : Int32)), .val (.int (1 : Int32)), .val (.long q1), .second] [])) _
            refine XS.aload X50.here hx rfl (hb hby at_228) rfl rfl ?_
            show Steps p.tables e below (T50.setTop (mkF m 230 #[.val (.long q1), .second, .val (.long j2_0), .second, .val (.long j6_0), .second, .val (.int p4), .val (.ref b9), .val (.int (1 : Int32)), .val (.int (1 : Int32)), .val (.long q1), .second] [(.ref b9)])) _
            refine st52.trans ?_
            show Steps p.tables e below (T52.setTop (mkF m 233 #[.val (.long q1), .second, .val (.long j2_0), .second, .val (.long j6_0), .second, .val (.int p4), .val (.ref b9), .val (.int (1 : Int32)), .val (.int (1 : Int32)), .val (.long q1), .second] [(.long (0 : Int64))])) _
            refine XS.lconst X52.here hx rfl (hb hby at_233) ?_
            show Steps p.tables e below (T52.setTop (mkF m 234 #[.val (.long q1), .second, .val (.long j2_0), .second, .val (.long j6_0), .second, .val (.int p4), .val (.ref b9), .val (.int (1 : Int32)), .val (.int (1 : Int32)), .val (.long q1), .second] [(.long (0 : Int64)), (.long (0 : Int64))])) _
            refine XS.lcmp X52.here hx rfl (hb hby at_234) rfl ?_
            show Steps p.tables e below (T52.setTop (mkF m 235 #[.val (.long q1), .second, .val (.long j2_0), .second, .val (.long j6_0), .second, .val (.int p4), .val (.ref b9), .val (.int (1 : Int32)), .val (.int (1 : Int32)), .val (.long q1), .second] [(.int (lcmpW (0 : Int64) (0 : Int64)))])) _
            rewrite [(lw_eq (0 : Int64) (0 : Int64)).mpr rfl]
            show Steps p.tables e below (T52.setTop (mkF m 235 #[.val (.long q1), .second, .val (.long j2_0), .second, .val (.long j6_0), .second, .val (.int p4), .val (.ref b9), .val (.int (1 : Int32)), .val (.int (1 : Int32)), .val (.long q1), .second] [(.int (0 : Int32))])) _
            refine XS.ifNo X52.here hx rfl (hb hby at_235) rfl ((if0 _ _).trans (teq (by decide : (0 : Int32) = (0 : Int32))).2) ?_
            show Steps p.tables e below (T52.setTop (mkF m 238 #[.val (.long q1), .second, .val (.long j2_0), .second, .val (.long j6_0), .second, .val (.int p4), .val (.ref b9), .val (.int (1 : Int32)), .val (.int (1 : Int32)), .val (.long q1), .second] [])) _
            refine XS.iconst X52.here hx rfl (hb hby at_238) ?_
            show Steps p.tables e below (T52.setTop (mkF m 239 #[.val (.long q1), .second, .val (.long j2_0), .second, .val (.long j6_0), .second, .val (.int p4), .val (.ref b9), .val (.int (1 : Int32)), .val (.int (1 : Int32)), .val (.long q1), .second] [(.int (1 : Int32))])) _
            refine XS.goto X52.here hx rfl (pc0 := 239) (pc' := 243) rfl (hb hby at_239) (by decide) (by decide) ?_
            show Steps p.tables e below (T52.setTop (mkF m 243 #[.val (.long q1), .second, .val (.long j2_0), .second, .val (.long j6_0), .second, .val (.int p4), .val (.ref b9), .val (.int (1 : Int32)), .val (.int (1 : Int32)), .val (.long q1), .second] [(.int (1 : Int32))])) _
            exact retN X52 hx (t := .boolean) Bd.returns (by simp) (hb hby at_243) hr
          · show Q0_0 Z q1 q2 q3 p4 w_EMPTY h0 n0 _ T52.heap _
            rw [e52]
            exact ⟨rfl, N52⟩
    ·
      have k53 : ∀ t, Steps p.tables e below (T38.setTop (mkF m 116 #[.val (.long q1), .second, .val (.long j2_0), .second, .val (.long j6_0), .second, .val (.int p4), .val (.ref b9), .val (.int (1 : Int32)), .val (.int (1 : Int32)), .val (.long q1), .second] [(.long j2_0), (.ref b9)])) t → Steps p.tables e below (s₁.setTop (entryFrame m #[(.long q1), (.long q2), (.long q3), (.int p4)] maxLocals)) t := by
        intro t k
        refine k39 t ?_
        show Steps p.tables e below (T38.setTop (mkF m 110 #[.val (.long q1), .second, .val (.long j2_0), .second, .val (.long j6_0), .second, .val (.int p4), .val (.ref b9), .val (.int (1 : Int32)), .val (.int (1 : Int32)), .val (.long q1), .second] [(.int (p4 &&& (2 : Int32)))])) _
        refine XS.ifNo X38.here hx rfl (hb hby at_110) rfl ((if0 _ _).trans (feq hc110_8).1) ?_
        show Steps p.tables e below (T38.setTop (mkF m 113 #[.val (.long q1), .second, .val (.long j2_0), .second, .val (.long j6_0), .second, .val (.int p4), .val (.ref b9), .val (.int (1 : Int32)), .val (.int (1 : Int32)), .val (.long q1), .second] [])) _
        refine XS.aload X38.here hx rfl (hb hby at_113) rfl rfl ?_
        show Steps p.tables e below (T38.setTop (mkF m 115 #[.val (.long q1), .second, .val (.long j2_0), .second, .val (.long j6_0), .second, .val (.int p4), .val (.ref b9), .val (.int (1 : Int32)), .val (.int (1 : Int32)), .val (.long q1), .second] [(.ref b9)])) _
        refine XS.lloadN X38.here hx rfl (hb hby at_115) rfl ?_
        exact k
      by_cases hc116_11 : (0 : Int32) < (lcmpW (j2_0 - q1) (0 : Int64))
      ·
        obtain ⟨cq54, kq54, q54a, q54b, q54c⟩ := isOf hZ rfl (Fq36_0.keep K38q)
        obtain ⟨_, _, ⟨T54, L54, k54, n54⟩, -, X54, ⟨Lc54, hQ54, l54, y54, z54⟩, st54⟩ := X38.virtualBack hx (y := (⟨"com/example/grebe/grebe/bench/Tally", "stop", "(J)V"⟩ : MethodName)) (z := (⟨"com/example/grebe/grebe/bench/Tally", "stop", "(J)V"⟩ : MethodName)) hown (mvT hZ (hw _ (List.mem_of_getElem? (i := 35) rfl))) (mvT hZ (hw _ (List.mem_of_getElem? (i := 36) rfl))) (notFace_of_selects (args := #[]) (mvT hZ (hw _ (List.mem_of_getElem? (i := 38) rfl)))) (mvT hZ (hw _ (List.mem_of_getElem? (i := 38) rfl))) (mvT hZ (hw _ (List.mem_of_getElem? (i := 37) rfl))) (by decide) (backOf (W := 0) (rm7_1 l Z a0 hw [] b9 j2_0 b10_0 q1 T38.heap n0 (Nat.le_trans Z0 K38.1) (Fq36_0.keep K38q) (Fq36_1.keep K38q nin0) (Fq36_2.keep K38q nin0) (Fq36_3.keep K38q nin0) (Fq36_4.keep K38q nin0) hc116_11 g_b9) hZ (hw _ (List.mem_of_getElem? (i := 39) rfl)) (hw _ (List.mem_of_getElem? (i := 2) rfl)) (by decide) (by decide)) q54a q54c (g := (mkF m 116 #[.val (.long q1), .second, .val (.long j2_0), .second, .val (.long j6_0), .second, .val (.int p4), .val (.ref b9), .val (.int (1 : Int32)), .val (.int (1 : Int32)), .val (.long q1), .second] [(.long j2_0), (.ref b9)])) rfl (by rw [hml]; rfl) (Steps.refl _) (argsL := [(.long j2_0)]) (rest := []) (lenOf pd_5 rfl) rfl (by show 2 * 0 + _ ≤ _; exact Nat.le_of_eq rfl) (hb hby at_116) (fun _ _ => ⟨rfl, rfl, (by decide : 3 + 0 ≤ _), (by decide : 1031 + 0 ≤ _)⟩)
        dsimp only [Pt.U, Pt.locs, Pt.cells, Pt.slots] at X54 l54 y54 z54 st54 hQ54
        subst l54 y54 z54
        obtain ⟨rfl, N54q, K54q, Fq54_0, Fq54_1, Fq54_2, Fq54_3, Fq54_4⟩ := hQ54
        have N54 := Fr.app N38 N54q
        have K54 : Keep h0 T54.heap [] := Keep.trans K38 K54q (allS (Or.inr sz_b9) all0)
        have cf55 := ((cf37.keep K38q nin0).keep K54q (ninS (Ne.symm ne_b9_b10_0) nin0))
        obtain ⟨_, _, ⟨T56, L56, k56, n56⟩, -, X56, ⟨Lc56, hQ56, l56, y56, z56⟩, st56⟩ := Jvm.LawKit.callS X54 hx (y := (⟨"com/example/grebe/grebe/bench/TallyStopPinLaw", "laterThan", "(JJ)Z"⟩ : MethodName)) hown (mvT hZ (hw _ (List.mem_of_getElem? (i := 67) rfl))) (mvT hZ (hw _ (List.mem_of_getElem? (i := 68) rfl))) (mvT hZ (hw _ (List.mem_of_getElem? (i := 14) rfl))) (mvT hZ (hw _ (List.mem_of_getElem? (i := 69) rfl))) (by decide) (backOf (W := 0) (rm12_0 l Z a0 hw [] j2_0 q1 T54.heap n0 (Nat.le_trans Z0 K54.1) hc116_11) hZ (hw _ (List.mem_of_getElem? (i := 69) rfl)) (hw _ (List.mem_of_getElem? (i := 14) rfl)) (by decide) (by decide)) (g := (mkF m 127 #[.val (.long q1), .second, .val (.long j2_0), .second, .val (.long j6_0), .second, .val (.int p4), .val (.ref b9), .val (.int (1 : Int32)), .val (.int (1 : Int32)), .val (.long q1), .second] [(.long q1), (.long j2_0)])) rfl (by rw [hml]; rfl) (argsL := [(.long j2_0), (.long q1)]) (rest := []) (lenOf pd_7 rfl) rfl (by show 2 * 0 + _ ≤ _; exact Nat.le_of_eq rfl) (hb hby at_127) (fun _ _ => ⟨rfl, rfl, (by decide : 3 + 0 ≤ _), (by decide : 1031 + 0 ≤ _)⟩)
        dsimp only [Pt.U, Pt.locs, Pt.cells, Pt.slots] at X56 l56 y56 z56 st56 hQ56
        subst l56 y56 z56
        obtain ⟨rfl, N56q, e56⟩ := hQ56
        have N56 := Fr.app N54 N56q
        obtain ⟨_, _, ⟨T57, L57, k57, n57⟩, -, X57, ⟨Lc57, hQ57, l57, y57, z57⟩, st57⟩ := Jvm.LawKit.callS X56 hx (y := (⟨"com/example/grebe/grebe/bench/TallyStopPinLaw", "matches", "(Lcom/example/grebe/grebe/bench/Tally;ZJ)Z"⟩ : MethodName)) hown (mvT hZ (hw _ (List.mem_of_getElem? (i := 12) rfl))) (mvT hZ (hw _ (List.mem_of_getElem? (i := 13) rfl))) (mvT hZ (hw _ (List.mem_of_getElem? (i := 14) rfl))) (mvT hZ (hw _ (List.mem_of_getElem? (i := 15) rfl))) (by decide) (backOf (W := 0) (rm3_1 l Z a0 hw [] b9 j2_0 T54.heap n0 (Nat.le_trans Z0 K54.1) Fq54_0 Fq54_2 Fq54_3) hZ (hw _ (List.mem_of_getElem? (i := 15) rfl)) (hw _ (List.mem_of_getElem? (i := 14) rfl)) (by decide) (by decide)) (g := (mkF m 150 #[.val (.long q1), .second, .val (.long j2_0), .second, .val (.long j6_0), .second, .val (.int p4), .val (.ref b9), .val (.int (1 : Int32)), .val (.int (1 : Int32)), .val (.long j2_0), .second] [(.long j2_0), (.int (1 : Int32)), (.ref b9)])) rfl (by rw [hml]; rfl) (argsL := [(.ref b9), (.int (1 : Int32)), (.long j2_0)]) (rest := []) (lenOf pd_3 rfl) rfl (by show 2 * 0 + _ ≤ _; exact Nat.le_of_eq rfl) (hb hby at_150) (fun _ _ => ⟨rfl, e56, (by decide : 3 + 1 ≤ _), (by decide : 1031 + 2 ≤ _)⟩)
        dsimp only [Pt.U, Pt.locs, Pt.cells, Pt.slots] at X57 l57 y57 z57 st57 hQ57
        subst l57 y57 z57
        obtain ⟨rfl, N57q, K57q⟩ := hQ57
        have N57 := Fr.app N56 N57q
        have K57 : Keep h0 T57.heap [] := Keep.trans K54 K57q all0
        have k58 : ∀ t, Steps p.tables e below (T57.setTop (mkF m 167 #[.val (.long q1), .second, .val (.long j2_0), .second, .val (.long j6_0), .second, .val (.int p4), .val (.ref b9), .val (.int (1 : Int32)), .val (.int (1 : Int32)), .val (.long j2_0), .second] [(.int (p4 &&& (4 : Int32)))])) t → Steps p.tables e below (s₁.setTop (entryFrame m #[(.long q1), (.long q2), (.long q3), (.int p4)] maxLocals)) t := by
          intro t k
          refine k53 t ?_
          show Steps p.tables e below (T38.setTop (mkF m 116 #[.val (.long q1), .second, .val (.long j2_0), .second, .val (.long j6_0), .second, .val (.int p4), .val (.ref b9), .val (.int (1 : Int32)), .val (.int (1 : Int32)), .val (.long q1), .second] [(.long j2_0), (.ref b9)])) _
          refine st54.trans ?_
          show Steps p.tables e below (T54.setTop (mkF m 119 #[.val (.long q1), .second, .val (.long j2_0), .second, .val (.long j6_0), .second, .val (.int p4), .val (.ref b9), .val (.int (1 : Int32)), .val (.int (1 : Int32)), .val (.long q1), .second] [])) _
          refine XS.iload X54.here hx rfl (hb hby at_119) rfl ?_
          show Steps p.tables e below (T54.setTop (mkF m 121 #[.val (.long q1), .second, .val (.long j2_0), .second, .val (.long j6_0), .second, .val (.int p4), .val (.ref b9), .val (.int (1 : Int32)), .val (.int (1 : Int32)), .val (.long q1), .second] [(.int (1 : Int32))])) _
          refine XS.ifNo X54.here hx rfl (hb hby at_121) rfl ((if0 _ _).trans (feq (by decide : ¬ ((1 : Int32) = (0 : Int32)))).1) ?_
          show Steps p.tables e below (T54.setTop (mkF m 124 #[.val (.long q1), .second, .val (.long j2_0), .second, .val (.long j6_0), .second, .val (.int p4), .val (.ref b9), .val (.int (1 : Int32)), .val (.int (1 : Int32)), .val (.long q1), .second] [])) _
          refine XS.lloadN X54.here hx rfl (hb hby at_124) rfl ?_
          show Steps p.tables e below (T54.setTop (mkF m 125 #[.val (.long q1), .second, .val (.long j2_0), .second, .val (.long j6_0), .second, .val (.int p4), .val (.ref b9), .val (.int (1 : Int32)), .val (.int (1 : Int32)), .val (.long q1), .second] [(.long j2_0)])) _
          refine XS.lload X54.here hx rfl (hb hby at_125) rfl ?_
          show Steps p.tables e below (T54.setTop (mkF m 127 #[.val (.long q1), .second, .val (.long j2_0), .second, .val (.long j6_0), .second, .val (.int p4), .val (.ref b9), .val (.int (1 : Int32)), .val (.int (1 : Int32)), .val (.long q1), .second] [(.long q1), (.long j2_0)])) _
          refine st56 _ ?_
          show Steps p.tables e below (T56.setTop (mkF m 130 #[.val (.long q1), .second, .val (.long j2_0), .second, .val (.long j6_0), .second, .val (.int p4), .val (.ref b9), .val (.int (1 : Int32)), .val (.int (1 : Int32)), .val (.long q1), .second] [(.int (1 : Int32))])) _
          refine XS.ifNo X56.here hx rfl (hb hby at_130) rfl ((if0 _ _).trans (feq (by decide : ¬ ((1 : Int32) = (0 : Int32)))).1) ?_
          show Steps p.tables e below (T56.setTop (mkF m 133 #[.val (.long q1), .second, .val (.long j2_0), .second, .val (.long j6_0), .second, .val (.int p4), .val (.ref b9), .val (.int (1 : Int32)), .val (.int (1 : Int32)), .val (.long q1), .second] [])) _
          refine XS.lloadN X56.here hx rfl (hb hby at_133) rfl ?_
          show Steps p.tables e below (T56.setTop (mkF m 134 #[.val (.long q1), .second, .val (.long j2_0), .second, .val (.long j6_0), .second, .val (.int p4), .val (.ref b9), .val (.int (1 : Int32)), .val (.int (1 : Int32)), .val (.long q1), .second] [(.long j2_0)])) _
          refine XS.lstore X56.here hx rfl (hb hby at_134) rfl (l' := #[.val (.long q1), .second, .val (.long j2_0), .second, .val (.long j6_0), .second, .val (.int p4), .val (.ref b9), .val (.int (1 : Int32)), .val (.int (1 : Int32)), .val (.long j2_0), .second]) rfl ?_
          show Steps p.tables e below (T56.setTop (mkF m 136 #[.val (.long q1), .second, .val (.long j2_0), .second, .val (.long j6_0), .second, .val (.int p4), .val (.ref b9), .val (.int (1 : Int32)), .val (.int (1 : Int32)), .val (.long j2_0), .second] [])) _
          refine XS.iconst X56.here hx rfl (hb hby at_136) ?_
          show Steps p.tables e below (T56.setTop (mkF m 137 #[.val (.long q1), .second, .val (.long j2_0), .second, .val (.long j6_0), .second, .val (.int p4), .val (.ref b9), .val (.int (1 : Int32)), .val (.int (1 : Int32)), .val (.long j2_0), .second] [(.int (1 : Int32))])) _
          refine XS.istore X56.here hx rfl (hb hby at_137) rfl (l' := #[.val (.long q1), .second, .val (.long j2_0), .second, .val (.long j6_0), .second, .val (.int p4), .val (.ref b9), .val (.int (1 : Int32)), .val (.int (1 : Int32)), .val (.long j2_0), .second]) rfl ?_
          show Steps p.tables e below (T56.setTop (mkF m 139 #[.val (.long q1), .second, .val (.long j2_0), .second, .val (.long j6_0), .second, .val (.int p4), .val (.ref b9), .val (.int (1 : Int32)), .val (.int (1 : Int32)), .val (.long j2_0), .second] [])) _
          refine XS.iload X56.here hx rfl (hb hby at_139) rfl ?_
          show Steps p.tables e below (T56.setTop (mkF m 141 #[.val (.long q1), .second, .val (.long j2_0), .second, .val (.long j6_0), .second, .val (.int p4), .val (.ref b9), .val (.int (1 : Int32)), .val (.int (1 : Int32)), .val (.long j2_0), .second] [(.int (1 : Int32))])) _
          refine XS.ifNo X56.here hx rfl (hb hby at_141) rfl ((if0 _ _).trans (feq (by decide : ¬ ((1 : Int32) = (0 : Int32)))).1) ?_
          show Steps p.tables e below (T56.setTop (mkF m 144 #[.val (.long q1), .second, .val (.long j2_0), .second, .val (.long j6_0), .second, .val (.int p4), .val (.ref b9), .val (.int (1 : Int32)), .val (.int (1 : Int32)), .val (.long j2_0), .second] [])) _
          refine XS.aload X56.here hx rfl (hb hby at_144) rfl rfl ?_
          show Steps p.tables e below (T56.setTop (mkF m 146 #[.val (.long q1), .second, .val (.long j2_0), .second, .val (.long j6_0), .second, .val (.int p4), .val (.ref b9), .val (.int (1 : Int32)), .val (.int (1 : Int32)), .val (.long j2_0), .second] [(.ref b9)])) _
          refine XS.iload X56.here hx rfl (hb hby at_146) rfl ?_
          show Steps p.tables e below (T56.setTop (mkF m 148 #[.val (.long q1), .second, .val (.long j2_0), .second, .val (.long j6_0), .second, .val (.int p4), .val (.ref b9), .val (.int (1 : Int32)), .val (.int (1 : Int32)), .val (.long j2_0), .second] [(.int (1 : Int32)), (.ref b9)])) _
          refine XS.lload X56.here hx rfl (hb hby at_148) rfl ?_
          show Steps p.tables e below (T56.setTop (mkF m 150 #[.val (.long q1), .second, .val (.long j2_0), .second, .val (.long j6_0), .second, .val (.int p4), .val (.ref b9), .val (.int (1 : Int32)), .val (.int (1 : Int32)), .val (.long j2_0), .second] [(.long j2_0), (.int (1 : Int32)), (.ref b9)])) _
          refine st57 _ ?_
          show Steps p.tables e below (T57.setTop (mkF m 153 #[.val (.long q1), .second, .val (.long j2_0), .second, .val (.long j6_0), .second, .val (.int p4), .val (.ref b9), .val (.int (1 : Int32)), .val (.int (1 : Int32)), .val (.long j2_0), .second] [(.int (1 : Int32))])) _
          refine XS.ifNo X57.here hx rfl (hb hby at_153) rfl ((if0 _ _).trans (feq (by decide : ¬ ((1 : Int32) = (0 : Int32)))).1) ?_
          show Steps p.tables e below (T57.setTop (mkF m 156 #[.val (.long q1), .second, .val (.long j2_0), .second, .val (.long j6_0), .second, .val (.int p4), .val (.ref b9), .val (.int (1 : Int32)), .val (.int (1 : Int32)), .val (.long j2_0), .second] [])) _
          refine XS.iconst X57.here hx rfl (hb hby at_156) ?_
          show Steps p.tables e below (T57.setTop (mkF m 157 #[.val (.long q1), .second, .val (.long j2_0), .second, .val (.long j6_0), .second, .val (.int p4), .val (.ref b9), .val (.int (1 : Int32)), .val (.int (1 : Int32)), .val (.long j2_0), .second] [(.int (1 : Int32))])) _
          refine XS.goto X57.here hx rfl (pc0 := 157) (pc' := 161) rfl (hb hby at_157) (by decide) (by decide) ?_
          show Steps p.tables e below (T57.setTop (mkF m 161 #[.val (.long q1), .second, .val (.long j2_0), .second, .val (.long j6_0), .second, .val (.int p4), .val (.ref b9), .val (.int (1 : Int32)), .val (.int (1 : Int32)), .val (.long j2_0), .second] [(.int (1 : Int32))])) _
          refine XS.istore X57.here hx rfl (hb hby at_161) rfl (l' := #[.val (.long q1), .second, .val (.long j2_0), .second, .val (.long j6_0), .second, .val (.int p4), .val (.ref b9), .val (.int (1 : Int32)), .val (.int (1 : Int32)), .val (.long j2_0), .second]) rfl ?_
          show Steps p.tables e below (T57.setTop (mkF m 163 #[.val (.long q1), .second, .val (.long j2_0), .second, .val (.long j6_0), .second, .val (.int p4), .val (.ref b9), .val (.int (1 : Int32)), .val (.int (1 : Int32)), .val (.long j2_0), .second] [])) _
          refine XS.iload X57.here hx rfl (hb hby at_163) rfl ?_
          show Steps p.tables e below (T57.setTop (mkF m 165 #[.val (.long q1), .second, .val (.long j2_0), .second, .val (.long j6_0), .second, .val (.int p4), .val (.ref b9), .val (.int (1 : Int32)), .val (.int (1 : Int32)), .val (.long j2_0), .second] [(.int p4)])) _
          refine XS.iconst X57.here hx rfl (hb hby at_165) ?_
          show Steps p.tables e below (T57.setTop (mkF m 166 #[.val (.long q1), .second, .val (.long j2_0), .second, .val (.long j6_0), .second, .val (.int p4), .val (.ref b9), .val (.int (1 : Int32)), .val (.int (1 : Int32)), .val (.long j2_0), .second] [(.int (4 : Int32)), (.int p4)])) _
          refine XS.iand X57.here hx rfl (hb hby at_166) rfl ?_
          exact k
        by_cases hc167_12 : (p4 &&& (4 : Int32)) = (0 : Int32)
        ·
          obtain ⟨cq59, kq59, q59a, q59b, q59c⟩ := isOf hZ rfl (Fq54_0.keep K57q)
          obtain ⟨_, _, ⟨T59, L59, k59, n59⟩, -, X59, ⟨Lc59, hQ59, l59, y59, z59⟩, st59⟩ := X57.virtualBack hx (y := (⟨"com/example/grebe/grebe/bench/Tally", "count", "()J"⟩ : MethodName)) (z := (⟨"com/example/grebe/grebe/bench/Tally", "count", "()J"⟩ : MethodName)) hown (mvT hZ (hw _ (List.mem_of_getElem? (i := 59) rfl))) (mvT hZ (hw _ (List.mem_of_getElem? (i := 60) rfl))) (notFace_of_selects (args := #[]) (mvT hZ (hw _ (List.mem_of_getElem? (i := 62) rfl)))) (mvT hZ (hw _ (List.mem_of_getElem? (i := 62) rfl))) (mvT hZ (hw _ (List.mem_of_getElem? (i := 61) rfl))) (by decide) (backOf (W := 0) (rm11_1 l Z a0 hw [] b9 T57.heap n0 (Nat.le_trans Z0 K57.1) (Fq54_4.keep K57q nin0)) hZ (hw _ (List.mem_of_getElem? (i := 63) rfl)) (hw _ (List.mem_of_getElem? (i := 2) rfl)) (by decide) (by decide)) q59a q59c (g := (mkF m 230 #[.val (.long q1), .second, .val (.long j2_0), .second, .val (.long j6_0), .second, .val (.int p4), .val (.ref b9), .val (.int (1 : Int32)), .val (.int (1 : Int32)), .val (.long j2_0), .second] [(.ref b9)])) rfl (by rw [hml]; rfl) (Steps.refl _) (argsL := []) (rest := []) (lenOf pd_4 rfl) rfl (by show 2 * 0 + _ ≤ _; exact Nat.le_of_eq rfl) (hb hby at_230) (fun _ _ => ⟨rfl, rfl, (by decide : 4 + 0 ≤ _), (by decide : 1033 + 0 ≤ _)⟩)
          dsimp only [Pt.U, Pt.locs, Pt.cells, Pt.slots] at X59 l59 y59 z59 st59 hQ59
          subst l59 y59 z59
          obtain ⟨rfl, N59q, e59⟩ := hQ59
          have N59 := Fr.app N57 N59q
          obtain ⟨fs, hr, hrun, hended, hW, hsame⟩ := X59.leave (v := some (.int (1 : Int32))) (fun h => by rw [Bd.returns] at h; cases h)
          refine ⟨_, _, k58 _ ?_, hrun, hended, _, _, rfl, ?_, ⟨_, rfl⟩, hW, hsame.mono (by decide) (by decide)⟩
          ·
            show Steps p.tables e below (T57.setTop (mkF m 167 #[.val (.long q1), .second, .val (.long j2_0), .second, .val (.long j6_0), .second, .val (.int p4), .val (.ref b9), .val (.int (1 : Int32)), .val (.int (1 : Int32)), .val (.long j2_0), .second] [(.int (p4 &&& (4 : Int32)))])) _
            refine XS.ifYes X57.here hx rfl (pc0 := 167) (pc' := 223) rfl (hb hby at_167) rfl ((if0 _ _).trans (teq hc167_12).1) (by decide) (by decide) ?_
            show Steps p.tables e below (T57.setTop (mkF m 223 #[.val (.long q1), .second, .val (.long j2_0), .second, .val (.long j6_0), .second, .val (.int p4), .val (.ref b9), .val (.int (1 : Int32)), .val (.int (1 : Int32)), .val (.long j2_0), .second] [])) _
            refine XS.iload X57.here hx rfl (hb hby at_223) rfl ?_
            show Steps p.tables e below (T57.setTop (mkF m 225 #[.val (.long q1), .second, .val (.long j2_0), .second, .val (.long j6_0), .second, .val (.int p4), .val (.ref b9), .val (.int (1 : Int32)), .val (.int (1 : Int32)), .val (.long j2_0), .second] [(.int (1 : Int32))])) _
            refine XS.ifNo X57.here hx rfl (hb hby at_225) rfl ((if0 _ _).trans (feq (by decide : ¬ ((1 : Int32) = (0 : Int32)))).1) ?_
            show Steps p.tables e below (T57.setTop (mkF m 228 #[.val (.long q1), .second, .val (.long j2_0), .second, .val (.long j6_0), .second, .val (.int p4), .val (.ref b9), .val (.int (1 : Int32)), .val (.int (1 : Int32)), .val (.long j2_0), .second] [])) _
            refine XS.aload X57.here hx rfl (hb hby at_228) rfl rfl ?_
            show Steps p.tables e below (T57.setTop (mkF m 230 #[.val (.long q1), .second, .val (.long j2_0), .second, .val (.long j6_0), .second, .val (.int p4), .val (.ref b9), .val (.int (1 : Int32)), .val (.int (1 : Int32)), .val (.long j2_0), .second] [(.ref b9)])) _
            refine st59.trans ?_
            show Steps p.tables e below (T59.setTop (mkF m 233 #[.val (.long q1), .second, .val (.long j2_0), .second, .val (.long j6_0), .second, .val (.int p4), .val (.ref b9), .val (.int (1 : Int32)), .val (.int (1 : Int32)), .val (.long j2_0), .second] [(.long (0 : Int64))])) _
            refine XS.lconst X59.here hx rfl (hb hby at_233) ?_
            show Steps p.tables e below (T59.setTop (mkF m 234 #[.val (.long q1), .second, .val (.long j2_0), .second, .val (.long j6_0), .second, .val (.int p4), .val (.ref b9), .val (.int (1 : Int32)), .val (.int (1 : Int32)), .val (.long j2_0), .second] [(.long (0 : Int64)), (.long (0 : Int64))])) _
            refine XS.lcmp X59.here hx rfl (hb hby at_234) rfl ?_
            show Steps p.tables e below (T59.setTop (mkF m 235 #[.val (.long q1), .second, .val (.long j2_0), .second, .val (.long j6_0), .second, .val (.int p4), .val (.ref b9), .val (.int (1 : Int32)), .val (.int (1 : Int32)), .val (.long j2_0), .second] [(.int (lcmpW (0 : Int64) (0 : Int64)))])) _
            rewrite [(lw_eq (0 : Int64) (0 : Int64)).mpr rfl]
            show Steps p.tables e below (T59.setTop (mkF m 235 #[.val (.long q1), .second, .val (.long j2_0), .second, .val (.long j6_0), .second, .val (.int p4), .val (.ref b9), .val (.int (1 : Int32)), .val (.int (1 : Int32)), .val (.long j2_0), .second] [(.int (0 : Int32))])) _
            refine XS.ifNo X59.here hx rfl (hb hby at_235) rfl ((if0 _ _).trans (teq (by decide : (0 : Int32) = (0 : Int32))).2) ?_
            show Steps p.tables e below (T59.setTop (mkF m 238 #[.val (.long q1), .second, .val (.long j2_0), .second, .val (.long j6_0), .second, .val (.int p4), .val (.ref b9), .val (.int (1 : Int32)), .val (.int (1 : Int32)), .val (.long j2_0), .second] [])) _
            refine XS.iconst X59.here hx rfl (hb hby at_238) ?_
            show Steps p.tables e below (T59.setTop (mkF m 239 #[.val (.long q1), .second, .val (.long j2_0), .second, .val (.long j6_0), .second, .val (.int p4), .val (.ref b9), .val (.int (1 : Int32)), .val (.int (1 : Int32)), .val (.long j2_0), .second] [(.int (1 : Int32))])) _
            refine XS.goto X59.here hx rfl (pc0 := 239) (pc' := 243) rfl (hb hby at_239) (by decide) (by decide) ?_
            show Steps p.tables e below (T59.setTop (mkF m 243 #[.val (.long q1), .second, .val (.long j2_0), .second, .val (.long j6_0), .second, .val (.int p4), .val (.ref b9), .val (.int (1 : Int32)), .val (.int (1 : Int32)), .val (.long j2_0), .second] [(.int (1 : Int32))])) _
            exact retN X59 hx (t := .boolean) Bd.returns (by simp) (hb hby at_243) hr
          · show Q0_0 Z q1 q2 q3 p4 w_EMPTY h0 n0 _ T59.heap _
            rw [e59]
            exact ⟨rfl, N59⟩
        ·
          have k60 : ∀ t, Steps p.tables e below (T57.setTop (mkF m 174 #[.val (.long q1), .second, .val (.long j2_0), .second, .val (.long j6_0), .second, .val (.int p4), .val (.ref b9), .val (.int (1 : Int32)), .val (.int (1 : Int32)), .val (.long j2_0), .second] [(.long j6_0), (.ref b9)])) t → Steps p.tables e below (s₁.setTop (entryFrame m #[(.long q1), (.long q2), (.long q3), (.int p4)] maxLocals)) t := by
            intro t k
            refine k58 t ?_
            show Steps p.tables e below (T57.setTop (mkF m 167 #[.val (.long q1), .second, .val (.long j2_0), .second, .val (.long j6_0), .second, .val (.int p4), .val (.ref b9), .val (.int (1 : Int32)), .val (.int (1 : Int32)), .val (.long j2_0), .second] [(.int (p4 &&& (4 : Int32)))])) _
            refine XS.ifNo X57.here hx rfl (hb hby at_167) rfl ((if0 _ _).trans (feq hc167_12).1) ?_
            show Steps p.tables e below (T57.setTop (mkF m 170 #[.val (.long q1), .second, .val (.long j2_0), .second, .val (.long j6_0), .second, .val (.int p4), .val (.ref b9), .val (.int (1 : Int32)), .val (.int (1 : Int32)), .val (.long j2_0), .second] [])) _
            refine XS.aload X57.here hx rfl (hb hby at_170) rfl rfl ?_
            show Steps p.tables e below (T57.setTop (mkF m 172 #[.val (.long q1), .second, .val (.long j2_0), .second, .val (.long j6_0), .second, .val (.int p4), .val (.ref b9), .val (.int (1 : Int32)), .val (.int (1 : Int32)), .val (.long j2_0), .second] [(.ref b9)])) _
            refine XS.lload X57.here hx rfl (hb hby at_172) rfl ?_
            exact k
          by_cases hc174_13 : (0 : Int32) < (lcmpW (j6_0 - j2_0) (0 : Int64))
          ·
            obtain ⟨cq61, kq61, q61a, q61b, q61c⟩ := isOf hZ rfl (Fq54_0.keep K57q)
            obtain ⟨_, _, ⟨T61, L61, k61, n61⟩, -, X61, ⟨Lc61, hQ61, l61, y61, z61⟩, st61⟩ := X57.virtualBack hx (y := (⟨"com/example/grebe/grebe/bench/Tally", "stop", "(J)V"⟩ : MethodName)) (z := (⟨"com/example/grebe/grebe/bench/Tally", "stop", "(J)V"⟩ : MethodName)) hown (mvT hZ (hw _ (List.mem_of_getElem? (i := 35) rfl))) (mvT hZ (hw _ (List.mem_of_getElem? (i := 36) rfl))) (notFace_of_selects (args := #[]) (mvT hZ (hw _ (List.mem_of_getElem? (i := 38) rfl)))) (mvT hZ (hw _ (List.mem_of_getElem? (i := 38) rfl))) (mvT hZ (hw _ (List.mem_of_getElem? (i := 37) rfl))) (by decide) (backOf (W := 0) (rm7_1 l Z a0 hw [] b9 j6_0 b10_0 j2_0 T57.heap n0 (Nat.le_trans Z0 K57.1) (Fq54_0.keep K57q) (Fq54_1.keep K57q nin0) (Fq54_2.keep K57q nin0) (Fq54_3.keep K57q nin0) (Fq54_4.keep K57q nin0) hc174_13 g_b9) hZ (hw _ (List.mem_of_getElem? (i := 39) rfl)) (hw _ (List.mem_of_getElem? (i := 2) rfl)) (by decide) (by decide)) q61a q61c (g := (mkF m 174 #[.val (.long q1), .second, .val (.long j2_0), .second, .val (.long j6_0), .second, .val (.int p4), .val (.ref b9), .val (.int (1 : Int32)), .val (.int (1 : Int32)), .val (.long j2_0), .second] [(.long j6_0), (.ref b9)])) rfl (by rw [hml]; rfl) (Steps.refl _) (argsL := [(.long j6_0)]) (rest := []) (lenOf pd_5 rfl) rfl (by show 2 * 0 + _ ≤ _; exact Nat.le_of_eq rfl) (hb hby at_174) (fun _ _ => ⟨rfl, rfl, (by decide : 4 + 0 ≤ _), (by decide : 1033 + 0 ≤ _)⟩)
            dsimp only [Pt.U, Pt.locs, Pt.cells, Pt.slots] at X61 l61 y61 z61 st61 hQ61
            subst l61 y61 z61
            obtain ⟨rfl, N61q, K61q, Fq61_0, Fq61_1, Fq61_2, Fq61_3, Fq61_4⟩ := hQ61
            have N61 := Fr.app N57 N61q
            have K61 : Keep h0 T61.heap [] := Keep.trans K57 K61q (allS (Or.inr sz_b9) all0)
            have cf62 := ((cf55.keep K57q nin0).keep K61q (ninS (Ne.symm ne_b9_b10_0) nin0))
            obtain ⟨_, _, ⟨T63, L63, k63, n63⟩, -, X63, ⟨Lc63, hQ63, l63, y63, z63⟩, st63⟩ := Jvm.LawKit.callS X61 hx (y := (⟨"com/example/grebe/grebe/bench/TallyStopPinLaw", "laterThan", "(JJ)Z"⟩ : MethodName)) hown (mvT hZ (hw _ (List.mem_of_getElem? (i := 67) rfl))) (mvT hZ (hw _ (List.mem_of_getElem? (i := 68) rfl))) (mvT hZ (hw _ (List.mem_of_getElem? (i := 14) rfl))) (mvT hZ (hw _ (List.mem_of_getElem? (i := 69) rfl))) (by decide) (backOf (W := 0) (rm12_0 l Z a0 hw [] j6_0 j2_0 T61.heap n0 (Nat.le_trans Z0 K61.1) hc174_13) hZ (hw _ (List.mem_of_getElem? (i := 69) rfl)) (hw _ (List.mem_of_getElem? (i := 14) rfl)) (by decide) (by decide)) (g := (mkF m 186 #[.val (.long q1), .second, .val (.long j2_0), .second, .val (.long j6_0), .second, .val (.int p4), .val (.ref b9), .val (.int (1 : Int32)), .val (.int (1 : Int32)), .val (.long j2_0), .second] [(.long j2_0), (.long j6_0)])) rfl (by rw [hml]; rfl) (argsL := [(.long j6_0), (.long j2_0)]) (rest := []) (lenOf pd_7 rfl) rfl (by show 2 * 0 + _ ≤ _; exact Nat.le_of_eq rfl) (hb hby at_186) (fun _ _ => ⟨rfl, rfl, (by decide : 4 + 0 ≤ _), (by decide : 1033 + 0 ≤ _)⟩)
            dsimp only [Pt.U, Pt.locs, Pt.cells, Pt.slots] at X63 l63 y63 z63 st63 hQ63
            subst l63 y63 z63
            obtain ⟨rfl, N63q, e63⟩ := hQ63
            have N63 := Fr.app N61 N63q
            obtain ⟨_, _, ⟨T64, L64, k64, n64⟩, -, X64, ⟨Lc64, hQ64, l64, y64, z64⟩, st64⟩ := Jvm.LawKit.callS X63 hx (y := (⟨"com/example/grebe/grebe/bench/TallyStopPinLaw", "matches", "(Lcom/example/grebe/grebe/bench/Tally;ZJ)Z"⟩ : MethodName)) hown (mvT hZ (hw _ (List.mem_of_getElem? (i := 12) rfl))) (mvT hZ (hw _ (List.mem_of_getElem? (i := 13) rfl))) (mvT hZ (hw _ (List.mem_of_getElem? (i := 14) rfl))) (mvT hZ (hw _ (List.mem_of_getElem? (i := 15) rfl))) (by decide) (backOf (W := 0) (rm3_1 l Z a0 hw [] b9 j6_0 T61.heap n0 (Nat.le_trans Z0 K61.1) Fq61_0 Fq61_2 Fq61_3) hZ (hw _ (List.mem_of_getElem? (i := 15) rfl)) (hw _ (List.mem_of_getElem? (i := 14) rfl)) (by decide) (by decide)) (g := (mkF m 210 #[.val (.long q1), .second, .val (.long j2_0), .second, .val (.long j6_0), .second, .val (.int p4), .val (.ref b9), .val (.int (1 : Int32)), .val (.int (1 : Int32)), .val (.long j6_0), .second] [(.long j6_0), (.int (1 : Int32)), (.ref b9)])) rfl (by rw [hml]; rfl) (argsL := [(.ref b9), (.int (1 : Int32)), (.long j6_0)]) (rest := []) (lenOf pd_3 rfl) rfl (by show 2 * 0 + _ ≤ _; exact Nat.le_of_eq rfl) (hb hby at_210) (fun _ _ => ⟨rfl, e63, (by decide : 4 + 1 ≤ _), (by decide : 1033 + 2 ≤ _)⟩)
            dsimp only [Pt.U, Pt.locs, Pt.cells, Pt.slots] at X64 l64 y64 z64 st64 hQ64
            subst l64 y64 z64
            obtain ⟨rfl, N64q, K64q⟩ := hQ64
            have N64 := Fr.app N63 N64q
            have K64 : Keep h0 T64.heap [] := Keep.trans K61 K64q all0
            obtain ⟨cq65, kq65, q65a, q65b, q65c⟩ := isOf hZ rfl (Fq61_0.keep K64q)
            obtain ⟨_, _, ⟨T65, L65, k65, n65⟩, -, X65, ⟨Lc65, hQ65, l65, y65, z65⟩, st65⟩ := X64.virtualBack hx (y := (⟨"com/example/grebe/grebe/bench/Tally", "count", "()J"⟩ : MethodName)) (z := (⟨"com/example/grebe/grebe/bench/Tally", "count", "()J"⟩ : MethodName)) hown (mvT hZ (hw _ (List.mem_of_getElem? (i := 59) rfl))) (mvT hZ (hw _ (List.mem_of_getElem? (i := 60) rfl))) (notFace_of_selects (args := #[]) (mvT hZ (hw _ (List.mem_of_getElem? (i := 62) rfl)))) (mvT hZ (hw _ (List.mem_of_getElem? (i := 62) rfl))) (mvT hZ (hw _ (List.mem_of_getElem? (i := 61) rfl))) (by decide) (backOf (W := 0) (rm11_1 l Z a0 hw [] b9 T64.heap n0 (Nat.le_trans Z0 K64.1) (Fq61_4.keep K64q nin0)) hZ (hw _ (List.mem_of_getElem? (i := 63) rfl)) (hw _ (List.mem_of_getElem? (i := 2) rfl)) (by decide) (by decide)) q65a q65c (g := (mkF m 230 #[.val (.long q1), .second, .val (.long j2_0), .second, .val (.long j6_0), .second, .val (.int p4), .val (.ref b9), .val (.int (1 : Int32)), .val (.int (1 : Int32)), .val (.long j6_0), .second] [(.ref b9)])) rfl (by rw [hml]; rfl) (Steps.refl _) (argsL := []) (rest := []) (lenOf pd_4 rfl) rfl (by show 2 * 0 + _ ≤ _; exact Nat.le_of_eq rfl) (hb hby at_230) (fun _ _ => ⟨rfl, rfl, (by decide : 5 + 0 ≤ _), (by decide : 1035 + 0 ≤ _)⟩)
            dsimp only [Pt.U, Pt.locs, Pt.cells, Pt.slots] at X65 l65 y65 z65 st65 hQ65
            subst l65 y65 z65
            obtain ⟨rfl, N65q, e65⟩ := hQ65
            have N65 := Fr.app N64 N65q
            obtain ⟨fs, hr, hrun, hended, hW, hsame⟩ := X65.leave (v := some (.int (1 : Int32))) (fun h => by rw [Bd.returns] at h; cases h)
            refine ⟨_, _, k60 _ ?_, hrun, hended, _, _, rfl, ?_, ⟨_, rfl⟩, hW, hsame.mono (by decide) (by decide)⟩
            ·
              show Steps p.tables e below (T57.setTop (mkF m 174 #[.val (.long q1), .second, .val (.long j2_0), .second, .val (.long j6_0), .second, .val (.int p4), .val (.ref b9), .val (.int (1 : Int32)), .val (.int (1 : Int32)), .val (.long j2_0), .second] [(.long j6_0), (.ref b9)])) _
              refine st61.trans ?_
              show Steps p.tables e below (T61.setTop (mkF m 177 #[.val (.long q1), .second, .val (.long j2_0), .second, .val (.long j6_0), .second, .val (.int p4), .val (.ref b9), .val (.int (1 : Int32)), .val (.int (1 : Int32)), .val (.long j2_0), .second] [])) _
              refine XS.iload X61.here hx rfl (hb hby at_177) rfl ?_
              show Steps p.tables e below (T61.setTop (mkF m 179 #[.val (.long q1), .second, .val (.long j2_0), .second, .val (.long j6_0), .second, .val (.int p4), .val (.ref b9), .val (.int (1 : Int32)), .val (.int (1 : Int32)), .val (.long j2_0), .second] [(.int (1 : Int32))])) _
              refine XS.ifNo X61.here hx rfl (hb hby at_179) rfl ((if0 _ _).trans (feq (by decide : ¬ ((1 : Int32) = (0 : Int32)))).1) ?_
              show Steps p.tables e below (T61.setTop (mkF m 182 #[.val (.long q1), .second, .val (.long j2_0), .second, .val (.long j6_0), .second, .val (.int p4), .val (.ref b9), .val (.int (1 : Int32)), .val (.int (1 : Int32)), .val (.long j2_0), .second] [])) _
              refine XS.lload X61.here hx rfl (hb hby at_182) rfl ?_
              show Steps p.tables e below (T61.setTop (mkF m 184 #[.val (.long q1), .second, .val (.long j2_0), .second, .val (.long j6_0), .second, .val (.int p4), .val (.ref b9), .val (.int (1 : Int32)), .val (.int (1 : Int32)), .val (.long j2_0), .second] [(.long j6_0)])) _
              refine XS.lload X61.here hx rfl (hb hby at_184) rfl ?_
              show Steps p.tables e below (T61.setTop (mkF m 186 #[.val (.long q1), .second, .val (.long j2_0), .second, .val (.long j6_0), .second, .val (.int p4), .val (.ref b9), .val (.int (1 : Int32)), .val (.int (1 : Int32)), .val (.long j2_0), .second] [(.long j2_0), (.long j6_0)])) _
              refine st63 _ ?_
              show Steps p.tables e below (T63.setTop (mkF m 189 #[.val (.long q1), .second, .val (.long j2_0), .second, .val (.long j6_0), .second, .val (.int p4), .val (.ref b9), .val (.int (1 : Int32)), .val (.int (1 : Int32)), .val (.long j2_0), .second] [(.int (1 : Int32))])) _
              refine XS.ifNo X63.here hx rfl (hb hby at_189) rfl ((if0 _ _).trans (feq (by decide : ¬ ((1 : Int32) = (0 : Int32)))).1) ?_
              show Steps p.tables e below (T63.setTop (mkF m 192 #[.val (.long q1), .second, .val (.long j2_0), .second, .val (.long j6_0), .second, .val (.int p4), .val (.ref b9), .val (.int (1 : Int32)), .val (.int (1 : Int32)), .val (.long j2_0), .second] [])) _
              refine XS.lload X63.here hx rfl (hb hby at_192) rfl ?_
              show Steps p.tables e below (T63.setTop (mkF m 194 #[.val (.long q1), .second, .val (.long j2_0), .second, .val (.long j6_0), .second, .val (.int p4), .val (.ref b9), .val (.int (1 : Int32)), .val (.int (1 : Int32)), .val (.long j2_0), .second] [(.long j6_0)])) _
              refine XS.lstore X63.here hx rfl (hb hby at_194) rfl (l' := #[.val (.long q1), .second, .val (.long j2_0), .second, .val (.long j6_0), .second, .val (.int p4), .val (.ref b9), .val (.int (1 : Int32)), .val (.int (1 : Int32)), .val (.long j6_0), .second]) rfl ?_
              show Steps p.tables e below (T63.setTop (mkF m 196 #[.val (.long q1), .second, .val (.long j2_0), .second, .val (.long j6_0), .second, .val (.int p4), .val (.ref b9), .val (.int (1 : Int32)), .val (.int (1 : Int32)), .val (.long j6_0), .second] [])) _
              refine XS.iconst X63.here hx rfl (hb hby at_196) ?_
              show Steps p.tables e below (T63.setTop (mkF m 197 #[.val (.long q1), .second, .val (.long j2_0), .second, .val (.long j6_0), .second, .val (.int p4), .val (.ref b9), .val (.int (1 : Int32)), .val (.int (1 : Int32)), .val (.long j6_0), .second] [(.int (1 : Int32))])) _
              refine XS.istore X63.here hx rfl (hb hby at_197) rfl (l' := #[.val (.long q1), .second, .val (.long j2_0), .second, .val (.long j6_0), .second, .val (.int p4), .val (.ref b9), .val (.int (1 : Int32)), .val (.int (1 : Int32)), .val (.long j6_0), .second]) rfl ?_
              show Steps p.tables e below (T63.setTop (mkF m 199 #[.val (.long q1), .second, .val (.long j2_0), .second, .val (.long j6_0), .second, .val (.int p4), .val (.ref b9), .val (.int (1 : Int32)), .val (.int (1 : Int32)), .val (.long j6_0), .second] [])) _
              refine XS.iload X63.here hx rfl (hb hby at_199) rfl ?_
              show Steps p.tables e below (T63.setTop (mkF m 201 #[.val (.long q1), .second, .val (.long j2_0), .second, .val (.long j6_0), .second, .val (.int p4), .val (.ref b9), .val (.int (1 : Int32)), .val (.int (1 : Int32)), .val (.long j6_0), .second] [(.int (1 : Int32))])) _
              refine XS.ifNo X63.here hx rfl (hb hby at_201) rfl ((if0 _ _).trans (feq (by decide : ¬ ((1 : Int32) = (0 : Int32)))).1) ?_
              show Steps p.tables e below (T63.setTop (mkF m 204 #[.val (.long q1), .second, .val (.long j2_0), .second, .val (.long j6_0), .second, .val (.int p4), .val (.ref b9), .val (.int (1 : Int32)), .val (.int (1 : Int32)), .val (.long j6_0), .second] [])) _
              refine XS.aload X63.here hx rfl (hb hby at_204) rfl rfl ?_
              show Steps p.tables e below (T63.setTop (mkF m 206 #[.val (.long q1), .second, .val (.long j2_0), .second, .val (.long j6_0), .second, .val (.int p4), .val (.ref b9), .val (.int (1 : Int32)), .val (.int (1 : Int32)), .val (.long j6_0), .second] [(.ref b9)])) _
              refine XS.iload X63.here hx rfl (hb hby at_206) rfl ?_
              show Steps p.tables e below (T63.setTop (mkF m 208 #[.val (.long q1), .second, .val (.long j2_0), .second, .val (.long j6_0), .second, .val (.int p4), .val (.ref b9), .val (.int (1 : Int32)), .val (.int (1 : Int32)), .val (.long j6_0), .second] [(.int (1 : Int32)), (.ref b9)])) _
              refine XS.lload X63.here hx rfl (hb hby at_208) rfl ?_
              show Steps p.tables e below (T63.setTop (mkF m 210 #[.val (.long q1), .second, .val (.long j2_0), .second, .val (.long j6_0), .second, .val (.int p4), .val (.ref b9), .val (.int (1 : Int32)), .val (.int (1 : Int32)), .val (.long j6_0), .second] [(.long j6_0), (.int (1 : Int32)), (.ref b9)])) _
              refine st64 _ ?_
              show Steps p.tables e below (T64.setTop (mkF m 213 #[.val (.long q1), .second, .val (.long j2_0), .second, .val (.long j6_0), .second, .val (.int p4), .val (.ref b9), .val (.int (1 : Int32)), .val (.int (1 : Int32)), .val (.long j6_0), .second] [(.int (1 : Int32))])) _
              refine XS.ifNo X64.here hx rfl (hb hby at_213) rfl ((if0 _ _).trans (feq (by decide : ¬ ((1 : Int32) = (0 : Int32)))).1) ?_
              show Steps p.tables e below (T64.setTop (mkF m 216 #[.val (.long q1), .second, .val (.long j2_0), .second, .val (.long j6_0), .second, .val (.int p4), .val (.ref b9), .val (.int (1 : Int32)), .val (.int (1 : Int32)), .val (.long j6_0), .second] [])) _
              refine XS.iconst X64.here hx rfl (hb hby at_216) ?_
              show Steps p.tables e below (T64.setTop (mkF m 217 #[.val (.long q1), .second, .val (.long j2_0), .second, .val (.long j6_0), .second, .val (.int p4), .val (.ref b9), .val (.int (1 : Int32)), .val (.int (1 : Int32)), .val (.long j6_0), .second] [(.int (1 : Int32))])) _
              refine XS.goto X64.here hx rfl (pc0 := 217) (pc' := 221) rfl (hb hby at_217) (by decide) (by decide) ?_
              show Steps p.tables e below (T64.setTop (mkF m 221 #[.val (.long q1), .second, .val (.long j2_0), .second, .val (.long j6_0), .second, .val (.int p4), .val (.ref b9), .val (.int (1 : Int32)), .val (.int (1 : Int32)), .val (.long j6_0), .second] [(.int (1 : Int32))])) _
              refine XS.istore X64.here hx rfl (hb hby at_221) rfl (l' := #[.val (.long q1), .second, .val (.long j2_0), .second, .val (.long j6_0), .second, .val (.int p4), .val (.ref b9), .val (.int (1 : Int32)), .val (.int (1 : Int32)), .val (.long j6_0), .second]) rfl ?_
              show Steps p.tables e below (T64.setTop (mkF m 223 #[.val (.long q1), .second, .val (.long j2_0), .second, .val (.long j6_0), .second, .val (.int p4), .val (.ref b9), .val (.int (1 : Int32)), .val (.int (1 : Int32)), .val (.long j6_0), .second] [])) _
              refine XS.iload X64.here hx rfl (hb hby at_223) rfl ?_
              show Steps p.tables e below (T64.setTop (mkF m 225 #[.val (.long q1), .second, .val (.long j2_0), .second, .val (.long j6_0), .second, .val (.int p4), .val (.ref b9), .val (.int (1 : Int32)), .val (.int (1 : Int32)), .val (.long j6_0), .second] [(.int (1 : Int32))])) _
              refine XS.ifNo X64.here hx rfl (hb hby at_225) rfl ((if0 _ _).trans (feq (by decide : ¬ ((1 : Int32) = (0 : Int32)))).1) ?_
              show Steps p.tables e below (T64.setTop (mkF m 228 #[.val (.long q1), .second, .val (.long j2_0), .second, .val (.long j6_0), .second, .val (.int p4), .val (.ref b9), .val (.int (1 : Int32)), .val (.int (1 : Int32)), .val (.long j6_0), .second] [])) _
              refine XS.aload X64.here hx rfl (hb hby at_228) rfl rfl ?_
              show Steps p.tables e below (T64.setTop (mkF m 230 #[.val (.long q1), .second, .val (.long j2_0), .second, .val (.long j6_0), .second, .val (.int p4), .val (.ref b9), .val (.int (1 : Int32)), .val (.int (1 : Int32)), .val (.long j6_0), .second] [(.ref b9)])) _
              refine st65.trans ?_
              show Steps p.tables e below (T65.setTop (mkF m 233 #[.val (.long q1), .second, .val (.long j2_0), .second, .val (.long j6_0), .second, .val (.int p4), .val (.ref b9), .val (.int (1 : Int32)), .val (.int (1 : Int32)), .val (.long j6_0), .second] [(.long (0 : Int64))])) _
              refine XS.lconst X65.here hx rfl (hb hby at_233) ?_
              show Steps p.tables e below (T65.setTop (mkF m 234 #[.val (.long q1), .second, .val (.long j2_0), .second, .val (.long j6_0), .second, .val (.int p4), .val (.ref b9), .val (.int (1 : Int32)), .val (.int (1 : Int32)), .val (.long j6_0), .second] [(.long (0 : Int64)), (.long (0 : Int64))])) _
              refine XS.lcmp X65.here hx rfl (hb hby at_234) rfl ?_
              show Steps p.tables e below (T65.setTop (mkF m 235 #[.val (.long q1), .second, .val (.long j2_0), .second, .val (.long j6_0), .second, .val (.int p4), .val (.ref b9), .val (.int (1 : Int32)), .val (.int (1 : Int32)), .val (.long j6_0), .second] [(.int (lcmpW (0 : Int64) (0 : Int64)))])) _
              rewrite [(lw_eq (0 : Int64) (0 : Int64)).mpr rfl]
              show Steps p.tables e below (T65.setTop (mkF m 235 #[.val (.long q1), .second, .val (.long j2_0), .second, .val (.long j6_0), .second, .val (.int p4), .val (.ref b9), .val (.int (1 : Int32)), .val (.int (1 : Int32)), .val (.long j6_0), .second] [(.int (0 : Int32))])) _
              refine XS.ifNo X65.here hx rfl (hb hby at_235) rfl ((if0 _ _).trans (teq (by decide : (0 : Int32) = (0 : Int32))).2) ?_
              show Steps p.tables e below (T65.setTop (mkF m 238 #[.val (.long q1), .second, .val (.long j2_0), .second, .val (.long j6_0), .second, .val (.int p4), .val (.ref b9), .val (.int (1 : Int32)), .val (.int (1 : Int32)), .val (.long j6_0), .second] [])) _
              refine XS.iconst X65.here hx rfl (hb hby at_238) ?_
              show Steps p.tables e below (T65.setTop (mkF m 239 #[.val (.long q1), .second, .val (.long j2_0), .second, .val (.long j6_0), .second, .val (.int p4), .val (.ref b9), .val (.int (1 : Int32)), .val (.int (1 : Int32)), .val (.long j6_0), .second] [(.int (1 : Int32))])) _
              refine XS.goto X65.here hx rfl (pc0 := 239) (pc' := 243) rfl (hb hby at_239) (by decide) (by decide) ?_
              show Steps p.tables e below (T65.setTop (mkF m 243 #[.val (.long q1), .second, .val (.long j2_0), .second, .val (.long j6_0), .second, .val (.int p4), .val (.ref b9), .val (.int (1 : Int32)), .val (.int (1 : Int32)), .val (.long j6_0), .second] [(.int (1 : Int32))])) _
              exact retN X65 hx (t := .boolean) Bd.returns (by simp) (hb hby at_243) hr
            · show Q0_0 Z q1 q2 q3 p4 w_EMPTY h0 n0 _ T65.heap _
              rw [e65]
              exact ⟨rfl, N65⟩
          ·
            obtain ⟨cq66, kq66, q66a, q66b, q66c⟩ := isOf hZ rfl (Fq54_0.keep K57q)
            obtain ⟨_, _, ⟨T66, L66, k66, n66⟩, -, X66, ⟨Lc66, hQ66, l66, y66, z66⟩, st66⟩ := X57.virtualBack hx (y := (⟨"com/example/grebe/grebe/bench/Tally", "stop", "(J)V"⟩ : MethodName)) (z := (⟨"com/example/grebe/grebe/bench/Tally", "stop", "(J)V"⟩ : MethodName)) hown (mvT hZ (hw _ (List.mem_of_getElem? (i := 35) rfl))) (mvT hZ (hw _ (List.mem_of_getElem? (i := 36) rfl))) (notFace_of_selects (args := #[]) (mvT hZ (hw _ (List.mem_of_getElem? (i := 38) rfl)))) (mvT hZ (hw _ (List.mem_of_getElem? (i := 38) rfl))) (mvT hZ (hw _ (List.mem_of_getElem? (i := 37) rfl))) (by decide) (backOf (W := 0) (rm7_2 l Z a0 hw [] b9 j6_0 j2_0 T57.heap n0 (Nat.le_trans Z0 K57.1) (Fq54_2.keep K57q nin0) (Fq54_3.keep K57q nin0) hc174_13) hZ (hw _ (List.mem_of_getElem? (i := 39) rfl)) (hw _ (List.mem_of_getElem? (i := 2) rfl)) (by decide) (by decide)) q66a q66c (g := (mkF m 174 #[.val (.long q1), .second, .val (.long j2_0), .second, .val (.long j6_0), .second, .val (.int p4), .val (.ref b9), .val (.int (1 : Int32)), .val (.int (1 : Int32)), .val (.long j2_0), .second] [(.long j6_0), (.ref b9)])) rfl (by rw [hml]; rfl) (Steps.refl _) (argsL := [(.long j6_0)]) (rest := []) (lenOf pd_5 rfl) rfl (by show 2 * 0 + _ ≤ _; exact Nat.le_of_eq rfl) (hb hby at_174) (fun _ _ => ⟨rfl, rfl, (by decide : 4 + 0 ≤ _), (by decide : 1033 + 0 ≤ _)⟩)
            dsimp only [Pt.U, Pt.locs, Pt.cells, Pt.slots] at X66 l66 y66 z66 st66 hQ66
            subst l66 y66 z66
            obtain ⟨rfl, N66q, e66⟩ := hQ66
            have N66 := Fr.app N57 N66q
            obtain ⟨_, _, ⟨T67, L67, k67, n67⟩, -, X67, ⟨Lc67, hQ67, l67, y67, z67⟩, st67⟩ := Jvm.LawKit.callS X66 hx (y := (⟨"com/example/grebe/grebe/bench/TallyStopPinLaw", "laterThan", "(JJ)Z"⟩ : MethodName)) hown (mvT hZ (hw _ (List.mem_of_getElem? (i := 67) rfl))) (mvT hZ (hw _ (List.mem_of_getElem? (i := 68) rfl))) (mvT hZ (hw _ (List.mem_of_getElem? (i := 14) rfl))) (mvT hZ (hw _ (List.mem_of_getElem? (i := 69) rfl))) (by decide) (backOf (W := 0) (rm12_1 l Z a0 hw [] j6_0 j2_0 T57.heap n0 (Nat.le_trans Z0 K57.1) hc174_13) hZ (hw _ (List.mem_of_getElem? (i := 69) rfl)) (hw _ (List.mem_of_getElem? (i := 14) rfl)) (by decide) (by decide)) (g := (mkF m 186 #[.val (.long q1), .second, .val (.long j2_0), .second, .val (.long j6_0), .second, .val (.int p4), .val (.ref b9), .val (.int (1 : Int32)), .val (.int (1 : Int32)), .val (.long j2_0), .second] [(.long j2_0), (.long j6_0)])) rfl (by rw [hml]; rfl) (argsL := [(.long j6_0), (.long j2_0)]) (rest := []) (lenOf pd_7 rfl) rfl (by show 2 * 0 + _ ≤ _; exact Nat.le_of_eq rfl) (hb hby at_186) (fun _ _ => ⟨rfl, e66, (by decide : 4 + 0 ≤ _), (by decide : 1033 + 0 ≤ _)⟩)
            dsimp only [Pt.U, Pt.locs, Pt.cells, Pt.slots] at X67 l67 y67 z67 st67 hQ67
            subst l67 y67 z67
            obtain ⟨rfl, N67q, e67⟩ := hQ67
            have N67 := Fr.app N66 N67q
            obtain ⟨_, _, ⟨T68, L68, k68, n68⟩, -, X68, ⟨Lc68, hQ68, l68, y68, z68⟩, st68⟩ := Jvm.LawKit.callS X67 hx (y := (⟨"com/example/grebe/grebe/bench/TallyStopPinLaw", "matches", "(Lcom/example/grebe/grebe/bench/Tally;ZJ)Z"⟩ : MethodName)) hown (mvT hZ (hw _ (List.mem_of_getElem? (i := 12) rfl))) (mvT hZ (hw _ (List.mem_of_getElem? (i := 13) rfl))) (mvT hZ (hw _ (List.mem_of_getElem? (i := 14) rfl))) (mvT hZ (hw _ (List.mem_of_getElem? (i := 15) rfl))) (by decide) (backOf (W := 0) (rm3_1 l Z a0 hw [] b9 j2_0 T57.heap n0 (Nat.le_trans Z0 K57.1) (Fq54_0.keep K57q) (Fq54_2.keep K57q nin0) (Fq54_3.keep K57q nin0)) hZ (hw _ (List.mem_of_getElem? (i := 15) rfl)) (hw _ (List.mem_of_getElem? (i := 14) rfl)) (by decide) (by decide)) (g := (mkF m 210 #[.val (.long q1), .second, .val (.long j2_0), .second, .val (.long j6_0), .second, .val (.int p4), .val (.ref b9), .val (.int (1 : Int32)), .val (.int (1 : Int32)), .val (.long j2_0), .second] [(.long j2_0), (.int (1 : Int32)), (.ref b9)])) rfl (by rw [hml]; rfl) (argsL := [(.ref b9), (.int (1 : Int32)), (.long j2_0)]) (rest := []) (lenOf pd_3 rfl) rfl (by show 2 * 0 + _ ≤ _; exact Nat.le_of_eq rfl) (hb hby at_210) (fun _ _ => ⟨rfl, e67, (by decide : 4 + 1 ≤ _), (by decide : 1033 + 2 ≤ _)⟩)
            dsimp only [Pt.U, Pt.locs, Pt.cells, Pt.slots] at X68 l68 y68 z68 st68 hQ68
            subst l68 y68 z68
            obtain ⟨rfl, N68q, K68q⟩ := hQ68
            have N68 := Fr.app N67 N68q
            have K68 : Keep h0 T68.heap [] := Keep.trans K57 K68q all0
            have cf69 := ((cf55.keep K57q nin0).keep K68q nin0)
            obtain ⟨cq70, kq70, q70a, q70b, q70c⟩ := isOf hZ rfl ((Fq54_0.keep K57q).keep K68q)
            obtain ⟨_, _, ⟨T70, L70, k70, n70⟩, -, X70, ⟨Lc70, hQ70, l70, y70, z70⟩, st70⟩ := X68.virtualBack hx (y := (⟨"com/example/grebe/grebe/bench/Tally", "count", "()J"⟩ : MethodName)) (z := (⟨"com/example/grebe/grebe/bench/Tally", "count", "()J"⟩ : MethodName)) hown (mvT hZ (hw _ (List.mem_of_getElem? (i := 59) rfl))) (mvT hZ (hw _ (List.mem_of_getElem? (i := 60) rfl))) (notFace_of_selects (args := #[]) (mvT hZ (hw _ (List.mem_of_getElem? (i := 62) rfl)))) (mvT hZ (hw _ (List.mem_of_getElem? (i := 62) rfl))) (mvT hZ (hw _ (List.mem_of_getElem? (i := 61) rfl))) (by decide) (backOf (W := 0) (rm11_1 l Z a0 hw [] b9 T68.heap n0 (Nat.le_trans Z0 K68.1) ((Fq54_4.keep K57q nin0).keep K68q nin0)) hZ (hw _ (List.mem_of_getElem? (i := 63) rfl)) (hw _ (List.mem_of_getElem? (i := 2) rfl)) (by decide) (by decide)) q70a q70c (g := (mkF m 230 #[.val (.long q1), .second, .val (.long j2_0), .second, .val (.long j6_0), .second, .val (.int p4), .val (.ref b9), .val (.int (1 : Int32)), .val (.int (1 : Int32)), .val (.long j2_0), .second] [(.ref b9)])) rfl (by rw [hml]; rfl) (Steps.refl _) (argsL := []) (rest := []) (lenOf pd_4 rfl) rfl (by show 2 * 0 + _ ≤ _; exact Nat.le_of_eq rfl) (hb hby at_230) (fun _ _ => ⟨rfl, rfl, (by decide : 5 + 0 ≤ _), (by decide : 1035 + 0 ≤ _)⟩)
            dsimp only [Pt.U, Pt.locs, Pt.cells, Pt.slots] at X70 l70 y70 z70 st70 hQ70
            subst l70 y70 z70
            obtain ⟨rfl, N70q, e70⟩ := hQ70
            have N70 := Fr.app N68 N70q
            obtain ⟨fs, hr, hrun, hended, hW, hsame⟩ := X70.leave (v := some (.int (1 : Int32))) (fun h => by rw [Bd.returns] at h; cases h)
            refine ⟨_, _, k60 _ ?_, hrun, hended, _, _, rfl, ?_, ⟨_, rfl⟩, hW, hsame.mono (by decide) (by decide)⟩
            ·
              show Steps p.tables e below (T57.setTop (mkF m 174 #[.val (.long q1), .second, .val (.long j2_0), .second, .val (.long j6_0), .second, .val (.int p4), .val (.ref b9), .val (.int (1 : Int32)), .val (.int (1 : Int32)), .val (.long j2_0), .second] [(.long j6_0), (.ref b9)])) _
              refine st66.trans ?_
              show Steps p.tables e below (T66.setTop (mkF m 177 #[.val (.long q1), .second, .val (.long j2_0), .second, .val (.long j6_0), .second, .val (.int p4), .val (.ref b9), .val (.int (1 : Int32)), .val (.int (1 : Int32)), .val (.long j2_0), .second] [])) _
              refine XS.iload X66.here hx rfl (hb hby at_177) rfl ?_
              show Steps p.tables e below (T66.setTop (mkF m 179 #[.val (.long q1), .second, .val (.long j2_0), .second, .val (.long j6_0), .second, .val (.int p4), .val (.ref b9), .val (.int (1 : Int32)), .val (.int (1 : Int32)), .val (.long j2_0), .second] [(.int (1 : Int32))])) _
              refine XS.ifNo X66.here hx rfl (hb hby at_179) rfl ((if0 _ _).trans (feq (by decide : ¬ ((1 : Int32) = (0 : Int32)))).1) ?_
              show Steps p.tables e below (T66.setTop (mkF m 182 #[.val (.long q1), .second, .val (.long j2_0), .second, .val (.long j6_0), .second, .val (.int p4), .val (.ref b9), .val (.int (1 : Int32)), .val (.int (1 : Int32)), .val (.long j2_0), .second] [])) _
              refine XS.lload X66.here hx rfl (hb hby at_182) rfl ?_
              show Steps p.tables e below (T66.setTop (mkF m 184 #[.val (.long q1), .second, .val (.long j2_0), .second, .val (.long j6_0), .second, .val (.int p4), .val (.ref b9), .val (.int (1 : Int32)), .val (.int (1 : Int32)), .val (.long j2_0), .second] [(.long j6_0)])) _
              refine XS.lload X66.here hx rfl (hb hby at_184) rfl ?_
              show Steps p.tables e below (T66.setTop (mkF m 186 #[.val (.long q1), .second, .val (.long j2_0), .second, .val (.long j6_0), .second, .val (.int p4), .val (.ref b9), .val (.int (1 : Int32)), .val (.int (1 : Int32)), .val (.long j2_0), .second] [(.long j2_0), (.long j6_0)])) _
              refine st67 _ ?_
              show Steps p.tables e below (T67.setTop (mkF m 189 #[.val (.long q1), .second, .val (.long j2_0), .second, .val (.long j6_0), .second, .val (.int p4), .val (.ref b9), .val (.int (1 : Int32)), .val (.int (1 : Int32)), .val (.long j2_0), .second] [(.int (0 : Int32))])) _
              refine XS.ifYes X67.here hx rfl (pc0 := 189) (pc' := 196) rfl (hb hby at_189) rfl ((if0 _ _).trans (teq (by decide : (0 : Int32) = (0 : Int32))).1) (by decide) (by decide) ?_
              show Steps p.tables e below (T67.setTop (mkF m 196 #[.val (.long q1), .second, .val (.long j2_0), .second, .val (.long j6_0), .second, .val (.int p4), .val (.ref b9), .val (.int (1 : Int32)), .val (.int (1 : Int32)), .val (.long j2_0), .second] [])) _
              refine XS.iconst X67.here hx rfl (hb hby at_196) ?_
              show Steps p.tables e below (T67.setTop (mkF m 197 #[.val (.long q1), .second, .val (.long j2_0), .second, .val (.long j6_0), .second, .val (.int p4), .val (.ref b9), .val (.int (1 : Int32)), .val (.int (1 : Int32)), .val (.long j2_0), .second] [(.int (1 : Int32))])) _
              refine XS.istore X67.here hx rfl (hb hby at_197) rfl (l' := #[.val (.long q1), .second, .val (.long j2_0), .second, .val (.long j6_0), .second, .val (.int p4), .val (.ref b9), .val (.int (1 : Int32)), .val (.int (1 : Int32)), .val (.long j2_0), .second]) rfl ?_
              show Steps p.tables e below (T67.setTop (mkF m 199 #[.val (.long q1), .second, .val (.long j2_0), .second, .val (.long j6_0), .second, .val (.int p4), .val (.ref b9), .val (.int (1 : Int32)), .val (.int (1 : Int32)), .val (.long j2_0), .second] [])) _
              refine XS.iload X67.here hx rfl (hb hby at_199) rfl ?_
              show Steps p.tables e below (T67.setTop (mkF m 201 #[.val (.long q1), .second, .val (.long j2_0), .second, .val (.long j6_0), .second, .val (.int p4), .val (.ref b9), .val (.int (1 : Int32)), .val (.int (1 : Int32)), .val (.long j2_0), .second] [(.int (1 : Int32))])) _
              refine XS.ifNo X67.here hx rfl (hb hby at_201) rfl ((if0 _ _).trans (feq (by decide : ¬ ((1 : Int32) = (0 : Int32)))).1) ?_
              show Steps p.tables e below (T67.setTop (mkF m 204 #[.val (.long q1), .second, .val (.long j2_0), .second, .val (.long j6_0), .second, .val (.int p4), .val (.ref b9), .val (.int (1 : Int32)), .val (.int (1 : Int32)), .val (.long j2_0), .second] [])) _
              refine XS.aload X67.here hx rfl (hb hby at_204) rfl rfl ?_
              show Steps p.tables e below (T67.setTop (mkF m 206 #[.val (.long q1), .second, .val (.long j2_0), .second, .val (.long j6_0), .second, .val (.int p4), .val (.ref b9), .val (.int (1 : Int32)), .val (.int (1 : Int32)), .val (.long j2_0), .second] [(.ref b9)])) _
              refine XS.iload X67.here hx rfl (hb hby at_206) rfl ?_
              show Steps p.tables e below (T67.setTop (mkF m 208 #[.val (.long q1), .second, .val (.long j2_0), .second, .val (.long j6_0), .second, .val (.int p4), .val (.ref b9), .val (.int (1 : Int32)), .val (.int (1 : Int32)), .val (.long j2_0), .second] [(.int (1 : Int32)), (.ref b9)])) _
              refine XS.lload X67.here hx rfl (hb hby at_208) rfl ?_
              show Steps p.tables e below (T67.setTop (mkF m 210 #[.val (.long q1), .second, .val (.long j2_0), .second, .val (.long j6_0), .second, .val (.int p4), .val (.ref b9), .val (.int (1 : Int32)), .val (.int (1 : Int32)), .val (.long j2_0), .second] [(.long j2_0), (.int (1 : Int32)), (.ref b9)])) _
              refine st68 _ ?_
              show Steps p.tables e below (T68.setTop (mkF m 213 #[.val (.long q1), .second, .val (.long j2_0), .second, .val (.long j6_0), .second, .val (.int p4), .val (.ref b9), .val (.int (1 : Int32)), .val (.int (1 : Int32)), .val (.long j2_0), .second] [(.int (1 : Int32))])) _
              refine XS.ifNo X68.here hx rfl (hb hby at_213) rfl ((if0 _ _).trans (feq (by decide : ¬ ((1 : Int32) = (0 : Int32)))).1) ?_
              show Steps p.tables e below (T68.setTop (mkF m 216 #[.val (.long q1), .second, .val (.long j2_0), .second, .val (.long j6_0), .second, .val (.int p4), .val (.ref b9), .val (.int (1 : Int32)), .val (.int (1 : Int32)), .val (.long j2_0), .second] [])) _
              refine XS.iconst X68.here hx rfl (hb hby at_216) ?_
              show Steps p.tables e below (T68.setTop (mkF m 217 #[.val (.long q1), .second, .val (.long j2_0), .second, .val (.long j6_0), .second, .val (.int p4), .val (.ref b9), .val (.int (1 : Int32)), .val (.int (1 : Int32)), .val (.long j2_0), .second] [(.int (1 : Int32))])) _
              refine XS.goto X68.here hx rfl (pc0 := 217) (pc' := 221) rfl (hb hby at_217) (by decide) (by decide) ?_
              show Steps p.tables e below (T68.setTop (mkF m 221 #[.val (.long q1), .second, .val (.long j2_0), .second, .val (.long j6_0), .second, .val (.int p4), .val (.ref b9), .val (.int (1 : Int32)), .val (.int (1 : Int32)), .val (.long j2_0), .second] [(.int (1 : Int32))])) _
              refine XS.istore X68.here hx rfl (hb hby at_221) rfl (l' := #[.val (.long q1), .second, .val (.long j2_0), .second, .val (.long j6_0), .second, .val (.int p4), .val (.ref b9), .val (.int (1 : Int32)), .val (.int (1 : Int32)), .val (.long j2_0), .second]) rfl ?_
              show Steps p.tables e below (T68.setTop (mkF m 223 #[.val (.long q1), .second, .val (.long j2_0), .second, .val (.long j6_0), .second, .val (.int p4), .val (.ref b9), .val (.int (1 : Int32)), .val (.int (1 : Int32)), .val (.long j2_0), .second] [])) _
              refine XS.iload X68.here hx rfl (hb hby at_223) rfl ?_
              show Steps p.tables e below (T68.setTop (mkF m 225 #[.val (.long q1), .second, .val (.long j2_0), .second, .val (.long j6_0), .second, .val (.int p4), .val (.ref b9), .val (.int (1 : Int32)), .val (.int (1 : Int32)), .val (.long j2_0), .second] [(.int (1 : Int32))])) _
              refine XS.ifNo X68.here hx rfl (hb hby at_225) rfl ((if0 _ _).trans (feq (by decide : ¬ ((1 : Int32) = (0 : Int32)))).1) ?_
              show Steps p.tables e below (T68.setTop (mkF m 228 #[.val (.long q1), .second, .val (.long j2_0), .second, .val (.long j6_0), .second, .val (.int p4), .val (.ref b9), .val (.int (1 : Int32)), .val (.int (1 : Int32)), .val (.long j2_0), .second] [])) _
              refine XS.aload X68.here hx rfl (hb hby at_228) rfl rfl ?_
              show Steps p.tables e below (T68.setTop (mkF m 230 #[.val (.long q1), .second, .val (.long j2_0), .second, .val (.long j6_0), .second, .val (.int p4), .val (.ref b9), .val (.int (1 : Int32)), .val (.int (1 : Int32)), .val (.long j2_0), .second] [(.ref b9)])) _
              refine st70.trans ?_
              show Steps p.tables e below (T70.setTop (mkF m 233 #[.val (.long q1), .second, .val (.long j2_0), .second, .val (.long j6_0), .second, .val (.int p4), .val (.ref b9), .val (.int (1 : Int32)), .val (.int (1 : Int32)), .val (.long j2_0), .second] [(.long (0 : Int64))])) _
              refine XS.lconst X70.here hx rfl (hb hby at_233) ?_
              show Steps p.tables e below (T70.setTop (mkF m 234 #[.val (.long q1), .second, .val (.long j2_0), .second, .val (.long j6_0), .second, .val (.int p4), .val (.ref b9), .val (.int (1 : Int32)), .val (.int (1 : Int32)), .val (.long j2_0), .second] [(.long (0 : Int64)), (.long (0 : Int64))])) _
              refine XS.lcmp X70.here hx rfl (hb hby at_234) rfl ?_
              show Steps p.tables e below (T70.setTop (mkF m 235 #[.val (.long q1), .second, .val (.long j2_0), .second, .val (.long j6_0), .second, .val (.int p4), .val (.ref b9), .val (.int (1 : Int32)), .val (.int (1 : Int32)), .val (.long j2_0), .second] [(.int (lcmpW (0 : Int64) (0 : Int64)))])) _
              rewrite [(lw_eq (0 : Int64) (0 : Int64)).mpr rfl]
              show Steps p.tables e below (T70.setTop (mkF m 235 #[.val (.long q1), .second, .val (.long j2_0), .second, .val (.long j6_0), .second, .val (.int p4), .val (.ref b9), .val (.int (1 : Int32)), .val (.int (1 : Int32)), .val (.long j2_0), .second] [(.int (0 : Int32))])) _
              refine XS.ifNo X70.here hx rfl (hb hby at_235) rfl ((if0 _ _).trans (teq (by decide : (0 : Int32) = (0 : Int32))).2) ?_
              show Steps p.tables e below (T70.setTop (mkF m 238 #[.val (.long q1), .second, .val (.long j2_0), .second, .val (.long j6_0), .second, .val (.int p4), .val (.ref b9), .val (.int (1 : Int32)), .val (.int (1 : Int32)), .val (.long j2_0), .second] [])) _
              refine XS.iconst X70.here hx rfl (hb hby at_238) ?_
              show Steps p.tables e below (T70.setTop (mkF m 239 #[.val (.long q1), .second, .val (.long j2_0), .second, .val (.long j6_0), .second, .val (.int p4), .val (.ref b9), .val (.int (1 : Int32)), .val (.int (1 : Int32)), .val (.long j2_0), .second] [(.int (1 : Int32))])) _
              refine XS.goto X70.here hx rfl (pc0 := 239) (pc' := 243) rfl (hb hby at_239) (by decide) (by decide) ?_
              show Steps p.tables e below (T70.setTop (mkF m 243 #[.val (.long q1), .second, .val (.long j2_0), .second, .val (.long j6_0), .second, .val (.int p4), .val (.ref b9), .val (.int (1 : Int32)), .val (.int (1 : Int32)), .val (.long j2_0), .second] [(.int (1 : Int32))])) _
              exact retN X70 hx (t := .boolean) Bd.returns (by simp) (hb hby at_243) hr
            · show Q0_0 Z q1 q2 q3 p4 w_EMPTY h0 n0 _ T70.heap _
              rw [e70]
              exact ⟨rfl, N70⟩
      ·
        obtain ⟨cq71, kq71, q71a, q71b, q71c⟩ := isOf hZ rfl (Fq36_0.keep K38q)
        obtain ⟨_, _, ⟨T71, L71, k71, n71⟩, -, X71, ⟨Lc71, hQ71, l71, y71, z71⟩, st71⟩ := X38.virtualBack hx (y := (⟨"com/example/grebe/grebe/bench/Tally", "stop", "(J)V"⟩ : MethodName)) (z := (⟨"com/example/grebe/grebe/bench/Tally", "stop", "(J)V"⟩ : MethodName)) hown (mvT hZ (hw _ (List.mem_of_getElem? (i := 35) rfl))) (mvT hZ (hw _ (List.mem_of_getElem? (i := 36) rfl))) (notFace_of_selects (args := #[]) (mvT hZ (hw _ (List.mem_of_getElem? (i := 38) rfl)))) (mvT hZ (hw _ (List.mem_of_getElem? (i := 38) rfl))) (mvT hZ (hw _ (List.mem_of_getElem? (i := 37) rfl))) (by decide) (backOf (W := 0) (rm7_2 l Z a0 hw [] b9 j2_0 q1 T38.heap n0 (Nat.le_trans Z0 K38.1) (Fq36_2.keep K38q nin0) (Fq36_3.keep K38q nin0) hc116_11) hZ (hw _ (List.mem_of_getElem? (i := 39) rfl)) (hw _ (List.mem_of_getElem? (i := 2) rfl)) (by decide) (by decide)) q71a q71c (g := (mkF m 116 #[.val (.long q1), .second, .val (.long j2_0), .second, .val (.long j6_0), .second, .val (.int p4), .val (.ref b9), .val (.int (1 : Int32)), .val (.int (1 : Int32)), .val (.long q1), .second] [(.long j2_0), (.ref b9)])) rfl (by rw [hml]; rfl) (Steps.refl _) (argsL := [(.long j2_0)]) (rest := []) (lenOf pd_5 rfl) rfl (by show 2 * 0 + _ ≤ _; exact Nat.le_of_eq rfl) (hb hby at_116) (fun _ _ => ⟨rfl, rfl, (by decide : 3 + 0 ≤ _), (by decide : 1031 + 0 ≤ _)⟩)
        dsimp only [Pt.U, Pt.locs, Pt.cells, Pt.slots] at X71 l71 y71 z71 st71 hQ71
        subst l71 y71 z71
        obtain ⟨rfl, N71q, e71⟩ := hQ71
        have N71 := Fr.app N38 N71q
        obtain ⟨_, _, ⟨T72, L72, k72, n72⟩, -, X72, ⟨Lc72, hQ72, l72, y72, z72⟩, st72⟩ := Jvm.LawKit.callS X71 hx (y := (⟨"com/example/grebe/grebe/bench/TallyStopPinLaw", "laterThan", "(JJ)Z"⟩ : MethodName)) hown (mvT hZ (hw _ (List.mem_of_getElem? (i := 67) rfl))) (mvT hZ (hw _ (List.mem_of_getElem? (i := 68) rfl))) (mvT hZ (hw _ (List.mem_of_getElem? (i := 14) rfl))) (mvT hZ (hw _ (List.mem_of_getElem? (i := 69) rfl))) (by decide) (backOf (W := 0) (rm12_1 l Z a0 hw [] j2_0 q1 T38.heap n0 (Nat.le_trans Z0 K38.1) hc116_11) hZ (hw _ (List.mem_of_getElem? (i := 69) rfl)) (hw _ (List.mem_of_getElem? (i := 14) rfl)) (by decide) (by decide)) (g := (mkF m 127 #[.val (.long q1), .second, .val (.long j2_0), .second, .val (.long j6_0), .second, .val (.int p4), .val (.ref b9), .val (.int (1 : Int32)), .val (.int (1 : Int32)), .val (.long q1), .second] [(.long q1), (.long j2_0)])) rfl (by rw [hml]; rfl) (argsL := [(.long j2_0), (.long q1)]) (rest := []) (lenOf pd_7 rfl) rfl (by show 2 * 0 + _ ≤ _; exact Nat.le_of_eq rfl) (hb hby at_127) (fun _ _ => ⟨rfl, e71, (by decide : 3 + 0 ≤ _), (by decide : 1031 + 0 ≤ _)⟩)
        dsimp only [Pt.U, Pt.locs, Pt.cells, Pt.slots] at X72 l72 y72 z72 st72 hQ72
        subst l72 y72 z72
        obtain ⟨rfl, N72q, e72⟩ := hQ72
        have N72 := Fr.app N71 N72q
        obtain ⟨_, _, ⟨T73, L73, k73, n73⟩, -, X73, ⟨Lc73, hQ73, l73, y73, z73⟩, st73⟩ := Jvm.LawKit.callS X72 hx (y := (⟨"com/example/grebe/grebe/bench/TallyStopPinLaw", "matches", "(Lcom/example/grebe/grebe/bench/Tally;ZJ)Z"⟩ : MethodName)) hown (mvT hZ (hw _ (List.mem_of_getElem? (i := 12) rfl))) (mvT hZ (hw _ (List.mem_of_getElem? (i := 13) rfl))) (mvT hZ (hw _ (List.mem_of_getElem? (i := 14) rfl))) (mvT hZ (hw _ (List.mem_of_getElem? (i := 15) rfl))) (by decide) (backOf (W := 0) (rm3_1 l Z a0 hw [] b9 q1 T38.heap n0 (Nat.le_trans Z0 K38.1) (Fq36_0.keep K38q) (Fq36_2.keep K38q nin0) (Fq36_3.keep K38q nin0)) hZ (hw _ (List.mem_of_getElem? (i := 15) rfl)) (hw _ (List.mem_of_getElem? (i := 14) rfl)) (by decide) (by decide)) (g := (mkF m 150 #[.val (.long q1), .second, .val (.long j2_0), .second, .val (.long j6_0), .second, .val (.int p4), .val (.ref b9), .val (.int (1 : Int32)), .val (.int (1 : Int32)), .val (.long q1), .second] [(.long q1), (.int (1 : Int32)), (.ref b9)])) rfl (by rw [hml]; rfl) (argsL := [(.ref b9), (.int (1 : Int32)), (.long q1)]) (rest := []) (lenOf pd_3 rfl) rfl (by show 2 * 0 + _ ≤ _; exact Nat.le_of_eq rfl) (hb hby at_150) (fun _ _ => ⟨rfl, e72, (by decide : 3 + 1 ≤ _), (by decide : 1031 + 2 ≤ _)⟩)
        dsimp only [Pt.U, Pt.locs, Pt.cells, Pt.slots] at X73 l73 y73 z73 st73 hQ73
        subst l73 y73 z73
        obtain ⟨rfl, N73q, K73q⟩ := hQ73
        have N73 := Fr.app N72 N73q
        have K73 : Keep h0 T73.heap [] := Keep.trans K38 K73q all0
        have cf74 := ((cf37.keep K38q nin0).keep K73q nin0)
        have k75 : ∀ t, Steps p.tables e below (T73.setTop (mkF m 167 #[.val (.long q1), .second, .val (.long j2_0), .second, .val (.long j6_0), .second, .val (.int p4), .val (.ref b9), .val (.int (1 : Int32)), .val (.int (1 : Int32)), .val (.long q1), .second] [(.int (p4 &&& (4 : Int32)))])) t → Steps p.tables e below (s₁.setTop (entryFrame m #[(.long q1), (.long q2), (.long q3), (.int p4)] maxLocals)) t := by
          intro t k
          refine k53 t ?_
          show Steps p.tables e below (T38.setTop (mkF m 116 #[.val (.long q1), .second, .val (.long j2_0), .second, .val (.long j6_0), .second, .val (.int p4), .val (.ref b9), .val (.int (1 : Int32)), .val (.int (1 : Int32)), .val (.long q1), .second] [(.long j2_0), (.ref b9)])) _
          refine st71.trans ?_
          show Steps p.tables e below (T71.setTop (mkF m 119 #[.val (.long q1), .second, .val (.long j2_0), .second, .val (.long j6_0), .second, .val (.int p4), .val (.ref b9), .val (.int (1 : Int32)), .val (.int (1 : Int32)), .val (.long q1), .second] [])) _
          refine XS.iload X71.here hx rfl (hb hby at_119) rfl ?_
          show Steps p.tables e below (T71.setTop (mkF m 121 #[.val (.long q1), .second, .val (.long j2_0), .second, .val (.long j6_0), .second, .val (.int p4), .val (.ref b9), .val (.int (1 : Int32)), .val (.int (1 : Int32)), .val (.long q1), .second] [(.int (1 : Int32))])) _
          refine XS.ifNo X71.here hx rfl (hb hby at_121) rfl ((if0 _ _).trans (feq (by decide : ¬ ((1 : Int32) = (0 : Int32)))).1) ?_
          show Steps p.tables e below (T71.setTop (mkF m 124 #[.val (.long q1), .second, .val (.long j2_0), .second, .val (.long j6_0), .second, .val (.int p4), .val (.ref b9), .val (.int (1 : Int32)), .val (.int (1 : Int32)), .val (.long q1), .second] [])) _
          refine XS.lloadN X71.here hx rfl (hb hby at_124) rfl ?_
          show Steps p.tables e below (T71.setTop (mkF m 125 #[.val (.long q1), .second, .val (.long j2_0), .second, .val (.long j6_0), .second, .val (.int p4), .val (.ref b9), .val (.int (1 : Int32)), .val (.int (1 : Int32)), .val (.long q1), .second] [(.long j2_0)])) _
          refine XS.lload X71.here hx rfl (hb hby at_125) rfl ?_
          show Steps p.tables e below (T71.setTop (mkF m 127 #[.val (.long q1), .second, .val (.long j2_0), .second, .val (.long j6_0), .second, .val (.int p4), .val (.ref b9), .val (.int (1 : Int32)), .val (.int (1 : Int32)), .val (.long q1), .second] [(.long q1), (.long j2_0)])) _
          refine st72 _ ?_
          show Steps p.tables e below (T72.setTop (mkF m 130 #[.val (.long q1), .second, .val (.long j2_0), .second, .val (.long j6_0), .second, .val (.int p4), .val (.ref b9), .val (.int (1 : Int32)), .val (.int (1 : Int32)), .val (.long q1), .second] [(.int (0 : Int32))])) _
          refine XS.ifYes X72.here hx rfl (pc0 := 130) (pc' := 136) rfl (hb hby at_130) rfl ((if0 _ _).trans (teq (by decide : (0 : Int32) = (0 : Int32))).1) (by decide) (by decide) ?_
          show Steps p.tables e below (T72.setTop (mkF m 136 #[.val (.long q1), .second, .val (.long j2_0), .second, .val (.long j6_0), .second, .val (.int p4), .val (.ref b9), .val (.int (1 : Int32)), .val (.int (1 : Int32)), .val (.long q1), .second] [])) _
          refine XS.iconst X72.here hx rfl (hb hby at_136) ?_
          show Steps p.tables e below (T72.setTop (mkF m 137 #[.val (.long q1), .second, .val (.long j2_0), .second, .val (.long j6_0), .second, .val (.int p4), .val (.ref b9), .val (.int (1 : Int32)), .val (.int (1 : Int32)), .val (.long q1), .second] [(.int (1 : Int32))])) _
          refine XS.istore X72.here hx rfl (hb hby at_137) rfl (l' := #[.val (.long q1), .second, .val (.long j2_0), .second, .val (.long j6_0), .second, .val (.int p4), .val (.ref b9), .val (.int (1 : Int32)), .val (.int (1 : Int32)), .val (.long q1), .second]) rfl ?_
          show Steps p.tables e below (T72.setTop (mkF m 139 #[.val (.long q1), .second, .val (.long j2_0), .second, .val (.long j6_0), .second, .val (.int p4), .val (.ref b9), .val (.int (1 : Int32)), .val (.int (1 : Int32)), .val (.long q1), .second] [])) _
          refine XS.iload X72.here hx rfl (hb hby at_139) rfl ?_
          show Steps p.tables e below (T72.setTop (mkF m 141 #[.val (.long q1), .second, .val (.long j2_0), .second, .val (.long j6_0), .second, .val (.int p4), .val (.ref b9), .val (.int (1 : Int32)), .val (.int (1 : Int32)), .val (.long q1), .second] [(.int (1 : Int32))])) _
          refine XS.ifNo X72.here hx rfl (hb hby at_141) rfl ((if0 _ _).trans (feq (by decide : ¬ ((1 : Int32) = (0 : Int32)))).1) ?_
          show Steps p.tables e below (T72.setTop (mkF m 144 #[.val (.long q1), .second, .val (.long j2_0), .second, .val (.long j6_0), .second, .val (.int p4), .val (.ref b9), .val (.int (1 : Int32)), .val (.int (1 : Int32)), .val (.long q1), .second] [])) _
          refine XS.aload X72.here hx rfl (hb hby at_144) rfl rfl ?_
          show Steps p.tables e below (T72.setTop (mkF m 146 #[.val (.long q1), .second, .val (.long j2_0), .second, .val (.long j6_0), .second, .val (.int p4), .val (.ref b9), .val (.int (1 : Int32)), .val (.int (1 : Int32)), .val (.long q1), .second] [(.ref b9)])) _
          refine XS.iload X72.here hx rfl (hb hby at_146) rfl ?_
          show Steps p.tables e below (T72.setTop (mkF m 148 #[.val (.long q1), .second, .val (.long j2_0), .second, .val (.long j6_0), .second, .val (.int p4), .val (.ref b9), .val (.int (1 : Int32)), .val (.int (1 : Int32)), .val (.long q1), .second] [(.int (1 : Int32)), (.ref b9)])) _
          refine XS.lload X72.here hx rfl (hb hby at_148) rfl ?_
          show Steps p.tables e below (T72.setTop (mkF m 150 #[.val (.long q1), .second, .val (.long j2_0), .second, .val (.long j6_0), .second, .val (.int p4), .val (.ref b9), .val (.int (1 : Int32)), .val (.int (1 : Int32)), .val (.long q1), .second] [(.long q1), (.int (1 : Int32)), (.ref b9)])) _
          refine st73 _ ?_
          show Steps p.tables e below (T73.setTop (mkF m 153 #[.val (.long q1), .second, .val (.long j2_0), .second, .val (.long j6_0), .second, .val (.int p4), .val (.ref b9), .val (.int (1 : Int32)), .val (.int (1 : Int32)), .val (.long q1), .second] [(.int (1 : Int32))])) _
          refine XS.ifNo X73.here hx rfl (hb hby at_153) rfl ((if0 _ _).trans (feq (by decide : ¬ ((1 : Int32) = (0 : Int32)))).1) ?_
          show Steps p.tables e below (T73.setTop (mkF m 156 #[.val (.long q1), .second, .val (.long j2_0), .second, .val (.long j6_0), .second, .val (.int p4), .val (.ref b9), .val (.int (1 : Int32)), .val (.int (1 : Int32)), .val (.long q1), .second] [])) _
          refine XS.iconst X73.here hx rfl (hb hby at_156) ?_
          show Steps p.tables e below (T73.setTop (mkF m 157 #[.val (.long q1), .second, .val (.long j2_0), .second, .val (.long j6_0), .second, .val (.int p4), .val (.ref b9), .val (.int (1 : Int32)), .val (.int (1 : Int32)), .val (.long q1), .second] [(.int (1 : Int32))])) _
          refine XS.goto X73.here hx rfl (pc0 := 157) (pc' := 161) rfl (hb hby at_157) (by decide) (by decide) ?_
          show Steps p.tables e below (T73.setTop (mkF m 161 #[.val (.long q1), .second, .val (.long j2_0), .second, .val (.long j6_0), .second, .val (.int p4), .val (.ref b9), .val (.int (1 : Int32)), .val (.int (1 : Int32)), .val (.long q1), .second] [(.int (1 : Int32))])) _
          refine XS.istore X73.here hx rfl (hb hby at_161) rfl (l' := #[.val (.long q1), .second, .val (.long j2_0), .second, .val (.long j6_0), .second, .val (.int p4), .val (.ref b9), .val (.int (1 : Int32)), .val (.int (1 : Int32)), .val (.long q1), .second]) rfl ?_
          show Steps p.tables e below (T73.setTop (mkF m 163 #[.val (.long q1), .second, .val (.long j2_0), .second, .val (.long j6_0), .second, .val (.int p4), .val (.ref b9), .val (.int (1 : Int32)), .val (.int (1 : Int32)), .val (.long q1), .second] [])) _
          refine XS.iload X73.here hx rfl (hb hby at_163) rfl ?_
          show Steps p.tables e below (T73.setTop (mkF m 165 #[.val (.long q1), .second, .val (.long j2_0), .second, .val (.long j6_0), .second, .val (.int p4), .val (.ref b9), .val (.int (1 : Int32)), .val (.int (1 : Int32)), .val (.long q1), .second] [(.int p4)])) _
          refine XS.iconst X73.here hx rfl (hb hby at_165) ?_
          show Steps p.tables e below (T73.setTop (mkF m 166 #[.val (.long q1), .second, .val (.long j2_0), .second, .val (.long j6_0), .second, .val (.int p4), .val (.ref b9), .val (.int (1 : Int32)), .val (.int (1 : Int32)), .val (.long q1), .second] [(.int (4 : Int32)), (.int p4)])) _
          refine XS.iand X73.here hx rfl (hb hby at_166) rfl ?_
          exact k
        by_cases hc167_14 : (p4 &&& (4 : Int32)) = (0 : Int32)
        ·
          obtain ⟨cq76, kq76, q76a, q76b, q76c⟩ := isOf hZ rfl ((Fq36_0.keep K38q).keep K73q)
          obtain ⟨_, _, ⟨T76, L76, k76, n76⟩, -, X76, ⟨Lc76, hQ76, l76, y76, z76⟩, st76⟩ := X73.virtualBack hx (y := (⟨"com/example/grebe/grebe/bench/Tally", "count", "()J"⟩ : MethodName)) (z := (⟨"com/example/grebe/grebe/bench/Tally", "count", "()J"⟩ : MethodName)) hown (mvT hZ (hw _ (List.mem_of_getElem? (i := 59) rfl))) (mvT hZ (hw _ (List.mem_of_getElem? (i := 60) rfl))) (notFace_of_selects (args := #[]) (mvT hZ (hw _ (List.mem_of_getElem? (i := 62) rfl)))) (mvT hZ (hw _ (List.mem_of_getElem? (i := 62) rfl))) (mvT hZ (hw _ (List.mem_of_getElem? (i := 61) rfl))) (by decide) (backOf (W := 0) (rm11_1 l Z a0 hw [] b9 T73.heap n0 (Nat.le_trans Z0 K73.1) ((Fq36_4.keep K38q nin0).keep K73q nin0)) hZ (hw _ (List.mem_of_getElem? (i := 63) rfl)) (hw _ (List.mem_of_getElem? (i := 2) rfl)) (by decide) (by decide)) q76a q76c (g := (mkF m 230 #[.val (.long q1), .second, .val (.long j2_0), .second, .val (.long j6_0), .second, .val (.int p4), .val (.ref b9), .val (.int (1 : Int32)), .val (.int (1 : Int32)), .val (.long q1), .second] [(.ref b9)])) rfl (by rw [hml]; rfl) (Steps.refl _) (argsL := []) (rest := []) (lenOf pd_4 rfl) rfl (by show 2 * 0 + _ ≤ _; exact Nat.le_of_eq rfl) (hb hby at_230) (fun _ _ => ⟨rfl, rfl, (by decide : 4 + 0 ≤ _), (by decide : 1033 + 0 ≤ _)⟩)
          dsimp only [Pt.U, Pt.locs, Pt.cells, Pt.slots] at X76 l76 y76 z76 st76 hQ76
          subst l76 y76 z76
          obtain ⟨rfl, N76q, e76⟩ := hQ76
          have N76 := Fr.app N73 N76q
          obtain ⟨fs, hr, hrun, hended, hW, hsame⟩ := X76.leave (v := some (.int (1 : Int32))) (fun h => by rw [Bd.returns] at h; cases h)
          refine ⟨_, _, k75 _ ?_, hrun, hended, _, _, rfl, ?_, ⟨_, rfl⟩, hW, hsame.mono (by decide) (by decide)⟩
          ·
            show Steps p.tables e below (T73.setTop (mkF m 167 #[.val (.long q1), .second, .val (.long j2_0), .second, .val (.long j6_0), .second, .val (.int p4), .val (.ref b9), .val (.int (1 : Int32)), .val (.int (1 : Int32)), .val (.long q1), .second] [(.int (p4 &&& (4 : Int32)))])) _
            refine XS.ifYes X73.here hx rfl (pc0 := 167) (pc' := 223) rfl (hb hby at_167) rfl ((if0 _ _).trans (teq hc167_14).1) (by decide) (by decide) ?_
            show Steps p.tables e below (T73.setTop (mkF m 223 #[.val (.long q1), .second, .val (.long j2_0), .second, .val (.long j6_0), .second, .val (.int p4), .val (.ref b9), .val (.int (1 : Int32)), .val (.int (1 : Int32)), .val (.long q1), .second] [])) _
            refine XS.iload X73.here hx rfl (hb hby at_223) rfl ?_
            show Steps p.tables e below (T73.setTop (mkF m 225 #[.val (.long q1), .second, .val (.long j2_0), .second, .val (.long j6_0), .second, .val (.int p4), .val (.ref b9), .val (.int (1 : Int32)), .val (.int (1 : Int32)), .val (.long q1), .second] [(.int (1 : Int32))])) _
            refine XS.ifNo X73.here hx rfl (hb hby at_225) rfl ((if0 _ _).trans (feq (by decide : ¬ ((1 : Int32) = (0 : Int32)))).1) ?_
            show Steps p.tables e below (T73.setTop (mkF m 228 #[.val (.long q1), .second, .val (.long j2_0), .second, .val (.long j6_0), .second, .val (.int p4), .val (.ref b9), .val (.int (1 : Int32)), .val (.int (1 : Int32)), .val (.long q1), .second] [])) _
            refine XS.aload X73.here hx rfl (hb hby at_228) rfl rfl ?_
            show Steps p.tables e below (T73.setTop (mkF m 230 #[.val (.long q1), .second, .val (.long j2_0), .second, .val (.long j6_0), .second, .val (.int p4), .val (.ref b9), .val (.int (1 : Int32)), .val (.int (1 : Int32)), .val (.long q1), .second] [(.ref b9)])) _
            refine st76.trans ?_
            show Steps p.tables e below (T76.setTop (mkF m 233 #[.val (.long q1), .second, .val (.long j2_0), .second, .val (.long j6_0), .second, .val (.int p4), .val (.ref b9), .val (.int (1 : Int32)), .val (.int (1 : Int32)), .val (.long q1), .second] [(.long (0 : Int64))])) _
            refine XS.lconst X76.here hx rfl (hb hby at_233) ?_
            show Steps p.tables e below (T76.setTop (mkF m 234 #[.val (.long q1), .second, .val (.long j2_0), .second, .val (.long j6_0), .second, .val (.int p4), .val (.ref b9), .val (.int (1 : Int32)), .val (.int (1 : Int32)), .val (.long q1), .second] [(.long (0 : Int64)), (.long (0 : Int64))])) _
            refine XS.lcmp X76.here hx rfl (hb hby at_234) rfl ?_
            show Steps p.tables e below (T76.setTop (mkF m 235 #[.val (.long q1), .second, .val (.long j2_0), .second, .val (.long j6_0), .second, .val (.int p4), .val (.ref b9), .val (.int (1 : Int32)), .val (.int (1 : Int32)), .val (.long q1), .second] [(.int (lcmpW (0 : Int64) (0 : Int64)))])) _
            rewrite [(lw_eq (0 : Int64) (0 : Int64)).mpr rfl]
            show Steps p.tables e below (T76.setTop (mkF m 235 #[.val (.long q1), .second, .val (.long j2_0), .second, .val (.long j6_0), .second, .val (.int p4), .val (.ref b9), .val (.int (1 : Int32)), .val (.int (1 : Int32)), .val (.long q1), .second] [(.int (0 : Int32))])) _
            refine XS.ifNo X76.here hx rfl (hb hby at_235) rfl ((if0 _ _).trans (teq (by decide : (0 : Int32) = (0 : Int32))).2) ?_
            show Steps p.tables e below (T76.setTop (mkF m 238 #[.val (.long q1), .second, .val (.long j2_0), .second, .val (.long j6_0), .second, .val (.int p4), .val (.ref b9), .val (.int (1 : Int32)), .val (.int (1 : Int32)), .val (.long q1), .second] [])) _
            refine XS.iconst X76.here hx rfl (hb hby at_238) ?_
            show Steps p.tables e below (T76.setTop (mkF m 239 #[.val (.long q1), .second, .val (.long j2_0), .second, .val (.long j6_0), .second, .val (.int p4), .val (.ref b9), .val (.int (1 : Int32)), .val (.int (1 : Int32)), .val (.long q1), .second] [(.int (1 : Int32))])) _
            refine XS.goto X76.here hx rfl (pc0 := 239) (pc' := 243) rfl (hb hby at_239) (by decide) (by decide) ?_
            show Steps p.tables e below (T76.setTop (mkF m 243 #[.val (.long q1), .second, .val (.long j2_0), .second, .val (.long j6_0), .second, .val (.int p4), .val (.ref b9), .val (.int (1 : Int32)), .val (.int (1 : Int32)), .val (.long q1), .second] [(.int (1 : Int32))])) _
            exact retN X76 hx (t := .boolean) Bd.returns (by simp) (hb hby at_243) hr
          · show Q0_0 Z q1 q2 q3 p4 w_EMPTY h0 n0 _ T76.heap _
            rw [e76]
            exact ⟨rfl, N76⟩
        ·
          have k77 : ∀ t, Steps p.tables e below (T73.setTop (mkF m 174 #[.val (.long q1), .second, .val (.long j2_0), .second, .val (.long j6_0), .second, .val (.int p4), .val (.ref b9), .val (.int (1 : Int32)), .val (.int (1 : Int32)), .val (.long q1), .second] [(.long j6_0), (.ref b9)])) t → Steps p.tables e below (s₁.setTop (entryFrame m #[(.long q1), (.long q2), (.long q3), (.int p4)] maxLocals)) t := by
            intro t k
            refine k75 t ?_
            show Steps p.tables e below (T73.setTop (mkF m 167 #[.val (.long q1), .second, .val (.long j2_0), .second, .val (.long j6_0), .second, .val (.int p4), .val (.ref b9), .val (.int (1 : Int32)), .val (.int (1 : Int32)), .val (.long q1), .second] [(.int (p4 &&& (4 : Int32)))])) _
            refine XS.ifNo X73.here hx rfl (hb hby at_167) rfl ((if0 _ _).trans (feq hc167_14).1) ?_
            show Steps p.tables e below (T73.setTop (mkF m 170 #[.val (.long q1), .second, .val (.long j2_0), .second, .val (.long j6_0), .second, .val (.int p4), .val (.ref b9), .val (.int (1 : Int32)), .val (.int (1 : Int32)), .val (.long q1), .second] [])) _
            refine XS.aload X73.here hx rfl (hb hby at_170) rfl rfl ?_
            show Steps p.tables e below (T73.setTop (mkF m 172 #[.val (.long q1), .second, .val (.long j2_0), .second, .val (.long j6_0), .second, .val (.int p4), .val (.ref b9), .val (.int (1 : Int32)), .val (.int (1 : Int32)), .val (.long q1), .second] [(.ref b9)])) _
            refine XS.lload X73.here hx rfl (hb hby at_172) rfl ?_
            exact k
          by_cases hc174_15 : (0 : Int32) < (lcmpW (j6_0 - q1) (0 : Int64))
          ·
            obtain ⟨cq78, kq78, q78a, q78b, q78c⟩ := isOf hZ rfl ((Fq36_0.keep K38q).keep K73q)
            obtain ⟨_, _, ⟨T78, L78, k78, n78⟩, -, X78, ⟨Lc78, hQ78, l78, y78, z78⟩, st78⟩ := X73.virtualBack hx (y := (⟨"com/example/grebe/grebe/bench/Tally", "stop", "(J)V"⟩ : MethodName)) (z := (⟨"com/example/grebe/grebe/bench/Tally", "stop", "(J)V"⟩ : MethodName)) hown (mvT hZ (hw _ (List.mem_of_getElem? (i := 35) rfl))) (mvT hZ (hw _ (List.mem_of_getElem? (i := 36) rfl))) (notFace_of_selects (args := #[]) (mvT hZ (hw _ (List.mem_of_getElem? (i := 38) rfl)))) (mvT hZ (hw _ (List.mem_of_getElem? (i := 38) rfl))) (mvT hZ (hw _ (List.mem_of_getElem? (i := 37) rfl))) (by decide) (backOf (W := 0) (rm7_1 l Z a0 hw [] b9 j6_0 b10_0 q1 T73.heap n0 (Nat.le_trans Z0 K73.1) ((Fq36_0.keep K38q).keep K73q) ((Fq36_1.keep K38q nin0).keep K73q nin0) ((Fq36_2.keep K38q nin0).keep K73q nin0) ((Fq36_3.keep K38q nin0).keep K73q nin0) ((Fq36_4.keep K38q nin0).keep K73q nin0) hc174_15 g_b9) hZ (hw _ (List.mem_of_getElem? (i := 39) rfl)) (hw _ (List.mem_of_getElem? (i := 2) rfl)) (by decide) (by decide)) q78a q78c (g := (mkF m 174 #[.val (.long q1), .second, .val (.long j2_0), .second, .val (.long j6_0), .second, .val (.int p4), .val (.ref b9), .val (.int (1 : Int32)), .val (.int (1 : Int32)), .val (.long q1), .second] [(.long j6_0), (.ref b9)])) rfl (by rw [hml]; rfl) (Steps.refl _) (argsL := [(.long j6_0)]) (rest := []) (lenOf pd_5 rfl) rfl (by show 2 * 0 + _ ≤ _; exact Nat.le_of_eq rfl) (hb hby at_174) (fun _ _ => ⟨rfl, rfl, (by decide : 4 + 0 ≤ _), (by decide : 1033 + 0 ≤ _)⟩)
            dsimp only [Pt.U, Pt.locs, Pt.cells, Pt.slots] at X78 l78 y78 z78 st78 hQ78
            subst l78 y78 z78
            obtain ⟨rfl, N78q, K78q, Fq78_0, Fq78_1, Fq78_2, Fq78_3, Fq78_4⟩ := hQ78
            have N78 := Fr.app N73 N78q
            have K78 : Keep h0 T78.heap [] := Keep.trans K73 K78q (allS (Or.inr sz_b9) all0)
            have cf79 := (((Fq36_0.keep K38q).keep K73q).keep K78q)
            have cf80 := (cf74.keep K78q (ninS (Ne.symm ne_b9_b10_0) nin0))
            obtain ⟨_, _, ⟨T81, L81, k81, n81⟩, -, X81, ⟨Lc81, hQ81, l81, y81, z81⟩, st81⟩ := Jvm.LawKit.callS X78 hx (y := (⟨"com/example/grebe/grebe/bench/TallyStopPinLaw", "laterThan", "(JJ)Z"⟩ : MethodName)) hown (mvT hZ (hw _ (List.mem_of_getElem? (i := 67) rfl))) (mvT hZ (hw _ (List.mem_of_getElem? (i := 68) rfl))) (mvT hZ (hw _ (List.mem_of_getElem? (i := 14) rfl))) (mvT hZ (hw _ (List.mem_of_getElem? (i := 69) rfl))) (by decide) (backOf (W := 0) (rm12_0 l Z a0 hw [] j6_0 q1 T78.heap n0 (Nat.le_trans Z0 K78.1) hc174_15) hZ (hw _ (List.mem_of_getElem? (i := 69) rfl)) (hw _ (List.mem_of_getElem? (i := 14) rfl)) (by decide) (by decide)) (g := (mkF m 186 #[.val (.long q1), .second, .val (.long j2_0), .second, .val (.long j6_0), .second, .val (.int p4), .val (.ref b9), .val (.int (1 : Int32)), .val (.int (1 : Int32)), .val (.long q1), .second] [(.long q1), (.long j6_0)])) rfl (by rw [hml]; rfl) (argsL := [(.long j6_0), (.long q1)]) (rest := []) (lenOf pd_7 rfl) rfl (by show 2 * 0 + _ ≤ _; exact Nat.le_of_eq rfl) (hb hby at_186) (fun _ _ => ⟨rfl, rfl, (by decide : 4 + 0 ≤ _), (by decide : 1033 + 0 ≤ _)⟩)
            dsimp only [Pt.U, Pt.locs, Pt.cells, Pt.slots] at X81 l81 y81 z81 st81 hQ81
            subst l81 y81 z81
            obtain ⟨rfl, N81q, e81⟩ := hQ81
            have N81 := Fr.app N78 N81q
            obtain ⟨_, _, ⟨T82, L82, k82, n82⟩, -, X82, ⟨Lc82, hQ82, l82, y82, z82⟩, st82⟩ := Jvm.LawKit.callS X81 hx (y := (⟨"com/example/grebe/grebe/bench/TallyStopPinLaw", "matches", "(Lcom/example/grebe/grebe/bench/Tally;ZJ)Z"⟩ : MethodName)) hown (mvT hZ (hw _ (List.mem_of_getElem? (i := 12) rfl))) (mvT hZ (hw _ (List.mem_of_getElem? (i := 13) rfl))) (mvT hZ (hw _ (List.mem_of_getElem? (i := 14) rfl))) (mvT hZ (hw _ (List.mem_of_getElem? (i := 15) rfl))) (by decide) (backOf (W := 0) (rm3_1 l Z a0 hw [] b9 j6_0 T78.heap n0 (Nat.le_trans Z0 K78.1) Fq78_0 Fq78_2 Fq78_3) hZ (hw _ (List.mem_of_getElem? (i := 15) rfl)) (hw _ (List.mem_of_getElem? (i := 14) rfl)) (by decide) (by decide)) (g := (mkF m 210 #[.val (.long q1), .second, .val (.long j2_0), .second, .val (.long j6_0), .second, .val (.int p4), .val (.ref b9), .val (.int (1 : Int32)), .val (.int (1 : Int32)), .val (.long j6_0), .second] [(.long j6_0), (.int (1 : Int32)), (.ref b9)])) rfl (by rw [hml]; rfl) (argsL := [(.ref b9), (.int (1 : Int32)), (.long j6_0)]) (rest := []) (lenOf pd_3 rfl) rfl (by show 2 * 0 + _ ≤ _; exact Nat.le_of_eq rfl) (hb hby at_210) (fun _ _ => ⟨rfl, e81, (by decide : 4 + 1 ≤ _), (by decide : 1033 + 2 ≤ _)⟩)
            dsimp only [Pt.U, Pt.locs, Pt.cells, Pt.slots] at X82 l82 y82 z82 st82 hQ82
            subst l82 y82 z82
            obtain ⟨rfl, N82q, K82q⟩ := hQ82
            have N82 := Fr.app N81 N82q
            have K82 : Keep h0 T82.heap [] := Keep.trans K78 K82q all0
            obtain ⟨cq83, kq83, q83a, q83b, q83c⟩ := isOf hZ rfl (Fq78_0.keep K82q)
            obtain ⟨_, _, ⟨T83, L83, k83, n83⟩, -, X83, ⟨Lc83, hQ83, l83, y83, z83⟩, st83⟩ := X82.virtualBack hx (y := (⟨"com/example/grebe/grebe/bench/Tally", "count", "()J"⟩ : MethodName)) (z := (⟨"com/example/grebe/grebe/bench/Tally", "count", "()J"⟩ : MethodName)) hown (mvT hZ (hw _ (List.mem_of_getElem? (i := 59) rfl))) (mvT hZ (hw _ (List.mem_of_getElem? (i := 60) rfl))) (notFace_of_selects (args := #[]) (mvT hZ (hw _ (List.mem_of_getElem? (i := 62) rfl)))) (mvT hZ (hw _ (List.mem_of_getElem? (i := 62) rfl))) (mvT hZ (hw _ (List.mem_of_getElem? (i := 61) rfl))) (by decide) (backOf (W := 0) (rm11_1 l Z a0 hw [] b9 T82.heap n0 (Nat.le_trans Z0 K82.1) (Fq78_4.keep K82q nin0)) hZ (hw _ (List.mem_of_getElem? (i := 63) rfl)) (hw _ (List.mem_of_getElem? (i := 2) rfl)) (by decide) (by decide)) q83a q83c (g := (mkF m 230 #[.val (.long q1), .second, .val (.long j2_0), .second, .val (.long j6_0), .second, .val (.int p4), .val (.ref b9), .val (.int (1 : Int32)), .val (.int (1 : Int32)), .val (.long j6_0), .second] [(.ref b9)])) rfl (by rw [hml]; rfl) (Steps.refl _) (argsL := []) (rest := []) (lenOf pd_4 rfl) rfl (by show 2 * 0 + _ ≤ _; exact Nat.le_of_eq rfl) (hb hby at_230) (fun _ _ => ⟨rfl, rfl, (by decide : 5 + 0 ≤ _), (by decide : 1035 + 0 ≤ _)⟩)
            dsimp only [Pt.U, Pt.locs, Pt.cells, Pt.slots] at X83 l83 y83 z83 st83 hQ83
            subst l83 y83 z83
            obtain ⟨rfl, N83q, e83⟩ := hQ83
            have N83 := Fr.app N82 N83q
            obtain ⟨fs, hr, hrun, hended, hW, hsame⟩ := X83.leave (v := some (.int (1 : Int32))) (fun h => by rw [Bd.returns] at h; cases h)
            refine ⟨_, _, k77 _ ?_, hrun, hended, _, _, rfl, ?_, ⟨_, rfl⟩, hW, hsame.mono (by decide) (by decide)⟩
            ·
              show Steps p.tables e below (T73.setTop (mkF m 174 #[.val (.long q1), .second, .val (.long j2_0), .second, .val (.long j6_0), .second, .val (.int p4), .val (.ref b9), .val (.int (1 : Int32)), .val (.int (1 : Int32)), .val (.long q1), .second] [(.long j6_0), (.ref b9)])) _
              refine st78.trans ?_
              show Steps p.tables e below (T78.setTop (mkF m 177 #[.val (.long q1), .second, .val (.long j2_0), .second, .val (.long j6_0), .second, .val (.int p4), .val (.ref b9), .val (.int (1 : Int32)), .val (.int (1 : Int32)), .val (.long q1), .second] [])) _
              refine XS.iload X78.here hx rfl (hb hby at_177) rfl ?_
              show Steps p.tables e below (T78.setTop (mkF m 179 #[.val (.long q1), .second, .val (.long j2_0), .second, .val (.long j6_0), .second, .val (.int p4), .val (.ref b9), .val (.int (1 : Int32)), .val (.int (1 : Int32)), .val (.long q1), .second] [(.int (1 : Int32))])) _
              refine XS.ifNo X78.here hx rfl (hb hby at_179) rfl ((if0 _ _).trans (feq (by decide : ¬ ((1 : Int32) = (0 : Int32)))).1) ?_
              show Steps p.tables e below (T78.setTop (mkF m 182 #[.val (.long q1), .second, .val (.long j2_0), .second, .val (.long j6_0), .second, .val (.int p4), .val (.ref b9), .val (.int (1 : Int32)), .val (.int (1 : Int32)), .val (.long q1), .second] [])) _
              refine XS.lload X78.here hx rfl (hb hby at_182) rfl ?_
              show Steps p.tables e below (T78.setTop (mkF m 184 #[.val (.long q1), .second, .val (.long j2_0), .second, .val (.long j6_0), .second, .val (.int p4), .val (.ref b9), .val (.int (1 : Int32)), .val (.int (1 : Int32)), .val (.long q1), .second] [(.long j6_0)])) _
              refine XS.lload X78.here hx rfl (hb hby at_184) rfl ?_
              show Steps p.tables e below (T78.setTop (mkF m 186 #[.val (.long q1), .second, .val (.long j2_0), .second, .val (.long j6_0), .second, .val (.int p4), .val (.ref b9), .val (.int (1 : Int32)), .val (.int (1 : Int32)), .val (.long q1), .second] [(.long q1), (.long j6_0)])) _
              refine st81 _ ?_
              show Steps p.tables e below (T81.setTop (mkF m 189 #[.val (.long q1), .second, .val (.long j2_0), .second, .val (.long j6_0), .second, .val (.int p4), .val (.ref b9), .val (.int (1 : Int32)), .val (.int (1 : Int32)), .val (.long q1), .second] [(.int (1 : Int32))])) _
              refine XS.ifNo X81.here hx rfl (hb hby at_189) rfl ((if0 _ _).trans (feq (by decide : ¬ ((1 : Int32) = (0 : Int32)))).1) ?_
              show Steps p.tables e below (T81.setTop (mkF m 192 #[.val (.long q1), .second, .val (.long j2_0), .second, .val (.long j6_0), .second, .val (.int p4), .val (.ref b9), .val (.int (1 : Int32)), .val (.int (1 : Int32)), .val (.long q1), .second] [])) _
              refine XS.lload X81.here hx rfl (hb hby at_192) rfl ?_
              show Steps p.tables e below (T81.setTop (mkF m 194 #[.val (.long q1), .second, .val (.long j2_0), .second, .val (.long j6_0), .second, .val (.int p4), .val (.ref b9), .val (.int (1 : Int32)), .val (.int (1 : Int32)), .val (.long q1), .second] [(.long j6_0)])) _
              refine XS.lstore X81.here hx rfl (hb hby at_194) rfl (l' := #[.val (.long q1), .second, .val (.long j2_0), .second, .val (.long j6_0), .second, .val (.int p4), .val (.ref b9), .val (.int (1 : Int32)), .val (.int (1 : Int32)), .val (.long j6_0), .second]) rfl ?_
              show Steps p.tables e below (T81.setTop (mkF m 196 #[.val (.long q1), .second, .val (.long j2_0), .second, .val (.long j6_0), .second, .val (.int p4), .val (.ref b9), .val (.int (1 : Int32)), .val (.int (1 : Int32)), .val (.long j6_0), .second] [])) _
              refine XS.iconst X81.here hx rfl (hb hby at_196) ?_
              show Steps p.tables e below (T81.setTop (mkF m 197 #[.val (.long q1), .second, .val (.long j2_0), .second, .val (.long j6_0), .second, .val (.int p4), .val (.ref b9), .val (.int (1 : Int32)), .val (.int (1 : Int32)), .val (.long j6_0), .second] [(.int (1 : Int32))])) _
              refine XS.istore X81.here hx rfl (hb hby at_197) rfl (l' := #[.val (.long q1), .second, .val (.long j2_0), .second, .val (.long j6_0), .second, .val (.int p4), .val (.ref b9), .val (.int (1 : Int32)), .val (.int (1 : Int32)), .val (.long j6_0), .second]) rfl ?_
              show Steps p.tables e below (T81.setTop (mkF m 199 #[.val (.long q1), .second, .val (.long j2_0), .second, .val (.long j6_0), .second, .val (.int p4), .val (.ref b9), .val (.int (1 : Int32)), .val (.int (1 : Int32)), .val (.long j6_0), .second] [])) _
              refine XS.iload X81.here hx rfl (hb hby at_199) rfl ?_
              show Steps p.tables e below (T81.setTop (mkF m 201 #[.val (.long q1), .second, .val (.long j2_0), .second, .val (.long j6_0), .second, .val (.int p4), .val (.ref b9), .val (.int (1 : Int32)), .val (.int (1 : Int32)), .val (.long j6_0), .second] [(.int (1 : Int32))])) _
              refine XS.ifNo X81.here hx rfl (hb hby at_201) rfl ((if0 _ _).trans (feq (by decide : ¬ ((1 : Int32) = (0 : Int32)))).1) ?_
              show Steps p.tables e below (T81.setTop (mkF m 204 #[.val (.long q1), .second, .val (.long j2_0), .second, .val (.long j6_0), .second, .val (.int p4), .val (.ref b9), .val (.int (1 : Int32)), .val (.int (1 : Int32)), .val (.long j6_0), .second] [])) _
              refine XS.aload X81.here hx rfl (hb hby at_204) rfl rfl ?_
              show Steps p.tables e below (T81.setTop (mkF m 206 #[.val (.long q1), .second, .val (.long j2_0), .second, .val (.long j6_0), .second, .val (.int p4), .val (.ref b9), .val (.int (1 : Int32)), .val (.int (1 : Int32)), .val (.long j6_0), .second] [(.ref b9)])) _
              refine XS.iload X81.here hx rfl (hb hby at_206) rfl ?_
              show Steps p.tables e below (T81.setTop (mkF m 208 #[.val (.long q1), .second, .val (.long j2_0), .second, .val (.long j6_0), .second, .val (.int p4), .val (.ref b9), .val (.int (1 : Int32)), .val (.int (1 : Int32)), .val (.long j6_0), .second] [(.int (1 : Int32)), (.ref b9)])) _
              refine XS.lload X81.here hx rfl (hb hby at_208) rfl ?_
              show Steps p.tables e below (T81.setTop (mkF m 210 #[.val (.long q1), .second, .val (.long j2_0), .second, .val (.long j6_0), .second, .val (.int p4), .val (.ref b9), .val (.int (1 : Int32)), .val (.int (1 : Int32)), .val (.long j6_0), .second] [(.long j6_0), (.int (1 : Int32)), (.ref b9)])) _
              refine st82 _ ?_
              show Steps p.tables e below (T82.setTop (mkF m 213 #[.val (.long q1), .second, .val (.long j2_0), .second, .val (.long j6_0), .second, .val (.int p4), .val (.ref b9), .val (.int (1 : Int32)), .val (.int (1 : Int32)), .val (.long j6_0), .second] [(.int (1 : Int32))])) _
              refine XS.ifNo X82.here hx rfl (hb hby at_213) rfl ((if0 _ _).trans (feq (by decide : ¬ ((1 : Int32) = (0 : Int32)))).1) ?_
              show Steps p.tables e below (T82.setTop (mkF m 216 #[.val (.long q1), .second, .val (.long j2_0), .second, .val (.long j6_0), .second, .val (.int p4), .val (.ref b9), .val (.int (1 : Int32)), .val (.int (1 : Int32)), .val (.long j6_0), .second] [])) _
              refine XS.iconst X82.here hx rfl (hb hby at_216) ?_
              show Steps p.tables e below (T82.setTop (mkF m 217 #[.val (.long q1), .second, .val (.long j2_0), .second, .val (.long j6_0), .second, .val (.int p4), .val (.ref b9), .val (.int (1 : Int32)), .val (.int (1 : Int32)), .val (.long j6_0), .second] [(.int (1 : Int32))])) _
              refine XS.goto X82.here hx rfl (pc0 := 217) (pc' := 221) rfl (hb hby at_217) (by decide) (by decide) ?_
              show Steps p.tables e below (T82.setTop (mkF m 221 #[.val (.long q1), .second, .val (.long j2_0), .second, .val (.long j6_0), .second, .val (.int p4), .val (.ref b9), .val (.int (1 : Int32)), .val (.int (1 : Int32)), .val (.long j6_0), .second] [(.int (1 : Int32))])) _
              refine XS.istore X82.here hx rfl (hb hby at_221) rfl (l' := #[.val (.long q1), .second, .val (.long j2_0), .second, .val (.long j6_0), .second, .val (.int p4), .val (.ref b9), .val (.int (1 : Int32)), .val (.int (1 : Int32)), .val (.long j6_0), .second]) rfl ?_
              show Steps p.tables e below (T82.setTop (mkF m 223 #[.val (.long q1), .second, .val (.long j2_0), .second, .val (.long j6_0), .second, .val (.int p4), .val (.ref b9), .val (.int (1 : Int32)), .val (.int (1 : Int32)), .val (.long j6_0), .second] [])) _
              refine XS.iload X82.here hx rfl (hb hby at_223) rfl ?_
              show Steps p.tables e below (T82.setTop (mkF m 225 #[.val (.long q1), .second, .val (.long j2_0), .second, .val (.long j6_0), .second, .val (.int p4), .val (.ref b9), .val (.int (1 : Int32)), .val (.int (1 : Int32)), .val (.long j6_0), .second] [(.int (1 : Int32))])) _
              refine XS.ifNo X82.here hx rfl (hb hby at_225) rfl ((if0 _ _).trans (feq (by decide : ¬ ((1 : Int32) = (0 : Int32)))).1) ?_
              show Steps p.tables e below (T82.setTop (mkF m 228 #[.val (.long q1), .second, .val (.long j2_0), .second, .val (.long j6_0), .second, .val (.int p4), .val (.ref b9), .val (.int (1 : Int32)), .val (.int (1 : Int32)), .val (.long j6_0), .second] [])) _
              refine XS.aload X82.here hx rfl (hb hby at_228) rfl rfl ?_
              show Steps p.tables e below (T82.setTop (mkF m 230 #[.val (.long q1), .second, .val (.long j2_0), .second, .val (.long j6_0), .second, .val (.int p4), .val (.ref b9), .val (.int (1 : Int32)), .val (.int (1 : Int32)), .val (.long j6_0), .second] [(.ref b9)])) _
              refine st83.trans ?_
              show Steps p.tables e below (T83.setTop (mkF m 233 #[.val (.long q1), .second, .val (.long j2_0), .second, .val (.long j6_0), .second, .val (.int p4), .val (.ref b9), .val (.int (1 : Int32)), .val (.int (1 : Int32)), .val (.long j6_0), .second] [(.long (0 : Int64))])) _
              refine XS.lconst X83.here hx rfl (hb hby at_233) ?_
              show Steps p.tables e below (T83.setTop (mkF m 234 #[.val (.long q1), .second, .val (.long j2_0), .second, .val (.long j6_0), .second, .val (.int p4), .val (.ref b9), .val (.int (1 : Int32)), .val (.int (1 : Int32)), .val (.long j6_0), .second] [(.long (0 : Int64)), (.long (0 : Int64))])) _
              refine XS.lcmp X83.here hx rfl (hb hby at_234) rfl ?_
              show Steps p.tables e below (T83.setTop (mkF m 235 #[.val (.long q1), .second, .val (.long j2_0), .second, .val (.long j6_0), .second, .val (.int p4), .val (.ref b9), .val (.int (1 : Int32)), .val (.int (1 : Int32)), .val (.long j6_0), .second] [(.int (lcmpW (0 : Int64) (0 : Int64)))])) _
              rewrite [(lw_eq (0 : Int64) (0 : Int64)).mpr rfl]
              show Steps p.tables e below (T83.setTop (mkF m 235 #[.val (.long q1), .second, .val (.long j2_0), .second, .val (.long j6_0), .second, .val (.int p4), .val (.ref b9), .val (.int (1 : Int32)), .val (.int (1 : Int32)), .val (.long j6_0), .second] [(.int (0 : Int32))])) _
              refine XS.ifNo X83.here hx rfl (hb hby at_235) rfl ((if0 _ _).trans (teq (by decide : (0 : Int32) = (0 : Int32))).2) ?_
              show Steps p.tables e below (T83.setTop (mkF m 238 #[.val (.long q1), .second, .val (.long j2_0), .second, .val (.long j6_0), .second, .val (.int p4), .val (.ref b9), .val (.int (1 : Int32)), .val (.int (1 : Int32)), .val (.long j6_0), .second] [])) _
              refine XS.iconst X83.here hx rfl (hb hby at_238) ?_
              show Steps p.tables e below (T83.setTop (mkF m 239 #[.val (.long q1), .second, .val (.long j2_0), .second, .val (.long j6_0), .second, .val (.int p4), .val (.ref b9), .val (.int (1 : Int32)), .val (.int (1 : Int32)), .val (.long j6_0), .second] [(.int (1 : Int32))])) _
              refine XS.goto X83.here hx rfl (pc0 := 239) (pc' := 243) rfl (hb hby at_239) (by decide) (by decide) ?_
              show Steps p.tables e below (T83.setTop (mkF m 243 #[.val (.long q1), .second, .val (.long j2_0), .second, .val (.long j6_0), .second, .val (.int p4), .val (.ref b9), .val (.int (1 : Int32)), .val (.int (1 : Int32)), .val (.long j6_0), .second] [(.int (1 : Int32))])) _
              exact retN X83 hx (t := .boolean) Bd.returns (by simp) (hb hby at_243) hr
            · show Q0_0 Z q1 q2 q3 p4 w_EMPTY h0 n0 _ T83.heap _
              rw [e83]
              exact ⟨rfl, N83⟩
          ·
            obtain ⟨cq84, kq84, q84a, q84b, q84c⟩ := isOf hZ rfl ((Fq36_0.keep K38q).keep K73q)
            obtain ⟨_, _, ⟨T84, L84, k84, n84⟩, -, X84, ⟨Lc84, hQ84, l84, y84, z84⟩, st84⟩ := X73.virtualBack hx (y := (⟨"com/example/grebe/grebe/bench/Tally", "stop", "(J)V"⟩ : MethodName)) (z := (⟨"com/example/grebe/grebe/bench/Tally", "stop", "(J)V"⟩ : MethodName)) hown (mvT hZ (hw _ (List.mem_of_getElem? (i := 35) rfl))) (mvT hZ (hw _ (List.mem_of_getElem? (i := 36) rfl))) (notFace_of_selects (args := #[]) (mvT hZ (hw _ (List.mem_of_getElem? (i := 38) rfl)))) (mvT hZ (hw _ (List.mem_of_getElem? (i := 38) rfl))) (mvT hZ (hw _ (List.mem_of_getElem? (i := 37) rfl))) (by decide) (backOf (W := 0) (rm7_2 l Z a0 hw [] b9 j6_0 q1 T73.heap n0 (Nat.le_trans Z0 K73.1) ((Fq36_2.keep K38q nin0).keep K73q nin0) ((Fq36_3.keep K38q nin0).keep K73q nin0) hc174_15) hZ (hw _ (List.mem_of_getElem? (i := 39) rfl)) (hw _ (List.mem_of_getElem? (i := 2) rfl)) (by decide) (by decide)) q84a q84c (g := (mkF m 174 #[.val (.long q1), .second, .val (.long j2_0), .second, .val (.long j6_0), .second, .val (.int p4), .val (.ref b9), .val (.int (1 : Int32)), .val (.int (1 : Int32)), .val (.long q1), .second] [(.long j6_0), (.ref b9)])) rfl (by rw [hml]; rfl) (Steps.refl _) (argsL := [(.long j6_0)]) (rest := []) (lenOf pd_5 rfl) rfl (by show 2 * 0 + _ ≤ _; exact Nat.le_of_eq rfl) (hb hby at_174) (fun _ _ => ⟨rfl, rfl, (by decide : 4 + 0 ≤ _), (by decide : 1033 + 0 ≤ _)⟩)
            dsimp only [Pt.U, Pt.locs, Pt.cells, Pt.slots] at X84 l84 y84 z84 st84 hQ84
            subst l84 y84 z84
            obtain ⟨rfl, N84q, e84⟩ := hQ84
            have N84 := Fr.app N73 N84q
            obtain ⟨_, _, ⟨T85, L85, k85, n85⟩, -, X85, ⟨Lc85, hQ85, l85, y85, z85⟩, st85⟩ := Jvm.LawKit.callS X84 hx (y := (⟨"com/example/grebe/grebe/bench/TallyStopPinLaw", "laterThan", "(JJ)Z"⟩ : MethodName)) hown (mvT hZ (hw _ (List.mem_of_getElem? (i := 67) rfl))) (mvT hZ (hw _ (List.mem_of_getElem? (i := 68) rfl))) (mvT hZ (hw _ (List.mem_of_getElem? (i := 14) rfl))) (mvT hZ (hw _ (List.mem_of_getElem? (i := 69) rfl))) (by decide) (backOf (W := 0) (rm12_1 l Z a0 hw [] j6_0 q1 T73.heap n0 (Nat.le_trans Z0 K73.1) hc174_15) hZ (hw _ (List.mem_of_getElem? (i := 69) rfl)) (hw _ (List.mem_of_getElem? (i := 14) rfl)) (by decide) (by decide)) (g := (mkF m 186 #[.val (.long q1), .second, .val (.long j2_0), .second, .val (.long j6_0), .second, .val (.int p4), .val (.ref b9), .val (.int (1 : Int32)), .val (.int (1 : Int32)), .val (.long q1), .second] [(.long q1), (.long j6_0)])) rfl (by rw [hml]; rfl) (argsL := [(.long j6_0), (.long q1)]) (rest := []) (lenOf pd_7 rfl) rfl (by show 2 * 0 + _ ≤ _; exact Nat.le_of_eq rfl) (hb hby at_186) (fun _ _ => ⟨rfl, e84, (by decide : 4 + 0 ≤ _), (by decide : 1033 + 0 ≤ _)⟩)
            dsimp only [Pt.U, Pt.locs, Pt.cells, Pt.slots] at X85 l85 y85 z85 st85 hQ85
            subst l85 y85 z85
            obtain ⟨rfl, N85q, e85⟩ := hQ85
            have N85 := Fr.app N84 N85q
            obtain ⟨_, _, ⟨T86, L86, k86, n86⟩, -, X86, ⟨Lc86, hQ86, l86, y86, z86⟩, st86⟩ := Jvm.LawKit.callS X85 hx (y := (⟨"com/example/grebe/grebe/bench/TallyStopPinLaw", "matches", "(Lcom/example/grebe/grebe/bench/Tally;ZJ)Z"⟩ : MethodName)) hown (mvT hZ (hw _ (List.mem_of_getElem? (i := 12) rfl))) (mvT hZ (hw _ (List.mem_of_getElem? (i := 13) rfl))) (mvT hZ (hw _ (List.mem_of_getElem? (i := 14) rfl))) (mvT hZ (hw _ (List.mem_of_getElem? (i := 15) rfl))) (by decide) (backOf (W := 0) (rm3_1 l Z a0 hw [] b9 q1 T73.heap n0 (Nat.le_trans Z0 K73.1) ((Fq36_0.keep K38q).keep K73q) ((Fq36_2.keep K38q nin0).keep K73q nin0) ((Fq36_3.keep K38q nin0).keep K73q nin0)) hZ (hw _ (List.mem_of_getElem? (i := 15) rfl)) (hw _ (List.mem_of_getElem? (i := 14) rfl)) (by decide) (by decide)) (g := (mkF m 210 #[.val (.long q1), .second, .val (.long j2_0), .second, .val (.long j6_0), .second, .val (.int p4), .val (.ref b9), .val (.int (1 : Int32)), .val (.int (1 : Int32)), .val (.long q1), .second] [(.long q1), (.int (1 : Int32)), (.ref b9)])) rfl (by rw [hml]; rfl) (argsL := [(.ref b9), (.int (1 : Int32)), (.long q1)]) (rest := []) (lenOf pd_3 rfl) rfl (by show 2 * 0 + _ ≤ _; exact Nat.le_of_eq rfl) (hb hby at_210) (fun _ _ => ⟨rfl, e85, (by decide : 4 + 1 ≤ _), (by decide : 1033 + 2 ≤ _)⟩)
            dsimp only [Pt.U, Pt.locs, Pt.cells, Pt.slots] at X86 l86 y86 z86 st86 hQ86
            subst l86 y86 z86
            obtain ⟨rfl, N86q, K86q⟩ := hQ86
            have N86 := Fr.app N85 N86q
            have K86 : Keep h0 T86.heap [] := Keep.trans K73 K86q all0
            have cf87 := (((Fq36_1.keep K38q nin0).keep K73q nin0).keep K86q nin0)
            have cf88 := (((Fq36_2.keep K38q nin0).keep K73q nin0).keep K86q nin0)
            have cf89 := (((Fq36_3.keep K38q nin0).keep K73q nin0).keep K86q nin0)
            have cf90 := (((Fq36_4.keep K38q nin0).keep K73q nin0).keep K86q nin0)
            have cf91 := (((Fq36_0.keep K38q).keep K73q).keep K86q)
            obtain ⟨cq92, kq92, q92a, q92b, q92c⟩ := isOf hZ rfl cf91
            obtain ⟨_, _, ⟨T92, L92, k92, n92⟩, -, X92, ⟨Lc92, hQ92, l92, y92, z92⟩, st92⟩ := X86.virtualBack hx (y := (⟨"com/example/grebe/grebe/bench/Tally", "count", "()J"⟩ : MethodName)) (z := (⟨"com/example/grebe/grebe/bench/Tally", "count", "()J"⟩ : MethodName)) hown (mvT hZ (hw _ (List.mem_of_getElem? (i := 59) rfl))) (mvT hZ (hw _ (List.mem_of_getElem? (i := 60) rfl))) (notFace_of_selects (args := #[]) (mvT hZ (hw _ (List.mem_of_getElem? (i := 62) rfl)))) (mvT hZ (hw _ (List.mem_of_getElem? (i := 62) rfl))) (mvT hZ (hw _ (List.mem_of_getElem? (i := 61) rfl))) (by decide) (backOf (W := 0) (rm11_1 l Z a0 hw [] b9 T86.heap n0 (Nat.le_trans Z0 K86.1) cf90) hZ (hw _ (List.mem_of_getElem? (i := 63) rfl)) (hw _ (List.mem_of_getElem? (i := 2) rfl)) (by decide) (by decide)) q92a q92c (g := (mkF m 230 #[.val (.long q1), .second, .val (.long j2_0), .second, .val (.long j6_0), .second, .val (.int p4), .val (.ref b9), .val (.int (1 : Int32)), .val (.int (1 : Int32)), .val (.long q1), .second] [(.ref b9)])) rfl (by rw [hml]; rfl) (Steps.refl _) (argsL := []) (rest := []) (lenOf pd_4 rfl) rfl (by show 2 * 0 + _ ≤ _; exact Nat.le_of_eq rfl) (hb hby at_230) (fun _ _ => ⟨rfl, rfl, (by decide : 5 + 0 ≤ _), (by decide : 1035 + 0 ≤ _)⟩)
            dsimp only [Pt.U, Pt.locs, Pt.cells, Pt.slots] at X92 l92 y92 z92 st92 hQ92
            subst l92 y92 z92
            obtain ⟨rfl, N92q, e92⟩ := hQ92
            have N92 := Fr.app N86 N92q
            obtain ⟨fs, hr, hrun, hended, hW, hsame⟩ := X92.leave (v := some (.int (1 : Int32))) (fun h => by rw [Bd.returns] at h; cases h)
            refine ⟨_, _, k77 _ ?_, hrun, hended, _, _, rfl, ?_, ⟨_, rfl⟩, hW, hsame.mono (by decide) (by decide)⟩
            ·
              show Steps p.tables e below (T73.setTop (mkF m 174 #[.val (.long q1), .second, .val (.long j2_0), .second, .val (.long j6_0), .second, .val (.int p4), .val (.ref b9), .val (.int (1 : Int32)), .val (.int (1 : Int32)), .val (.long q1), .second] [(.long j6_0), (.ref b9)])) _
              refine st84.trans ?_
              show Steps p.tables e below (T84.setTop (mkF m 177 #[.val (.long q1), .second, .val (.long j2_0), .second, .val (.long j6_0), .second, .val (.int p4), .val (.ref b9), .val (.int (1 : Int32)), .val (.int (1 : Int32)), .val (.long q1), .second] [])) _
              refine XS.iload X84.here hx rfl (hb hby at_177) rfl ?_
              show Steps p.tables e below (T84.setTop (mkF m 179 #[.val (.long q1), .second, .val (.long j2_0), .second, .val (.long j6_0), .second, .val (.int p4), .val (.ref b9), .val (.int (1 : Int32)), .val (.int (1 : Int32)), .val (.long q1), .second] [(.int (1 : Int32))])) _
              refine XS.ifNo X84.here hx rfl (hb hby at_179) rfl ((if0 _ _).trans (feq (by decide : ¬ ((1 : Int32) = (0 : Int32)))).1) ?_
              show Steps p.tables e below (T84.setTop (mkF m 182 #[.val (.long q1), .second, .val (.long j2_0), .second, .val (.long j6_0), .second, .val (.int p4), .val (.ref b9), .val (.int (1 : Int32)), .val (.int (1 : Int32)), .val (.long q1), .second] [])) _
              refine XS.lload X84.here hx rfl (hb hby at_182) rfl ?_
              show Steps p.tables e below (T84.setTop (mkF m 184 #[.val (.long q1), .second, .val (.long j2_0), .second, .val (.long j6_0), .second, .val (.int p4), .val (.ref b9), .val (.int (1 : Int32)), .val (.int (1 : Int32)), .val (.long q1), .second] [(.long j6_0)])) _
              refine XS.lload X84.here hx rfl (hb hby at_184) rfl ?_
              show Steps p.tables e below (T84.setTop (mkF m 186 #[.val (.long q1), .second, .val (.long j2_0), .second, .val (.long j6_0), .second, .val (.int p4), .val (.ref b9), .val (.int (1 : Int32)), .val (.int (1 : Int32)), .val (.long q1), .second] [(.long q1), (.long j6_0)])) _
              refine st85 _ ?_
              show Steps p.tables e below (T85.setTop (mkF m 189 #[.val (.long q1), .second, .val (.long j2_0), .second, .val (.long j6_0), .second, .val (.int p4), .val (.ref b9), .val (.int (1 : Int32)), .val (.int (1 : Int32)), .val (.long q1), .second] [(.int (0 : Int32))])) _
              refine XS.ifYes X85.here hx rfl (pc0 := 189) (pc' := 196) rfl (hb hby at_189) rfl ((if0 _ _).trans (teq (by decide : (0 : Int32) = (0 : Int32))).1) (by decide) (by decide) ?_
              show Steps p.tables e below (T85.setTop (mkF m 196 #[.val (.long q1), .second, .val (.long j2_0), .second, .val (.long j6_0), .second, .val (.int p4), .val (.ref b9), .val (.int (1 : Int32)), .val (.int (1 : Int32)), .val (.long q1), .second] [])) _
              refine XS.iconst X85.here hx rfl (hb hby at_196) ?_
              show Steps p.tables e below (T85.setTop (mkF m 197 #[.val (.long q1), .second, .val (.long j2_0), .second, .val (.long j6_0), .second, .val (.int p4), .val (.ref b9), .val (.int (1 : Int32)), .val (.int (1 : Int32)), .val (.long q1), .second] [(.int (1 : Int32))])) _
              refine XS.istore X85.here hx rfl (hb hby at_197) rfl (l' := #[.val (.long q1), .second, .val (.long j2_0), .second, .val (.long j6_0), .second, .val (.int p4), .val (.ref b9), .val (.int (1 : Int32)), .val (.int (1 : Int32)), .val (.long q1), .second]) rfl ?_
              show Steps p.tables e below (T85.setTop (mkF m 199 #[.val (.long q1), .second, .val (.long j2_0), .second, .val (.long j6_0), .second, .val (.int p4), .val (.ref b9), .val (.int (1 : Int32)), .val (.int (1 : Int32)), .val (.long q1), .second] [])) _
              refine XS.iload X85.here hx rfl (hb hby at_199) rfl ?_
              show Steps p.tables e below (T85.setTop (mkF m 201 #[.val (.long q1), .second, .val (.long j2_0), .second, .val (.long j6_0), .second, .val (.int p4), .val (.ref b9), .val (.int (1 : Int32)), .val (.int (1 : Int32)), .val (.long q1), .second] [(.int (1 : Int32))])) _
              refine XS.ifNo X85.here hx rfl (hb hby at_201) rfl ((if0 _ _).trans (feq (by decide : ¬ ((1 : Int32) = (0 : Int32)))).1) ?_
              show Steps p.tables e below (T85.setTop (mkF m 204 #[.val (.long q1), .second, .val (.long j2_0), .second, .val (.long j6_0), .second, .val (.int p4), .val (.ref b9), .val (.int (1 : Int32)), .val (.int (1 : Int32)), .val (.long q1), .second] [])) _
              refine XS.aload X85.here hx rfl (hb hby at_204) rfl rfl ?_
              show Steps p.tables e below (T85.setTop (mkF m 206 #[.val (.long q1), .second, .val (.long j2_0), .second, .val (.long j6_0), .second, .val (.int p4), .val (.ref b9), .val (.int (1 : Int32)), .val (.int (1 : Int32)), .val (.long q1), .second] [(.ref b9)])) _
              refine XS.iload X85.here hx rfl (hb hby at_206) rfl ?_
              show Steps p.tables e below (T85.setTop (mkF m 208 #[.val (.long q1), .second, .val (.long j2_0), .second, .val (.long j6_0), .second, .val (.int p4), .val (.ref b9), .val (.int (1 : Int32)), .val (.int (1 : Int32)), .val (.long q1), .second] [(.int (1 : Int32)), (.ref b9)])) _
              refine XS.lload X85.here hx rfl (hb hby at_208) rfl ?_
              show Steps p.tables e below (T85.setTop (mkF m 210 #[.val (.long q1), .second, .val (.long j2_0), .second, .val (.long j6_0), .second, .val (.int p4), .val (.ref b9), .val (.int (1 : Int32)), .val (.int (1 : Int32)), .val (.long q1), .second] [(.long q1), (.int (1 : Int32)), (.ref b9)])) _
              refine st86 _ ?_
              show Steps p.tables e below (T86.setTop (mkF m 213 #[.val (.long q1), .second, .val (.long j2_0), .second, .val (.long j6_0), .second, .val (.int p4), .val (.ref b9), .val (.int (1 : Int32)), .val (.int (1 : Int32)), .val (.long q1), .second] [(.int (1 : Int32))])) _
              refine XS.ifNo X86.here hx rfl (hb hby at_213) rfl ((if0 _ _).trans (feq (by decide : ¬ ((1 : Int32) = (0 : Int32)))).1) ?_
              show Steps p.tables e below (T86.setTop (mkF m 216 #[.val (.long q1), .second, .val (.long j2_0), .second, .val (.long j6_0), .second, .val (.int p4), .val (.ref b9), .val (.int (1 : Int32)), .val (.int (1 : Int32)), .val (.long q1), .second] [])) _
              refine XS.iconst X86.here hx rfl (hb hby at_216) ?_
              show Steps p.tables e below (T86.setTop (mkF m 217 #[.val (.long q1), .second, .val (.long j2_0), .second, .val (.long j6_0), .second, .val (.int p4), .val (.ref b9), .val (.int (1 : Int32)), .val (.int (1 : Int32)), .val (.long q1), .second] [(.int (1 : Int32))])) _
              refine XS.goto X86.here hx rfl (pc0 := 217) (pc' := 221) rfl (hb hby at_217) (by decide) (by decide) ?_
              show Steps p.tables e below (T86.setTop (mkF m 221 #[.val (.long q1), .second, .val (.long j2_0), .second, .val (.long j6_0), .second, .val (.int p4), .val (.ref b9), .val (.int (1 : Int32)), .val (.int (1 : Int32)), .val (.long q1), .second] [(.int (1 : Int32))])) _
              refine XS.istore X86.here hx rfl (hb hby at_221) rfl (l' := #[.val (.long q1), .second, .val (.long j2_0), .second, .val (.long j6_0), .second, .val (.int p4), .val (.ref b9), .val (.int (1 : Int32)), .val (.int (1 : Int32)), .val (.long q1), .second]) rfl ?_
              show Steps p.tables e below (T86.setTop (mkF m 223 #[.val (.long q1), .second, .val (.long j2_0), .second, .val (.long j6_0), .second, .val (.int p4), .val (.ref b9), .val (.int (1 : Int32)), .val (.int (1 : Int32)), .val (.long q1), .second] [])) _
              refine XS.iload X86.here hx rfl (hb hby at_223) rfl ?_
              show Steps p.tables e below (T86.setTop (mkF m 225 #[.val (.long q1), .second, .val (.long j2_0), .second, .val (.long j6_0), .second, .val (.int p4), .val (.ref b9), .val (.int (1 : Int32)), .val (.int (1 : Int32)), .val (.long q1), .second] [(.int (1 : Int32))])) _
              refine XS.ifNo X86.here hx rfl (hb hby at_225) rfl ((if0 _ _).trans (feq (by decide : ¬ ((1 : Int32) = (0 : Int32)))).1) ?_
              show Steps p.tables e below (T86.setTop (mkF m 228 #[.val (.long q1), .second, .val (.long j2_0), .second, .val (.long j6_0), .second, .val (.int p4), .val (.ref b9), .val (.int (1 : Int32)), .val (.int (1 : Int32)), .val (.long q1), .second] [])) _
              refine XS.aload X86.here hx rfl (hb hby at_228) rfl rfl ?_
              show Steps p.tables e below (T86.setTop (mkF m 230 #[.val (.long q1), .second, .val (.long j2_0), .second, .val (.long j6_0), .second, .val (.int p4), .val (.ref b9), .val (.int (1 : Int32)), .val (.int (1 : Int32)), .val (.long q1), .second] [(.ref b9)])) _
              refine st92.trans ?_
              show Steps p.tables e below (T92.setTop (mkF m 233 #[.val (.long q1), .second, .val (.long j2_0), .second, .val (.long j6_0), .second, .val (.int p4), .val (.ref b9), .val (.int (1 : Int32)), .val (.int (1 : Int32)), .val (.long q1), .second] [(.long (0 : Int64))])) _
              refine XS.lconst X92.here hx rfl (hb hby at_233) ?_
              show Steps p.tables e below (T92.setTop (mkF m 234 #[.val (.long q1), .second, .val (.long j2_0), .second, .val (.long j6_0), .second, .val (.int p4), .val (.ref b9), .val (.int (1 : Int32)), .val (.int (1 : Int32)), .val (.long q1), .second] [(.long (0 : Int64)), (.long (0 : Int64))])) _
              refine XS.lcmp X92.here hx rfl (hb hby at_234) rfl ?_
              show Steps p.tables e below (T92.setTop (mkF m 235 #[.val (.long q1), .second, .val (.long j2_0), .second, .val (.long j6_0), .second, .val (.int p4), .val (.ref b9), .val (.int (1 : Int32)), .val (.int (1 : Int32)), .val (.long q1), .second] [(.int (lcmpW (0 : Int64) (0 : Int64)))])) _
              rewrite [(lw_eq (0 : Int64) (0 : Int64)).mpr rfl]
              show Steps p.tables e below (T92.setTop (mkF m 235 #[.val (.long q1), .second, .val (.long j2_0), .second, .val (.long j6_0), .second, .val (.int p4), .val (.ref b9), .val (.int (1 : Int32)), .val (.int (1 : Int32)), .val (.long q1), .second] [(.int (0 : Int32))])) _
              refine XS.ifNo X92.here hx rfl (hb hby at_235) rfl ((if0 _ _).trans (teq (by decide : (0 : Int32) = (0 : Int32))).2) ?_
              show Steps p.tables e below (T92.setTop (mkF m 238 #[.val (.long q1), .second, .val (.long j2_0), .second, .val (.long j6_0), .second, .val (.int p4), .val (.ref b9), .val (.int (1 : Int32)), .val (.int (1 : Int32)), .val (.long q1), .second] [])) _
              refine XS.iconst X92.here hx rfl (hb hby at_238) ?_
              show Steps p.tables e below (T92.setTop (mkF m 239 #[.val (.long q1), .second, .val (.long j2_0), .second, .val (.long j6_0), .second, .val (.int p4), .val (.ref b9), .val (.int (1 : Int32)), .val (.int (1 : Int32)), .val (.long q1), .second] [(.int (1 : Int32))])) _
              refine XS.goto X92.here hx rfl (pc0 := 239) (pc' := 243) rfl (hb hby at_239) (by decide) (by decide) ?_
              show Steps p.tables e below (T92.setTop (mkF m 243 #[.val (.long q1), .second, .val (.long j2_0), .second, .val (.long j6_0), .second, .val (.int p4), .val (.ref b9), .val (.int (1 : Int32)), .val (.int (1 : Int32)), .val (.long q1), .second] [(.int (1 : Int32))])) _
              exact retN X92 hx (t := .boolean) Bd.returns (by simp) (hb hby at_243) hr
            · show Q0_0 Z q1 q2 q3 p4 w_EMPTY h0 n0 _ T92.heap _
              rw [e92]
              exact ⟨rfl, N92⟩
set_option maxRecDepth 65536 in
set_option maxHeartbeats 40000000 in
theorem comes_1 {Post : Tables → Env → Array Value → State → Outcome → State → Prop} (hpost : ∀ tb e args s v u, (limb_1_1.after args s (.returned v) u = true ∧ limb_1_2.after args s (.returned v) u = true ∧ True) → FrameEnd s (.returned v) u (Jvm.fieldLocs frame_1_writes args s ++ Jvm.arrayLocs frame_1_arrays args s ++ Jvm.staticLocs frame_1_statics s) 24 2176 → Post tb e args s (.returned v) u) :
    ArmFor flags0 classFile x code maxLocals ret World_1 tables_1 room_1 Calls_1 rest_1 Pre_1 Post := by
  intro l hfl _ _ p e ha hc hk s m args below hf hA hF happ hP
  obtain ⟨hcalls, hrest, hpre⟩ := hP
  obtain ⟨-, -, -, hnamed, -, -, -, hat⟩ := (Spec.applies_iff hf).mp happ
  obtain ⟨hg, hn⟩ := and_e (Cond.before_iff.mp (show (Jvm.Cond.and given_1 narrow_1).before args s = true from hpre))
  obtain ⟨g1a, g1b⟩ := and_e hg
  obtain ⟨g2a, g2b⟩ := and_e g1b
  obtain ⟨g3a, g3b⟩ := and_e g2b
  obtain ⟨g4a, g4b⟩ := and_e g3b
  obtain ⟨a0w, a1w, a2w, a3w, rfl⟩ : ∃ a0w a1w a2w a3w : Value, args = #[a0w, a1w, a2w, a3w] := by
    have hs : args.size = 4 := by simpa [Cond.value, given_1] using g1a
    obtain ⟨L⟩ := args
    match L, hs with
    | [a0w, a1w, a2w, a3w], _ => exact ⟨a0w, a1w, a2w, a3w, rfl⟩
  have hw := fun d (hd : d ∈ tables_1) => atoms_spec (ws := Jvm.Cond.code x code maxLocals ret :: tables_1) hat d (List.mem_cons_of_mem _ hd)
  have hfit : Fit s := fun {y c} hc i hi => by
    obtain ⟨ha, rfl⟩ := Array.getElem?_eq_some_iff.mp hc
    have q := List.all_eq_true.mp ((Array.all_eq_true_iff_forall_mem.mp hF) _ (Array.getElem_mem ha)) i (List.mem_range.mpr hi)
    simpa [Array.getElem?_eq_getElem hi] using q
  obtain ⟨i0, ei0⟩ := isL_v g2a
  obtain rfl : a0w = (.long i0) := Option.some.inj ei0
  obtain ⟨i1, ei1⟩ := isL_v g3a
  obtain rfl : a1w = (.long i1) := Option.some.inj ei1
  obtain ⟨i2, ei2⟩ := isL_v g4a
  obtain rfl : a2w = (.long i2) := Option.some.inj ei2
  obtain ⟨i3, ei3⟩ := is_v g4b
  obtain rfl : a3w = (.int i3) := Option.some.inj ei3
  obtain ⟨hsets, hown0⟩ := atoms_of _ (rest_1_c_eq ▸ (show rest_1_c.before _ s = true from hrest))
  obtain ⟨w_EMPTY, v_EMPTY⟩ := exa_v (Cond.before_iff.mp (hsets _ (List.mem_of_getElem? (i := 2) rfl)))
  have S_EMPTY := Sta.start v_EMPTY (Or.inl (Cond.before_iff.mpr (Cond.before_iff.mp (hsets _ (List.mem_of_getElem? (i := 1) rfl)))))
  have E_EMPTY := Exa.start v_EMPTY (Cond.before_iff.mp (hsets _ (List.mem_of_getElem? (i := 2) rfl)))
  have F_isPresent_EMPTY := Fld.start ((fld_at v_EMPTY).symm.trans (own_eqI (Cond.before_iff.mp (hsets _ (List.mem_of_getElem? (i := 3) rfl)))))
  have F_value_EMPTY := Fld.start ((fld_at v_EMPTY).symm.trans (own_eqL (Cond.before_iff.mp (hsets _ (List.mem_of_getElem? (i := 4) rfl)))))
  obtain ⟨n, o, h1, h2, h3, _, L, rfl, ⟨rfl, N⟩, hq⟩ := rm0_0 l s _ hw tables_1 i0 i1 i2 i3 w_EMPTY s.heap s.heap.size (Nat.le_refl _) S_EMPTY E_EMPTY F_isPresent_EMPTY p e ha hc hk s m _ below hf ((Spec.applies_iff_loose hf).mp happ).1 ⟨rfl, State.Warmed39.refl s, rfl⟩ trivial
  refine ⟨n, _, h1, h2, h3, hpost _ _ _ _ _ _ ⟨Cond.after_iff.mpr rfl, Cond.after_iff.mpr (eq_i res_at (Term.int_eval (1)) rfl), trivial⟩ ⟨hq.1, hq.2.1, (hq.2.2.sift fun y hy => Or.inr (N y hy)).mono (by decide) (by decide)⟩⟩
theorem main_1_1 : Claimed_1_1 := comes_1 fun _ _ _ _ _ _ h hF => ⟨h.1, hF⟩
theorem main_1_2 : Claimed_1_2 := comes_1 fun _ _ _ _ _ _ h hF => ⟨h.2.1, hF⟩
end Jvm.Pilot.@@N@@
namespace Jvm.Pilot.@@N@@
open Jvm Jvm.ClassFile Sem Op Lib Jvm.Free Jvm.Stand Jvm.Pilot.@@N@@.Jvm.D
/-! MADE BY PROGRAM (witnessworld.py) out of the Statement's table words and the real class files: 12 classes; the members and pool entries that the words name. The judged class is class 1, her method 3. -/
namespace start1
open Jvm.ClassFile
def u (s : String) : CpInfo := .utf8 (stringToUtf16 s)
/-- a pool by its gaps: so many unusable entries, then the entry; so many at the end -/
def gap : Nat → List CpInfo → List CpInfo
  | 0, r => r
  | n + 1, r => .unusable :: gap n r
def poolList (es : List (Nat × CpInfo)) (last : Nat) : List CpInfo := es.foldr (fun e r => gap e.1 (e.2 :: r)) (gap last [])
def pool (es : List (Nat × CpInfo)) (last : Nat) : Array CpInfo := ⟨poolList es last⟩
def fileOf (pool : Array CpInfo) (this : Nat) (attrs : Array Attribute := #[]) (ms : Array MethodInfo := #[]) (fl : Nat := 33) (sup : Nat := 0) (ifs : Array Nat := #[]) (fds : Array FieldInfo := #[]) : ClassFile where
  minorVersion := 0
  majorVersion := 65
  constantPool := pool
  accessFlags := fl
  thisClass := this
  superClass := sup
  interfaces := ifs
  fields := fds
  methods := ms
  attributes := attrs
def plain (name : String) (sup : Option ClassId) : Class where
  name := name
  kind := .ordinary
  loader := none
  accessFlags := 33
  super := sup
  interfaces := #[]
  cf := none
  fields := #[]
  methods := #[]
  instanceTypes := #[]
  staticTypes := #[]
  resolved := #[]
  callSites := []
  init := .initialized
  statics := none
  mirror := none

def pool0 : Array CpInfo := pool [(5, u "<init>"), (0, u "()V"), (1, .class_ 10), (1, u "java/lang/Object")] 113

def k0c0 : Code := { maxStack := 0, maxLocals := 1, code := object_method_1_code, exceptionTable := #[], attributes := #[] }
def k0m0 : Method := { name := "<init>", desc := "()V", sig := { parameters := [], returnType := none }, accessFlags := 1, code := some k0c0 }
/-- java/lang/Object -/
def k0 : Class := { plain "java/lang/Object" none with
  accessFlags := 33
  interfaces := #[]
  cf := some (fileOf pool0 8 #[] #[{ accessFlags := 1, nameIndex := 5, descriptorIndex := 6, attributes := #[] }] 33 0 #[] #[])
  fields := #[]
  methods := #[k0m0]
  instanceTypes := #[]
  staticTypes := #[]
  resolved := Array.replicate 124 none
  statics := none }

def pool1 : Array CpInfo := pool [(2, .class_ 4), (0, .nameAndType 5 6), (0, u "java/lang/Object"), (0, u "<init>"), (0, u "()V"), (0, .methodref 8 9), (0, .class_ 10), (0, .nameAndType 11 12), (0, u "com/example/grebe/grebe/bench/Tally"), (0, u "stopped"), (0, u "()Ljava/util/OptionalLong;"), (0, .methodref 14 15), (0, .class_ 16), (0, .nameAndType 17 18), (0, u "java/util/OptionalLong"), (0, u "isPresent"), (0, u "()Z"), (0, .methodref 14 20), (0, .nameAndType 21 22), (0, u "getAsLong"), (0, u "()J"), (2, .long 9223372036854775808), (1, .methodref 8 3), (0, .methodref 29 30), (0, .class_ 31), (0, .nameAndType 32 33), (0, u "com/example/grebe/grebe/bench/TallyStopPinLaw"), (0, u "matches"), (0, u "(Lcom/example/grebe/grebe/bench/Tally;ZJ)Z"), (0, .methodref 8 35), (0, .nameAndType 36 37), (0, u "stop"), (0, u "(J)V"), (0, .methodref 29 39), (0, .nameAndType 40 41), (0, u "laterThan"), (0, u "(JJ)Z"), (0, .methodref 8 43), (0, .nameAndType 44 22), (0, u "count"), (3, u "law"), (0, u "(JJJI)Z")] 2

def k1m0 : Method := { name := "<init>", desc := "()V", sig := { parameters := [], returnType := none }, accessFlags := 1, code := none }
def k1c1 : Code := { maxStack := 4, maxLocals := 5, code := method_2_code, exceptionTable := #[], attributes := #[] }
def k1m1 : Method := { name := "matches", desc := "(Lcom/example/grebe/grebe/bench/Tally;ZJ)Z", sig := { parameters := [(.object "com/example/grebe/grebe/bench/Tally"), .boolean, .long], returnType := some .boolean }, accessFlags := 10, code := some k1c1 }
def k1c2 : Code := { maxStack := 4, maxLocals := 6, code := method_3_code, exceptionTable := #[], attributes := #[] }
def k1m2 : Method := { name := "laterThan", desc := "(JJ)Z", sig := { parameters := [.long, .long], returnType := some .boolean }, accessFlags := 10, code := some k1c2 }
def k1c3 : Code := { maxStack := 4, maxLocals := 12, code := code, exceptionTable := #[], attributes := #[] }
def k1m3 : Method := { name := "law", desc := "(JJJI)Z", sig := { parameters := [.long, .long, .long, .int], returnType := some .boolean }, accessFlags := 9, code := some k1c3 }
/-- com/example/grebe/grebe/bench/TallyStopPinLaw -/
def k1 : Class := { plain "com/example/grebe/grebe/bench/TallyStopPinLaw" (some 0) with
  accessFlags := 49
  interfaces := #[]
  cf := some (fileOf pool1 29 #[] #[{ accessFlags := 1, nameIndex := 5, descriptorIndex := 6, attributes := #[] }, { accessFlags := 10, nameIndex := 32, descriptorIndex := 33, attributes := #[] }, { accessFlags := 10, nameIndex := 40, descriptorIndex := 41, attributes := #[] }, { accessFlags := 9, nameIndex := 48, descriptorIndex := 49, attributes := #[] }] 49 2 #[] #[])
  fields := #[]
  methods := #[k1m0, k1m1, k1m2, k1m3]
  instanceTypes := #[]
  staticTypes := #[]
  resolved := Array.replicate 52 none
  statics := none }

def pool2 : Array CpInfo := pool [(1, .methodref 2 3), (0, .class_ 4), (0, .nameAndType 5 6), (0, u "java/lang/Object"), (0, u "<init>"), (0, u "()V"), (0, .fieldref 8 9), (0, .class_ 10), (0, .nameAndType 11 12), (0, u "com/example/grebe/grebe/bench/Tally"), (0, u "times"), (0, u "[J"), (0, .fieldref 8 14), (0, .nameAndType 15 16), (0, u "count"), (0, u "J"), (2, u "stop"), (0, u "(J)V"), (4, u "timed"), (0, u "I"), (6, .fieldref 8 34), (0, .nameAndType 35 36), (0, u "stopped"), (0, u "Z"), (0, .fieldref 8 38), (0, .nameAndType 19 16), (23, .methodref 63 64), (0, .class_ 65), (0, .nameAndType 66 67), (0, u "java/util/OptionalLong"), (0, u "of"), (0, u "(J)Ljava/util/OptionalLong;"), (0, .methodref 63 69), (0, .nameAndType 70 71), (0, u "empty"), (0, u "()Ljava/util/OptionalLong;"), (22, u "()J")] 4

def k2c0 : Code := { maxStack := 2, maxLocals := 1, code := prog_2_method_1_code, exceptionTable := #[], attributes := #[] }
def k2m0 : Method := { name := "<init>", desc := "()V", sig := { parameters := [], returnType := none }, accessFlags := 0, code := some k2c0 }
def k2c1 : Code := { maxStack := 4, maxLocals := 3, code := prog_2_method_4_code, exceptionTable := #[], attributes := #[] }
def k2m1 : Method := { name := "stop", desc := "(J)V", sig := { parameters := [.long], returnType := none }, accessFlags := 0, code := some k2c1 }
def k2c2 : Code := { maxStack := 2, maxLocals := 1, code := prog_2_method_6_code, exceptionTable := #[], attributes := #[] }
def k2m2 : Method := { name := "count", desc := "()J", sig := { parameters := [], returnType := some .long }, accessFlags := 0, code := some k2c2 }
def k2c3 : Code := { maxStack := 2, maxLocals := 1, code := prog_2_method_7_code, exceptionTable := #[], attributes := #[] }
def k2m3 : Method := { name := "stopped", desc := "()Ljava/util/OptionalLong;", sig := { parameters := [], returnType := some (.object "java/util/OptionalLong") }, accessFlags := 0, code := some k2c3 }
/-- com/example/grebe/grebe/bench/Tally -/
def k2 : Class := { plain "com/example/grebe/grebe/bench/Tally" (some 0) with
  accessFlags := 32
  interfaces := #[]
  cf := some (fileOf pool2 8 #[] #[{ accessFlags := 0, nameIndex := 5, descriptorIndex := 6, attributes := #[] }, { accessFlags := 0, nameIndex := 19, descriptorIndex := 20, attributes := #[] }, { accessFlags := 0, nameIndex := 15, descriptorIndex := 94, attributes := #[] }, { accessFlags := 0, nameIndex := 35, descriptorIndex := 71, attributes := #[] }] 32 2 #[] #[{ accessFlags := 2, nameIndex := 11, descriptorIndex := 12, attributes := #[] }, { accessFlags := 2, nameIndex := 25, descriptorIndex := 26, attributes := #[] }, { accessFlags := 2, nameIndex := 15, descriptorIndex := 16, attributes := #[] }, { accessFlags := 2, nameIndex := 35, descriptorIndex := 36, attributes := #[] }, { accessFlags := 2, nameIndex := 19, descriptorIndex := 16, attributes := #[] }])
  fields := #[{ name := "times", type := (.array .long), accessFlags := 2, slot := 0, constantValue := 0 }, { name := "timed", type := .int, accessFlags := 2, slot := 1, constantValue := 0 }, { name := "count", type := .long, accessFlags := 2, slot := 2, constantValue := 0 }, { name := "stopped", type := .boolean, accessFlags := 2, slot := 3, constantValue := 0 }, { name := "stop", type := .long, accessFlags := 2, slot := 4, constantValue := 0 }]
  methods := #[k2m0, k2m1, k2m2, k2m3]
  instanceTypes := #[(.array .long), .int, .long, .boolean, .long]
  staticTypes := #[]
  resolved := Array.replicate 99 none
  statics := none }

def pool3 : Array CpInfo := pool [(1, .methodref 2 3), (0, .class_ 4), (0, .nameAndType 5 6), (0, u "java/lang/Object"), (0, u "<init>"), (0, u "()V"), (0, .fieldref 8 9), (0, .class_ 10), (0, .nameAndType 11 12), (0, u "java/util/OptionalLong"), (0, u "isPresent"), (0, u "Z"), (0, .fieldref 8 14), (0, .nameAndType 15 16), (0, u "value"), (0, u "J"), (0, .fieldref 8 18), (0, .nameAndType 19 20), (0, u "EMPTY"), (0, u "Ljava/util/OptionalLong;"), (0, .methodref 8 22), (0, .nameAndType 5 23), (0, u "(J)V"), (21, u "of"), (3, u "empty"), (5, u "getAsLong"), (0, u "()J"), (39, u "()Ljava/util/OptionalLong;"), (0, u "(J)Ljava/util/OptionalLong;"), (1, u "()Z")] 38

def k3m0 : Method := { name := "<init>", desc := "()V", sig := { parameters := [], returnType := none }, accessFlags := 2, code := none }
def k3c1 : Code := { maxStack := 1, maxLocals := 0, code := jdk_2650_method_2_code, exceptionTable := #[], attributes := #[] }
def k3m1 : Method := { name := "empty", desc := "()Ljava/util/OptionalLong;", sig := { parameters := [], returnType := some (.object "java/util/OptionalLong") }, accessFlags := 9, code := some k3c1 }
def k3c2 : Code := { maxStack := 3, maxLocals := 3, code := jdk_2650_method_3_code, exceptionTable := #[], attributes := #[] }
def k3m2 : Method := { name := "<init>", desc := "(J)V", sig := { parameters := [.long], returnType := none }, accessFlags := 2, code := some k3c2 }
def k3c3 : Code := { maxStack := 4, maxLocals := 2, code := jdk_2650_method_4_code, exceptionTable := #[], attributes := #[] }
def k3m3 : Method := { name := "of", desc := "(J)Ljava/util/OptionalLong;", sig := { parameters := [.long], returnType := some (.object "java/util/OptionalLong") }, accessFlags := 9, code := some k3c3 }
def k3c4 : Code := { maxStack := 3, maxLocals := 1, code := jdk_2650_method_5_code, exceptionTable := #[], attributes := #[] }
def k3m4 : Method := { name := "getAsLong", desc := "()J", sig := { parameters := [], returnType := some .long }, accessFlags := 1, code := some k3c4 }
def k3c5 : Code := { maxStack := 1, maxLocals := 1, code := jdk_2650_method_6_code, exceptionTable := #[], attributes := #[] }
def k3m5 : Method := { name := "isPresent", desc := "()Z", sig := { parameters := [], returnType := some .boolean }, accessFlags := 1, code := some k3c5 }
/-- java/util/OptionalLong -/
def k3 : Class := { plain "java/util/OptionalLong" (some 0) with
  accessFlags := 49
  interfaces := #[]
  cf := some (fileOf pool3 8 #[] #[{ accessFlags := 2, nameIndex := 5, descriptorIndex := 6, attributes := #[] }, { accessFlags := 9, nameIndex := 49, descriptorIndex := 96, attributes := #[] }, { accessFlags := 2, nameIndex := 5, descriptorIndex := 23, attributes := #[] }, { accessFlags := 9, nameIndex := 45, descriptorIndex := 97, attributes := #[] }, { accessFlags := 1, nameIndex := 55, descriptorIndex := 56, attributes := #[] }, { accessFlags := 1, nameIndex := 11, descriptorIndex := 99, attributes := #[] }] 49 2 #[] #[{ accessFlags := 26, nameIndex := 19, descriptorIndex := 20, attributes := #[] }, { accessFlags := 18, nameIndex := 11, descriptorIndex := 12, attributes := #[] }, { accessFlags := 18, nameIndex := 15, descriptorIndex := 16, attributes := #[] }])
  fields := #[{ name := "EMPTY", type := (.object "java/util/OptionalLong"), accessFlags := 26, slot := 0, constantValue := 0 }, { name := "isPresent", type := .boolean, accessFlags := 18, slot := 0, constantValue := 0 }, { name := "value", type := .long, accessFlags := 18, slot := 1, constantValue := 0 }]
  methods := #[k3m0, k3m1, k3m2, k3m3, k3m4, k3m5]
  instanceTypes := #[.boolean, .long]
  staticTypes := #[(.object "java/util/OptionalLong")]
  resolved := Array.replicate 138 none
  statics := some 0 }

def pool4 : Array CpInfo := pool [(1, u "java/lang/Cloneable"), (0, .class_ 1), (0, u "java/lang/Object"), (0, .class_ 3)] 3

/-- java/lang/Cloneable -/
def k4 : Class := { plain "java/lang/Cloneable" (some 0) with
  accessFlags := 1537
  interfaces := #[]
  cf := some (fileOf pool4 2 #[] #[] 1537 4 #[] #[])
  fields := #[]
  methods := #[]
  instanceTypes := #[]
  staticTypes := #[]
  resolved := Array.replicate 8 none
  statics := none }

def pool5 : Array CpInfo := pool [(1, u "java/io/Serializable"), (0, .class_ 1), (0, u "java/lang/Object"), (0, .class_ 3)] 3

/-- java/io/Serializable -/
def k5 : Class := { plain "java/io/Serializable" (some 0) with
  accessFlags := 1537
  interfaces := #[]
  cf := some (fileOf pool5 2 #[] #[] 1537 4 #[] #[])
  fields := #[]
  methods := #[]
  instanceTypes := #[]
  staticTypes := #[]
  resolved := Array.replicate 8 none
  statics := none }

/-- the primitive byte -/
def k6 : Class := { plain "byte" none with kind := .primitive 'B', accessFlags := 0x411 }
/-- [B -/
def k7 : Class := { plain "[B" (some 0) with kind := .array 6 .byte, interfaces := #[4, 5], accessFlags := 1041 }

/-- the primitive int -/
def k8 : Class := { plain "int" none with kind := .primitive 'I', accessFlags := 0x411 }
/-- [I -/
def k9 : Class := { plain "[I" (some 0) with kind := .array 8 .int, interfaces := #[4, 5], accessFlags := 1041 }

/-- the primitive long -/
def k10 : Class := { plain "long" none with kind := .primitive 'J', accessFlags := 0x411 }
/-- [J -/
def k11 : Class := { plain "[J" (some 0) with kind := .array 10 .long, interfaces := #[4, 5], accessFlags := 1041 }

def heap : Heap := #[{ cls := 3, slots := #[.ref 1], vm := .statics 3 },
  { cls := 3, slots := #[.int 0, .long 0], vm := .none }]
def classes : Array Class := #[k0, k1, k2, k3, k4, k5, k6, k7, k8, k9, k10, k11]
def interned : List (Array UInt16 × Addr) := []
def slotsUsed : Nat := 3
def theMethod : MethodId := ⟨1, 3⟩
def args0 : Array Value := #[.long 500, .long 6, .long 7, .int 3]
def aboutOver (below : List Frame) : State where
  vm := { classes := classes, interned := interned.toArray }
  heap := heap
  slotsUsed := slotsUsed
  threads := #[{ frames := .invoking theMethod args0 :: below }]
def below0 : List Frame := [.native { method := ⟨0, 0⟩, args := #[] }]
def about1 : State := aboutOver below0
def p0 : Program := .bare "" "" ""
def e0 : Env := launch0.env 0 0 0
theorem w_frames : about1.frames = Frame.invoking theMethod args0 :: below0 := rfl
set_option maxRecDepth 65536 in
theorem w_args : argsFit about1.vm theMethod args0 = true := by decide +kernel
set_option maxRecDepth 65536 in
theorem w_heap : heapFits about1 = true := by decide +kernel
set_option maxRecDepth 65536 in
theorem w_runnable : about1.curStatus? = some .runnable := by decide +kernel
set_option maxRecDepth 65536 in
theorem w_alone : about1.alone = true := by decide +kernel
set_option maxRecDepth 65536 in
theorem w_named : about1.methodNamed? x = some theMethod := by decide +kernel
set_option maxRecDepth 65536 in
theorem w_hears : about1.hears theMethod below0 = true := by decide +kernel
set_option maxRecDepth 65536 in
theorem w_ripe : about1.ripe theMethod args0 below0 = true := by decide +kernel
theorem w_running : about1.status = .running := rfl
set_option maxRecDepth 65536 in
theorem w_room : about1.hasRoom e0.platform room_1 = true :=
  launch0.hasRoom_least _ room_1 (by decide +kernel) (by decide +kernel) (by decide +kernel) (by decide +kernel) (by decide +kernel) (by decide +kernel)
theorem allAtoms_all (ts : List Jvm.Cond) (a : Array Jvm.Value) (st : Jvm.State) : (allAtoms ts).before a st = ts.all (fun c => c.before a st) := by
  induction ts with
  | nil => rfl
  | cons c t ih =>
    show (Jvm.Cond.and c (allAtoms t)).before a st = _
    rw [Jvm.Cond.before_and, ih, List.all_cons]
def words1 : List Jvm.Cond := Jvm.Cond.code x code maxLocals ret :: tables_1
/-- a 'code' word, met by the world's own term for the bytes: nothing is compared byte by byte -/
theorem code_word {y : MethodName} {bytes : ByteArray} {mx : Nat} {rt : Option FieldType} {a : Array Value} {s : State} {m : MethodId} {meth : Method} {c : Code} (h1 : s.methodNamed? y = some m) (h2 : s.vm.method? m = some meth) (h3 : meth.code = some c) (h4 : c.code = bytes)
    (h5 : (c.maxLocals == mx && c.exceptionTable.isEmpty && decide (c.maxStack ≤ mostOperands) && decide (meth.sig.returnType = rt) && !meth.locks && decide (parseMethodDescriptor y.desc = some meth.sig)) = true) : (Jvm.Cond.code y bytes mx rt).before a s = true := by
  simp only [Bool.and_eq_true, beq_iff_eq, Bool.not_eq_true', decide_eq_true_eq] at h5
  obtain ⟨⟨⟨⟨⟨g1, g2⟩, g3⟩, g4⟩, g5⟩, g6⟩ := h5
  simp [Cond.before, Cond.holds, Cond.value, h1, h2, h3, h4, g1, g2, g3, g4, g5, g6]
def isCode : Jvm.Cond → Bool
  | .code _ _ _ _ => true
  | _ => false
theorem all_split {L : List Jvm.Cond} {P : Jvm.Cond → Bool} (h1 : L.all (fun c => isCode c || P c) = true) (h2 : ∀ c ∈ L.filter isCode, P c = true) : L.all P = true := by
  refine List.all_eq_true.mpr fun c hc => ?_
  have h := List.all_eq_true.mp h1 c hc
  rcases Bool.eq_false_or_eq_true (isCode c) with hi | hi
  · exact h2 c (List.mem_filter.mpr ⟨hc, hi⟩)
  · simpa [hi] using h
set_option maxRecDepth 65536 in
theorem w_c0 : (Jvm.Cond.code x code maxLocals ret).before args0 about1 = true := code_word (m := ⟨1, 3⟩) (meth := k1m3) (c := k1c3) (by decide +kernel) rfl rfl rfl (by decide +kernel)
set_option maxRecDepth 65536 in
theorem w_c1 : (Jvm.Cond.code ({ cls := "com/example/grebe/grebe/bench/Tally", name := "<init>", desc := "()V" } : Jvm.MethodName) prog_2_method_1_code (1 : Nat) (Option.none : Option Jvm.ClassFile.FieldType)).before args0 about1 = true := code_word (m := ⟨2, 0⟩) (meth := k2m0) (c := k2c0) (by decide +kernel) rfl rfl rfl (by decide +kernel)
set_option maxRecDepth 65536 in
theorem w_c2 : (Jvm.Cond.code ({ cls := "java/lang/Object", name := "<init>", desc := "()V" } : Jvm.MethodName) object_method_1_code (1 : Nat) (Option.none : Option Jvm.ClassFile.FieldType)).before args0 about1 = true := code_word (m := ⟨0, 0⟩) (meth := k0m0) (c := k0c0) (by decide +kernel) rfl rfl rfl (by decide +kernel)
set_option maxRecDepth 65536 in
theorem w_c3 : (Jvm.Cond.code ({ cls := "com/example/grebe/grebe/bench/TallyStopPinLaw", name := "matches", desc := "(Lcom/example/grebe/grebe/bench/Tally;ZJ)Z" } : Jvm.MethodName) method_2_code (5 : Nat) (Option.some Jvm.ClassFile.FieldType.boolean)).before args0 about1 = true := code_word (m := ⟨1, 1⟩) (meth := k1m1) (c := k1c1) (by decide +kernel) rfl rfl rfl (by decide +kernel)
set_option maxRecDepth 65536 in
theorem w_c4 : (Jvm.Cond.code ({ cls := "com/example/grebe/grebe/bench/Tally", name := "stopped", desc := "()Ljava/util/OptionalLong;" } : Jvm.MethodName) prog_2_method_7_code (1 : Nat) (Option.some (Jvm.ClassFile.FieldType.object "java/util/OptionalLong"))).before args0 about1 = true := code_word (m := ⟨2, 3⟩) (meth := k2m3) (c := k2c3) (by decide +kernel) rfl rfl rfl (by decide +kernel)
set_option maxRecDepth 65536 in
theorem w_c5 : (Jvm.Cond.code ({ cls := "java/util/OptionalLong", name := "empty", desc := "()Ljava/util/OptionalLong;" } : Jvm.MethodName) jdk_2650_method_2_code (0 : Nat) (Option.some (Jvm.ClassFile.FieldType.object "java/util/OptionalLong"))).before args0 about1 = true := code_word (m := ⟨3, 1⟩) (meth := k3m1) (c := k3c1) (by decide +kernel) rfl rfl rfl (by decide +kernel)
set_option maxRecDepth 65536 in
theorem w_c6 : (Jvm.Cond.code ({ cls := "java/util/OptionalLong", name := "isPresent", desc := "()Z" } : Jvm.MethodName) jdk_2650_method_6_code (1 : Nat) (Option.some Jvm.ClassFile.FieldType.boolean)).before args0 about1 = true := code_word (m := ⟨3, 5⟩) (meth := k3m5) (c := k3c5) (by decide +kernel) rfl rfl rfl (by decide +kernel)
set_option maxRecDepth 65536 in
theorem w_c7 : (Jvm.Cond.code ({ cls := "com/example/grebe/grebe/bench/Tally", name := "stop", desc := "(J)V" } : Jvm.MethodName) prog_2_method_4_code (3 : Nat) (Option.none : Option Jvm.ClassFile.FieldType)).before args0 about1 = true := code_word (m := ⟨2, 1⟩) (meth := k2m1) (c := k2c1) (by decide +kernel) rfl rfl rfl (by decide +kernel)
set_option maxRecDepth 65536 in
theorem w_c8 : (Jvm.Cond.code ({ cls := "java/util/OptionalLong", name := "of", desc := "(J)Ljava/util/OptionalLong;" } : Jvm.MethodName) jdk_2650_method_4_code (2 : Nat) (Option.some (Jvm.ClassFile.FieldType.object "java/util/OptionalLong"))).before args0 about1 = true := code_word (m := ⟨3, 3⟩) (meth := k3m3) (c := k3c3) (by decide +kernel) rfl rfl rfl (by decide +kernel)
set_option maxRecDepth 65536 in
theorem w_c9 : (Jvm.Cond.code ({ cls := "java/util/OptionalLong", name := "<init>", desc := "(J)V" } : Jvm.MethodName) jdk_2650_method_3_code (3 : Nat) (Option.none : Option Jvm.ClassFile.FieldType)).before args0 about1 = true := code_word (m := ⟨3, 2⟩) (meth := k3m2) (c := k3c2) (by decide +kernel) rfl rfl rfl (by decide +kernel)
set_option maxRecDepth 65536 in
theorem w_c10 : (Jvm.Cond.code ({ cls := "java/util/OptionalLong", name := "getAsLong", desc := "()J" } : Jvm.MethodName) jdk_2650_method_5_code (1 : Nat) (Option.some Jvm.ClassFile.FieldType.long)).before args0 about1 = true := code_word (m := ⟨3, 4⟩) (meth := k3m4) (c := k3c4) (by decide +kernel) rfl rfl rfl (by decide +kernel)
set_option maxRecDepth 65536 in
theorem w_c11 : (Jvm.Cond.code ({ cls := "com/example/grebe/grebe/bench/Tally", name := "count", desc := "()J" } : Jvm.MethodName) prog_2_method_6_code (1 : Nat) (Option.some Jvm.ClassFile.FieldType.long)).before args0 about1 = true := code_word (m := ⟨2, 2⟩) (meth := k2m2) (c := k2c2) (by decide +kernel) rfl rfl rfl (by decide +kernel)
set_option maxRecDepth 65536 in
theorem w_c12 : (Jvm.Cond.code ({ cls := "com/example/grebe/grebe/bench/TallyStopPinLaw", name := "laterThan", desc := "(JJ)Z" } : Jvm.MethodName) method_3_code (6 : Nat) (Option.some Jvm.ClassFile.FieldType.boolean)).before args0 about1 = true := code_word (m := ⟨1, 2⟩) (meth := k1m2) (c := k1c2) (by decide +kernel) rfl rfl rfl (by decide +kernel)
def codes1 : List Jvm.Cond := [Jvm.Cond.code x code maxLocals ret, Jvm.Cond.code ({ cls := "com/example/grebe/grebe/bench/Tally", name := "<init>", desc := "()V" } : Jvm.MethodName) prog_2_method_1_code (1 : Nat) (Option.none : Option Jvm.ClassFile.FieldType), Jvm.Cond.code ({ cls := "java/lang/Object", name := "<init>", desc := "()V" } : Jvm.MethodName) object_method_1_code (1 : Nat) (Option.none : Option Jvm.ClassFile.FieldType), Jvm.Cond.code ({ cls := "com/example/grebe/grebe/bench/TallyStopPinLaw", name := "matches", desc := "(Lcom/example/grebe/grebe/bench/Tally;ZJ)Z" } : Jvm.MethodName) method_2_code (5 : Nat) (Option.some Jvm.ClassFile.FieldType.boolean), Jvm.Cond.code ({ cls := "com/example/grebe/grebe/bench/Tally", name := "stopped", desc := "()Ljava/util/OptionalLong;" } : Jvm.MethodName) prog_2_method_7_code (1 : Nat) (Option.some (Jvm.ClassFile.FieldType.object "java/util/OptionalLong")), Jvm.Cond.code ({ cls := "java/util/OptionalLong", name := "empty", desc := "()Ljava/util/OptionalLong;" } : Jvm.MethodName) jdk_2650_method_2_code (0 : Nat) (Option.some (Jvm.ClassFile.FieldType.object "java/util/OptionalLong")), Jvm.Cond.code ({ cls := "java/util/OptionalLong", name := "isPresent", desc := "()Z" } : Jvm.MethodName) jdk_2650_method_6_code (1 : Nat) (Option.some Jvm.ClassFile.FieldType.boolean), Jvm.Cond.code ({ cls := "com/example/grebe/grebe/bench/Tally", name := "stop", desc := "(J)V" } : Jvm.MethodName) prog_2_method_4_code (3 : Nat) (Option.none : Option Jvm.ClassFile.FieldType), Jvm.Cond.code ({ cls := "java/util/OptionalLong", name := "of", desc := "(J)Ljava/util/OptionalLong;" } : Jvm.MethodName) jdk_2650_method_4_code (2 : Nat) (Option.some (Jvm.ClassFile.FieldType.object "java/util/OptionalLong")), Jvm.Cond.code ({ cls := "java/util/OptionalLong", name := "<init>", desc := "(J)V" } : Jvm.MethodName) jdk_2650_method_3_code (3 : Nat) (Option.none : Option Jvm.ClassFile.FieldType), Jvm.Cond.code ({ cls := "java/util/OptionalLong", name := "getAsLong", desc := "()J" } : Jvm.MethodName) jdk_2650_method_5_code (1 : Nat) (Option.some Jvm.ClassFile.FieldType.long), Jvm.Cond.code ({ cls := "com/example/grebe/grebe/bench/Tally", name := "count", desc := "()J" } : Jvm.MethodName) prog_2_method_6_code (1 : Nat) (Option.some Jvm.ClassFile.FieldType.long), Jvm.Cond.code ({ cls := "com/example/grebe/grebe/bench/TallyStopPinLaw", name := "laterThan", desc := "(JJ)Z" } : Jvm.MethodName) method_3_code (6 : Nat) (Option.some Jvm.ClassFile.FieldType.boolean)]
set_option maxRecDepth 65536 in
theorem codes_eq : words1.filter isCode = codes1 := rfl
theorem w_codes : ∀ c ∈ words1.filter isCode, c.before args0 about1 = true := by
  rw [codes_eq]
  intro c hc
  simp only [codes1, List.mem_cons, List.not_mem_nil, or_false] at hc
  rcases hc with rfl | rfl | rfl | rfl | rfl | rfl | rfl | rfl | rfl | rfl | rfl | rfl | rfl
  · exact w_c0
  · exact w_c1
  · exact w_c2
  · exact w_c3
  · exact w_c4
  · exact w_c5
  · exact w_c6
  · exact w_c7
  · exact w_c8
  · exact w_c9
  · exact w_c10
  · exact w_c11
  · exact w_c12
set_option maxRecDepth 65536 in
theorem w_t1 : (words1.take 24).all (fun c => isCode c || c.before args0 about1) = true := by decide +kernel
set_option maxRecDepth 65536 in
theorem w_t2 : ((words1.drop 24).take 24).all (fun c => isCode c || c.before args0 about1) = true := by decide +kernel
set_option maxRecDepth 65536 in
theorem w_t3 : ((words1.drop 24).drop 24).all (fun c => isCode c || c.before args0 about1) = true := by decide +kernel
theorem w_tables : (allAtoms (Jvm.Cond.code x code maxLocals ret :: tables_1)).before args0 about1 = true := by
  rw [allAtoms_all]
  show words1.all (fun c => c.before args0 about1) = true
  refine all_split ?_ w_codes
  rw [← List.take_append_drop 24 words1, List.all_append, w_t1, ← List.take_append_drop 24 (words1.drop 24), List.all_append, w_t2, w_t3]
  rfl
set_option maxRecDepth 65536 in
theorem w_rest : rest_1_c.before args0 about1 = true := by decide +kernel
set_option maxRecDepth 65536 in
theorem w_case : (Jvm.Cond.and given_1 narrow_1).before args0 about1 = true := by decide +kernel
theorem w_applies : (headSpec (Jvm.Cond.code x code maxLocals ret :: tables_1) room_1).applies x e0.platform about1 = true :=
  (Spec.applies_iff w_frames).mpr ⟨w_running, w_runnable, w_alone, w_named, w_hears, w_ripe, w_room, w_tables⟩
theorem atStart : AtStart classFile x code maxLocals ret World_1 tables_1 room_1 Calls_1 rest_1 Pre_1 launch0 p0 e0 about1 theMethod args0 below0 :=
  ⟨lists_1, trivial, launch0.admits_env _ _ _, launch0.least_env, fairChoices_fair.cas, fairChoices_fair.clock, w_frames, w_args, w_heap, w_applies, trivial, w_rest, w_case⟩
end start1
theorem witness_1 : WitnessClaimed_1 := ⟨start1.p0, start1.e0, start1.about1, start1.theMethod, start1.args0, start1.below0, start1.atStart⟩
end Jvm.Pilot.@@N@@
