import JvmDerived
import JvmDerived.Pilot.@@N@@Statement
import JvmDerived.Pilot.@@N@@Code
set_option linter.unusedVariables false
set_option linter.unusedSimpArgs false
namespace Jvm.RoadKit
open Sem ClassFile Op Lib Jvm.Stand Jvm.Free Jvm.LawKit
section New
variable {p : Program} {l : Launch} {e : Env} {R : Room} {s : State} {m : MethodId} {args : Array Value} {below : List Frame} {meth : Method} {c : Code} {T : State} {locs : List Loc} {cells slots : Nat}
theorem retI (X : Stand p l e R s m args below meth c T locs cells slots) (hx : p.tables.exec = Jvm.exec) {pc : Nat} {Ls : Array Slot} {z : Int32} {rest : List Value} (hret : meth.sig.returnType = some .int) (hd : decode c.code pc = .ok (.ireturn, 1)) {fs : List Frame}
    (hl : ∀ (f : JFrame) (acts : List Action), f.method = m → f.locked = none → f.entered = [] → (doReturn e (T.setTop f) acts (some (.int z))).1 = T.setFrames fs) : Steps p.tables e below (T.setTop (mkF m pc Ls (.int z :: rest))) (T.setFrames fs) := by
  have hm' : T.vm.method? m = some meth := X.method'
  have hn : narrow .int (.int z) = .int z := rfl
  show Steps p.tables e below (T.setTop { method := m, pc := pc, locals := Ls, stack := _ :: rest, locked := none }) _
  jvm_step X.here [X.here.top, hx, hd, hm', hret, hn]
  first | (intro acts; rw [hl _ acts rfl rfl rfl]) | rw [hl _ _ rfl rfl rfl]
  exact Steps.refl _
end New
end Jvm.RoadKit
namespace Jvm.Pilot.@@N@@
open Jvm Jvm.ClassFile Sem Op Lib Jvm.Free Jvm.Stand Jvm.LawKit Jvm.RoadKit Bundle Jvm.Pilot.@@N@@.Jvm.D
theorem own_staK {Z : State} {h h' : Heap} {C n d : String} {v : Value} {ws : List Addr} (F : Sta Z h C n d v) (K : Keep h h' ws) (q : ∀ x ∈ ws, ∃ C', Exa Z h x C') : Sta Z h' C n d v := by
  obtain ⟨cf, i, k, f, st, cell, h1, h2, h3, h4, h5, h6, r⟩ := F
  refine ⟨cf, i, k, f, st, cell, h1, h2, h3, h4, K.2.1 _ _ h5 (fun hm => ?_), h6, r⟩
  obtain ⟨C', cell', k', e1, -, -, e4, -⟩ := q _ hm
  cases h5.symm.trans e1
  rw [h6] at e4; cases e4
theorem own_eqI {args : Array Value} {first s : State} {o : Option Outcome} {idx : List Nat} {a : Term} {n : Int32} (h : (Jvm.Cond.eq a (Term.int n)).value args first o s idx = some true) : a.eval args first o idx s = some (.int n) := by
  obtain ⟨x, y, h1, h2, -, -⟩ := cmp_v (Or.inl h)
  cases h2.symm.trans (Term.int_eval n)
  cases x <;> simp [Cond.value, h1, h2] at h
  rw [h1, h]
theorem own_eqR {args : Array Value} {first s : State} {o : Option Outcome} {idx : List Nat} {a b : Term} {x : Addr} (h : (Jvm.Cond.eq a b).value args first o s idx = some true) (hb : b.eval args first o idx s = some (.ref x)) : a.eval args first o idx s = some (.ref x) := by
  obtain ⟨u, y, h1, h2, -, -⟩ := cmp_v (Or.inl h)
  cases h2.symm.trans hb
  cases u <;> simp [Cond.value, h1, h2] at h
  rw [h1, h]
theorem own_eqL {args : Array Value} {first s : State} {o : Option Outcome} {idx : List Nat} {a : Term} {n : Int64} (h : (Jvm.Cond.eq a (Term.long n)).value args first o s idx = some true) : a.eval args first o idx s = some (.long n) := by
  obtain ⟨x, y, h1, h2, -, -⟩ := cmp_v (Or.inl h)
  cases h2.symm.trans (long_at n)
  cases x <;> simp [Cond.value, h1, h2] at h
  rw [h1, h]
theorem own_c0 (x : Int32) : ((x &&& (2147483647 : Int32)) % (17 : Int32)) = (0 : Int32) ∨ ((x &&& (2147483647 : Int32)) % (17 : Int32)) = (1 : Int32) ∨ ((x &&& (2147483647 : Int32)) % (17 : Int32)) = (2 : Int32) ∨ ((x &&& (2147483647 : Int32)) % (17 : Int32)) = (3 : Int32) ∨ ((x &&& (2147483647 : Int32)) % (17 : Int32)) = (4 : Int32) ∨ ((x &&& (2147483647 : Int32)) % (17 : Int32)) = (5 : Int32) ∨ ((x &&& (2147483647 : Int32)) % (17 : Int32)) = (6 : Int32) ∨ ((x &&& (2147483647 : Int32)) % (17 : Int32)) = (7 : Int32) ∨ ((x &&& (2147483647 : Int32)) % (17 : Int32)) = (8 : Int32) ∨ ((x &&& (2147483647 : Int32)) % (17 : Int32)) = (9 : Int32) ∨ ((x &&& (2147483647 : Int32)) % (17 : Int32)) = (10 : Int32) ∨ ((x &&& (2147483647 : Int32)) % (17 : Int32)) = (11 : Int32) ∨ ((x &&& (2147483647 : Int32)) % (17 : Int32)) = (12 : Int32) ∨ ((x &&& (2147483647 : Int32)) % (17 : Int32)) = (13 : Int32) ∨ ((x &&& (2147483647 : Int32)) % (17 : Int32)) = (14 : Int32) ∨ ((x &&& (2147483647 : Int32)) % (17 : Int32)) = (15 : Int32) ∨ ((x &&& (2147483647 : Int32)) % (17 : Int32)) = (16 : Int32) := by
  have h1 := (c_and x (2147483647 : Int32) (by decide)).1
  have h2 := (c_irem (x &&& (2147483647 : Int32)) (17 : Int32) 17 (by decide)).1 h1
  have h9 : (((x &&& (2147483647 : Int32)) % (17 : Int32))).toInt = 0 ∨ (((x &&& (2147483647 : Int32)) % (17 : Int32))).toInt = 1 ∨ (((x &&& (2147483647 : Int32)) % (17 : Int32))).toInt = 2 ∨ (((x &&& (2147483647 : Int32)) % (17 : Int32))).toInt = 3 ∨ (((x &&& (2147483647 : Int32)) % (17 : Int32))).toInt = 4 ∨ (((x &&& (2147483647 : Int32)) % (17 : Int32))).toInt = 5 ∨ (((x &&& (2147483647 : Int32)) % (17 : Int32))).toInt = 6 ∨ (((x &&& (2147483647 : Int32)) % (17 : Int32))).toInt = 7 ∨ (((x &&& (2147483647 : Int32)) % (17 : Int32))).toInt = 8 ∨ (((x &&& (2147483647 : Int32)) % (17 : Int32))).toInt = 9 ∨ (((x &&& (2147483647 : Int32)) % (17 : Int32))).toInt = 10 ∨ (((x &&& (2147483647 : Int32)) % (17 : Int32))).toInt = 11 ∨ (((x &&& (2147483647 : Int32)) % (17 : Int32))).toInt = 12 ∨ (((x &&& (2147483647 : Int32)) % (17 : Int32))).toInt = 13 ∨ (((x &&& (2147483647 : Int32)) % (17 : Int32))).toInt = 14 ∨ (((x &&& (2147483647 : Int32)) % (17 : Int32))).toInt = 15 ∨ (((x &&& (2147483647 : Int32)) % (17 : Int32))).toInt = 16 := by omega
  rcases h9 with q | q | q | q | q | q | q | q | q | q | q | q | q | q | q | q | q
  · exact Or.inl (Int32.toInt_inj.mp (q.trans (by decide)))
  · exact Or.inr (Or.inl (Int32.toInt_inj.mp (q.trans (by decide))))
  · exact Or.inr (Or.inr (Or.inl (Int32.toInt_inj.mp (q.trans (by decide)))))
  · exact Or.inr (Or.inr (Or.inr (Or.inl (Int32.toInt_inj.mp (q.trans (by decide))))))
  · exact Or.inr (Or.inr (Or.inr (Or.inr (Or.inl (Int32.toInt_inj.mp (q.trans (by decide)))))))
  · exact Or.inr (Or.inr (Or.inr (Or.inr (Or.inr (Or.inl (Int32.toInt_inj.mp (q.trans (by decide))))))))
  · exact Or.inr (Or.inr (Or.inr (Or.inr (Or.inr (Or.inr (Or.inl (Int32.toInt_inj.mp (q.trans (by decide)))))))))
  · exact Or.inr (Or.inr (Or.inr (Or.inr (Or.inr (Or.inr (Or.inr (Or.inl (Int32.toInt_inj.mp (q.trans (by decide))))))))))
  · exact Or.inr (Or.inr (Or.inr (Or.inr (Or.inr (Or.inr (Or.inr (Or.inr (Or.inl (Int32.toInt_inj.mp (q.trans (by decide)))))))))))
  · exact Or.inr (Or.inr (Or.inr (Or.inr (Or.inr (Or.inr (Or.inr (Or.inr (Or.inr (Or.inl (Int32.toInt_inj.mp (q.trans (by decide))))))))))))
  · exact Or.inr (Or.inr (Or.inr (Or.inr (Or.inr (Or.inr (Or.inr (Or.inr (Or.inr (Or.inr (Or.inl (Int32.toInt_inj.mp (q.trans (by decide)))))))))))))
  · exact Or.inr (Or.inr (Or.inr (Or.inr (Or.inr (Or.inr (Or.inr (Or.inr (Or.inr (Or.inr (Or.inr (Or.inl (Int32.toInt_inj.mp (q.trans (by decide))))))))))))))
  · exact Or.inr (Or.inr (Or.inr (Or.inr (Or.inr (Or.inr (Or.inr (Or.inr (Or.inr (Or.inr (Or.inr (Or.inr (Or.inl (Int32.toInt_inj.mp (q.trans (by decide)))))))))))))))
  · exact Or.inr (Or.inr (Or.inr (Or.inr (Or.inr (Or.inr (Or.inr (Or.inr (Or.inr (Or.inr (Or.inr (Or.inr (Or.inr (Or.inl (Int32.toInt_inj.mp (q.trans (by decide))))))))))))))))
  · exact Or.inr (Or.inr (Or.inr (Or.inr (Or.inr (Or.inr (Or.inr (Or.inr (Or.inr (Or.inr (Or.inr (Or.inr (Or.inr (Or.inr (Or.inl (Int32.toInt_inj.mp (q.trans (by decide)))))))))))))))))
  · exact Or.inr (Or.inr (Or.inr (Or.inr (Or.inr (Or.inr (Or.inr (Or.inr (Or.inr (Or.inr (Or.inr (Or.inr (Or.inr (Or.inr (Or.inr (Or.inl (Int32.toInt_inj.mp (q.trans (by decide))))))))))))))))))
  · exact Or.inr (Or.inr (Or.inr (Or.inr (Or.inr (Or.inr (Or.inr (Or.inr (Or.inr (Or.inr (Or.inr (Or.inr (Or.inr (Or.inr (Or.inr (Or.inr (Int32.toInt_inj.mp (q.trans (by decide))))))))))))))))))
theorem d1_0 : decode prog_4_method_6_code 0 = .ok (.aload_n 0, 1) := by decide +kernel
theorem d1_1 : decode prog_4_method_6_code 1 = .ok (.getfield 74, 3) := by decide +kernel
theorem d1_4 : decode prog_4_method_6_code 4 = .ok (.getstatic 111, 3) := by decide +kernel
theorem d1_7 : decode prog_4_method_6_code 7 = .ok (.if_acmp .ne 7, 3) := by decide +kernel
theorem d1_14 : decode prog_4_method_6_code 14 = .ok (.iconst 0, 1) := by decide +kernel
theorem d1_15 : decode prog_4_method_6_code 15 = .ok (.ireturn, 1) := by decide +kernel
theorem pn_0 : plainName "com/example/garm/garm/command/Option" = true := by first | (simp [plainName, overriddenIn]; done) | decide +kernel
theorem ef_rm1_0 (m : MethodId) (x0 : Addr) : entryFrame m #[(.ref x0)] 1 = mkF m 0 #[.val (.ref x0)] [] := by first | (simp [entryFrame, mkF, argsToLocals, Value.category]; done) | rfl
def Q1_0 (Z : State) (w_POD : Addr) (w_VALUE : Addr) (w_REPEATED_VALUE : Addr) (h0 : Heap) (n0 : Nat) (v : Option Value) (h : Heap) (L : List Loc) : Prop := v = some (.int (0 : Int32)) ∧ Fr n0 L ∧ h = h0
set_option maxRecDepth 65536 in
set_option maxHeartbeats 40000000 in
theorem rm1_0 (l : Launch) (Z : State) (a0 : Array Value) (hw : ∀ d ∈ tables_1, d.before a0 Z = true) (ws : List Jvm.Cond) (w_POD : Addr) (w_VALUE : Addr) (w_REPEATED_VALUE : Addr) (h0 : Heap) (n0 : Nat) (Z0 : n0 ≤ h0.size) (F_form_POD : Fld Z h0 w_POD "com/example/garm/garm/command/Option" "form" "Lcom/example/garm/garm/command/Option$Form;" (.ref w_VALUE)) (S_REPEATED_VALUE : Sta Z h0 "com/example/garm/garm/command/Option$Form" "REPEATED_VALUE" "Lcom/example/garm/garm/command/Option$Form;" (.ref w_REPEATED_VALUE)) (ne_REPEATED_VALUE_VALUE : w_REPEATED_VALUE ≠ w_VALUE) :
    MetFree l (⟨"com/example/garm/garm/command/Option", "isRepeatable", "()Z"⟩ : MethodName) (head1 (Jvm.Cond.code (⟨"com/example/garm/garm/command/Option", "isRepeatable", "()Z"⟩ : MethodName) prog_4_method_6_code 1 (some .boolean) :: ws) ({ frames := 0, cells := 0, slots := 0, locals := 0 } : Room)) (fun a U => a = #[(.ref w_POD)] ∧ Z.Warmed39 U.vm ∧ U.heap = h0) (fun _ _ _ _ _ => True) (fun _ U o U' => ∃ v L, o = .returned v ∧ Q1_0 Z w_POD w_VALUE w_REPEATED_VALUE h0 n0 v U'.heap L ∧ FrameEnd U o U' L ({ frames := 0, cells := 0, slots := 0, locals := 0 } : Room).cells ({ frames := 0, cells := 0, slots := 0, locals := 0 } : Room).slots) := by
  refine MetFree.of_bodySF (plainFor_of_name pn_0) hisR ?_
  intro p e s m args below meth c s₁ Bd hml0 hP hK
  obtain ⟨rfl, hZ, hh⟩ := hP
  have hx := Bd.exec
  have hby := Bd.bytes
  have hml : c.maxLocals = 1 := hml0
  have hown : s.vm.findClass "com/example/garm/garm/command/Option" = some m.cls := findClass_of_methodNamed Bd.named
  have hnm := (name_of_methodNamed Bd.named Bd.method).1
  have X0 : Stand p l e ({ frames := 0, cells := 0, slots := 0, locals := 0 } : Room) s m #[(.ref w_POD)] below meth c s₁ [] 0 0 := Stand.of_body Bd
  have e0 : s₁.heap = h0 := by rw [← hh, Bd.state]; rfl
  have N0 := Fr.nil n0
  have pre0 : ∀ t, Steps p.tables e below (s₁.setTop (mkF m 0 #[.val (.ref w_POD)] [])) t → Steps p.tables e below (s₁.setTop (entryFrame m #[(.ref w_POD)] 1)) t := fun t k => castTop (ef_rm1_0 m w_POD) k
  obtain ⟨T1, X1, e1, st1⟩ := getF X0 hx hZ hown (host := "") (Or.inl (hw _ (List.mem_of_getElem? (i := 44) rfl))) Via.refl e0 F_form_POD (g := (mkF m 1 #[.val (.ref w_POD)] [(.ref w_POD)])) rfl rfl (hb hby d1_1)
  obtain ⟨T2, X2, e2, st2⟩ := getS2 X1 hx hZ hown (host := "") (Or.inl (hw _ (List.mem_of_getElem? (i := 48) rfl))) Via.refl e1 S_REPEATED_VALUE (g := (mkF m 4 #[.val (.ref w_POD)] [(.ref w_VALUE)])) rfl (hb hby d1_4)
  obtain ⟨fs, hr, hrun, hended, hW, hsame⟩ := X2.leave (v := some (.int (0 : Int32))) (fun h => by rw [Bd.returns] at h; cases h)
  refine ⟨_, _, pre0 _ ?_, hrun, hended, _, _, rfl, ?_, ⟨_, rfl⟩, hW, hsame.mono (by decide) (by decide)⟩
  ·
    show Steps p.tables e below (s₁.setTop (mkF m 0 #[.val (.ref w_POD)] [])) _
    refine XS.aloadN X0.here hx rfl (hb hby d1_0) rfl rfl ?_
    show Steps p.tables e below (s₁.setTop (mkF m 1 #[.val (.ref w_POD)] [(.ref w_POD)])) _
    refine st1 _ ?_
    show Steps p.tables e below (T1.setTop (mkF m 4 #[.val (.ref w_POD)] [(.ref w_VALUE)])) _
    refine st2 _ ?_
    show Steps p.tables e below (T2.setTop (mkF m 7 #[.val (.ref w_POD)] [(.ref w_REPEATED_VALUE), (.ref w_VALUE)])) _
    refine Jvm.RoadKit.acmp (g := (mkF m 7 #[.val (.ref w_POD)] [(.ref w_REPEATED_VALUE), (.ref w_VALUE)])) X2 hx rfl rfl rfl (pc0 := 7) (pc' := 14) (same := false) rfl (hb hby d1_7) rfl (decide_eq_false fun q => (Ne.symm ne_REPEATED_VALUE_VALUE) (Value.ref.inj q)) (by decide) (by decide) ?_
    show Steps p.tables e below (T2.setTop (mkF m 14 #[.val (.ref w_POD)] [])) _
    refine XS.iconst X2.here hx rfl (hb hby d1_14) ?_
    show Steps p.tables e below (T2.setTop (mkF m 15 #[.val (.ref w_POD)] [(.int (0 : Int32))])) _
    exact retN X2 hx (t := .boolean) Bd.returns (by simp) (hb hby d1_15) hr
  · show Q1_0 Z w_POD w_VALUE w_REPEATED_VALUE h0 n0 _ T2.heap _
    rw [e2]
    exact ⟨rfl, N0, rfl⟩
theorem pd_0 : parseMethodDescriptor "()Z" = some ⟨[], some .boolean⟩ := by decide +kernel
theorem ef_rm1_1 (m : MethodId) (x0 : Addr) : entryFrame m #[(.ref x0)] 1 = mkF m 0 #[.val (.ref x0)] [] := by first | (simp [entryFrame, mkF, argsToLocals, Value.category]; done) | rfl
def Q1_1 (Z : State) (w_BASE : Addr) (w_VALUE : Addr) (w_REPEATED_VALUE : Addr) (h0 : Heap) (n0 : Nat) (v : Option Value) (h : Heap) (L : List Loc) : Prop := v = some (.int (0 : Int32)) ∧ Fr n0 L ∧ h = h0
set_option maxRecDepth 65536 in
set_option maxHeartbeats 40000000 in
theorem rm1_1 (l : Launch) (Z : State) (a0 : Array Value) (hw : ∀ d ∈ tables_1, d.before a0 Z = true) (ws : List Jvm.Cond) (w_BASE : Addr) (w_VALUE : Addr) (w_REPEATED_VALUE : Addr) (h0 : Heap) (n0 : Nat) (Z0 : n0 ≤ h0.size) (F_form_BASE : Fld Z h0 w_BASE "com/example/garm/garm/command/Option" "form" "Lcom/example/garm/garm/command/Option$Form;" (.ref w_VALUE)) (S_REPEATED_VALUE : Sta Z h0 "com/example/garm/garm/command/Option$Form" "REPEATED_VALUE" "Lcom/example/garm/garm/command/Option$Form;" (.ref w_REPEATED_VALUE)) (ne_REPEATED_VALUE_VALUE : w_REPEATED_VALUE ≠ w_VALUE) :
    MetFree l (⟨"com/example/garm/garm/command/Option", "isRepeatable", "()Z"⟩ : MethodName) (head1 (Jvm.Cond.code (⟨"com/example/garm/garm/command/Option", "isRepeatable", "()Z"⟩ : MethodName) prog_4_method_6_code 1 (some .boolean) :: ws) ({ frames := 0, cells := 0, slots := 0, locals := 0 } : Room)) (fun a U => a = #[(.ref w_BASE)] ∧ Z.Warmed39 U.vm ∧ U.heap = h0) (fun _ _ _ _ _ => True) (fun _ U o U' => ∃ v L, o = .returned v ∧ Q1_1 Z w_BASE w_VALUE w_REPEATED_VALUE h0 n0 v U'.heap L ∧ FrameEnd U o U' L ({ frames := 0, cells := 0, slots := 0, locals := 0 } : Room).cells ({ frames := 0, cells := 0, slots := 0, locals := 0 } : Room).slots) := by
  refine MetFree.of_bodySF (plainFor_of_name pn_0) hisR ?_
  intro p e s m args below meth c s₁ Bd hml0 hP hK
  obtain ⟨rfl, hZ, hh⟩ := hP
  have hx := Bd.exec
  have hby := Bd.bytes
  have hml : c.maxLocals = 1 := hml0
  have hown : s.vm.findClass "com/example/garm/garm/command/Option" = some m.cls := findClass_of_methodNamed Bd.named
  have hnm := (name_of_methodNamed Bd.named Bd.method).1
  have X0 : Stand p l e ({ frames := 0, cells := 0, slots := 0, locals := 0 } : Room) s m #[(.ref w_BASE)] below meth c s₁ [] 0 0 := Stand.of_body Bd
  have e0 : s₁.heap = h0 := by rw [← hh, Bd.state]; rfl
  have N0 := Fr.nil n0
  have pre0 : ∀ t, Steps p.tables e below (s₁.setTop (mkF m 0 #[.val (.ref w_BASE)] [])) t → Steps p.tables e below (s₁.setTop (entryFrame m #[(.ref w_BASE)] 1)) t := fun t k => castTop (ef_rm1_1 m w_BASE) k
  obtain ⟨T1, X1, e1, st1⟩ := getF X0 hx hZ hown (host := "") (Or.inl (hw _ (List.mem_of_getElem? (i := 44) rfl))) Via.refl e0 F_form_BASE (g := (mkF m 1 #[.val (.ref w_BASE)] [(.ref w_BASE)])) rfl rfl (hb hby d1_1)
  obtain ⟨T2, X2, e2, st2⟩ := getS2 X1 hx hZ hown (host := "") (Or.inl (hw _ (List.mem_of_getElem? (i := 48) rfl))) Via.refl e1 S_REPEATED_VALUE (g := (mkF m 4 #[.val (.ref w_BASE)] [(.ref w_VALUE)])) rfl (hb hby d1_4)
  obtain ⟨fs, hr, hrun, hended, hW, hsame⟩ := X2.leave (v := some (.int (0 : Int32))) (fun h => by rw [Bd.returns] at h; cases h)
  refine ⟨_, _, pre0 _ ?_, hrun, hended, _, _, rfl, ?_, ⟨_, rfl⟩, hW, hsame.mono (by decide) (by decide)⟩
  ·
    show Steps p.tables e below (s₁.setTop (mkF m 0 #[.val (.ref w_BASE)] [])) _
    refine XS.aloadN X0.here hx rfl (hb hby d1_0) rfl rfl ?_
    show Steps p.tables e below (s₁.setTop (mkF m 1 #[.val (.ref w_BASE)] [(.ref w_BASE)])) _
    refine st1 _ ?_
    show Steps p.tables e below (T1.setTop (mkF m 4 #[.val (.ref w_BASE)] [(.ref w_VALUE)])) _
    refine st2 _ ?_
    show Steps p.tables e below (T2.setTop (mkF m 7 #[.val (.ref w_BASE)] [(.ref w_REPEATED_VALUE), (.ref w_VALUE)])) _
    refine Jvm.RoadKit.acmp (g := (mkF m 7 #[.val (.ref w_BASE)] [(.ref w_REPEATED_VALUE), (.ref w_VALUE)])) X2 hx rfl rfl rfl (pc0 := 7) (pc' := 14) (same := false) rfl (hb hby d1_7) rfl (decide_eq_false fun q => (Ne.symm ne_REPEATED_VALUE_VALUE) (Value.ref.inj q)) (by decide) (by decide) ?_
    show Steps p.tables e below (T2.setTop (mkF m 14 #[.val (.ref w_BASE)] [])) _
    refine XS.iconst X2.here hx rfl (hb hby d1_14) ?_
    show Steps p.tables e below (T2.setTop (mkF m 15 #[.val (.ref w_BASE)] [(.int (0 : Int32))])) _
    exact retN X2 hx (t := .boolean) Bd.returns (by simp) (hb hby d1_15) hr
  · show Q1_1 Z w_BASE w_VALUE w_REPEATED_VALUE h0 n0 _ T2.heap _
    rw [e2]
    exact ⟨rfl, N0, rfl⟩
theorem ef_rm1_2 (m : MethodId) (x0 : Addr) : entryFrame m #[(.ref x0)] 1 = mkF m 0 #[.val (.ref x0)] [] := by first | (simp [entryFrame, mkF, argsToLocals, Value.category]; done) | rfl
def Q1_2 (Z : State) (w_RESOURCE : Addr) (w_VALUE : Addr) (w_REPEATED_VALUE : Addr) (h0 : Heap) (n0 : Nat) (v : Option Value) (h : Heap) (L : List Loc) : Prop := v = some (.int (0 : Int32)) ∧ Fr n0 L ∧ h = h0
set_option maxRecDepth 65536 in
set_option maxHeartbeats 40000000 in
theorem rm1_2 (l : Launch) (Z : State) (a0 : Array Value) (hw : ∀ d ∈ tables_1, d.before a0 Z = true) (ws : List Jvm.Cond) (w_RESOURCE : Addr) (w_VALUE : Addr) (w_REPEATED_VALUE : Addr) (h0 : Heap) (n0 : Nat) (Z0 : n0 ≤ h0.size) (F_form_RESOURCE : Fld Z h0 w_RESOURCE "com/example/garm/garm/command/Option" "form" "Lcom/example/garm/garm/command/Option$Form;" (.ref w_VALUE)) (S_REPEATED_VALUE : Sta Z h0 "com/example/garm/garm/command/Option$Form" "REPEATED_VALUE" "Lcom/example/garm/garm/command/Option$Form;" (.ref w_REPEATED_VALUE)) (ne_REPEATED_VALUE_VALUE : w_REPEATED_VALUE ≠ w_VALUE) :
    MetFree l (⟨"com/example/garm/garm/command/Option", "isRepeatable", "()Z"⟩ : MethodName) (head1 (Jvm.Cond.code (⟨"com/example/garm/garm/command/Option", "isRepeatable", "()Z"⟩ : MethodName) prog_4_method_6_code 1 (some .boolean) :: ws) ({ frames := 0, cells := 0, slots := 0, locals := 0 } : Room)) (fun a U => a = #[(.ref w_RESOURCE)] ∧ Z.Warmed39 U.vm ∧ U.heap = h0) (fun _ _ _ _ _ => True) (fun _ U o U' => ∃ v L, o = .returned v ∧ Q1_2 Z w_RESOURCE w_VALUE w_REPEATED_VALUE h0 n0 v U'.heap L ∧ FrameEnd U o U' L ({ frames := 0, cells := 0, slots := 0, locals := 0 } : Room).cells ({ frames := 0, cells := 0, slots := 0, locals := 0 } : Room).slots) := by
  refine MetFree.of_bodySF (plainFor_of_name pn_0) hisR ?_
  intro p e s m args below meth c s₁ Bd hml0 hP hK
  obtain ⟨rfl, hZ, hh⟩ := hP
  have hx := Bd.exec
  have hby := Bd.bytes
  have hml : c.maxLocals = 1 := hml0
  have hown : s.vm.findClass "com/example/garm/garm/command/Option" = some m.cls := findClass_of_methodNamed Bd.named
  have hnm := (name_of_methodNamed Bd.named Bd.method).1
  have X0 : Stand p l e ({ frames := 0, cells := 0, slots := 0, locals := 0 } : Room) s m #[(.ref w_RESOURCE)] below meth c s₁ [] 0 0 := Stand.of_body Bd
  have e0 : s₁.heap = h0 := by rw [← hh, Bd.state]; rfl
  have N0 := Fr.nil n0
  have pre0 : ∀ t, Steps p.tables e below (s₁.setTop (mkF m 0 #[.val (.ref w_RESOURCE)] [])) t → Steps p.tables e below (s₁.setTop (entryFrame m #[(.ref w_RESOURCE)] 1)) t := fun t k => castTop (ef_rm1_2 m w_RESOURCE) k
  obtain ⟨T1, X1, e1, st1⟩ := getF X0 hx hZ hown (host := "") (Or.inl (hw _ (List.mem_of_getElem? (i := 44) rfl))) Via.refl e0 F_form_RESOURCE (g := (mkF m 1 #[.val (.ref w_RESOURCE)] [(.ref w_RESOURCE)])) rfl rfl (hb hby d1_1)
  obtain ⟨T2, X2, e2, st2⟩ := getS2 X1 hx hZ hown (host := "") (Or.inl (hw _ (List.mem_of_getElem? (i := 48) rfl))) Via.refl e1 S_REPEATED_VALUE (g := (mkF m 4 #[.val (.ref w_RESOURCE)] [(.ref w_VALUE)])) rfl (hb hby d1_4)
  obtain ⟨fs, hr, hrun, hended, hW, hsame⟩ := X2.leave (v := some (.int (0 : Int32))) (fun h => by rw [Bd.returns] at h; cases h)
  refine ⟨_, _, pre0 _ ?_, hrun, hended, _, _, rfl, ?_, ⟨_, rfl⟩, hW, hsame.mono (by decide) (by decide)⟩
  ·
    show Steps p.tables e below (s₁.setTop (mkF m 0 #[.val (.ref w_RESOURCE)] [])) _
    refine XS.aloadN X0.here hx rfl (hb hby d1_0) rfl rfl ?_
    show Steps p.tables e below (s₁.setTop (mkF m 1 #[.val (.ref w_RESOURCE)] [(.ref w_RESOURCE)])) _
    refine st1 _ ?_
    show Steps p.tables e below (T1.setTop (mkF m 4 #[.val (.ref w_RESOURCE)] [(.ref w_VALUE)])) _
    refine st2 _ ?_
    show Steps p.tables e below (T2.setTop (mkF m 7 #[.val (.ref w_RESOURCE)] [(.ref w_REPEATED_VALUE), (.ref w_VALUE)])) _
    refine Jvm.RoadKit.acmp (g := (mkF m 7 #[.val (.ref w_RESOURCE)] [(.ref w_REPEATED_VALUE), (.ref w_VALUE)])) X2 hx rfl rfl rfl (pc0 := 7) (pc' := 14) (same := false) rfl (hb hby d1_7) rfl (decide_eq_false fun q => (Ne.symm ne_REPEATED_VALUE_VALUE) (Value.ref.inj q)) (by decide) (by decide) ?_
    show Steps p.tables e below (T2.setTop (mkF m 14 #[.val (.ref w_RESOURCE)] [])) _
    refine XS.iconst X2.here hx rfl (hb hby d1_14) ?_
    show Steps p.tables e below (T2.setTop (mkF m 15 #[.val (.ref w_RESOURCE)] [(.int (0 : Int32))])) _
    exact retN X2 hx (t := .boolean) Bd.returns (by simp) (hb hby d1_15) hr
  · show Q1_2 Z w_RESOURCE w_VALUE w_REPEATED_VALUE h0 n0 _ T2.heap _
    rw [e2]
    exact ⟨rfl, N0, rfl⟩
theorem ef_rm1_3 (m : MethodId) (x0 : Addr) : entryFrame m #[(.ref x0)] 1 = mkF m 0 #[.val (.ref x0)] [] := by first | (simp [entryFrame, mkF, argsToLocals, Value.category]; done) | rfl
def Q1_3 (Z : State) (w_AGENT : Addr) (w_VALUE : Addr) (w_REPEATED_VALUE : Addr) (h0 : Heap) (n0 : Nat) (v : Option Value) (h : Heap) (L : List Loc) : Prop := v = some (.int (0 : Int32)) ∧ Fr n0 L ∧ h = h0
set_option maxRecDepth 65536 in
set_option maxHeartbeats 40000000 in
theorem rm1_3 (l : Launch) (Z : State) (a0 : Array Value) (hw : ∀ d ∈ tables_1, d.before a0 Z = true) (ws : List Jvm.Cond) (w_AGENT : Addr) (w_VALUE : Addr) (w_REPEATED_VALUE : Addr) (h0 : Heap) (n0 : Nat) (Z0 : n0 ≤ h0.size) (F_form_AGENT : Fld Z h0 w_AGENT "com/example/garm/garm/command/Option" "form" "Lcom/example/garm/garm/command/Option$Form;" (.ref w_VALUE)) (S_REPEATED_VALUE : Sta Z h0 "com/example/garm/garm/command/Option$Form" "REPEATED_VALUE" "Lcom/example/garm/garm/command/Option$Form;" (.ref w_REPEATED_VALUE)) (ne_REPEATED_VALUE_VALUE : w_REPEATED_VALUE ≠ w_VALUE) :
    MetFree l (⟨"com/example/garm/garm/command/Option", "isRepeatable", "()Z"⟩ : MethodName) (head1 (Jvm.Cond.code (⟨"com/example/garm/garm/command/Option", "isRepeatable", "()Z"⟩ : MethodName) prog_4_method_6_code 1 (some .boolean) :: ws) ({ frames := 0, cells := 0, slots := 0, locals := 0 } : Room)) (fun a U => a = #[(.ref w_AGENT)] ∧ Z.Warmed39 U.vm ∧ U.heap = h0) (fun _ _ _ _ _ => True) (fun _ U o U' => ∃ v L, o = .returned v ∧ Q1_3 Z w_AGENT w_VALUE w_REPEATED_VALUE h0 n0 v U'.heap L ∧ FrameEnd U o U' L ({ frames := 0, cells := 0, slots := 0, locals := 0 } : Room).cells ({ frames := 0, cells := 0, slots := 0, locals := 0 } : Room).slots) := by
  refine MetFree.of_bodySF (plainFor_of_name pn_0) hisR ?_
  intro p e s m args below meth c s₁ Bd hml0 hP hK
  obtain ⟨rfl, hZ, hh⟩ := hP
  have hx := Bd.exec
  have hby := Bd.bytes
  have hml : c.maxLocals = 1 := hml0
  have hown : s.vm.findClass "com/example/garm/garm/command/Option" = some m.cls := findClass_of_methodNamed Bd.named
  have hnm := (name_of_methodNamed Bd.named Bd.method).1
  have X0 : Stand p l e ({ frames := 0, cells := 0, slots := 0, locals := 0 } : Room) s m #[(.ref w_AGENT)] below meth c s₁ [] 0 0 := Stand.of_body Bd
  have e0 : s₁.heap = h0 := by rw [← hh, Bd.state]; rfl
  have N0 := Fr.nil n0
  have pre0 : ∀ t, Steps p.tables e below (s₁.setTop (mkF m 0 #[.val (.ref w_AGENT)] [])) t → Steps p.tables e below (s₁.setTop (entryFrame m #[(.ref w_AGENT)] 1)) t := fun t k => castTop (ef_rm1_3 m w_AGENT) k
  obtain ⟨T1, X1, e1, st1⟩ := getF X0 hx hZ hown (host := "") (Or.inl (hw _ (List.mem_of_getElem? (i := 44) rfl))) Via.refl e0 F_form_AGENT (g := (mkF m 1 #[.val (.ref w_AGENT)] [(.ref w_AGENT)])) rfl rfl (hb hby d1_1)
  obtain ⟨T2, X2, e2, st2⟩ := getS2 X1 hx hZ hown (host := "") (Or.inl (hw _ (List.mem_of_getElem? (i := 48) rfl))) Via.refl e1 S_REPEATED_VALUE (g := (mkF m 4 #[.val (.ref w_AGENT)] [(.ref w_VALUE)])) rfl (hb hby d1_4)
  obtain ⟨fs, hr, hrun, hended, hW, hsame⟩ := X2.leave (v := some (.int (0 : Int32))) (fun h => by rw [Bd.returns] at h; cases h)
  refine ⟨_, _, pre0 _ ?_, hrun, hended, _, _, rfl, ?_, ⟨_, rfl⟩, hW, hsame.mono (by decide) (by decide)⟩
  ·
    show Steps p.tables e below (s₁.setTop (mkF m 0 #[.val (.ref w_AGENT)] [])) _
    refine XS.aloadN X0.here hx rfl (hb hby d1_0) rfl rfl ?_
    show Steps p.tables e below (s₁.setTop (mkF m 1 #[.val (.ref w_AGENT)] [(.ref w_AGENT)])) _
    refine st1 _ ?_
    show Steps p.tables e below (T1.setTop (mkF m 4 #[.val (.ref w_AGENT)] [(.ref w_VALUE)])) _
    refine st2 _ ?_
    show Steps p.tables e below (T2.setTop (mkF m 7 #[.val (.ref w_AGENT)] [(.ref w_REPEATED_VALUE), (.ref w_VALUE)])) _
    refine Jvm.RoadKit.acmp (g := (mkF m 7 #[.val (.ref w_AGENT)] [(.ref w_REPEATED_VALUE), (.ref w_VALUE)])) X2 hx rfl rfl rfl (pc0 := 7) (pc' := 14) (same := false) rfl (hb hby d1_7) rfl (decide_eq_false fun q => (Ne.symm ne_REPEATED_VALUE_VALUE) (Value.ref.inj q)) (by decide) (by decide) ?_
    show Steps p.tables e below (T2.setTop (mkF m 14 #[.val (.ref w_AGENT)] [])) _
    refine XS.iconst X2.here hx rfl (hb hby d1_14) ?_
    show Steps p.tables e below (T2.setTop (mkF m 15 #[.val (.ref w_AGENT)] [(.int (0 : Int32))])) _
    exact retN X2 hx (t := .boolean) Bd.returns (by simp) (hb hby d1_15) hr
  · show Q1_3 Z w_AGENT w_VALUE w_REPEATED_VALUE h0 n0 _ T2.heap _
    rw [e2]
    exact ⟨rfl, N0, rfl⟩
theorem ef_rm1_4 (m : MethodId) (x0 : Addr) : entryFrame m #[(.ref x0)] 1 = mkF m 0 #[.val (.ref x0)] [] := by first | (simp [entryFrame, mkF, argsToLocals, Value.category]; done) | rfl
def Q1_4 (Z : State) (w_CLIENT : Addr) (w_VALUE : Addr) (w_REPEATED_VALUE : Addr) (h0 : Heap) (n0 : Nat) (v : Option Value) (h : Heap) (L : List Loc) : Prop := v = some (.int (0 : Int32)) ∧ Fr n0 L ∧ h = h0
set_option maxRecDepth 65536 in
set_option maxHeartbeats 40000000 in
theorem rm1_4 (l : Launch) (Z : State) (a0 : Array Value) (hw : ∀ d ∈ tables_1, d.before a0 Z = true) (ws : List Jvm.Cond) (w_CLIENT : Addr) (w_VALUE : Addr) (w_REPEATED_VALUE : Addr) (h0 : Heap) (n0 : Nat) (Z0 : n0 ≤ h0.size) (F_form_CLIENT : Fld Z h0 w_CLIENT "com/example/garm/garm/command/Option" "form" "Lcom/example/garm/garm/command/Option$Form;" (.ref w_VALUE)) (S_REPEATED_VALUE : Sta Z h0 "com/example/garm/garm/command/Option$Form" "REPEATED_VALUE" "Lcom/example/garm/garm/command/Option$Form;" (.ref w_REPEATED_VALUE)) (ne_REPEATED_VALUE_VALUE : w_REPEATED_VALUE ≠ w_VALUE) :
    MetFree l (⟨"com/example/garm/garm/command/Option", "isRepeatable", "()Z"⟩ : MethodName) (head1 (Jvm.Cond.code (⟨"com/example/garm/garm/command/Option", "isRepeatable", "()Z"⟩ : MethodName) prog_4_method_6_code 1 (some .boolean) :: ws) ({ frames := 0, cells := 0, slots := 0, locals := 0 } : Room)) (fun a U => a = #[(.ref w_CLIENT)] ∧ Z.Warmed39 U.vm ∧ U.heap = h0) (fun _ _ _ _ _ => True) (fun _ U o U' => ∃ v L, o = .returned v ∧ Q1_4 Z w_CLIENT w_VALUE w_REPEATED_VALUE h0 n0 v U'.heap L ∧ FrameEnd U o U' L ({ frames := 0, cells := 0, slots := 0, locals := 0 } : Room).cells ({ frames := 0, cells := 0, slots := 0, locals := 0 } : Room).slots) := by
  refine MetFree.of_bodySF (plainFor_of_name pn_0) hisR ?_
  intro p e s m args below meth c s₁ Bd hml0 hP hK
  obtain ⟨rfl, hZ, hh⟩ := hP
  have hx := Bd.exec
  have hby := Bd.bytes
  have hml : c.maxLocals = 1 := hml0
  have hown : s.vm.findClass "com/example/garm/garm/command/Option" = some m.cls := findClass_of_methodNamed Bd.named
  have hnm := (name_of_methodNamed Bd.named Bd.method).1
  have X0 : Stand p l e ({ frames := 0, cells := 0, slots := 0, locals := 0 } : Room) s m #[(.ref w_CLIENT)] below meth c s₁ [] 0 0 := Stand.of_body Bd
  have e0 : s₁.heap = h0 := by rw [← hh, Bd.state]; rfl
  have N0 := Fr.nil n0
  have pre0 : ∀ t, Steps p.tables e below (s₁.setTop (mkF m 0 #[.val (.ref w_CLIENT)] [])) t → Steps p.tables e below (s₁.setTop (entryFrame m #[(.ref w_CLIENT)] 1)) t := fun t k => castTop (ef_rm1_4 m w_CLIENT) k
  obtain ⟨T1, X1, e1, st1⟩ := getF X0 hx hZ hown (host := "") (Or.inl (hw _ (List.mem_of_getElem? (i := 44) rfl))) Via.refl e0 F_form_CLIENT (g := (mkF m 1 #[.val (.ref w_CLIENT)] [(.ref w_CLIENT)])) rfl rfl (hb hby d1_1)
  obtain ⟨T2, X2, e2, st2⟩ := getS2 X1 hx hZ hown (host := "") (Or.inl (hw _ (List.mem_of_getElem? (i := 48) rfl))) Via.refl e1 S_REPEATED_VALUE (g := (mkF m 4 #[.val (.ref w_CLIENT)] [(.ref w_VALUE)])) rfl (hb hby d1_4)
  obtain ⟨fs, hr, hrun, hended, hW, hsame⟩ := X2.leave (v := some (.int (0 : Int32))) (fun h => by rw [Bd.returns] at h; cases h)
  refine ⟨_, _, pre0 _ ?_, hrun, hended, _, _, rfl, ?_, ⟨_, rfl⟩, hW, hsame.mono (by decide) (by decide)⟩
  ·
    show Steps p.tables e below (s₁.setTop (mkF m 0 #[.val (.ref w_CLIENT)] [])) _
    refine XS.aloadN X0.here hx rfl (hb hby d1_0) rfl rfl ?_
    show Steps p.tables e below (s₁.setTop (mkF m 1 #[.val (.ref w_CLIENT)] [(.ref w_CLIENT)])) _
    refine st1 _ ?_
    show Steps p.tables e below (T1.setTop (mkF m 4 #[.val (.ref w_CLIENT)] [(.ref w_VALUE)])) _
    refine st2 _ ?_
    show Steps p.tables e below (T2.setTop (mkF m 7 #[.val (.ref w_CLIENT)] [(.ref w_REPEATED_VALUE), (.ref w_VALUE)])) _
    refine Jvm.RoadKit.acmp (g := (mkF m 7 #[.val (.ref w_CLIENT)] [(.ref w_REPEATED_VALUE), (.ref w_VALUE)])) X2 hx rfl rfl rfl (pc0 := 7) (pc' := 14) (same := false) rfl (hb hby d1_7) rfl (decide_eq_false fun q => (Ne.symm ne_REPEATED_VALUE_VALUE) (Value.ref.inj q)) (by decide) (by decide) ?_
    show Steps p.tables e below (T2.setTop (mkF m 14 #[.val (.ref w_CLIENT)] [])) _
    refine XS.iconst X2.here hx rfl (hb hby d1_14) ?_
    show Steps p.tables e below (T2.setTop (mkF m 15 #[.val (.ref w_CLIENT)] [(.int (0 : Int32))])) _
    exact retN X2 hx (t := .boolean) Bd.returns (by simp) (hb hby d1_15) hr
  · show Q1_4 Z w_CLIENT w_VALUE w_REPEATED_VALUE h0 n0 _ T2.heap _
    rw [e2]
    exact ⟨rfl, N0, rfl⟩
theorem ef_rm1_5 (m : MethodId) (x0 : Addr) : entryFrame m #[(.ref x0)] 1 = mkF m 0 #[.val (.ref x0)] [] := by first | (simp [entryFrame, mkF, argsToLocals, Value.category]; done) | rfl
def Q1_5 (Z : State) (w_ISSUER : Addr) (w_VALUE : Addr) (w_REPEATED_VALUE : Addr) (h0 : Heap) (n0 : Nat) (v : Option Value) (h : Heap) (L : List Loc) : Prop := v = some (.int (0 : Int32)) ∧ Fr n0 L ∧ h = h0
set_option maxRecDepth 65536 in
set_option maxHeartbeats 40000000 in
theorem rm1_5 (l : Launch) (Z : State) (a0 : Array Value) (hw : ∀ d ∈ tables_1, d.before a0 Z = true) (ws : List Jvm.Cond) (w_ISSUER : Addr) (w_VALUE : Addr) (w_REPEATED_VALUE : Addr) (h0 : Heap) (n0 : Nat) (Z0 : n0 ≤ h0.size) (F_form_ISSUER : Fld Z h0 w_ISSUER "com/example/garm/garm/command/Option" "form" "Lcom/example/garm/garm/command/Option$Form;" (.ref w_VALUE)) (S_REPEATED_VALUE : Sta Z h0 "com/example/garm/garm/command/Option$Form" "REPEATED_VALUE" "Lcom/example/garm/garm/command/Option$Form;" (.ref w_REPEATED_VALUE)) (ne_REPEATED_VALUE_VALUE : w_REPEATED_VALUE ≠ w_VALUE) :
    MetFree l (⟨"com/example/garm/garm/command/Option", "isRepeatable", "()Z"⟩ : MethodName) (head1 (Jvm.Cond.code (⟨"com/example/garm/garm/command/Option", "isRepeatable", "()Z"⟩ : MethodName) prog_4_method_6_code 1 (some .boolean) :: ws) ({ frames := 0, cells := 0, slots := 0, locals := 0 } : Room)) (fun a U => a = #[(.ref w_ISSUER)] ∧ Z.Warmed39 U.vm ∧ U.heap = h0) (fun _ _ _ _ _ => True) (fun _ U o U' => ∃ v L, o = .returned v ∧ Q1_5 Z w_ISSUER w_VALUE w_REPEATED_VALUE h0 n0 v U'.heap L ∧ FrameEnd U o U' L ({ frames := 0, cells := 0, slots := 0, locals := 0 } : Room).cells ({ frames := 0, cells := 0, slots := 0, locals := 0 } : Room).slots) := by
  refine MetFree.of_bodySF (plainFor_of_name pn_0) hisR ?_
  intro p e s m args below meth c s₁ Bd hml0 hP hK
  obtain ⟨rfl, hZ, hh⟩ := hP
  have hx := Bd.exec
  have hby := Bd.bytes
  have hml : c.maxLocals = 1 := hml0
  have hown : s.vm.findClass "com/example/garm/garm/command/Option" = some m.cls := findClass_of_methodNamed Bd.named
  have hnm := (name_of_methodNamed Bd.named Bd.method).1
  have X0 : Stand p l e ({ frames := 0, cells := 0, slots := 0, locals := 0 } : Room) s m #[(.ref w_ISSUER)] below meth c s₁ [] 0 0 := Stand.of_body Bd
  have e0 : s₁.heap = h0 := by rw [← hh, Bd.state]; rfl
  have N0 := Fr.nil n0
  have pre0 : ∀ t, Steps p.tables e below (s₁.setTop (mkF m 0 #[.val (.ref w_ISSUER)] [])) t → Steps p.tables e below (s₁.setTop (entryFrame m #[(.ref w_ISSUER)] 1)) t := fun t k => castTop (ef_rm1_5 m w_ISSUER) k
  obtain ⟨T1, X1, e1, st1⟩ := getF X0 hx hZ hown (host := "") (Or.inl (hw _ (List.mem_of_getElem? (i := 44) rfl))) Via.refl e0 F_form_ISSUER (g := (mkF m 1 #[.val (.ref w_ISSUER)] [(.ref w_ISSUER)])) rfl rfl (hb hby d1_1)
  obtain ⟨T2, X2, e2, st2⟩ := getS2 X1 hx hZ hown (host := "") (Or.inl (hw _ (List.mem_of_getElem? (i := 48) rfl))) Via.refl e1 S_REPEATED_VALUE (g := (mkF m 4 #[.val (.ref w_ISSUER)] [(.ref w_VALUE)])) rfl (hb hby d1_4)
  obtain ⟨fs, hr, hrun, hended, hW, hsame⟩ := X2.leave (v := some (.int (0 : Int32))) (fun h => by rw [Bd.returns] at h; cases h)
  refine ⟨_, _, pre0 _ ?_, hrun, hended, _, _, rfl, ?_, ⟨_, rfl⟩, hW, hsame.mono (by decide) (by decide)⟩
  ·
    show Steps p.tables e below (s₁.setTop (mkF m 0 #[.val (.ref w_ISSUER)] [])) _
    refine XS.aloadN X0.here hx rfl (hb hby d1_0) rfl rfl ?_
    show Steps p.tables e below (s₁.setTop (mkF m 1 #[.val (.ref w_ISSUER)] [(.ref w_ISSUER)])) _
    refine st1 _ ?_
    show Steps p.tables e below (T1.setTop (mkF m 4 #[.val (.ref w_ISSUER)] [(.ref w_VALUE)])) _
    refine st2 _ ?_
    show Steps p.tables e below (T2.setTop (mkF m 7 #[.val (.ref w_ISSUER)] [(.ref w_REPEATED_VALUE), (.ref w_VALUE)])) _
    refine Jvm.RoadKit.acmp (g := (mkF m 7 #[.val (.ref w_ISSUER)] [(.ref w_REPEATED_VALUE), (.ref w_VALUE)])) X2 hx rfl rfl rfl (pc0 := 7) (pc' := 14) (same := false) rfl (hb hby d1_7) rfl (decide_eq_false fun q => (Ne.symm ne_REPEATED_VALUE_VALUE) (Value.ref.inj q)) (by decide) (by decide) ?_
    show Steps p.tables e below (T2.setTop (mkF m 14 #[.val (.ref w_ISSUER)] [])) _
    refine XS.iconst X2.here hx rfl (hb hby d1_14) ?_
    show Steps p.tables e below (T2.setTop (mkF m 15 #[.val (.ref w_ISSUER)] [(.int (0 : Int32))])) _
    exact retN X2 hx (t := .boolean) Bd.returns (by simp) (hb hby d1_15) hr
  · show Q1_5 Z w_ISSUER w_VALUE w_REPEATED_VALUE h0 n0 _ T2.heap _
    rw [e2]
    exact ⟨rfl, N0, rfl⟩
theorem d1_10 : decode prog_4_method_6_code 10 = .ok (.iconst 1, 1) := by decide +kernel
theorem d1_11 : decode prog_4_method_6_code 11 = .ok (.goto 4, 3) := by decide +kernel
theorem ef_rm1_6 (m : MethodId) (x0 : Addr) : entryFrame m #[(.ref x0)] 1 = mkF m 0 #[.val (.ref x0)] [] := by first | (simp [entryFrame, mkF, argsToLocals, Value.category]; done) | rfl
def Q1_6 (Z : State) (w_OWNER : Addr) (w_REPEATED_VALUE : Addr) (h0 : Heap) (n0 : Nat) (v : Option Value) (h : Heap) (L : List Loc) : Prop := v = some (.int (1 : Int32)) ∧ Fr n0 L ∧ h = h0
set_option maxRecDepth 65536 in
set_option maxHeartbeats 40000000 in
theorem rm1_6 (l : Launch) (Z : State) (a0 : Array Value) (hw : ∀ d ∈ tables_1, d.before a0 Z = true) (ws : List Jvm.Cond) (w_OWNER : Addr) (w_REPEATED_VALUE : Addr) (h0 : Heap) (n0 : Nat) (Z0 : n0 ≤ h0.size) (F_form_OWNER : Fld Z h0 w_OWNER "com/example/garm/garm/command/Option" "form" "Lcom/example/garm/garm/command/Option$Form;" (.ref w_REPEATED_VALUE)) (S_REPEATED_VALUE : Sta Z h0 "com/example/garm/garm/command/Option$Form" "REPEATED_VALUE" "Lcom/example/garm/garm/command/Option$Form;" (.ref w_REPEATED_VALUE)) :
    MetFree l (⟨"com/example/garm/garm/command/Option", "isRepeatable", "()Z"⟩ : MethodName) (head1 (Jvm.Cond.code (⟨"com/example/garm/garm/command/Option", "isRepeatable", "()Z"⟩ : MethodName) prog_4_method_6_code 1 (some .boolean) :: ws) ({ frames := 0, cells := 0, slots := 0, locals := 0 } : Room)) (fun a U => a = #[(.ref w_OWNER)] ∧ Z.Warmed39 U.vm ∧ U.heap = h0) (fun _ _ _ _ _ => True) (fun _ U o U' => ∃ v L, o = .returned v ∧ Q1_6 Z w_OWNER w_REPEATED_VALUE h0 n0 v U'.heap L ∧ FrameEnd U o U' L ({ frames := 0, cells := 0, slots := 0, locals := 0 } : Room).cells ({ frames := 0, cells := 0, slots := 0, locals := 0 } : Room).slots) := by
  refine MetFree.of_bodySF (plainFor_of_name pn_0) hisR ?_
  intro p e s m args below meth c s₁ Bd hml0 hP hK
  obtain ⟨rfl, hZ, hh⟩ := hP
  have hx := Bd.exec
  have hby := Bd.bytes
  have hml : c.maxLocals = 1 := hml0
  have hown : s.vm.findClass "com/example/garm/garm/command/Option" = some m.cls := findClass_of_methodNamed Bd.named
  have hnm := (name_of_methodNamed Bd.named Bd.method).1
  have X0 : Stand p l e ({ frames := 0, cells := 0, slots := 0, locals := 0 } : Room) s m #[(.ref w_OWNER)] below meth c s₁ [] 0 0 := Stand.of_body Bd
  have e0 : s₁.heap = h0 := by rw [← hh, Bd.state]; rfl
  have N0 := Fr.nil n0
  have pre0 : ∀ t, Steps p.tables e below (s₁.setTop (mkF m 0 #[.val (.ref w_OWNER)] [])) t → Steps p.tables e below (s₁.setTop (entryFrame m #[(.ref w_OWNER)] 1)) t := fun t k => castTop (ef_rm1_6 m w_OWNER) k
  obtain ⟨T1, X1, e1, st1⟩ := getF X0 hx hZ hown (host := "") (Or.inl (hw _ (List.mem_of_getElem? (i := 44) rfl))) Via.refl e0 F_form_OWNER (g := (mkF m 1 #[.val (.ref w_OWNER)] [(.ref w_OWNER)])) rfl rfl (hb hby d1_1)
  obtain ⟨T2, X2, e2, st2⟩ := getS2 X1 hx hZ hown (host := "") (Or.inl (hw _ (List.mem_of_getElem? (i := 48) rfl))) Via.refl e1 S_REPEATED_VALUE (g := (mkF m 4 #[.val (.ref w_OWNER)] [(.ref w_REPEATED_VALUE)])) rfl (hb hby d1_4)
  obtain ⟨fs, hr, hrun, hended, hW, hsame⟩ := X2.leave (v := some (.int (1 : Int32))) (fun h => by rw [Bd.returns] at h; cases h)
  refine ⟨_, _, pre0 _ ?_, hrun, hended, _, _, rfl, ?_, ⟨_, rfl⟩, hW, hsame.mono (by decide) (by decide)⟩
  ·
    show Steps p.tables e below (s₁.setTop (mkF m 0 #[.val (.ref w_OWNER)] [])) _
    refine XS.aloadN X0.here hx rfl (hb hby d1_0) rfl rfl ?_
    show Steps p.tables e below (s₁.setTop (mkF m 1 #[.val (.ref w_OWNER)] [(.ref w_OWNER)])) _
    refine st1 _ ?_
    show Steps p.tables e below (T1.setTop (mkF m 4 #[.val (.ref w_OWNER)] [(.ref w_REPEATED_VALUE)])) _
    refine st2 _ ?_
    show Steps p.tables e below (T2.setTop (mkF m 7 #[.val (.ref w_OWNER)] [(.ref w_REPEATED_VALUE), (.ref w_REPEATED_VALUE)])) _
    refine Jvm.RoadKit.acmp (g := (mkF m 7 #[.val (.ref w_OWNER)] [(.ref w_REPEATED_VALUE), (.ref w_REPEATED_VALUE)])) X2 hx rfl rfl rfl (pc0 := 7) (pc' := 10) (same := true) rfl (hb hby d1_7) rfl (decide_eq_true rfl) (by decide) (by decide) ?_
    show Steps p.tables e below (T2.setTop (mkF m 10 #[.val (.ref w_OWNER)] [])) _
    refine XS.iconst X2.here hx rfl (hb hby d1_10) ?_
    show Steps p.tables e below (T2.setTop (mkF m 11 #[.val (.ref w_OWNER)] [(.int (1 : Int32))])) _
    refine XS.goto X2.here hx rfl (pc0 := 11) (pc' := 15) rfl (hb hby d1_11) (by decide) (by decide) ?_
    show Steps p.tables e below (T2.setTop (mkF m 15 #[.val (.ref w_OWNER)] [(.int (1 : Int32))])) _
    exact retN X2 hx (t := .boolean) Bd.returns (by simp) (hb hby d1_15) hr
  · show Q1_6 Z w_OWNER w_REPEATED_VALUE h0 n0 _ T2.heap _
    rw [e2]
    exact ⟨rfl, N0, rfl⟩
theorem d2_0 : decode prog_4_method_5_code 0 = .ok (.aload_n 0, 1) := by decide +kernel
theorem d2_1 : decode prog_4_method_5_code 1 = .ok (.getfield 74, 3) := by decide +kernel
theorem d2_4 : decode prog_4_method_5_code 4 = .ok (.getstatic 106, 3) := by decide +kernel
theorem d2_7 : decode prog_4_method_5_code 7 = .ok (.if_acmp .eq 7, 3) := by decide +kernel
theorem d2_10 : decode prog_4_method_5_code 10 = .ok (.iconst 1, 1) := by decide +kernel
theorem d2_11 : decode prog_4_method_5_code 11 = .ok (.goto 4, 3) := by decide +kernel
theorem d2_15 : decode prog_4_method_5_code 15 = .ok (.ireturn, 1) := by decide +kernel
theorem ef_rm2_0 (m : MethodId) (x0 : Addr) : entryFrame m #[(.ref x0)] 1 = mkF m 0 #[.val (.ref x0)] [] := by first | (simp [entryFrame, mkF, argsToLocals, Value.category]; done) | rfl
def Q2_0 (Z : State) (w_OWNER : Addr) (w_REPEATED_VALUE : Addr) (w_FLAG : Addr) (h0 : Heap) (n0 : Nat) (v : Option Value) (h : Heap) (L : List Loc) : Prop := v = some (.int (1 : Int32)) ∧ Fr n0 L ∧ h = h0
set_option maxRecDepth 65536 in
set_option maxHeartbeats 40000000 in
theorem rm2_0 (l : Launch) (Z : State) (a0 : Array Value) (hw : ∀ d ∈ tables_1, d.before a0 Z = true) (ws : List Jvm.Cond) (w_OWNER : Addr) (w_REPEATED_VALUE : Addr) (w_FLAG : Addr) (h0 : Heap) (n0 : Nat) (Z0 : n0 ≤ h0.size) (F_form_OWNER : Fld Z h0 w_OWNER "com/example/garm/garm/command/Option" "form" "Lcom/example/garm/garm/command/Option$Form;" (.ref w_REPEATED_VALUE)) (S_FLAG : Sta Z h0 "com/example/garm/garm/command/Option$Form" "FLAG" "Lcom/example/garm/garm/command/Option$Form;" (.ref w_FLAG)) (ne_FLAG_REPEATED_VALUE : w_FLAG ≠ w_REPEATED_VALUE) :
    MetFree l (⟨"com/example/garm/garm/command/Option", "takesValue", "()Z"⟩ : MethodName) (head1 (Jvm.Cond.code (⟨"com/example/garm/garm/command/Option", "takesValue", "()Z"⟩ : MethodName) prog_4_method_5_code 1 (some .boolean) :: ws) ({ frames := 0, cells := 0, slots := 0, locals := 0 } : Room)) (fun a U => a = #[(.ref w_OWNER)] ∧ Z.Warmed39 U.vm ∧ U.heap = h0) (fun _ _ _ _ _ => True) (fun _ U o U' => ∃ v L, o = .returned v ∧ Q2_0 Z w_OWNER w_REPEATED_VALUE w_FLAG h0 n0 v U'.heap L ∧ FrameEnd U o U' L ({ frames := 0, cells := 0, slots := 0, locals := 0 } : Room).cells ({ frames := 0, cells := 0, slots := 0, locals := 0 } : Room).slots) := by
  refine MetFree.of_bodySF (plainFor_of_name pn_0) hisR ?_
  intro p e s m args below meth c s₁ Bd hml0 hP hK
  obtain ⟨rfl, hZ, hh⟩ := hP
  have hx := Bd.exec
  have hby := Bd.bytes
  have hml : c.maxLocals = 1 := hml0
  have hown : s.vm.findClass "com/example/garm/garm/command/Option" = some m.cls := findClass_of_methodNamed Bd.named
  have hnm := (name_of_methodNamed Bd.named Bd.method).1
  have X0 : Stand p l e ({ frames := 0, cells := 0, slots := 0, locals := 0 } : Room) s m #[(.ref w_OWNER)] below meth c s₁ [] 0 0 := Stand.of_body Bd
  have e0 : s₁.heap = h0 := by rw [← hh, Bd.state]; rfl
  have N0 := Fr.nil n0
  have pre0 : ∀ t, Steps p.tables e below (s₁.setTop (mkF m 0 #[.val (.ref w_OWNER)] [])) t → Steps p.tables e below (s₁.setTop (entryFrame m #[(.ref w_OWNER)] 1)) t := fun t k => castTop (ef_rm2_0 m w_OWNER) k
  obtain ⟨T1, X1, e1, st1⟩ := getF X0 hx hZ hown (host := "") (Or.inl (hw _ (List.mem_of_getElem? (i := 44) rfl))) Via.refl e0 F_form_OWNER (g := (mkF m 1 #[.val (.ref w_OWNER)] [(.ref w_OWNER)])) rfl rfl (hb hby d2_1)
  obtain ⟨T2, X2, e2, st2⟩ := getS2 X1 hx hZ hown (host := "") (Or.inl (hw _ (List.mem_of_getElem? (i := 55) rfl))) Via.refl e1 S_FLAG (g := (mkF m 4 #[.val (.ref w_OWNER)] [(.ref w_REPEATED_VALUE)])) rfl (hb hby d2_4)
  obtain ⟨fs, hr, hrun, hended, hW, hsame⟩ := X2.leave (v := some (.int (1 : Int32))) (fun h => by rw [Bd.returns] at h; cases h)
  refine ⟨_, _, pre0 _ ?_, hrun, hended, _, _, rfl, ?_, ⟨_, rfl⟩, hW, hsame.mono (by decide) (by decide)⟩
  ·
    show Steps p.tables e below (s₁.setTop (mkF m 0 #[.val (.ref w_OWNER)] [])) _
    refine XS.aloadN X0.here hx rfl (hb hby d2_0) rfl rfl ?_
    show Steps p.tables e below (s₁.setTop (mkF m 1 #[.val (.ref w_OWNER)] [(.ref w_OWNER)])) _
    refine st1 _ ?_
    show Steps p.tables e below (T1.setTop (mkF m 4 #[.val (.ref w_OWNER)] [(.ref w_REPEATED_VALUE)])) _
    refine st2 _ ?_
    show Steps p.tables e below (T2.setTop (mkF m 7 #[.val (.ref w_OWNER)] [(.ref w_FLAG), (.ref w_REPEATED_VALUE)])) _
    refine Jvm.RoadKit.acmp (g := (mkF m 7 #[.val (.ref w_OWNER)] [(.ref w_FLAG), (.ref w_REPEATED_VALUE)])) X2 hx rfl rfl rfl (pc0 := 7) (pc' := 10) (same := false) rfl (hb hby d2_7) rfl (decide_eq_false fun q => (Ne.symm ne_FLAG_REPEATED_VALUE) (Value.ref.inj q)) (by decide) (by decide) ?_
    show Steps p.tables e below (T2.setTop (mkF m 10 #[.val (.ref w_OWNER)] [])) _
    refine XS.iconst X2.here hx rfl (hb hby d2_10) ?_
    show Steps p.tables e below (T2.setTop (mkF m 11 #[.val (.ref w_OWNER)] [(.int (1 : Int32))])) _
    refine XS.goto X2.here hx rfl (pc0 := 11) (pc' := 15) rfl (hb hby d2_11) (by decide) (by decide) ?_
    show Steps p.tables e below (T2.setTop (mkF m 15 #[.val (.ref w_OWNER)] [(.int (1 : Int32))])) _
    exact retN X2 hx (t := .boolean) Bd.returns (by simp) (hb hby d2_15) hr
  · show Q2_0 Z w_OWNER w_REPEATED_VALUE w_FLAG h0 n0 _ T2.heap _
    rw [e2]
    exact ⟨rfl, N0, rfl⟩
theorem ef_rm1_7 (m : MethodId) (x0 : Addr) : entryFrame m #[(.ref x0)] 1 = mkF m 0 #[.val (.ref x0)] [] := by first | (simp [entryFrame, mkF, argsToLocals, Value.category]; done) | rfl
def Q1_7 (Z : State) (w_CREATOR : Addr) (w_VALUE : Addr) (w_REPEATED_VALUE : Addr) (h0 : Heap) (n0 : Nat) (v : Option Value) (h : Heap) (L : List Loc) : Prop := v = some (.int (0 : Int32)) ∧ Fr n0 L ∧ h = h0
set_option maxRecDepth 65536 in
set_option maxHeartbeats 40000000 in
theorem rm1_7 (l : Launch) (Z : State) (a0 : Array Value) (hw : ∀ d ∈ tables_1, d.before a0 Z = true) (ws : List Jvm.Cond) (w_CREATOR : Addr) (w_VALUE : Addr) (w_REPEATED_VALUE : Addr) (h0 : Heap) (n0 : Nat) (Z0 : n0 ≤ h0.size) (F_form_CREATOR : Fld Z h0 w_CREATOR "com/example/garm/garm/command/Option" "form" "Lcom/example/garm/garm/command/Option$Form;" (.ref w_VALUE)) (S_REPEATED_VALUE : Sta Z h0 "com/example/garm/garm/command/Option$Form" "REPEATED_VALUE" "Lcom/example/garm/garm/command/Option$Form;" (.ref w_REPEATED_VALUE)) (ne_REPEATED_VALUE_VALUE : w_REPEATED_VALUE ≠ w_VALUE) :
    MetFree l (⟨"com/example/garm/garm/command/Option", "isRepeatable", "()Z"⟩ : MethodName) (head1 (Jvm.Cond.code (⟨"com/example/garm/garm/command/Option", "isRepeatable", "()Z"⟩ : MethodName) prog_4_method_6_code 1 (some .boolean) :: ws) ({ frames := 0, cells := 0, slots := 0, locals := 0 } : Room)) (fun a U => a = #[(.ref w_CREATOR)] ∧ Z.Warmed39 U.vm ∧ U.heap = h0) (fun _ _ _ _ _ => True) (fun _ U o U' => ∃ v L, o = .returned v ∧ Q1_7 Z w_CREATOR w_VALUE w_REPEATED_VALUE h0 n0 v U'.heap L ∧ FrameEnd U o U' L ({ frames := 0, cells := 0, slots := 0, locals := 0 } : Room).cells ({ frames := 0, cells := 0, slots := 0, locals := 0 } : Room).slots) := by
  refine MetFree.of_bodySF (plainFor_of_name pn_0) hisR ?_
  intro p e s m args below meth c s₁ Bd hml0 hP hK
  obtain ⟨rfl, hZ, hh⟩ := hP
  have hx := Bd.exec
  have hby := Bd.bytes
  have hml : c.maxLocals = 1 := hml0
  have hown : s.vm.findClass "com/example/garm/garm/command/Option" = some m.cls := findClass_of_methodNamed Bd.named
  have hnm := (name_of_methodNamed Bd.named Bd.method).1
  have X0 : Stand p l e ({ frames := 0, cells := 0, slots := 0, locals := 0 } : Room) s m #[(.ref w_CREATOR)] below meth c s₁ [] 0 0 := Stand.of_body Bd
  have e0 : s₁.heap = h0 := by rw [← hh, Bd.state]; rfl
  have N0 := Fr.nil n0
  have pre0 : ∀ t, Steps p.tables e below (s₁.setTop (mkF m 0 #[.val (.ref w_CREATOR)] [])) t → Steps p.tables e below (s₁.setTop (entryFrame m #[(.ref w_CREATOR)] 1)) t := fun t k => castTop (ef_rm1_7 m w_CREATOR) k
  obtain ⟨T1, X1, e1, st1⟩ := getF X0 hx hZ hown (host := "") (Or.inl (hw _ (List.mem_of_getElem? (i := 44) rfl))) Via.refl e0 F_form_CREATOR (g := (mkF m 1 #[.val (.ref w_CREATOR)] [(.ref w_CREATOR)])) rfl rfl (hb hby d1_1)
  obtain ⟨T2, X2, e2, st2⟩ := getS2 X1 hx hZ hown (host := "") (Or.inl (hw _ (List.mem_of_getElem? (i := 48) rfl))) Via.refl e1 S_REPEATED_VALUE (g := (mkF m 4 #[.val (.ref w_CREATOR)] [(.ref w_VALUE)])) rfl (hb hby d1_4)
  obtain ⟨fs, hr, hrun, hended, hW, hsame⟩ := X2.leave (v := some (.int (0 : Int32))) (fun h => by rw [Bd.returns] at h; cases h)
  refine ⟨_, _, pre0 _ ?_, hrun, hended, _, _, rfl, ?_, ⟨_, rfl⟩, hW, hsame.mono (by decide) (by decide)⟩
  ·
    show Steps p.tables e below (s₁.setTop (mkF m 0 #[.val (.ref w_CREATOR)] [])) _
    refine XS.aloadN X0.here hx rfl (hb hby d1_0) rfl rfl ?_
    show Steps p.tables e below (s₁.setTop (mkF m 1 #[.val (.ref w_CREATOR)] [(.ref w_CREATOR)])) _
    refine st1 _ ?_
    show Steps p.tables e below (T1.setTop (mkF m 4 #[.val (.ref w_CREATOR)] [(.ref w_VALUE)])) _
    refine st2 _ ?_
    show Steps p.tables e below (T2.setTop (mkF m 7 #[.val (.ref w_CREATOR)] [(.ref w_REPEATED_VALUE), (.ref w_VALUE)])) _
    refine Jvm.RoadKit.acmp (g := (mkF m 7 #[.val (.ref w_CREATOR)] [(.ref w_REPEATED_VALUE), (.ref w_VALUE)])) X2 hx rfl rfl rfl (pc0 := 7) (pc' := 14) (same := false) rfl (hb hby d1_7) rfl (decide_eq_false fun q => (Ne.symm ne_REPEATED_VALUE_VALUE) (Value.ref.inj q)) (by decide) (by decide) ?_
    show Steps p.tables e below (T2.setTop (mkF m 14 #[.val (.ref w_CREATOR)] [])) _
    refine XS.iconst X2.here hx rfl (hb hby d1_14) ?_
    show Steps p.tables e below (T2.setTop (mkF m 15 #[.val (.ref w_CREATOR)] [(.int (0 : Int32))])) _
    exact retN X2 hx (t := .boolean) Bd.returns (by simp) (hb hby d1_15) hr
  · show Q1_7 Z w_CREATOR w_VALUE w_REPEATED_VALUE h0 n0 _ T2.heap _
    rw [e2]
    exact ⟨rfl, N0, rfl⟩
theorem ef_rm1_8 (m : MethodId) (x0 : Addr) : entryFrame m #[(.ref x0)] 1 = mkF m 0 #[.val (.ref x0)] [] := by first | (simp [entryFrame, mkF, argsToLocals, Value.category]; done) | rfl
def Q1_8 (Z : State) (w_CREDENTIAL : Addr) (w_REPEATED_VALUE : Addr) (h0 : Heap) (n0 : Nat) (v : Option Value) (h : Heap) (L : List Loc) : Prop := v = some (.int (1 : Int32)) ∧ Fr n0 L ∧ h = h0
set_option maxRecDepth 65536 in
set_option maxHeartbeats 40000000 in
theorem rm1_8 (l : Launch) (Z : State) (a0 : Array Value) (hw : ∀ d ∈ tables_1, d.before a0 Z = true) (ws : List Jvm.Cond) (w_CREDENTIAL : Addr) (w_REPEATED_VALUE : Addr) (h0 : Heap) (n0 : Nat) (Z0 : n0 ≤ h0.size) (F_form_CREDENTIAL : Fld Z h0 w_CREDENTIAL "com/example/garm/garm/command/Option" "form" "Lcom/example/garm/garm/command/Option$Form;" (.ref w_REPEATED_VALUE)) (S_REPEATED_VALUE : Sta Z h0 "com/example/garm/garm/command/Option$Form" "REPEATED_VALUE" "Lcom/example/garm/garm/command/Option$Form;" (.ref w_REPEATED_VALUE)) :
    MetFree l (⟨"com/example/garm/garm/command/Option", "isRepeatable", "()Z"⟩ : MethodName) (head1 (Jvm.Cond.code (⟨"com/example/garm/garm/command/Option", "isRepeatable", "()Z"⟩ : MethodName) prog_4_method_6_code 1 (some .boolean) :: ws) ({ frames := 0, cells := 0, slots := 0, locals := 0 } : Room)) (fun a U => a = #[(.ref w_CREDENTIAL)] ∧ Z.Warmed39 U.vm ∧ U.heap = h0) (fun _ _ _ _ _ => True) (fun _ U o U' => ∃ v L, o = .returned v ∧ Q1_8 Z w_CREDENTIAL w_REPEATED_VALUE h0 n0 v U'.heap L ∧ FrameEnd U o U' L ({ frames := 0, cells := 0, slots := 0, locals := 0 } : Room).cells ({ frames := 0, cells := 0, slots := 0, locals := 0 } : Room).slots) := by
  refine MetFree.of_bodySF (plainFor_of_name pn_0) hisR ?_
  intro p e s m args below meth c s₁ Bd hml0 hP hK
  obtain ⟨rfl, hZ, hh⟩ := hP
  have hx := Bd.exec
  have hby := Bd.bytes
  have hml : c.maxLocals = 1 := hml0
  have hown : s.vm.findClass "com/example/garm/garm/command/Option" = some m.cls := findClass_of_methodNamed Bd.named
  have hnm := (name_of_methodNamed Bd.named Bd.method).1
  have X0 : Stand p l e ({ frames := 0, cells := 0, slots := 0, locals := 0 } : Room) s m #[(.ref w_CREDENTIAL)] below meth c s₁ [] 0 0 := Stand.of_body Bd
  have e0 : s₁.heap = h0 := by rw [← hh, Bd.state]; rfl
  have N0 := Fr.nil n0
  have pre0 : ∀ t, Steps p.tables e below (s₁.setTop (mkF m 0 #[.val (.ref w_CREDENTIAL)] [])) t → Steps p.tables e below (s₁.setTop (entryFrame m #[(.ref w_CREDENTIAL)] 1)) t := fun t k => castTop (ef_rm1_8 m w_CREDENTIAL) k
  obtain ⟨T1, X1, e1, st1⟩ := getF X0 hx hZ hown (host := "") (Or.inl (hw _ (List.mem_of_getElem? (i := 44) rfl))) Via.refl e0 F_form_CREDENTIAL (g := (mkF m 1 #[.val (.ref w_CREDENTIAL)] [(.ref w_CREDENTIAL)])) rfl rfl (hb hby d1_1)
  obtain ⟨T2, X2, e2, st2⟩ := getS2 X1 hx hZ hown (host := "") (Or.inl (hw _ (List.mem_of_getElem? (i := 48) rfl))) Via.refl e1 S_REPEATED_VALUE (g := (mkF m 4 #[.val (.ref w_CREDENTIAL)] [(.ref w_REPEATED_VALUE)])) rfl (hb hby d1_4)
  obtain ⟨fs, hr, hrun, hended, hW, hsame⟩ := X2.leave (v := some (.int (1 : Int32))) (fun h => by rw [Bd.returns] at h; cases h)
  refine ⟨_, _, pre0 _ ?_, hrun, hended, _, _, rfl, ?_, ⟨_, rfl⟩, hW, hsame.mono (by decide) (by decide)⟩
  ·
    show Steps p.tables e below (s₁.setTop (mkF m 0 #[.val (.ref w_CREDENTIAL)] [])) _
    refine XS.aloadN X0.here hx rfl (hb hby d1_0) rfl rfl ?_
    show Steps p.tables e below (s₁.setTop (mkF m 1 #[.val (.ref w_CREDENTIAL)] [(.ref w_CREDENTIAL)])) _
    refine st1 _ ?_
    show Steps p.tables e below (T1.setTop (mkF m 4 #[.val (.ref w_CREDENTIAL)] [(.ref w_REPEATED_VALUE)])) _
    refine st2 _ ?_
    show Steps p.tables e below (T2.setTop (mkF m 7 #[.val (.ref w_CREDENTIAL)] [(.ref w_REPEATED_VALUE), (.ref w_REPEATED_VALUE)])) _
    refine Jvm.RoadKit.acmp (g := (mkF m 7 #[.val (.ref w_CREDENTIAL)] [(.ref w_REPEATED_VALUE), (.ref w_REPEATED_VALUE)])) X2 hx rfl rfl rfl (pc0 := 7) (pc' := 10) (same := true) rfl (hb hby d1_7) rfl (decide_eq_true rfl) (by decide) (by decide) ?_
    show Steps p.tables e below (T2.setTop (mkF m 10 #[.val (.ref w_CREDENTIAL)] [])) _
    refine XS.iconst X2.here hx rfl (hb hby d1_10) ?_
    show Steps p.tables e below (T2.setTop (mkF m 11 #[.val (.ref w_CREDENTIAL)] [(.int (1 : Int32))])) _
    refine XS.goto X2.here hx rfl (pc0 := 11) (pc' := 15) rfl (hb hby d1_11) (by decide) (by decide) ?_
    show Steps p.tables e below (T2.setTop (mkF m 15 #[.val (.ref w_CREDENTIAL)] [(.int (1 : Int32))])) _
    exact retN X2 hx (t := .boolean) Bd.returns (by simp) (hb hby d1_15) hr
  · show Q1_8 Z w_CREDENTIAL w_REPEATED_VALUE h0 n0 _ T2.heap _
    rw [e2]
    exact ⟨rfl, N0, rfl⟩
theorem ef_rm2_1 (m : MethodId) (x0 : Addr) : entryFrame m #[(.ref x0)] 1 = mkF m 0 #[.val (.ref x0)] [] := by first | (simp [entryFrame, mkF, argsToLocals, Value.category]; done) | rfl
def Q2_1 (Z : State) (w_CREDENTIAL : Addr) (w_REPEATED_VALUE : Addr) (w_FLAG : Addr) (h0 : Heap) (n0 : Nat) (v : Option Value) (h : Heap) (L : List Loc) : Prop := v = some (.int (1 : Int32)) ∧ Fr n0 L ∧ h = h0
set_option maxRecDepth 65536 in
set_option maxHeartbeats 40000000 in
theorem rm2_1 (l : Launch) (Z : State) (a0 : Array Value) (hw : ∀ d ∈ tables_1, d.before a0 Z = true) (ws : List Jvm.Cond) (w_CREDENTIAL : Addr) (w_REPEATED_VALUE : Addr) (w_FLAG : Addr) (h0 : Heap) (n0 : Nat) (Z0 : n0 ≤ h0.size) (F_form_CREDENTIAL : Fld Z h0 w_CREDENTIAL "com/example/garm/garm/command/Option" "form" "Lcom/example/garm/garm/command/Option$Form;" (.ref w_REPEATED_VALUE)) (S_FLAG : Sta Z h0 "com/example/garm/garm/command/Option$Form" "FLAG" "Lcom/example/garm/garm/command/Option$Form;" (.ref w_FLAG)) (ne_FLAG_REPEATED_VALUE : w_FLAG ≠ w_REPEATED_VALUE) :
    MetFree l (⟨"com/example/garm/garm/command/Option", "takesValue", "()Z"⟩ : MethodName) (head1 (Jvm.Cond.code (⟨"com/example/garm/garm/command/Option", "takesValue", "()Z"⟩ : MethodName) prog_4_method_5_code 1 (some .boolean) :: ws) ({ frames := 0, cells := 0, slots := 0, locals := 0 } : Room)) (fun a U => a = #[(.ref w_CREDENTIAL)] ∧ Z.Warmed39 U.vm ∧ U.heap = h0) (fun _ _ _ _ _ => True) (fun _ U o U' => ∃ v L, o = .returned v ∧ Q2_1 Z w_CREDENTIAL w_REPEATED_VALUE w_FLAG h0 n0 v U'.heap L ∧ FrameEnd U o U' L ({ frames := 0, cells := 0, slots := 0, locals := 0 } : Room).cells ({ frames := 0, cells := 0, slots := 0, locals := 0 } : Room).slots) := by
  refine MetFree.of_bodySF (plainFor_of_name pn_0) hisR ?_
  intro p e s m args below meth c s₁ Bd hml0 hP hK
  obtain ⟨rfl, hZ, hh⟩ := hP
  have hx := Bd.exec
  have hby := Bd.bytes
  have hml : c.maxLocals = 1 := hml0
  have hown : s.vm.findClass "com/example/garm/garm/command/Option" = some m.cls := findClass_of_methodNamed Bd.named
  have hnm := (name_of_methodNamed Bd.named Bd.method).1
  have X0 : Stand p l e ({ frames := 0, cells := 0, slots := 0, locals := 0 } : Room) s m #[(.ref w_CREDENTIAL)] below meth c s₁ [] 0 0 := Stand.of_body Bd
  have e0 : s₁.heap = h0 := by rw [← hh, Bd.state]; rfl
  have N0 := Fr.nil n0
  have pre0 : ∀ t, Steps p.tables e below (s₁.setTop (mkF m 0 #[.val (.ref w_CREDENTIAL)] [])) t → Steps p.tables e below (s₁.setTop (entryFrame m #[(.ref w_CREDENTIAL)] 1)) t := fun t k => castTop (ef_rm2_1 m w_CREDENTIAL) k
  obtain ⟨T1, X1, e1, st1⟩ := getF X0 hx hZ hown (host := "") (Or.inl (hw _ (List.mem_of_getElem? (i := 44) rfl))) Via.refl e0 F_form_CREDENTIAL (g := (mkF m 1 #[.val (.ref w_CREDENTIAL)] [(.ref w_CREDENTIAL)])) rfl rfl (hb hby d2_1)
  obtain ⟨T2, X2, e2, st2⟩ := getS2 X1 hx hZ hown (host := "") (Or.inl (hw _ (List.mem_of_getElem? (i := 55) rfl))) Via.refl e1 S_FLAG (g := (mkF m 4 #[.val (.ref w_CREDENTIAL)] [(.ref w_REPEATED_VALUE)])) rfl (hb hby d2_4)
  obtain ⟨fs, hr, hrun, hended, hW, hsame⟩ := X2.leave (v := some (.int (1 : Int32))) (fun h => by rw [Bd.returns] at h; cases h)
  refine ⟨_, _, pre0 _ ?_, hrun, hended, _, _, rfl, ?_, ⟨_, rfl⟩, hW, hsame.mono (by decide) (by decide)⟩
  ·
    show Steps p.tables e below (s₁.setTop (mkF m 0 #[.val (.ref w_CREDENTIAL)] [])) _
    refine XS.aloadN X0.here hx rfl (hb hby d2_0) rfl rfl ?_
    show Steps p.tables e below (s₁.setTop (mkF m 1 #[.val (.ref w_CREDENTIAL)] [(.ref w_CREDENTIAL)])) _
    refine st1 _ ?_
    show Steps p.tables e below (T1.setTop (mkF m 4 #[.val (.ref w_CREDENTIAL)] [(.ref w_REPEATED_VALUE)])) _
    refine st2 _ ?_
    show Steps p.tables e below (T2.setTop (mkF m 7 #[.val (.ref w_CREDENTIAL)] [(.ref w_FLAG), (.ref w_REPEATED_VALUE)])) _
    refine Jvm.RoadKit.acmp (g := (mkF m 7 #[.val (.ref w_CREDENTIAL)] [(.ref w_FLAG), (.ref w_REPEATED_VALUE)])) X2 hx rfl rfl rfl (pc0 := 7) (pc' := 10) (same := false) rfl (hb hby d2_7) rfl (decide_eq_false fun q => (Ne.symm ne_FLAG_REPEATED_VALUE) (Value.ref.inj q)) (by decide) (by decide) ?_
    show Steps p.tables e below (T2.setTop (mkF m 10 #[.val (.ref w_CREDENTIAL)] [])) _
    refine XS.iconst X2.here hx rfl (hb hby d2_10) ?_
    show Steps p.tables e below (T2.setTop (mkF m 11 #[.val (.ref w_CREDENTIAL)] [(.int (1 : Int32))])) _
    refine XS.goto X2.here hx rfl (pc0 := 11) (pc' := 15) rfl (hb hby d2_11) (by decide) (by decide) ?_
    show Steps p.tables e below (T2.setTop (mkF m 15 #[.val (.ref w_CREDENTIAL)] [(.int (1 : Int32))])) _
    exact retN X2 hx (t := .boolean) Bd.returns (by simp) (hb hby d2_15) hr
  · show Q2_1 Z w_CREDENTIAL w_REPEATED_VALUE w_FLAG h0 n0 _ T2.heap _
    rw [e2]
    exact ⟨rfl, N0, rfl⟩
theorem ef_rm1_9 (m : MethodId) (x0 : Addr) : entryFrame m #[(.ref x0)] 1 = mkF m 0 #[.val (.ref x0)] [] := by first | (simp [entryFrame, mkF, argsToLocals, Value.category]; done) | rfl
def Q1_9 (Z : State) (w_REQUESTS : Addr) (w_VALUE : Addr) (w_REPEATED_VALUE : Addr) (h0 : Heap) (n0 : Nat) (v : Option Value) (h : Heap) (L : List Loc) : Prop := v = some (.int (0 : Int32)) ∧ Fr n0 L ∧ h = h0
set_option maxRecDepth 65536 in
set_option maxHeartbeats 40000000 in
theorem rm1_9 (l : Launch) (Z : State) (a0 : Array Value) (hw : ∀ d ∈ tables_1, d.before a0 Z = true) (ws : List Jvm.Cond) (w_REQUESTS : Addr) (w_VALUE : Addr) (w_REPEATED_VALUE : Addr) (h0 : Heap) (n0 : Nat) (Z0 : n0 ≤ h0.size) (F_form_REQUESTS : Fld Z h0 w_REQUESTS "com/example/garm/garm/command/Option" "form" "Lcom/example/garm/garm/command/Option$Form;" (.ref w_VALUE)) (S_REPEATED_VALUE : Sta Z h0 "com/example/garm/garm/command/Option$Form" "REPEATED_VALUE" "Lcom/example/garm/garm/command/Option$Form;" (.ref w_REPEATED_VALUE)) (ne_REPEATED_VALUE_VALUE : w_REPEATED_VALUE ≠ w_VALUE) :
    MetFree l (⟨"com/example/garm/garm/command/Option", "isRepeatable", "()Z"⟩ : MethodName) (head1 (Jvm.Cond.code (⟨"com/example/garm/garm/command/Option", "isRepeatable", "()Z"⟩ : MethodName) prog_4_method_6_code 1 (some .boolean) :: ws) ({ frames := 0, cells := 0, slots := 0, locals := 0 } : Room)) (fun a U => a = #[(.ref w_REQUESTS)] ∧ Z.Warmed39 U.vm ∧ U.heap = h0) (fun _ _ _ _ _ => True) (fun _ U o U' => ∃ v L, o = .returned v ∧ Q1_9 Z w_REQUESTS w_VALUE w_REPEATED_VALUE h0 n0 v U'.heap L ∧ FrameEnd U o U' L ({ frames := 0, cells := 0, slots := 0, locals := 0 } : Room).cells ({ frames := 0, cells := 0, slots := 0, locals := 0 } : Room).slots) := by
  refine MetFree.of_bodySF (plainFor_of_name pn_0) hisR ?_
  intro p e s m args below meth c s₁ Bd hml0 hP hK
  obtain ⟨rfl, hZ, hh⟩ := hP
  have hx := Bd.exec
  have hby := Bd.bytes
  have hml : c.maxLocals = 1 := hml0
  have hown : s.vm.findClass "com/example/garm/garm/command/Option" = some m.cls := findClass_of_methodNamed Bd.named
  have hnm := (name_of_methodNamed Bd.named Bd.method).1
  have X0 : Stand p l e ({ frames := 0, cells := 0, slots := 0, locals := 0 } : Room) s m #[(.ref w_REQUESTS)] below meth c s₁ [] 0 0 := Stand.of_body Bd
  have e0 : s₁.heap = h0 := by rw [← hh, Bd.state]; rfl
  have N0 := Fr.nil n0
  have pre0 : ∀ t, Steps p.tables e below (s₁.setTop (mkF m 0 #[.val (.ref w_REQUESTS)] [])) t → Steps p.tables e below (s₁.setTop (entryFrame m #[(.ref w_REQUESTS)] 1)) t := fun t k => castTop (ef_rm1_9 m w_REQUESTS) k
  obtain ⟨T1, X1, e1, st1⟩ := getF X0 hx hZ hown (host := "") (Or.inl (hw _ (List.mem_of_getElem? (i := 44) rfl))) Via.refl e0 F_form_REQUESTS (g := (mkF m 1 #[.val (.ref w_REQUESTS)] [(.ref w_REQUESTS)])) rfl rfl (hb hby d1_1)
  obtain ⟨T2, X2, e2, st2⟩ := getS2 X1 hx hZ hown (host := "") (Or.inl (hw _ (List.mem_of_getElem? (i := 48) rfl))) Via.refl e1 S_REPEATED_VALUE (g := (mkF m 4 #[.val (.ref w_REQUESTS)] [(.ref w_VALUE)])) rfl (hb hby d1_4)
  obtain ⟨fs, hr, hrun, hended, hW, hsame⟩ := X2.leave (v := some (.int (0 : Int32))) (fun h => by rw [Bd.returns] at h; cases h)
  refine ⟨_, _, pre0 _ ?_, hrun, hended, _, _, rfl, ?_, ⟨_, rfl⟩, hW, hsame.mono (by decide) (by decide)⟩
  ·
    show Steps p.tables e below (s₁.setTop (mkF m 0 #[.val (.ref w_REQUESTS)] [])) _
    refine XS.aloadN X0.here hx rfl (hb hby d1_0) rfl rfl ?_
    show Steps p.tables e below (s₁.setTop (mkF m 1 #[.val (.ref w_REQUESTS)] [(.ref w_REQUESTS)])) _
    refine st1 _ ?_
    show Steps p.tables e below (T1.setTop (mkF m 4 #[.val (.ref w_REQUESTS)] [(.ref w_VALUE)])) _
    refine st2 _ ?_
    show Steps p.tables e below (T2.setTop (mkF m 7 #[.val (.ref w_REQUESTS)] [(.ref w_REPEATED_VALUE), (.ref w_VALUE)])) _
    refine Jvm.RoadKit.acmp (g := (mkF m 7 #[.val (.ref w_REQUESTS)] [(.ref w_REPEATED_VALUE), (.ref w_VALUE)])) X2 hx rfl rfl rfl (pc0 := 7) (pc' := 14) (same := false) rfl (hb hby d1_7) rfl (decide_eq_false fun q => (Ne.symm ne_REPEATED_VALUE_VALUE) (Value.ref.inj q)) (by decide) (by decide) ?_
    show Steps p.tables e below (T2.setTop (mkF m 14 #[.val (.ref w_REQUESTS)] [])) _
    refine XS.iconst X2.here hx rfl (hb hby d1_14) ?_
    show Steps p.tables e below (T2.setTop (mkF m 15 #[.val (.ref w_REQUESTS)] [(.int (0 : Int32))])) _
    exact retN X2 hx (t := .boolean) Bd.returns (by simp) (hb hby d1_15) hr
  · show Q1_9 Z w_REQUESTS w_VALUE w_REPEATED_VALUE h0 n0 _ T2.heap _
    rw [e2]
    exact ⟨rfl, N0, rfl⟩
theorem ef_rm1_10 (m : MethodId) (x0 : Addr) : entryFrame m #[(.ref x0)] 1 = mkF m 0 #[.val (.ref x0)] [] := by first | (simp [entryFrame, mkF, argsToLocals, Value.category]; done) | rfl
def Q1_10 (Z : State) (w_AGENTS : Addr) (w_VALUE : Addr) (w_REPEATED_VALUE : Addr) (h0 : Heap) (n0 : Nat) (v : Option Value) (h : Heap) (L : List Loc) : Prop := v = some (.int (0 : Int32)) ∧ Fr n0 L ∧ h = h0
set_option maxRecDepth 65536 in
set_option maxHeartbeats 40000000 in
theorem rm1_10 (l : Launch) (Z : State) (a0 : Array Value) (hw : ∀ d ∈ tables_1, d.before a0 Z = true) (ws : List Jvm.Cond) (w_AGENTS : Addr) (w_VALUE : Addr) (w_REPEATED_VALUE : Addr) (h0 : Heap) (n0 : Nat) (Z0 : n0 ≤ h0.size) (F_form_AGENTS : Fld Z h0 w_AGENTS "com/example/garm/garm/command/Option" "form" "Lcom/example/garm/garm/command/Option$Form;" (.ref w_VALUE)) (S_REPEATED_VALUE : Sta Z h0 "com/example/garm/garm/command/Option$Form" "REPEATED_VALUE" "Lcom/example/garm/garm/command/Option$Form;" (.ref w_REPEATED_VALUE)) (ne_REPEATED_VALUE_VALUE : w_REPEATED_VALUE ≠ w_VALUE) :
    MetFree l (⟨"com/example/garm/garm/command/Option", "isRepeatable", "()Z"⟩ : MethodName) (head1 (Jvm.Cond.code (⟨"com/example/garm/garm/command/Option", "isRepeatable", "()Z"⟩ : MethodName) prog_4_method_6_code 1 (some .boolean) :: ws) ({ frames := 0, cells := 0, slots := 0, locals := 0 } : Room)) (fun a U => a = #[(.ref w_AGENTS)] ∧ Z.Warmed39 U.vm ∧ U.heap = h0) (fun _ _ _ _ _ => True) (fun _ U o U' => ∃ v L, o = .returned v ∧ Q1_10 Z w_AGENTS w_VALUE w_REPEATED_VALUE h0 n0 v U'.heap L ∧ FrameEnd U o U' L ({ frames := 0, cells := 0, slots := 0, locals := 0 } : Room).cells ({ frames := 0, cells := 0, slots := 0, locals := 0 } : Room).slots) := by
  refine MetFree.of_bodySF (plainFor_of_name pn_0) hisR ?_
  intro p e s m args below meth c s₁ Bd hml0 hP hK
  obtain ⟨rfl, hZ, hh⟩ := hP
  have hx := Bd.exec
  have hby := Bd.bytes
  have hml : c.maxLocals = 1 := hml0
  have hown : s.vm.findClass "com/example/garm/garm/command/Option" = some m.cls := findClass_of_methodNamed Bd.named
  have hnm := (name_of_methodNamed Bd.named Bd.method).1
  have X0 : Stand p l e ({ frames := 0, cells := 0, slots := 0, locals := 0 } : Room) s m #[(.ref w_AGENTS)] below meth c s₁ [] 0 0 := Stand.of_body Bd
  have e0 : s₁.heap = h0 := by rw [← hh, Bd.state]; rfl
  have N0 := Fr.nil n0
  have pre0 : ∀ t, Steps p.tables e below (s₁.setTop (mkF m 0 #[.val (.ref w_AGENTS)] [])) t → Steps p.tables e below (s₁.setTop (entryFrame m #[(.ref w_AGENTS)] 1)) t := fun t k => castTop (ef_rm1_10 m w_AGENTS) k
  obtain ⟨T1, X1, e1, st1⟩ := getF X0 hx hZ hown (host := "") (Or.inl (hw _ (List.mem_of_getElem? (i := 44) rfl))) Via.refl e0 F_form_AGENTS (g := (mkF m 1 #[.val (.ref w_AGENTS)] [(.ref w_AGENTS)])) rfl rfl (hb hby d1_1)
  obtain ⟨T2, X2, e2, st2⟩ := getS2 X1 hx hZ hown (host := "") (Or.inl (hw _ (List.mem_of_getElem? (i := 48) rfl))) Via.refl e1 S_REPEATED_VALUE (g := (mkF m 4 #[.val (.ref w_AGENTS)] [(.ref w_VALUE)])) rfl (hb hby d1_4)
  obtain ⟨fs, hr, hrun, hended, hW, hsame⟩ := X2.leave (v := some (.int (0 : Int32))) (fun h => by rw [Bd.returns] at h; cases h)
  refine ⟨_, _, pre0 _ ?_, hrun, hended, _, _, rfl, ?_, ⟨_, rfl⟩, hW, hsame.mono (by decide) (by decide)⟩
  ·
    show Steps p.tables e below (s₁.setTop (mkF m 0 #[.val (.ref w_AGENTS)] [])) _
    refine XS.aloadN X0.here hx rfl (hb hby d1_0) rfl rfl ?_
    show Steps p.tables e below (s₁.setTop (mkF m 1 #[.val (.ref w_AGENTS)] [(.ref w_AGENTS)])) _
    refine st1 _ ?_
    show Steps p.tables e below (T1.setTop (mkF m 4 #[.val (.ref w_AGENTS)] [(.ref w_VALUE)])) _
    refine st2 _ ?_
    show Steps p.tables e below (T2.setTop (mkF m 7 #[.val (.ref w_AGENTS)] [(.ref w_REPEATED_VALUE), (.ref w_VALUE)])) _
    refine Jvm.RoadKit.acmp (g := (mkF m 7 #[.val (.ref w_AGENTS)] [(.ref w_REPEATED_VALUE), (.ref w_VALUE)])) X2 hx rfl rfl rfl (pc0 := 7) (pc' := 14) (same := false) rfl (hb hby d1_7) rfl (decide_eq_false fun q => (Ne.symm ne_REPEATED_VALUE_VALUE) (Value.ref.inj q)) (by decide) (by decide) ?_
    show Steps p.tables e below (T2.setTop (mkF m 14 #[.val (.ref w_AGENTS)] [])) _
    refine XS.iconst X2.here hx rfl (hb hby d1_14) ?_
    show Steps p.tables e below (T2.setTop (mkF m 15 #[.val (.ref w_AGENTS)] [(.int (0 : Int32))])) _
    exact retN X2 hx (t := .boolean) Bd.returns (by simp) (hb hby d1_15) hr
  · show Q1_10 Z w_AGENTS w_VALUE w_REPEATED_VALUE h0 n0 _ T2.heap _
    rw [e2]
    exact ⟨rfl, N0, rfl⟩
theorem ef_rm1_11 (m : MethodId) (x0 : Addr) : entryFrame m #[(.ref x0)] 1 = mkF m 0 #[.val (.ref x0)] [] := by first | (simp [entryFrame, mkF, argsToLocals, Value.category]; done) | rfl
def Q1_11 (Z : State) (w_STATS : Addr) (w_REPEATED_VALUE : Addr) (w_FLAG : Addr) (h0 : Heap) (n0 : Nat) (v : Option Value) (h : Heap) (L : List Loc) : Prop := v = some (.int (0 : Int32)) ∧ Fr n0 L ∧ h = h0
set_option maxRecDepth 65536 in
set_option maxHeartbeats 40000000 in
theorem rm1_11 (l : Launch) (Z : State) (a0 : Array Value) (hw : ∀ d ∈ tables_1, d.before a0 Z = true) (ws : List Jvm.Cond) (w_STATS : Addr) (w_REPEATED_VALUE : Addr) (w_FLAG : Addr) (h0 : Heap) (n0 : Nat) (Z0 : n0 ≤ h0.size) (F_form_STATS : Fld Z h0 w_STATS "com/example/garm/garm/command/Option" "form" "Lcom/example/garm/garm/command/Option$Form;" (.ref w_FLAG)) (S_REPEATED_VALUE : Sta Z h0 "com/example/garm/garm/command/Option$Form" "REPEATED_VALUE" "Lcom/example/garm/garm/command/Option$Form;" (.ref w_REPEATED_VALUE)) (ne_FLAG_REPEATED_VALUE : w_FLAG ≠ w_REPEATED_VALUE) :
    MetFree l (⟨"com/example/garm/garm/command/Option", "isRepeatable", "()Z"⟩ : MethodName) (head1 (Jvm.Cond.code (⟨"com/example/garm/garm/command/Option", "isRepeatable", "()Z"⟩ : MethodName) prog_4_method_6_code 1 (some .boolean) :: ws) ({ frames := 0, cells := 0, slots := 0, locals := 0 } : Room)) (fun a U => a = #[(.ref w_STATS)] ∧ Z.Warmed39 U.vm ∧ U.heap = h0) (fun _ _ _ _ _ => True) (fun _ U o U' => ∃ v L, o = .returned v ∧ Q1_11 Z w_STATS w_REPEATED_VALUE w_FLAG h0 n0 v U'.heap L ∧ FrameEnd U o U' L ({ frames := 0, cells := 0, slots := 0, locals := 0 } : Room).cells ({ frames := 0, cells := 0, slots := 0, locals := 0 } : Room).slots) := by
  refine MetFree.of_bodySF (plainFor_of_name pn_0) hisR ?_
  intro p e s m args below meth c s₁ Bd hml0 hP hK
  obtain ⟨rfl, hZ, hh⟩ := hP
  have hx := Bd.exec
  have hby := Bd.bytes
  have hml : c.maxLocals = 1 := hml0
  have hown : s.vm.findClass "com/example/garm/garm/command/Option" = some m.cls := findClass_of_methodNamed Bd.named
  have hnm := (name_of_methodNamed Bd.named Bd.method).1
  have X0 : Stand p l e ({ frames := 0, cells := 0, slots := 0, locals := 0 } : Room) s m #[(.ref w_STATS)] below meth c s₁ [] 0 0 := Stand.of_body Bd
  have e0 : s₁.heap = h0 := by rw [← hh, Bd.state]; rfl
  have N0 := Fr.nil n0
  have pre0 : ∀ t, Steps p.tables e below (s₁.setTop (mkF m 0 #[.val (.ref w_STATS)] [])) t → Steps p.tables e below (s₁.setTop (entryFrame m #[(.ref w_STATS)] 1)) t := fun t k => castTop (ef_rm1_11 m w_STATS) k
  obtain ⟨T1, X1, e1, st1⟩ := getF X0 hx hZ hown (host := "") (Or.inl (hw _ (List.mem_of_getElem? (i := 44) rfl))) Via.refl e0 F_form_STATS (g := (mkF m 1 #[.val (.ref w_STATS)] [(.ref w_STATS)])) rfl rfl (hb hby d1_1)
  obtain ⟨T2, X2, e2, st2⟩ := getS2 X1 hx hZ hown (host := "") (Or.inl (hw _ (List.mem_of_getElem? (i := 48) rfl))) Via.refl e1 S_REPEATED_VALUE (g := (mkF m 4 #[.val (.ref w_STATS)] [(.ref w_FLAG)])) rfl (hb hby d1_4)
  obtain ⟨fs, hr, hrun, hended, hW, hsame⟩ := X2.leave (v := some (.int (0 : Int32))) (fun h => by rw [Bd.returns] at h; cases h)
  refine ⟨_, _, pre0 _ ?_, hrun, hended, _, _, rfl, ?_, ⟨_, rfl⟩, hW, hsame.mono (by decide) (by decide)⟩
  ·
    show Steps p.tables e below (s₁.setTop (mkF m 0 #[.val (.ref w_STATS)] [])) _
    refine XS.aloadN X0.here hx rfl (hb hby d1_0) rfl rfl ?_
    show Steps p.tables e below (s₁.setTop (mkF m 1 #[.val (.ref w_STATS)] [(.ref w_STATS)])) _
    refine st1 _ ?_
    show Steps p.tables e below (T1.setTop (mkF m 4 #[.val (.ref w_STATS)] [(.ref w_FLAG)])) _
    refine st2 _ ?_
    show Steps p.tables e below (T2.setTop (mkF m 7 #[.val (.ref w_STATS)] [(.ref w_REPEATED_VALUE), (.ref w_FLAG)])) _
    refine Jvm.RoadKit.acmp (g := (mkF m 7 #[.val (.ref w_STATS)] [(.ref w_REPEATED_VALUE), (.ref w_FLAG)])) X2 hx rfl rfl rfl (pc0 := 7) (pc' := 14) (same := false) rfl (hb hby d1_7) rfl (decide_eq_false fun q => ne_FLAG_REPEATED_VALUE (Value.ref.inj q)) (by decide) (by decide) ?_
    show Steps p.tables e below (T2.setTop (mkF m 14 #[.val (.ref w_STATS)] [])) _
    refine XS.iconst X2.here hx rfl (hb hby d1_14) ?_
    show Steps p.tables e below (T2.setTop (mkF m 15 #[.val (.ref w_STATS)] [(.int (0 : Int32))])) _
    exact retN X2 hx (t := .boolean) Bd.returns (by simp) (hb hby d1_15) hr
  · show Q1_11 Z w_STATS w_REPEATED_VALUE w_FLAG h0 n0 _ T2.heap _
    rw [e2]
    exact ⟨rfl, N0, rfl⟩
theorem ef_rm1_12 (m : MethodId) (x0 : Addr) : entryFrame m #[(.ref x0)] 1 = mkF m 0 #[.val (.ref x0)] [] := by first | (simp [entryFrame, mkF, argsToLocals, Value.category]; done) | rfl
def Q1_12 (Z : State) (w_WAC_ALLOW : Addr) (w_REPEATED_VALUE : Addr) (w_FLAG : Addr) (h0 : Heap) (n0 : Nat) (v : Option Value) (h : Heap) (L : List Loc) : Prop := v = some (.int (0 : Int32)) ∧ Fr n0 L ∧ h = h0
set_option maxRecDepth 65536 in
set_option maxHeartbeats 40000000 in
theorem rm1_12 (l : Launch) (Z : State) (a0 : Array Value) (hw : ∀ d ∈ tables_1, d.before a0 Z = true) (ws : List Jvm.Cond) (w_WAC_ALLOW : Addr) (w_REPEATED_VALUE : Addr) (w_FLAG : Addr) (h0 : Heap) (n0 : Nat) (Z0 : n0 ≤ h0.size) (F_form_WAC_ALLOW : Fld Z h0 w_WAC_ALLOW "com/example/garm/garm/command/Option" "form" "Lcom/example/garm/garm/command/Option$Form;" (.ref w_FLAG)) (S_REPEATED_VALUE : Sta Z h0 "com/example/garm/garm/command/Option$Form" "REPEATED_VALUE" "Lcom/example/garm/garm/command/Option$Form;" (.ref w_REPEATED_VALUE)) (ne_FLAG_REPEATED_VALUE : w_FLAG ≠ w_REPEATED_VALUE) :
    MetFree l (⟨"com/example/garm/garm/command/Option", "isRepeatable", "()Z"⟩ : MethodName) (head1 (Jvm.Cond.code (⟨"com/example/garm/garm/command/Option", "isRepeatable", "()Z"⟩ : MethodName) prog_4_method_6_code 1 (some .boolean) :: ws) ({ frames := 0, cells := 0, slots := 0, locals := 0 } : Room)) (fun a U => a = #[(.ref w_WAC_ALLOW)] ∧ Z.Warmed39 U.vm ∧ U.heap = h0) (fun _ _ _ _ _ => True) (fun _ U o U' => ∃ v L, o = .returned v ∧ Q1_12 Z w_WAC_ALLOW w_REPEATED_VALUE w_FLAG h0 n0 v U'.heap L ∧ FrameEnd U o U' L ({ frames := 0, cells := 0, slots := 0, locals := 0 } : Room).cells ({ frames := 0, cells := 0, slots := 0, locals := 0 } : Room).slots) := by
  refine MetFree.of_bodySF (plainFor_of_name pn_0) hisR ?_
  intro p e s m args below meth c s₁ Bd hml0 hP hK
  obtain ⟨rfl, hZ, hh⟩ := hP
  have hx := Bd.exec
  have hby := Bd.bytes
  have hml : c.maxLocals = 1 := hml0
  have hown : s.vm.findClass "com/example/garm/garm/command/Option" = some m.cls := findClass_of_methodNamed Bd.named
  have hnm := (name_of_methodNamed Bd.named Bd.method).1
  have X0 : Stand p l e ({ frames := 0, cells := 0, slots := 0, locals := 0 } : Room) s m #[(.ref w_WAC_ALLOW)] below meth c s₁ [] 0 0 := Stand.of_body Bd
  have e0 : s₁.heap = h0 := by rw [← hh, Bd.state]; rfl
  have N0 := Fr.nil n0
  have pre0 : ∀ t, Steps p.tables e below (s₁.setTop (mkF m 0 #[.val (.ref w_WAC_ALLOW)] [])) t → Steps p.tables e below (s₁.setTop (entryFrame m #[(.ref w_WAC_ALLOW)] 1)) t := fun t k => castTop (ef_rm1_12 m w_WAC_ALLOW) k
  obtain ⟨T1, X1, e1, st1⟩ := getF X0 hx hZ hown (host := "") (Or.inl (hw _ (List.mem_of_getElem? (i := 44) rfl))) Via.refl e0 F_form_WAC_ALLOW (g := (mkF m 1 #[.val (.ref w_WAC_ALLOW)] [(.ref w_WAC_ALLOW)])) rfl rfl (hb hby d1_1)
  obtain ⟨T2, X2, e2, st2⟩ := getS2 X1 hx hZ hown (host := "") (Or.inl (hw _ (List.mem_of_getElem? (i := 48) rfl))) Via.refl e1 S_REPEATED_VALUE (g := (mkF m 4 #[.val (.ref w_WAC_ALLOW)] [(.ref w_FLAG)])) rfl (hb hby d1_4)
  obtain ⟨fs, hr, hrun, hended, hW, hsame⟩ := X2.leave (v := some (.int (0 : Int32))) (fun h => by rw [Bd.returns] at h; cases h)
  refine ⟨_, _, pre0 _ ?_, hrun, hended, _, _, rfl, ?_, ⟨_, rfl⟩, hW, hsame.mono (by decide) (by decide)⟩
  ·
    show Steps p.tables e below (s₁.setTop (mkF m 0 #[.val (.ref w_WAC_ALLOW)] [])) _
    refine XS.aloadN X0.here hx rfl (hb hby d1_0) rfl rfl ?_
    show Steps p.tables e below (s₁.setTop (mkF m 1 #[.val (.ref w_WAC_ALLOW)] [(.ref w_WAC_ALLOW)])) _
    refine st1 _ ?_
    show Steps p.tables e below (T1.setTop (mkF m 4 #[.val (.ref w_WAC_ALLOW)] [(.ref w_FLAG)])) _
    refine st2 _ ?_
    show Steps p.tables e below (T2.setTop (mkF m 7 #[.val (.ref w_WAC_ALLOW)] [(.ref w_REPEATED_VALUE), (.ref w_FLAG)])) _
    refine Jvm.RoadKit.acmp (g := (mkF m 7 #[.val (.ref w_WAC_ALLOW)] [(.ref w_REPEATED_VALUE), (.ref w_FLAG)])) X2 hx rfl rfl rfl (pc0 := 7) (pc' := 14) (same := false) rfl (hb hby d1_7) rfl (decide_eq_false fun q => ne_FLAG_REPEATED_VALUE (Value.ref.inj q)) (by decide) (by decide) ?_
    show Steps p.tables e below (T2.setTop (mkF m 14 #[.val (.ref w_WAC_ALLOW)] [])) _
    refine XS.iconst X2.here hx rfl (hb hby d1_14) ?_
    show Steps p.tables e below (T2.setTop (mkF m 15 #[.val (.ref w_WAC_ALLOW)] [(.int (0 : Int32))])) _
    exact retN X2 hx (t := .boolean) Bd.returns (by simp) (hb hby d1_15) hr
  · show Q1_12 Z w_WAC_ALLOW w_REPEATED_VALUE w_FLAG h0 n0 _ T2.heap _
    rw [e2]
    exact ⟨rfl, N0, rfl⟩
theorem ef_rm1_13 (m : MethodId) (x0 : Addr) : entryFrame m #[(.ref x0)] 1 = mkF m 0 #[.val (.ref x0)] [] := by first | (simp [entryFrame, mkF, argsToLocals, Value.category]; done) | rfl
def Q1_13 (Z : State) (w_METHOD : Addr) (w_VALUE : Addr) (w_REPEATED_VALUE : Addr) (h0 : Heap) (n0 : Nat) (v : Option Value) (h : Heap) (L : List Loc) : Prop := v = some (.int (0 : Int32)) ∧ Fr n0 L ∧ h = h0
set_option maxRecDepth 65536 in
set_option maxHeartbeats 40000000 in
theorem rm1_13 (l : Launch) (Z : State) (a0 : Array Value) (hw : ∀ d ∈ tables_1, d.before a0 Z = true) (ws : List Jvm.Cond) (w_METHOD : Addr) (w_VALUE : Addr) (w_REPEATED_VALUE : Addr) (h0 : Heap) (n0 : Nat) (Z0 : n0 ≤ h0.size) (F_form_METHOD : Fld Z h0 w_METHOD "com/example/garm/garm/command/Option" "form" "Lcom/example/garm/garm/command/Option$Form;" (.ref w_VALUE)) (S_REPEATED_VALUE : Sta Z h0 "com/example/garm/garm/command/Option$Form" "REPEATED_VALUE" "Lcom/example/garm/garm/command/Option$Form;" (.ref w_REPEATED_VALUE)) (ne_REPEATED_VALUE_VALUE : w_REPEATED_VALUE ≠ w_VALUE) :
    MetFree l (⟨"com/example/garm/garm/command/Option", "isRepeatable", "()Z"⟩ : MethodName) (head1 (Jvm.Cond.code (⟨"com/example/garm/garm/command/Option", "isRepeatable", "()Z"⟩ : MethodName) prog_4_method_6_code 1 (some .boolean) :: ws) ({ frames := 0, cells := 0, slots := 0, locals := 0 } : Room)) (fun a U => a = #[(.ref w_METHOD)] ∧ Z.Warmed39 U.vm ∧ U.heap = h0) (fun _ _ _ _ _ => True) (fun _ U o U' => ∃ v L, o = .returned v ∧ Q1_13 Z w_METHOD w_VALUE w_REPEATED_VALUE h0 n0 v U'.heap L ∧ FrameEnd U o U' L ({ frames := 0, cells := 0, slots := 0, locals := 0 } : Room).cells ({ frames := 0, cells := 0, slots := 0, locals := 0 } : Room).slots) := by
  refine MetFree.of_bodySF (plainFor_of_name pn_0) hisR ?_
  intro p e s m args below meth c s₁ Bd hml0 hP hK
  obtain ⟨rfl, hZ, hh⟩ := hP
  have hx := Bd.exec
  have hby := Bd.bytes
  have hml : c.maxLocals = 1 := hml0
  have hown : s.vm.findClass "com/example/garm/garm/command/Option" = some m.cls := findClass_of_methodNamed Bd.named
  have hnm := (name_of_methodNamed Bd.named Bd.method).1
  have X0 : Stand p l e ({ frames := 0, cells := 0, slots := 0, locals := 0 } : Room) s m #[(.ref w_METHOD)] below meth c s₁ [] 0 0 := Stand.of_body Bd
  have e0 : s₁.heap = h0 := by rw [← hh, Bd.state]; rfl
  have N0 := Fr.nil n0
  have pre0 : ∀ t, Steps p.tables e below (s₁.setTop (mkF m 0 #[.val (.ref w_METHOD)] [])) t → Steps p.tables e below (s₁.setTop (entryFrame m #[(.ref w_METHOD)] 1)) t := fun t k => castTop (ef_rm1_13 m w_METHOD) k
  obtain ⟨T1, X1, e1, st1⟩ := getF X0 hx hZ hown (host := "") (Or.inl (hw _ (List.mem_of_getElem? (i := 44) rfl))) Via.refl e0 F_form_METHOD (g := (mkF m 1 #[.val (.ref w_METHOD)] [(.ref w_METHOD)])) rfl rfl (hb hby d1_1)
  obtain ⟨T2, X2, e2, st2⟩ := getS2 X1 hx hZ hown (host := "") (Or.inl (hw _ (List.mem_of_getElem? (i := 48) rfl))) Via.refl e1 S_REPEATED_VALUE (g := (mkF m 4 #[.val (.ref w_METHOD)] [(.ref w_VALUE)])) rfl (hb hby d1_4)
  obtain ⟨fs, hr, hrun, hended, hW, hsame⟩ := X2.leave (v := some (.int (0 : Int32))) (fun h => by rw [Bd.returns] at h; cases h)
  refine ⟨_, _, pre0 _ ?_, hrun, hended, _, _, rfl, ?_, ⟨_, rfl⟩, hW, hsame.mono (by decide) (by decide)⟩
  ·
    show Steps p.tables e below (s₁.setTop (mkF m 0 #[.val (.ref w_METHOD)] [])) _
    refine XS.aloadN X0.here hx rfl (hb hby d1_0) rfl rfl ?_
    show Steps p.tables e below (s₁.setTop (mkF m 1 #[.val (.ref w_METHOD)] [(.ref w_METHOD)])) _
    refine st1 _ ?_
    show Steps p.tables e below (T1.setTop (mkF m 4 #[.val (.ref w_METHOD)] [(.ref w_VALUE)])) _
    refine st2 _ ?_
    show Steps p.tables e below (T2.setTop (mkF m 7 #[.val (.ref w_METHOD)] [(.ref w_REPEATED_VALUE), (.ref w_VALUE)])) _
    refine Jvm.RoadKit.acmp (g := (mkF m 7 #[.val (.ref w_METHOD)] [(.ref w_REPEATED_VALUE), (.ref w_VALUE)])) X2 hx rfl rfl rfl (pc0 := 7) (pc' := 14) (same := false) rfl (hb hby d1_7) rfl (decide_eq_false fun q => (Ne.symm ne_REPEATED_VALUE_VALUE) (Value.ref.inj q)) (by decide) (by decide) ?_
    show Steps p.tables e below (T2.setTop (mkF m 14 #[.val (.ref w_METHOD)] [])) _
    refine XS.iconst X2.here hx rfl (hb hby d1_14) ?_
    show Steps p.tables e below (T2.setTop (mkF m 15 #[.val (.ref w_METHOD)] [(.int (0 : Int32))])) _
    exact retN X2 hx (t := .boolean) Bd.returns (by simp) (hb hby d1_15) hr
  · show Q1_13 Z w_METHOD w_VALUE w_REPEATED_VALUE h0 n0 _ T2.heap _
    rw [e2]
    exact ⟨rfl, N0, rfl⟩
theorem ef_rm1_14 (m : MethodId) (x0 : Addr) : entryFrame m #[(.ref x0)] 1 = mkF m 0 #[.val (.ref x0)] [] := by first | (simp [entryFrame, mkF, argsToLocals, Value.category]; done) | rfl
def Q1_14 (Z : State) (w_CREATES : Addr) (w_REPEATED_VALUE : Addr) (w_FLAG : Addr) (h0 : Heap) (n0 : Nat) (v : Option Value) (h : Heap) (L : List Loc) : Prop := v = some (.int (0 : Int32)) ∧ Fr n0 L ∧ h = h0
set_option maxRecDepth 65536 in
set_option maxHeartbeats 40000000 in
theorem rm1_14 (l : Launch) (Z : State) (a0 : Array Value) (hw : ∀ d ∈ tables_1, d.before a0 Z = true) (ws : List Jvm.Cond) (w_CREATES : Addr) (w_REPEATED_VALUE : Addr) (w_FLAG : Addr) (h0 : Heap) (n0 : Nat) (Z0 : n0 ≤ h0.size) (F_form_CREATES : Fld Z h0 w_CREATES "com/example/garm/garm/command/Option" "form" "Lcom/example/garm/garm/command/Option$Form;" (.ref w_FLAG)) (S_REPEATED_VALUE : Sta Z h0 "com/example/garm/garm/command/Option$Form" "REPEATED_VALUE" "Lcom/example/garm/garm/command/Option$Form;" (.ref w_REPEATED_VALUE)) (ne_FLAG_REPEATED_VALUE : w_FLAG ≠ w_REPEATED_VALUE) :
    MetFree l (⟨"com/example/garm/garm/command/Option", "isRepeatable", "()Z"⟩ : MethodName) (head1 (Jvm.Cond.code (⟨"com/example/garm/garm/command/Option", "isRepeatable", "()Z"⟩ : MethodName) prog_4_method_6_code 1 (some .boolean) :: ws) ({ frames := 0, cells := 0, slots := 0, locals := 0 } : Room)) (fun a U => a = #[(.ref w_CREATES)] ∧ Z.Warmed39 U.vm ∧ U.heap = h0) (fun _ _ _ _ _ => True) (fun _ U o U' => ∃ v L, o = .returned v ∧ Q1_14 Z w_CREATES w_REPEATED_VALUE w_FLAG h0 n0 v U'.heap L ∧ FrameEnd U o U' L ({ frames := 0, cells := 0, slots := 0, locals := 0 } : Room).cells ({ frames := 0, cells := 0, slots := 0, locals := 0 } : Room).slots) := by
  refine MetFree.of_bodySF (plainFor_of_name pn_0) hisR ?_
  intro p e s m args below meth c s₁ Bd hml0 hP hK
  obtain ⟨rfl, hZ, hh⟩ := hP
  have hx := Bd.exec
  have hby := Bd.bytes
  have hml : c.maxLocals = 1 := hml0
  have hown : s.vm.findClass "com/example/garm/garm/command/Option" = some m.cls := findClass_of_methodNamed Bd.named
  have hnm := (name_of_methodNamed Bd.named Bd.method).1
  have X0 : Stand p l e ({ frames := 0, cells := 0, slots := 0, locals := 0 } : Room) s m #[(.ref w_CREATES)] below meth c s₁ [] 0 0 := Stand.of_body Bd
  have e0 : s₁.heap = h0 := by rw [← hh, Bd.state]; rfl
  have N0 := Fr.nil n0
  have pre0 : ∀ t, Steps p.tables e below (s₁.setTop (mkF m 0 #[.val (.ref w_CREATES)] [])) t → Steps p.tables e below (s₁.setTop (entryFrame m #[(.ref w_CREATES)] 1)) t := fun t k => castTop (ef_rm1_14 m w_CREATES) k
  obtain ⟨T1, X1, e1, st1⟩ := getF X0 hx hZ hown (host := "") (Or.inl (hw _ (List.mem_of_getElem? (i := 44) rfl))) Via.refl e0 F_form_CREATES (g := (mkF m 1 #[.val (.ref w_CREATES)] [(.ref w_CREATES)])) rfl rfl (hb hby d1_1)
  obtain ⟨T2, X2, e2, st2⟩ := getS2 X1 hx hZ hown (host := "") (Or.inl (hw _ (List.mem_of_getElem? (i := 48) rfl))) Via.refl e1 S_REPEATED_VALUE (g := (mkF m 4 #[.val (.ref w_CREATES)] [(.ref w_FLAG)])) rfl (hb hby d1_4)
  obtain ⟨fs, hr, hrun, hended, hW, hsame⟩ := X2.leave (v := some (.int (0 : Int32))) (fun h => by rw [Bd.returns] at h; cases h)
  refine ⟨_, _, pre0 _ ?_, hrun, hended, _, _, rfl, ?_, ⟨_, rfl⟩, hW, hsame.mono (by decide) (by decide)⟩
  ·
    show Steps p.tables e below (s₁.setTop (mkF m 0 #[.val (.ref w_CREATES)] [])) _
    refine XS.aloadN X0.here hx rfl (hb hby d1_0) rfl rfl ?_
    show Steps p.tables e below (s₁.setTop (mkF m 1 #[.val (.ref w_CREATES)] [(.ref w_CREATES)])) _
    refine st1 _ ?_
    show Steps p.tables e below (T1.setTop (mkF m 4 #[.val (.ref w_CREATES)] [(.ref w_FLAG)])) _
    refine st2 _ ?_
    show Steps p.tables e below (T2.setTop (mkF m 7 #[.val (.ref w_CREATES)] [(.ref w_REPEATED_VALUE), (.ref w_FLAG)])) _
    refine Jvm.RoadKit.acmp (g := (mkF m 7 #[.val (.ref w_CREATES)] [(.ref w_REPEATED_VALUE), (.ref w_FLAG)])) X2 hx rfl rfl rfl (pc0 := 7) (pc' := 14) (same := false) rfl (hb hby d1_7) rfl (decide_eq_false fun q => ne_FLAG_REPEATED_VALUE (Value.ref.inj q)) (by decide) (by decide) ?_
    show Steps p.tables e below (T2.setTop (mkF m 14 #[.val (.ref w_CREATES)] [])) _
    refine XS.iconst X2.here hx rfl (hb hby d1_14) ?_
    show Steps p.tables e below (T2.setTop (mkF m 15 #[.val (.ref w_CREATES)] [(.int (0 : Int32))])) _
    exact retN X2 hx (t := .boolean) Bd.returns (by simp) (hb hby d1_15) hr
  · show Q1_14 Z w_CREATES w_REPEATED_VALUE w_FLAG h0 n0 _ T2.heap _
    rw [e2]
    exact ⟨rfl, N0, rfl⟩
theorem ef_rm1_15 (m : MethodId) (x0 : Addr) : entryFrame m #[(.ref x0)] 1 = mkF m 0 #[.val (.ref x0)] [] := by first | (simp [entryFrame, mkF, argsToLocals, Value.category]; done) | rfl
def Q1_15 (Z : State) (w_REMOVES : Addr) (w_REPEATED_VALUE : Addr) (w_FLAG : Addr) (h0 : Heap) (n0 : Nat) (v : Option Value) (h : Heap) (L : List Loc) : Prop := v = some (.int (0 : Int32)) ∧ Fr n0 L ∧ h = h0
set_option maxRecDepth 65536 in
set_option maxHeartbeats 40000000 in
theorem rm1_15 (l : Launch) (Z : State) (a0 : Array Value) (hw : ∀ d ∈ tables_1, d.before a0 Z = true) (ws : List Jvm.Cond) (w_REMOVES : Addr) (w_REPEATED_VALUE : Addr) (w_FLAG : Addr) (h0 : Heap) (n0 : Nat) (Z0 : n0 ≤ h0.size) (F_form_REMOVES : Fld Z h0 w_REMOVES "com/example/garm/garm/command/Option" "form" "Lcom/example/garm/garm/command/Option$Form;" (.ref w_FLAG)) (S_REPEATED_VALUE : Sta Z h0 "com/example/garm/garm/command/Option$Form" "REPEATED_VALUE" "Lcom/example/garm/garm/command/Option$Form;" (.ref w_REPEATED_VALUE)) (ne_FLAG_REPEATED_VALUE : w_FLAG ≠ w_REPEATED_VALUE) :
    MetFree l (⟨"com/example/garm/garm/command/Option", "isRepeatable", "()Z"⟩ : MethodName) (head1 (Jvm.Cond.code (⟨"com/example/garm/garm/command/Option", "isRepeatable", "()Z"⟩ : MethodName) prog_4_method_6_code 1 (some .boolean) :: ws) ({ frames := 0, cells := 0, slots := 0, locals := 0 } : Room)) (fun a U => a = #[(.ref w_REMOVES)] ∧ Z.Warmed39 U.vm ∧ U.heap = h0) (fun _ _ _ _ _ => True) (fun _ U o U' => ∃ v L, o = .returned v ∧ Q1_15 Z w_REMOVES w_REPEATED_VALUE w_FLAG h0 n0 v U'.heap L ∧ FrameEnd U o U' L ({ frames := 0, cells := 0, slots := 0, locals := 0 } : Room).cells ({ frames := 0, cells := 0, slots := 0, locals := 0 } : Room).slots) := by
  refine MetFree.of_bodySF (plainFor_of_name pn_0) hisR ?_
  intro p e s m args below meth c s₁ Bd hml0 hP hK
  obtain ⟨rfl, hZ, hh⟩ := hP
  have hx := Bd.exec
  have hby := Bd.bytes
  have hml : c.maxLocals = 1 := hml0
  have hown : s.vm.findClass "com/example/garm/garm/command/Option" = some m.cls := findClass_of_methodNamed Bd.named
  have hnm := (name_of_methodNamed Bd.named Bd.method).1
  have X0 : Stand p l e ({ frames := 0, cells := 0, slots := 0, locals := 0 } : Room) s m #[(.ref w_REMOVES)] below meth c s₁ [] 0 0 := Stand.of_body Bd
  have e0 : s₁.heap = h0 := by rw [← hh, Bd.state]; rfl
  have N0 := Fr.nil n0
  have pre0 : ∀ t, Steps p.tables e below (s₁.setTop (mkF m 0 #[.val (.ref w_REMOVES)] [])) t → Steps p.tables e below (s₁.setTop (entryFrame m #[(.ref w_REMOVES)] 1)) t := fun t k => castTop (ef_rm1_15 m w_REMOVES) k
  obtain ⟨T1, X1, e1, st1⟩ := getF X0 hx hZ hown (host := "") (Or.inl (hw _ (List.mem_of_getElem? (i := 44) rfl))) Via.refl e0 F_form_REMOVES (g := (mkF m 1 #[.val (.ref w_REMOVES)] [(.ref w_REMOVES)])) rfl rfl (hb hby d1_1)
  obtain ⟨T2, X2, e2, st2⟩ := getS2 X1 hx hZ hown (host := "") (Or.inl (hw _ (List.mem_of_getElem? (i := 48) rfl))) Via.refl e1 S_REPEATED_VALUE (g := (mkF m 4 #[.val (.ref w_REMOVES)] [(.ref w_FLAG)])) rfl (hb hby d1_4)
  obtain ⟨fs, hr, hrun, hended, hW, hsame⟩ := X2.leave (v := some (.int (0 : Int32))) (fun h => by rw [Bd.returns] at h; cases h)
  refine ⟨_, _, pre0 _ ?_, hrun, hended, _, _, rfl, ?_, ⟨_, rfl⟩, hW, hsame.mono (by decide) (by decide)⟩
  ·
    show Steps p.tables e below (s₁.setTop (mkF m 0 #[.val (.ref w_REMOVES)] [])) _
    refine XS.aloadN X0.here hx rfl (hb hby d1_0) rfl rfl ?_
    show Steps p.tables e below (s₁.setTop (mkF m 1 #[.val (.ref w_REMOVES)] [(.ref w_REMOVES)])) _
    refine st1 _ ?_
    show Steps p.tables e below (T1.setTop (mkF m 4 #[.val (.ref w_REMOVES)] [(.ref w_FLAG)])) _
    refine st2 _ ?_
    show Steps p.tables e below (T2.setTop (mkF m 7 #[.val (.ref w_REMOVES)] [(.ref w_REPEATED_VALUE), (.ref w_FLAG)])) _
    refine Jvm.RoadKit.acmp (g := (mkF m 7 #[.val (.ref w_REMOVES)] [(.ref w_REPEATED_VALUE), (.ref w_FLAG)])) X2 hx rfl rfl rfl (pc0 := 7) (pc' := 14) (same := false) rfl (hb hby d1_7) rfl (decide_eq_false fun q => ne_FLAG_REPEATED_VALUE (Value.ref.inj q)) (by decide) (by decide) ?_
    show Steps p.tables e below (T2.setTop (mkF m 14 #[.val (.ref w_REMOVES)] [])) _
    refine XS.iconst X2.here hx rfl (hb hby d1_14) ?_
    show Steps p.tables e below (T2.setTop (mkF m 15 #[.val (.ref w_REMOVES)] [(.int (0 : Int32))])) _
    exact retN X2 hx (t := .boolean) Bd.returns (by simp) (hb hby d1_15) hr
  · show Q1_15 Z w_REMOVES w_REPEATED_VALUE w_FLAG h0 n0 _ T2.heap _
    rw [e2]
    exact ⟨rfl, N0, rfl⟩
theorem ef_rm1_16 (m : MethodId) (x0 : Addr) : entryFrame m #[(.ref x0)] 1 = mkF m 0 #[.val (.ref x0)] [] := by first | (simp [entryFrame, mkF, argsToLocals, Value.category]; done) | rfl
def Q1_16 (Z : State) (w_PORT : Addr) (w_VALUE : Addr) (w_REPEATED_VALUE : Addr) (h0 : Heap) (n0 : Nat) (v : Option Value) (h : Heap) (L : List Loc) : Prop := v = some (.int (0 : Int32)) ∧ Fr n0 L ∧ h = h0
set_option maxRecDepth 65536 in
set_option maxHeartbeats 40000000 in
theorem rm1_16 (l : Launch) (Z : State) (a0 : Array Value) (hw : ∀ d ∈ tables_1, d.before a0 Z = true) (ws : List Jvm.Cond) (w_PORT : Addr) (w_VALUE : Addr) (w_REPEATED_VALUE : Addr) (h0 : Heap) (n0 : Nat) (Z0 : n0 ≤ h0.size) (F_form_PORT : Fld Z h0 w_PORT "com/example/garm/garm/command/Option" "form" "Lcom/example/garm/garm/command/Option$Form;" (.ref w_VALUE)) (S_REPEATED_VALUE : Sta Z h0 "com/example/garm/garm/command/Option$Form" "REPEATED_VALUE" "Lcom/example/garm/garm/command/Option$Form;" (.ref w_REPEATED_VALUE)) (ne_REPEATED_VALUE_VALUE : w_REPEATED_VALUE ≠ w_VALUE) :
    MetFree l (⟨"com/example/garm/garm/command/Option", "isRepeatable", "()Z"⟩ : MethodName) (head1 (Jvm.Cond.code (⟨"com/example/garm/garm/command/Option", "isRepeatable", "()Z"⟩ : MethodName) prog_4_method_6_code 1 (some .boolean) :: ws) ({ frames := 0, cells := 0, slots := 0, locals := 0 } : Room)) (fun a U => a = #[(.ref w_PORT)] ∧ Z.Warmed39 U.vm ∧ U.heap = h0) (fun _ _ _ _ _ => True) (fun _ U o U' => ∃ v L, o = .returned v ∧ Q1_16 Z w_PORT w_VALUE w_REPEATED_VALUE h0 n0 v U'.heap L ∧ FrameEnd U o U' L ({ frames := 0, cells := 0, slots := 0, locals := 0 } : Room).cells ({ frames := 0, cells := 0, slots := 0, locals := 0 } : Room).slots) := by
  refine MetFree.of_bodySF (plainFor_of_name pn_0) hisR ?_
  intro p e s m args below meth c s₁ Bd hml0 hP hK
  obtain ⟨rfl, hZ, hh⟩ := hP
  have hx := Bd.exec
  have hby := Bd.bytes
  have hml : c.maxLocals = 1 := hml0
  have hown : s.vm.findClass "com/example/garm/garm/command/Option" = some m.cls := findClass_of_methodNamed Bd.named
  have hnm := (name_of_methodNamed Bd.named Bd.method).1
  have X0 : Stand p l e ({ frames := 0, cells := 0, slots := 0, locals := 0 } : Room) s m #[(.ref w_PORT)] below meth c s₁ [] 0 0 := Stand.of_body Bd
  have e0 : s₁.heap = h0 := by rw [← hh, Bd.state]; rfl
  have N0 := Fr.nil n0
  have pre0 : ∀ t, Steps p.tables e below (s₁.setTop (mkF m 0 #[.val (.ref w_PORT)] [])) t → Steps p.tables e below (s₁.setTop (entryFrame m #[(.ref w_PORT)] 1)) t := fun t k => castTop (ef_rm1_16 m w_PORT) k
  obtain ⟨T1, X1, e1, st1⟩ := getF X0 hx hZ hown (host := "") (Or.inl (hw _ (List.mem_of_getElem? (i := 44) rfl))) Via.refl e0 F_form_PORT (g := (mkF m 1 #[.val (.ref w_PORT)] [(.ref w_PORT)])) rfl rfl (hb hby d1_1)
  obtain ⟨T2, X2, e2, st2⟩ := getS2 X1 hx hZ hown (host := "") (Or.inl (hw _ (List.mem_of_getElem? (i := 48) rfl))) Via.refl e1 S_REPEATED_VALUE (g := (mkF m 4 #[.val (.ref w_PORT)] [(.ref w_VALUE)])) rfl (hb hby d1_4)
  obtain ⟨fs, hr, hrun, hended, hW, hsame⟩ := X2.leave (v := some (.int (0 : Int32))) (fun h => by rw [Bd.returns] at h; cases h)
  refine ⟨_, _, pre0 _ ?_, hrun, hended, _, _, rfl, ?_, ⟨_, rfl⟩, hW, hsame.mono (by decide) (by decide)⟩
  ·
    show Steps p.tables e below (s₁.setTop (mkF m 0 #[.val (.ref w_PORT)] [])) _
    refine XS.aloadN X0.here hx rfl (hb hby d1_0) rfl rfl ?_
    show Steps p.tables e below (s₁.setTop (mkF m 1 #[.val (.ref w_PORT)] [(.ref w_PORT)])) _
    refine st1 _ ?_
    show Steps p.tables e below (T1.setTop (mkF m 4 #[.val (.ref w_PORT)] [(.ref w_VALUE)])) _
    refine st2 _ ?_
    show Steps p.tables e below (T2.setTop (mkF m 7 #[.val (.ref w_PORT)] [(.ref w_REPEATED_VALUE), (.ref w_VALUE)])) _
    refine Jvm.RoadKit.acmp (g := (mkF m 7 #[.val (.ref w_PORT)] [(.ref w_REPEATED_VALUE), (.ref w_VALUE)])) X2 hx rfl rfl rfl (pc0 := 7) (pc' := 14) (same := false) rfl (hb hby d1_7) rfl (decide_eq_false fun q => (Ne.symm ne_REPEATED_VALUE_VALUE) (Value.ref.inj q)) (by decide) (by decide) ?_
    show Steps p.tables e below (T2.setTop (mkF m 14 #[.val (.ref w_PORT)] [])) _
    refine XS.iconst X2.here hx rfl (hb hby d1_14) ?_
    show Steps p.tables e below (T2.setTop (mkF m 15 #[.val (.ref w_PORT)] [(.int (0 : Int32))])) _
    exact retN X2 hx (t := .boolean) Bd.returns (by simp) (hb hby d1_15) hr
  · show Q1_16 Z w_PORT w_VALUE w_REPEATED_VALUE h0 n0 _ T2.heap _
    rw [e2]
    exact ⟨rfl, N0, rfl⟩
theorem pn_1 : plainName "com/example/garm/garm/command/OptionIsRepeatablePinLaw" = true := by first | (simp [plainName, overriddenIn]; done) | decide +kernel
theorem ef_rm0_0 (m : MethodId) (x0 : Int32) : entryFrame m #[(.int x0)] maxLocals = mkF m 0 #[.val (.int x0), .unset, .unset, .unset, .unset] [] := by first | (simp [entryFrame, mkF, argsToLocals, Value.category, maxLocals]; done) | rfl
def Q0_0 (Z : State) (p1 : Int32) (w_POD : Addr) (w_BASE : Addr) (w_RESOURCE : Addr) (w_AGENT : Addr) (w_CLIENT : Addr) (w_ISSUER : Addr) (w_OWNER : Addr) (w_CREATOR : Addr) (w_CREDENTIAL : Addr) (w_REQUESTS : Addr) (w_AGENTS : Addr) (w_STATS : Addr) (w_WAC_ALLOW : Addr) (w_METHOD : Addr) (w_CREATES : Addr) (w_REMOVES : Addr) (w_PORT : Addr) (w_VALUE : Addr) (w_REPEATED_VALUE : Addr) (w_FLAG : Addr) (h0 : Heap) (n0 : Nat) (v : Option Value) (h : Heap) (L : List Loc) : Prop := v = some (.int (1 : Int32)) ∧ Fr n0 L
set_option maxRecDepth 65536 in
set_option maxHeartbeats 40000000 in
theorem rm0_0 (l : Launch) (Z : State) (a0 : Array Value) (hw : ∀ d ∈ tables_1, d.before a0 Z = true) (ws : List Jvm.Cond) (p1 : Int32) (w_POD : Addr) (w_BASE : Addr) (w_RESOURCE : Addr) (w_AGENT : Addr) (w_CLIENT : Addr) (w_ISSUER : Addr) (w_OWNER : Addr) (w_CREATOR : Addr) (w_CREDENTIAL : Addr) (w_REQUESTS : Addr) (w_AGENTS : Addr) (w_STATS : Addr) (w_WAC_ALLOW : Addr) (w_METHOD : Addr) (w_CREATES : Addr) (w_REMOVES : Addr) (w_PORT : Addr) (w_VALUE : Addr) (w_REPEATED_VALUE : Addr) (w_FLAG : Addr) (h0 : Heap) (n0 : Nat) (Z0 : n0 ≤ h0.size) (S_POD : Sta Z h0 "com/example/garm/garm/command/Option" "POD" "Lcom/example/garm/garm/command/Option;" (.ref w_POD)) (E_POD : Exa Z h0 w_POD "com/example/garm/garm/command/Option") (S_BASE : Sta Z h0 "com/example/garm/garm/command/Option" "BASE" "Lcom/example/garm/garm/command/Option;" (.ref w_BASE)) (E_BASE : Exa Z h0 w_BASE "com/example/garm/garm/command/Option") (S_RESOURCE : Sta Z h0 "com/example/garm/garm/command/Option" "RESOURCE" "Lcom/example/garm/garm/command/Option;" (.ref w_RESOURCE)) (E_RESOURCE : Exa Z h0 w_RESOURCE "com/example/garm/garm/command/Option") (S_AGENT : Sta Z h0 "com/example/garm/garm/command/Option" "AGENT" "Lcom/example/garm/garm/command/Option;" (.ref w_AGENT)) (E_AGENT : Exa Z h0 w_AGENT "com/example/garm/garm/command/Option") (S_CLIENT : Sta Z h0 "com/example/garm/garm/command/Option" "CLIENT" "Lcom/example/garm/garm/command/Option;" (.ref w_CLIENT)) (E_CLIENT : Exa Z h0 w_CLIENT "com/example/garm/garm/command/Option") (S_ISSUER : Sta Z h0 "com/example/garm/garm/command/Option" "ISSUER" "Lcom/example/garm/garm/command/Option;" (.ref w_ISSUER)) (E_ISSUER : Exa Z h0 w_ISSUER "com/example/garm/garm/command/Option") (S_OWNER : Sta Z h0 "com/example/garm/garm/command/Option" "OWNER" "Lcom/example/garm/garm/command/Option;" (.ref w_OWNER)) (E_OWNER : Exa Z h0 w_OWNER "com/example/garm/garm/command/Option") (S_CREATOR : Sta Z h0 "com/example/garm/garm/command/Option" "CREATOR" "Lcom/example/garm/garm/command/Option;" (.ref w_CREATOR)) (E_CREATOR : Exa Z h0 w_CREATOR "com/example/garm/garm/command/Option") (S_CREDENTIAL : Sta Z h0 "com/example/garm/garm/command/Option" "CREDENTIAL" "Lcom/example/garm/garm/command/Option;" (.ref w_CREDENTIAL)) (E_CREDENTIAL : Exa Z h0 w_CREDENTIAL "com/example/garm/garm/command/Option") (S_REQUESTS : Sta Z h0 "com/example/garm/garm/command/Option" "REQUESTS" "Lcom/example/garm/garm/command/Option;" (.ref w_REQUESTS)) (E_REQUESTS : Exa Z h0 w_REQUESTS "com/example/garm/garm/command/Option") (S_AGENTS : Sta Z h0 "com/example/garm/garm/command/Option" "AGENTS" "Lcom/example/garm/garm/command/Option;" (.ref w_AGENTS)) (E_AGENTS : Exa Z h0 w_AGENTS "com/example/garm/garm/command/Option") (S_STATS : Sta Z h0 "com/example/garm/garm/command/Option" "STATS" "Lcom/example/garm/garm/command/Option;" (.ref w_STATS)) (E_STATS : Exa Z h0 w_STATS "com/example/garm/garm/command/Option") (S_WAC_ALLOW : Sta Z h0 "com/example/garm/garm/command/Option" "WAC_ALLOW" "Lcom/example/garm/garm/command/Option;" (.ref w_WAC_ALLOW)) (E_WAC_ALLOW : Exa Z h0 w_WAC_ALLOW "com/example/garm/garm/command/Option") (S_METHOD : Sta Z h0 "com/example/garm/garm/command/Option" "METHOD" "Lcom/example/garm/garm/command/Option;" (.ref w_METHOD)) (E_METHOD : Exa Z h0 w_METHOD "com/example/garm/garm/command/Option") (S_CREATES : Sta Z h0 "com/example/garm/garm/command/Option" "CREATES" "Lcom/example/garm/garm/command/Option;" (.ref w_CREATES)) (E_CREATES : Exa Z h0 w_CREATES "com/example/garm/garm/command/Option") (S_REMOVES : Sta Z h0 "com/example/garm/garm/command/Option" "REMOVES" "Lcom/example/garm/garm/command/Option;" (.ref w_REMOVES)) (E_REMOVES : Exa Z h0 w_REMOVES "com/example/garm/garm/command/Option") (S_PORT : Sta Z h0 "com/example/garm/garm/command/Option" "PORT" "Lcom/example/garm/garm/command/Option;" (.ref w_PORT)) (E_PORT : Exa Z h0 w_PORT "com/example/garm/garm/command/Option") (ne_OWNER_POD : w_OWNER ≠ w_POD) (ne_CREDENTIAL_POD : w_CREDENTIAL ≠ w_POD) (F_form_POD : Fld Z h0 w_POD "com/example/garm/garm/command/Option" "form" "Lcom/example/garm/garm/command/Option$Form;" (.ref w_VALUE)) (S_REPEATED_VALUE : Sta Z h0 "com/example/garm/garm/command/Option$Form" "REPEATED_VALUE" "Lcom/example/garm/garm/command/Option$Form;" (.ref w_REPEATED_VALUE)) (ne_REPEATED_VALUE_VALUE : w_REPEATED_VALUE ≠ w_VALUE) (ne_BASE_OWNER : w_BASE ≠ w_OWNER) (ne_BASE_CREDENTIAL : w_BASE ≠ w_CREDENTIAL) (F_form_BASE : Fld Z h0 w_BASE "com/example/garm/garm/command/Option" "form" "Lcom/example/garm/garm/command/Option$Form;" (.ref w_VALUE)) (ne_OWNER_RESOURCE : w_OWNER ≠ w_RESOURCE) (ne_CREDENTIAL_RESOURCE : w_CREDENTIAL ≠ w_RESOURCE) (F_form_RESOURCE : Fld Z h0 w_RESOURCE "com/example/garm/garm/command/Option" "form" "Lcom/example/garm/garm/command/Option$Form;" (.ref w_VALUE)) (ne_AGENT_OWNER : w_AGENT ≠ w_OWNER) (ne_AGENT_CREDENTIAL : w_AGENT ≠ w_CREDENTIAL) (F_form_AGENT : Fld Z h0 w_AGENT "com/example/garm/garm/command/Option" "form" "Lcom/example/garm/garm/command/Option$Form;" (.ref w_VALUE)) (ne_CLIENT_OWNER : w_CLIENT ≠ w_OWNER) (ne_CLIENT_CREDENTIAL : w_CLIENT ≠ w_CREDENTIAL) (F_form_CLIENT : Fld Z h0 w_CLIENT "com/example/garm/garm/command/Option" "form" "Lcom/example/garm/garm/command/Option$Form;" (.ref w_VALUE)) (ne_ISSUER_OWNER : w_ISSUER ≠ w_OWNER) (ne_CREDENTIAL_ISSUER : w_CREDENTIAL ≠ w_ISSUER) (F_form_ISSUER : Fld Z h0 w_ISSUER "com/example/garm/garm/command/Option" "form" "Lcom/example/garm/garm/command/Option$Form;" (.ref w_VALUE)) (F_form_OWNER : Fld Z h0 w_OWNER "com/example/garm/garm/command/Option" "form" "Lcom/example/garm/garm/command/Option$Form;" (.ref w_REPEATED_VALUE)) (S_FLAG : Sta Z h0 "com/example/garm/garm/command/Option$Form" "FLAG" "Lcom/example/garm/garm/command/Option$Form;" (.ref w_FLAG)) (ne_FLAG_REPEATED_VALUE : w_FLAG ≠ w_REPEATED_VALUE) (ne_CREATOR_OWNER : w_CREATOR ≠ w_OWNER) (ne_CREATOR_CREDENTIAL : w_CREATOR ≠ w_CREDENTIAL) (F_form_CREATOR : Fld Z h0 w_CREATOR "com/example/garm/garm/command/Option" "form" "Lcom/example/garm/garm/command/Option$Form;" (.ref w_VALUE)) (ne_CREDENTIAL_OWNER : w_CREDENTIAL ≠ w_OWNER) (F_form_CREDENTIAL : Fld Z h0 w_CREDENTIAL "com/example/garm/garm/command/Option" "form" "Lcom/example/garm/garm/command/Option$Form;" (.ref w_REPEATED_VALUE)) (ne_OWNER_REQUESTS : w_OWNER ≠ w_REQUESTS) (ne_CREDENTIAL_REQUESTS : w_CREDENTIAL ≠ w_REQUESTS) (F_form_REQUESTS : Fld Z h0 w_REQUESTS "com/example/garm/garm/command/Option" "form" "Lcom/example/garm/garm/command/Option$Form;" (.ref w_VALUE)) (ne_AGENTS_OWNER : w_AGENTS ≠ w_OWNER) (ne_AGENTS_CREDENTIAL : w_AGENTS ≠ w_CREDENTIAL) (F_form_AGENTS : Fld Z h0 w_AGENTS "com/example/garm/garm/command/Option" "form" "Lcom/example/garm/garm/command/Option$Form;" (.ref w_VALUE)) (ne_OWNER_STATS : w_OWNER ≠ w_STATS) (ne_CREDENTIAL_STATS : w_CREDENTIAL ≠ w_STATS) (F_form_STATS : Fld Z h0 w_STATS "com/example/garm/garm/command/Option" "form" "Lcom/example/garm/garm/command/Option$Form;" (.ref w_FLAG)) (ne_OWNER_WAC_ALLOW : w_OWNER ≠ w_WAC_ALLOW) (ne_CREDENTIAL_WAC_ALLOW : w_CREDENTIAL ≠ w_WAC_ALLOW) (F_form_WAC_ALLOW : Fld Z h0 w_WAC_ALLOW "com/example/garm/garm/command/Option" "form" "Lcom/example/garm/garm/command/Option$Form;" (.ref w_FLAG)) (ne_METHOD_OWNER : w_METHOD ≠ w_OWNER) (ne_CREDENTIAL_METHOD : w_CREDENTIAL ≠ w_METHOD) (F_form_METHOD : Fld Z h0 w_METHOD "com/example/garm/garm/command/Option" "form" "Lcom/example/garm/garm/command/Option$Form;" (.ref w_VALUE)) (ne_CREATES_OWNER : w_CREATES ≠ w_OWNER) (ne_CREATES_CREDENTIAL : w_CREATES ≠ w_CREDENTIAL) (F_form_CREATES : Fld Z h0 w_CREATES "com/example/garm/garm/command/Option" "form" "Lcom/example/garm/garm/command/Option$Form;" (.ref w_FLAG)) (ne_OWNER_REMOVES : w_OWNER ≠ w_REMOVES) (ne_CREDENTIAL_REMOVES : w_CREDENTIAL ≠ w_REMOVES) (F_form_REMOVES : Fld Z h0 w_REMOVES "com/example/garm/garm/command/Option" "form" "Lcom/example/garm/garm/command/Option$Form;" (.ref w_FLAG)) (ne_OWNER_PORT : w_OWNER ≠ w_PORT) (ne_CREDENTIAL_PORT : w_CREDENTIAL ≠ w_PORT) (F_form_PORT : Fld Z h0 w_PORT "com/example/garm/garm/command/Option" "form" "Lcom/example/garm/garm/command/Option$Form;" (.ref w_VALUE)) :
    MetFree l x (head1 (Jvm.Cond.code x code maxLocals ret :: ws) room_1) (fun a U => a = #[(.int p1)] ∧ Z.Warmed39 U.vm ∧ U.heap = h0) (fun _ _ _ _ _ => True) (fun _ U o U' => ∃ v L, o = .returned v ∧ Q0_0 Z p1 w_POD w_BASE w_RESOURCE w_AGENT w_CLIENT w_ISSUER w_OWNER w_CREATOR w_CREDENTIAL w_REQUESTS w_AGENTS w_STATS w_WAC_ALLOW w_METHOD w_CREATES w_REMOVES w_PORT w_VALUE w_REPEATED_VALUE w_FLAG h0 n0 v U'.heap L ∧ FrameEnd U o U' L room_1.cells room_1.slots) := by
  refine MetFree.of_bodySF (plainFor_of_name pn_1) hisR ?_
  intro p e s m args below meth c s₁ Bd hml0 hP hK
  obtain ⟨rfl, hZ, hh⟩ := hP
  have hx := Bd.exec
  have hby := Bd.bytes
  have hml : c.maxLocals = 5 := hml0
  have hown : s.vm.findClass "com/example/garm/garm/command/OptionIsRepeatablePinLaw" = some m.cls := findClass_of_methodNamed Bd.named
  have hnm := (name_of_methodNamed Bd.named Bd.method).1
  have X0 : Stand p l e room_1 s m #[(.int p1)] below meth c s₁ [] 0 0 := Stand.of_body Bd
  have e0 : s₁.heap = h0 := by rw [← hh, Bd.state]; rfl
  have N0 := Fr.nil n0
  have pre0 : ∀ t, Steps p.tables e below (s₁.setTop (mkF m 0 #[.val (.int p1), .unset, .unset, .unset, .unset] [])) t → Steps p.tables e below (s₁.setTop (entryFrame m #[(.int p1)] maxLocals)) t := fun t k => castTop (ef_rm0_0 m p1) k
  obtain ⟨T1, h1, k1, X1, e1, E1, A1, O1, st1⟩ := newR X0 hx hZ hown (hw _ (List.mem_of_getElem? (i := 0) rfl)) (hw _ (List.mem_of_getElem? (i := 1) rfl)) e0 (g := (mkF m 2 #[.val (.int p1), .unset, .unset, .unset, .unset] [(.int (17 : Int32))])) rfl (hb hby at_2) rfl (by decide) (cap := 17) (by decide) (by decide) (by decide) (by decide)
  obtain ⟨b1, g1⟩ : ∃ z, z = h0.size := ⟨_, rfl⟩
  rw [← g1] at A1 st1
  have g_b1 : n0 ≤ b1 := Nat.le_trans Z0 (Nat.le_of_eq g1.symm)
  have sz_b1 : h0.size ≤ b1 := Nat.le_of_eq g1.symm
  have K1 : Keep h0 h1 [] := (Keep.refl h0 []).ext E1
  have V_b1 : Arv Z h1 b1 k1 (.object "com/example/garm/garm/command/Option") (17 : Int32) [.null, .null, .null, .null, .null, .null, .null, .null, .null, .null, .null, .null, .null, .null, .null, .null, .null] .null := (Arv.new A1 (by decide)).pad (pad_rep [] .null 17)
  obtain ⟨T2, X2, e2, st2⟩ := getS2 X1 hx hZ hown (host := "") (Or.inl (hw _ (List.mem_of_getElem? (i := 2) rfl))) Via.refl e1 (own_staK S_POD K1 all0) (g := (mkF m 7 #[.val (.int p1), .unset, .unset, .unset, .unset] [(.int (0 : Int32)), (.ref b1), (.ref b1)])) rfl (hb hby at_7)
  obtain ⟨cl3, Ar3, qq3, Sz3, Nn3, Hs3, Gs3⟩ := V_b1
  have hin3 : ¬ ((0 : Int32) < 0 ∨ cl3.slots.size ≤ ((0 : Int32)).toNatClampNeg) := inb_of Sz3 ⟨by decide, by decide⟩
  obtain ⟨T4, h4, X4, e4, W4, st4⟩ := stR X2 hx hZ e2 Ar3 (j := (0 : Int32)) hin3 rfl (Sto.ofV Ar3 qq3 O1 (Ins.self (E_POD.keep K1))) (g := (mkF m 10 #[.val (.int p1), .unset, .unset, .unset, .unset] [(.ref w_POD), (.int (0 : Int32)), (.ref b1), (.ref b1)])) rfl rfl (hb hby at_10)
  have K4 : Keep h0 h4 [] := K1.wr W4 (Or.inr sz_b1)
  have N4 := Fr.snoc X4 N0 g_b1
  have V_b1_4 : Arv Z h4 b1 k1 (.object "com/example/garm/garm/command/Option") (17 : Int32) [(.ref w_POD), .null, .null, .null, .null, .null, .null, .null, .null, .null, .null, .null, .null, .null, .null, .null, .null] .null := Arv.set Ar3 qq3 Sz3 Nn3 Hs3 Gs3 rfl W4 0 rfl (Nat.le_of_ble_eq_true rfl)
  obtain ⟨T5, X5, e5, st5⟩ := getS2 X4 hx hZ hown (host := "") (Or.inl (hw _ (List.mem_of_getElem? (i := 6) rfl))) Via.refl e4 (own_staK S_BASE K4 all0) (g := (mkF m 13 #[.val (.int p1), .unset, .unset, .unset, .unset] [(.int (1 : Int32)), (.ref b1), (.ref b1)])) rfl (hb hby at_13)
  obtain ⟨cl6, Ar6, qq6, Sz6, Nn6, Hs6, Gs6⟩ := V_b1_4
  have hin6 : ¬ ((1 : Int32) < 0 ∨ cl6.slots.size ≤ ((1 : Int32)).toNatClampNeg) := inb_of Sz6 ⟨by decide, by decide⟩
  obtain ⟨T7, h7, X7, e7, W7, st7⟩ := stR X5 hx hZ e5 Ar6 (j := (1 : Int32)) hin6 rfl (Sto.ofV Ar6 qq6 O1 (Ins.self (E_BASE.keep K4))) (g := (mkF m 16 #[.val (.int p1), .unset, .unset, .unset, .unset] [(.ref w_BASE), (.int (1 : Int32)), (.ref b1), (.ref b1)])) rfl rfl (hb hby at_16)
  have K7 : Keep h0 h7 [] := K4.wr W7 (Or.inr sz_b1)
  have N7 := Fr.snoc X7 N4 g_b1
  have V_b1_7 : Arv Z h7 b1 k1 (.object "com/example/garm/garm/command/Option") (17 : Int32) [(.ref w_POD), (.ref w_BASE), .null, .null, .null, .null, .null, .null, .null, .null, .null, .null, .null, .null, .null, .null, .null] .null := Arv.set Ar6 qq6 Sz6 Nn6 Hs6 Gs6 rfl W7 1 rfl (Nat.le_of_ble_eq_true rfl)
  obtain ⟨T8, X8, e8, st8⟩ := getS2 X7 hx hZ hown (host := "") (Or.inl (hw _ (List.mem_of_getElem? (i := 8) rfl))) Via.refl e7 (own_staK S_RESOURCE K7 all0) (g := (mkF m 19 #[.val (.int p1), .unset, .unset, .unset, .unset] [(.int (2 : Int32)), (.ref b1), (.ref b1)])) rfl (hb hby at_19)
  obtain ⟨cl9, Ar9, qq9, Sz9, Nn9, Hs9, Gs9⟩ := V_b1_7
  have hin9 : ¬ ((2 : Int32) < 0 ∨ cl9.slots.size ≤ ((2 : Int32)).toNatClampNeg) := inb_of Sz9 ⟨by decide, by decide⟩
  obtain ⟨T10, h10, X10, e10, W10, st10⟩ := stR X8 hx hZ e8 Ar9 (j := (2 : Int32)) hin9 rfl (Sto.ofV Ar9 qq9 O1 (Ins.self (E_RESOURCE.keep K7))) (g := (mkF m 22 #[.val (.int p1), .unset, .unset, .unset, .unset] [(.ref w_RESOURCE), (.int (2 : Int32)), (.ref b1), (.ref b1)])) rfl rfl (hb hby at_22)
  have K10 : Keep h0 h10 [] := K7.wr W10 (Or.inr sz_b1)
  have N10 := Fr.snoc X10 N7 g_b1
  have V_b1_10 : Arv Z h10 b1 k1 (.object "com/example/garm/garm/command/Option") (17 : Int32) [(.ref w_POD), (.ref w_BASE), (.ref w_RESOURCE), .null, .null, .null, .null, .null, .null, .null, .null, .null, .null, .null, .null, .null, .null] .null := Arv.set Ar9 qq9 Sz9 Nn9 Hs9 Gs9 rfl W10 2 rfl (Nat.le_of_ble_eq_true rfl)
  obtain ⟨T11, X11, e11, st11⟩ := getS2 X10 hx hZ hown (host := "") (Or.inl (hw _ (List.mem_of_getElem? (i := 10) rfl))) Via.refl e10 (own_staK S_AGENT K10 all0) (g := (mkF m 25 #[.val (.int p1), .unset, .unset, .unset, .unset] [(.int (3 : Int32)), (.ref b1), (.ref b1)])) rfl (hb hby at_25)
  obtain ⟨cl12, Ar12, qq12, Sz12, Nn12, Hs12, Gs12⟩ := V_b1_10
  have hin12 : ¬ ((3 : Int32) < 0 ∨ cl12.slots.size ≤ ((3 : Int32)).toNatClampNeg) := inb_of Sz12 ⟨by decide, by decide⟩
  obtain ⟨T13, h13, X13, e13, W13, st13⟩ := stR X11 hx hZ e11 Ar12 (j := (3 : Int32)) hin12 rfl (Sto.ofV Ar12 qq12 O1 (Ins.self (E_AGENT.keep K10))) (g := (mkF m 28 #[.val (.int p1), .unset, .unset, .unset, .unset] [(.ref w_AGENT), (.int (3 : Int32)), (.ref b1), (.ref b1)])) rfl rfl (hb hby at_28)
  have K13 : Keep h0 h13 [] := K10.wr W13 (Or.inr sz_b1)
  have N13 := Fr.snoc X13 N10 g_b1
  have V_b1_13 : Arv Z h13 b1 k1 (.object "com/example/garm/garm/command/Option") (17 : Int32) [(.ref w_POD), (.ref w_BASE), (.ref w_RESOURCE), (.ref w_AGENT), .null, .null, .null, .null, .null, .null, .null, .null, .null, .null, .null, .null, .null] .null := Arv.set Ar12 qq12 Sz12 Nn12 Hs12 Gs12 rfl W13 3 rfl (Nat.le_of_ble_eq_true rfl)
  obtain ⟨T14, X14, e14, st14⟩ := getS2 X13 hx hZ hown (host := "") (Or.inl (hw _ (List.mem_of_getElem? (i := 12) rfl))) Via.refl e13 (own_staK S_CLIENT K13 all0) (g := (mkF m 31 #[.val (.int p1), .unset, .unset, .unset, .unset] [(.int (4 : Int32)), (.ref b1), (.ref b1)])) rfl (hb hby at_31)
  obtain ⟨cl15, Ar15, qq15, Sz15, Nn15, Hs15, Gs15⟩ := V_b1_13
  have hin15 : ¬ ((4 : Int32) < 0 ∨ cl15.slots.size ≤ ((4 : Int32)).toNatClampNeg) := inb_of Sz15 ⟨by decide, by decide⟩
  obtain ⟨T16, h16, X16, e16, W16, st16⟩ := stR X14 hx hZ e14 Ar15 (j := (4 : Int32)) hin15 rfl (Sto.ofV Ar15 qq15 O1 (Ins.self (E_CLIENT.keep K13))) (g := (mkF m 34 #[.val (.int p1), .unset, .unset, .unset, .unset] [(.ref w_CLIENT), (.int (4 : Int32)), (.ref b1), (.ref b1)])) rfl rfl (hb hby at_34)
  have K16 : Keep h0 h16 [] := K13.wr W16 (Or.inr sz_b1)
  have N16 := Fr.snoc X16 N13 g_b1
  have V_b1_16 : Arv Z h16 b1 k1 (.object "com/example/garm/garm/command/Option") (17 : Int32) [(.ref w_POD), (.ref w_BASE), (.ref w_RESOURCE), (.ref w_AGENT), (.ref w_CLIENT), .null, .null, .null, .null, .null, .null, .null, .null, .null, .null, .null, .null] .null := Arv.set Ar15 qq15 Sz15 Nn15 Hs15 Gs15 rfl W16 4 rfl (Nat.le_of_ble_eq_true rfl)
  obtain ⟨T17, X17, e17, st17⟩ := getS2 X16 hx hZ hown (host := "") (Or.inl (hw _ (List.mem_of_getElem? (i := 14) rfl))) Via.refl e16 (own_staK S_ISSUER K16 all0) (g := (mkF m 37 #[.val (.int p1), .unset, .unset, .unset, .unset] [(.int (5 : Int32)), (.ref b1), (.ref b1)])) rfl (hb hby at_37)
  obtain ⟨cl18, Ar18, qq18, Sz18, Nn18, Hs18, Gs18⟩ := V_b1_16
  have hin18 : ¬ ((5 : Int32) < 0 ∨ cl18.slots.size ≤ ((5 : Int32)).toNatClampNeg) := inb_of Sz18 ⟨by decide, by decide⟩
  obtain ⟨T19, h19, X19, e19, W19, st19⟩ := stR X17 hx hZ e17 Ar18 (j := (5 : Int32)) hin18 rfl (Sto.ofV Ar18 qq18 O1 (Ins.self (E_ISSUER.keep K16))) (g := (mkF m 40 #[.val (.int p1), .unset, .unset, .unset, .unset] [(.ref w_ISSUER), (.int (5 : Int32)), (.ref b1), (.ref b1)])) rfl rfl (hb hby at_40)
  have K19 : Keep h0 h19 [] := K16.wr W19 (Or.inr sz_b1)
  have N19 := Fr.snoc X19 N16 g_b1
  have V_b1_19 : Arv Z h19 b1 k1 (.object "com/example/garm/garm/command/Option") (17 : Int32) [(.ref w_POD), (.ref w_BASE), (.ref w_RESOURCE), (.ref w_AGENT), (.ref w_CLIENT), (.ref w_ISSUER), .null, .null, .null, .null, .null, .null, .null, .null, .null, .null, .null] .null := Arv.set Ar18 qq18 Sz18 Nn18 Hs18 Gs18 rfl W19 5 rfl (Nat.le_of_ble_eq_true rfl)
  obtain ⟨T20, X20, e20, st20⟩ := getS2 X19 hx hZ hown (host := "") (Or.inl (hw _ (List.mem_of_getElem? (i := 16) rfl))) Via.refl e19 (own_staK S_OWNER K19 all0) (g := (mkF m 44 #[.val (.int p1), .unset, .unset, .unset, .unset] [(.int (6 : Int32)), (.ref b1), (.ref b1)])) rfl (hb hby at_44)
  obtain ⟨cl21, Ar21, qq21, Sz21, Nn21, Hs21, Gs21⟩ := V_b1_19
  have hin21 : ¬ ((6 : Int32) < 0 ∨ cl21.slots.size ≤ ((6 : Int32)).toNatClampNeg) := inb_of Sz21 ⟨by decide, by decide⟩
  obtain ⟨T22, h22, X22, e22, W22, st22⟩ := stR X20 hx hZ e20 Ar21 (j := (6 : Int32)) hin21 rfl (Sto.ofV Ar21 qq21 O1 (Ins.self (E_OWNER.keep K19))) (g := (mkF m 47 #[.val (.int p1), .unset, .unset, .unset, .unset] [(.ref w_OWNER), (.int (6 : Int32)), (.ref b1), (.ref b1)])) rfl rfl (hb hby at_47)
  have K22 : Keep h0 h22 [] := K19.wr W22 (Or.inr sz_b1)
  have N22 := Fr.snoc X22 N19 g_b1
  have V_b1_22 : Arv Z h22 b1 k1 (.object "com/example/garm/garm/command/Option") (17 : Int32) [(.ref w_POD), (.ref w_BASE), (.ref w_RESOURCE), (.ref w_AGENT), (.ref w_CLIENT), (.ref w_ISSUER), (.ref w_OWNER), .null, .null, .null, .null, .null, .null, .null, .null, .null, .null] .null := Arv.set Ar21 qq21 Sz21 Nn21 Hs21 Gs21 rfl W22 6 rfl (Nat.le_of_ble_eq_true rfl)
  obtain ⟨T23, X23, e23, st23⟩ := getS2 X22 hx hZ hown (host := "") (Or.inl (hw _ (List.mem_of_getElem? (i := 18) rfl))) Via.refl e22 (own_staK S_CREATOR K22 all0) (g := (mkF m 51 #[.val (.int p1), .unset, .unset, .unset, .unset] [(.int (7 : Int32)), (.ref b1), (.ref b1)])) rfl (hb hby at_51)
  obtain ⟨cl24, Ar24, qq24, Sz24, Nn24, Hs24, Gs24⟩ := V_b1_22
  have hin24 : ¬ ((7 : Int32) < 0 ∨ cl24.slots.size ≤ ((7 : Int32)).toNatClampNeg) := inb_of Sz24 ⟨by decide, by decide⟩
  obtain ⟨T25, h25, X25, e25, W25, st25⟩ := stR X23 hx hZ e23 Ar24 (j := (7 : Int32)) hin24 rfl (Sto.ofV Ar24 qq24 O1 (Ins.self (E_CREATOR.keep K22))) (g := (mkF m 54 #[.val (.int p1), .unset, .unset, .unset, .unset] [(.ref w_CREATOR), (.int (7 : Int32)), (.ref b1), (.ref b1)])) rfl rfl (hb hby at_54)
  have K25 : Keep h0 h25 [] := K22.wr W25 (Or.inr sz_b1)
  have N25 := Fr.snoc X25 N22 g_b1
  have V_b1_25 : Arv Z h25 b1 k1 (.object "com/example/garm/garm/command/Option") (17 : Int32) [(.ref w_POD), (.ref w_BASE), (.ref w_RESOURCE), (.ref w_AGENT), (.ref w_CLIENT), (.ref w_ISSUER), (.ref w_OWNER), (.ref w_CREATOR), .null, .null, .null, .null, .null, .null, .null, .null, .null] .null := Arv.set Ar24 qq24 Sz24 Nn24 Hs24 Gs24 rfl W25 7 rfl (Nat.le_of_ble_eq_true rfl)
  obtain ⟨T26, X26, e26, st26⟩ := getS2 X25 hx hZ hown (host := "") (Or.inl (hw _ (List.mem_of_getElem? (i := 20) rfl))) Via.refl e25 (own_staK S_CREDENTIAL K25 all0) (g := (mkF m 58 #[.val (.int p1), .unset, .unset, .unset, .unset] [(.int (8 : Int32)), (.ref b1), (.ref b1)])) rfl (hb hby at_58)
  obtain ⟨cl27, Ar27, qq27, Sz27, Nn27, Hs27, Gs27⟩ := V_b1_25
  have hin27 : ¬ ((8 : Int32) < 0 ∨ cl27.slots.size ≤ ((8 : Int32)).toNatClampNeg) := inb_of Sz27 ⟨by decide, by decide⟩
  obtain ⟨T28, h28, X28, e28, W28, st28⟩ := stR X26 hx hZ e26 Ar27 (j := (8 : Int32)) hin27 rfl (Sto.ofV Ar27 qq27 O1 (Ins.self (E_CREDENTIAL.keep K25))) (g := (mkF m 61 #[.val (.int p1), .unset, .unset, .unset, .unset] [(.ref w_CREDENTIAL), (.int (8 : Int32)), (.ref b1), (.ref b1)])) rfl rfl (hb hby at_61)
  have K28 : Keep h0 h28 [] := K25.wr W28 (Or.inr sz_b1)
  have N28 := Fr.snoc X28 N25 g_b1
  have V_b1_28 : Arv Z h28 b1 k1 (.object "com/example/garm/garm/command/Option") (17 : Int32) [(.ref w_POD), (.ref w_BASE), (.ref w_RESOURCE), (.ref w_AGENT), (.ref w_CLIENT), (.ref w_ISSUER), (.ref w_OWNER), (.ref w_CREATOR), (.ref w_CREDENTIAL), .null, .null, .null, .null, .null, .null, .null, .null] .null := Arv.set Ar27 qq27 Sz27 Nn27 Hs27 Gs27 rfl W28 8 rfl (Nat.le_of_ble_eq_true rfl)
  obtain ⟨T29, X29, e29, st29⟩ := getS2 X28 hx hZ hown (host := "") (Or.inl (hw _ (List.mem_of_getElem? (i := 22) rfl))) Via.refl e28 (own_staK S_REQUESTS K28 all0) (g := (mkF m 65 #[.val (.int p1), .unset, .unset, .unset, .unset] [(.int (9 : Int32)), (.ref b1), (.ref b1)])) rfl (hb hby at_65)
  obtain ⟨cl30, Ar30, qq30, Sz30, Nn30, Hs30, Gs30⟩ := V_b1_28
  have hin30 : ¬ ((9 : Int32) < 0 ∨ cl30.slots.size ≤ ((9 : Int32)).toNatClampNeg) := inb_of Sz30 ⟨by decide, by decide⟩
  obtain ⟨T31, h31, X31, e31, W31, st31⟩ := stR X29 hx hZ e29 Ar30 (j := (9 : Int32)) hin30 rfl (Sto.ofV Ar30 qq30 O1 (Ins.self (E_REQUESTS.keep K28))) (g := (mkF m 68 #[.val (.int p1), .unset, .unset, .unset, .unset] [(.ref w_REQUESTS), (.int (9 : Int32)), (.ref b1), (.ref b1)])) rfl rfl (hb hby at_68)
  have K31 : Keep h0 h31 [] := K28.wr W31 (Or.inr sz_b1)
  have N31 := Fr.snoc X31 N28 g_b1
  have V_b1_31 : Arv Z h31 b1 k1 (.object "com/example/garm/garm/command/Option") (17 : Int32) [(.ref w_POD), (.ref w_BASE), (.ref w_RESOURCE), (.ref w_AGENT), (.ref w_CLIENT), (.ref w_ISSUER), (.ref w_OWNER), (.ref w_CREATOR), (.ref w_CREDENTIAL), (.ref w_REQUESTS), .null, .null, .null, .null, .null, .null, .null] .null := Arv.set Ar30 qq30 Sz30 Nn30 Hs30 Gs30 rfl W31 9 rfl (Nat.le_of_ble_eq_true rfl)
  obtain ⟨T32, X32, e32, st32⟩ := getS2 X31 hx hZ hown (host := "") (Or.inl (hw _ (List.mem_of_getElem? (i := 24) rfl))) Via.refl e31 (own_staK S_AGENTS K31 all0) (g := (mkF m 72 #[.val (.int p1), .unset, .unset, .unset, .unset] [(.int (10 : Int32)), (.ref b1), (.ref b1)])) rfl (hb hby at_72)
  obtain ⟨cl33, Ar33, qq33, Sz33, Nn33, Hs33, Gs33⟩ := V_b1_31
  have hin33 : ¬ ((10 : Int32) < 0 ∨ cl33.slots.size ≤ ((10 : Int32)).toNatClampNeg) := inb_of Sz33 ⟨by decide, by decide⟩
  obtain ⟨T34, h34, X34, e34, W34, st34⟩ := stR X32 hx hZ e32 Ar33 (j := (10 : Int32)) hin33 rfl (Sto.ofV Ar33 qq33 O1 (Ins.self (E_AGENTS.keep K31))) (g := (mkF m 75 #[.val (.int p1), .unset, .unset, .unset, .unset] [(.ref w_AGENTS), (.int (10 : Int32)), (.ref b1), (.ref b1)])) rfl rfl (hb hby at_75)
  have K34 : Keep h0 h34 [] := K31.wr W34 (Or.inr sz_b1)
  have N34 := Fr.snoc X34 N31 g_b1
  have V_b1_34 : Arv Z h34 b1 k1 (.object "com/example/garm/garm/command/Option") (17 : Int32) [(.ref w_POD), (.ref w_BASE), (.ref w_RESOURCE), (.ref w_AGENT), (.ref w_CLIENT), (.ref w_ISSUER), (.ref w_OWNER), (.ref w_CREATOR), (.ref w_CREDENTIAL), (.ref w_REQUESTS), (.ref w_AGENTS), .null, .null, .null, .null, .null, .null] .null := Arv.set Ar33 qq33 Sz33 Nn33 Hs33 Gs33 rfl W34 10 rfl (Nat.le_of_ble_eq_true rfl)
  obtain ⟨T35, X35, e35, st35⟩ := getS2 X34 hx hZ hown (host := "") (Or.inl (hw _ (List.mem_of_getElem? (i := 26) rfl))) Via.refl e34 (own_staK S_STATS K34 all0) (g := (mkF m 79 #[.val (.int p1), .unset, .unset, .unset, .unset] [(.int (11 : Int32)), (.ref b1), (.ref b1)])) rfl (hb hby at_79)
  obtain ⟨cl36, Ar36, qq36, Sz36, Nn36, Hs36, Gs36⟩ := V_b1_34
  have hin36 : ¬ ((11 : Int32) < 0 ∨ cl36.slots.size ≤ ((11 : Int32)).toNatClampNeg) := inb_of Sz36 ⟨by decide, by decide⟩
  obtain ⟨T37, h37, X37, e37, W37, st37⟩ := stR X35 hx hZ e35 Ar36 (j := (11 : Int32)) hin36 rfl (Sto.ofV Ar36 qq36 O1 (Ins.self (E_STATS.keep K34))) (g := (mkF m 82 #[.val (.int p1), .unset, .unset, .unset, .unset] [(.ref w_STATS), (.int (11 : Int32)), (.ref b1), (.ref b1)])) rfl rfl (hb hby at_82)
  have K37 : Keep h0 h37 [] := K34.wr W37 (Or.inr sz_b1)
  have N37 := Fr.snoc X37 N34 g_b1
  have V_b1_37 : Arv Z h37 b1 k1 (.object "com/example/garm/garm/command/Option") (17 : Int32) [(.ref w_POD), (.ref w_BASE), (.ref w_RESOURCE), (.ref w_AGENT), (.ref w_CLIENT), (.ref w_ISSUER), (.ref w_OWNER), (.ref w_CREATOR), (.ref w_CREDENTIAL), (.ref w_REQUESTS), (.ref w_AGENTS), (.ref w_STATS), .null, .null, .null, .null, .null] .null := Arv.set Ar36 qq36 Sz36 Nn36 Hs36 Gs36 rfl W37 11 rfl (Nat.le_of_ble_eq_true rfl)
  obtain ⟨T38, X38, e38, st38⟩ := getS2 X37 hx hZ hown (host := "") (Or.inl (hw _ (List.mem_of_getElem? (i := 28) rfl))) Via.refl e37 (own_staK S_WAC_ALLOW K37 all0) (g := (mkF m 86 #[.val (.int p1), .unset, .unset, .unset, .unset] [(.int (12 : Int32)), (.ref b1), (.ref b1)])) rfl (hb hby at_86)
  obtain ⟨cl39, Ar39, qq39, Sz39, Nn39, Hs39, Gs39⟩ := V_b1_37
  have hin39 : ¬ ((12 : Int32) < 0 ∨ cl39.slots.size ≤ ((12 : Int32)).toNatClampNeg) := inb_of Sz39 ⟨by decide, by decide⟩
  obtain ⟨T40, h40, X40, e40, W40, st40⟩ := stR X38 hx hZ e38 Ar39 (j := (12 : Int32)) hin39 rfl (Sto.ofV Ar39 qq39 O1 (Ins.self (E_WAC_ALLOW.keep K37))) (g := (mkF m 89 #[.val (.int p1), .unset, .unset, .unset, .unset] [(.ref w_WAC_ALLOW), (.int (12 : Int32)), (.ref b1), (.ref b1)])) rfl rfl (hb hby at_89)
  have K40 : Keep h0 h40 [] := K37.wr W40 (Or.inr sz_b1)
  have N40 := Fr.snoc X40 N37 g_b1
  have V_b1_40 : Arv Z h40 b1 k1 (.object "com/example/garm/garm/command/Option") (17 : Int32) [(.ref w_POD), (.ref w_BASE), (.ref w_RESOURCE), (.ref w_AGENT), (.ref w_CLIENT), (.ref w_ISSUER), (.ref w_OWNER), (.ref w_CREATOR), (.ref w_CREDENTIAL), (.ref w_REQUESTS), (.ref w_AGENTS), (.ref w_STATS), (.ref w_WAC_ALLOW), .null, .null, .null, .null] .null := Arv.set Ar39 qq39 Sz39 Nn39 Hs39 Gs39 rfl W40 12 rfl (Nat.le_of_ble_eq_true rfl)
  obtain ⟨T41, X41, e41, st41⟩ := getS2 X40 hx hZ hown (host := "") (Or.inl (hw _ (List.mem_of_getElem? (i := 30) rfl))) Via.refl e40 (own_staK S_METHOD K40 all0) (g := (mkF m 93 #[.val (.int p1), .unset, .unset, .unset, .unset] [(.int (13 : Int32)), (.ref b1), (.ref b1)])) rfl (hb hby at_93)
  obtain ⟨cl42, Ar42, qq42, Sz42, Nn42, Hs42, Gs42⟩ := V_b1_40
  have hin42 : ¬ ((13 : Int32) < 0 ∨ cl42.slots.size ≤ ((13 : Int32)).toNatClampNeg) := inb_of Sz42 ⟨by decide, by decide⟩
  obtain ⟨T43, h43, X43, e43, W43, st43⟩ := stR X41 hx hZ e41 Ar42 (j := (13 : Int32)) hin42 rfl (Sto.ofV Ar42 qq42 O1 (Ins.self (E_METHOD.keep K40))) (g := (mkF m 96 #[.val (.int p1), .unset, .unset, .unset, .unset] [(.ref w_METHOD), (.int (13 : Int32)), (.ref b1), (.ref b1)])) rfl rfl (hb hby at_96)
  have K43 : Keep h0 h43 [] := K40.wr W43 (Or.inr sz_b1)
  have N43 := Fr.snoc X43 N40 g_b1
  have V_b1_43 : Arv Z h43 b1 k1 (.object "com/example/garm/garm/command/Option") (17 : Int32) [(.ref w_POD), (.ref w_BASE), (.ref w_RESOURCE), (.ref w_AGENT), (.ref w_CLIENT), (.ref w_ISSUER), (.ref w_OWNER), (.ref w_CREATOR), (.ref w_CREDENTIAL), (.ref w_REQUESTS), (.ref w_AGENTS), (.ref w_STATS), (.ref w_WAC_ALLOW), (.ref w_METHOD), .null, .null, .null] .null := Arv.set Ar42 qq42 Sz42 Nn42 Hs42 Gs42 rfl W43 13 rfl (Nat.le_of_ble_eq_true rfl)
  obtain ⟨T44, X44, e44, st44⟩ := getS2 X43 hx hZ hown (host := "") (Or.inl (hw _ (List.mem_of_getElem? (i := 32) rfl))) Via.refl e43 (own_staK S_CREATES K43 all0) (g := (mkF m 100 #[.val (.int p1), .unset, .unset, .unset, .unset] [(.int (14 : Int32)), (.ref b1), (.ref b1)])) rfl (hb hby at_100)
  obtain ⟨cl45, Ar45, qq45, Sz45, Nn45, Hs45, Gs45⟩ := V_b1_43
  have hin45 : ¬ ((14 : Int32) < 0 ∨ cl45.slots.size ≤ ((14 : Int32)).toNatClampNeg) := inb_of Sz45 ⟨by decide, by decide⟩
  obtain ⟨T46, h46, X46, e46, W46, st46⟩ := stR X44 hx hZ e44 Ar45 (j := (14 : Int32)) hin45 rfl (Sto.ofV Ar45 qq45 O1 (Ins.self (E_CREATES.keep K43))) (g := (mkF m 103 #[.val (.int p1), .unset, .unset, .unset, .unset] [(.ref w_CREATES), (.int (14 : Int32)), (.ref b1), (.ref b1)])) rfl rfl (hb hby at_103)
  have K46 : Keep h0 h46 [] := K43.wr W46 (Or.inr sz_b1)
  have N46 := Fr.snoc X46 N43 g_b1
  have V_b1_46 : Arv Z h46 b1 k1 (.object "com/example/garm/garm/command/Option") (17 : Int32) [(.ref w_POD), (.ref w_BASE), (.ref w_RESOURCE), (.ref w_AGENT), (.ref w_CLIENT), (.ref w_ISSUER), (.ref w_OWNER), (.ref w_CREATOR), (.ref w_CREDENTIAL), (.ref w_REQUESTS), (.ref w_AGENTS), (.ref w_STATS), (.ref w_WAC_ALLOW), (.ref w_METHOD), (.ref w_CREATES), .null, .null] .null := Arv.set Ar45 qq45 Sz45 Nn45 Hs45 Gs45 rfl W46 14 rfl (Nat.le_of_ble_eq_true rfl)
  obtain ⟨T47, X47, e47, st47⟩ := getS2 X46 hx hZ hown (host := "") (Or.inl (hw _ (List.mem_of_getElem? (i := 34) rfl))) Via.refl e46 (own_staK S_REMOVES K46 all0) (g := (mkF m 107 #[.val (.int p1), .unset, .unset, .unset, .unset] [(.int (15 : Int32)), (.ref b1), (.ref b1)])) rfl (hb hby at_107)
  obtain ⟨cl48, Ar48, qq48, Sz48, Nn48, Hs48, Gs48⟩ := V_b1_46
  have hin48 : ¬ ((15 : Int32) < 0 ∨ cl48.slots.size ≤ ((15 : Int32)).toNatClampNeg) := inb_of Sz48 ⟨by decide, by decide⟩
  obtain ⟨T49, h49, X49, e49, W49, st49⟩ := stR X47 hx hZ e47 Ar48 (j := (15 : Int32)) hin48 rfl (Sto.ofV Ar48 qq48 O1 (Ins.self (E_REMOVES.keep K46))) (g := (mkF m 110 #[.val (.int p1), .unset, .unset, .unset, .unset] [(.ref w_REMOVES), (.int (15 : Int32)), (.ref b1), (.ref b1)])) rfl rfl (hb hby at_110)
  have K49 : Keep h0 h49 [] := K46.wr W49 (Or.inr sz_b1)
  have N49 := Fr.snoc X49 N46 g_b1
  have V_b1_49 : Arv Z h49 b1 k1 (.object "com/example/garm/garm/command/Option") (17 : Int32) [(.ref w_POD), (.ref w_BASE), (.ref w_RESOURCE), (.ref w_AGENT), (.ref w_CLIENT), (.ref w_ISSUER), (.ref w_OWNER), (.ref w_CREATOR), (.ref w_CREDENTIAL), (.ref w_REQUESTS), (.ref w_AGENTS), (.ref w_STATS), (.ref w_WAC_ALLOW), (.ref w_METHOD), (.ref w_CREATES), (.ref w_REMOVES), .null] .null := Arv.set Ar48 qq48 Sz48 Nn48 Hs48 Gs48 rfl W49 15 rfl (Nat.le_of_ble_eq_true rfl)
  obtain ⟨T50, X50, e50, st50⟩ := getS2 X49 hx hZ hown (host := "") (Or.inl (hw _ (List.mem_of_getElem? (i := 36) rfl))) Via.refl e49 (own_staK S_PORT K49 all0) (g := (mkF m 114 #[.val (.int p1), .unset, .unset, .unset, .unset] [(.int (16 : Int32)), (.ref b1), (.ref b1)])) rfl (hb hby at_114)
  obtain ⟨cl51, Ar51, qq51, Sz51, Nn51, Hs51, Gs51⟩ := V_b1_49
  have hin51 : ¬ ((16 : Int32) < 0 ∨ cl51.slots.size ≤ ((16 : Int32)).toNatClampNeg) := inb_of Sz51 ⟨by decide, by decide⟩
  obtain ⟨T52, h52, X52, e52, W52, st52⟩ := stR X50 hx hZ e50 Ar51 (j := (16 : Int32)) hin51 rfl (Sto.ofV Ar51 qq51 O1 (Ins.self (E_PORT.keep K49))) (g := (mkF m 117 #[.val (.int p1), .unset, .unset, .unset, .unset] [(.ref w_PORT), (.int (16 : Int32)), (.ref b1), (.ref b1)])) rfl rfl (hb hby at_117)
  have K52 : Keep h0 h52 [] := K49.wr W52 (Or.inr sz_b1)
  have N52 := Fr.snoc X52 N49 g_b1
  have V_b1_52 : Arv Z h52 b1 k1 (.object "com/example/garm/garm/command/Option") (17 : Int32) [(.ref w_POD), (.ref w_BASE), (.ref w_RESOURCE), (.ref w_AGENT), (.ref w_CLIENT), (.ref w_ISSUER), (.ref w_OWNER), (.ref w_CREATOR), (.ref w_CREDENTIAL), (.ref w_REQUESTS), (.ref w_AGENTS), (.ref w_STATS), (.ref w_WAC_ALLOW), (.ref w_METHOD), (.ref w_CREATES), (.ref w_REMOVES), (.ref w_PORT)] .null := Arv.set Ar51 qq51 Sz51 Nn51 Hs51 Gs51 rfl W52 16 rfl (Nat.le_of_ble_eq_true rfl)
  have k53 : ∀ t, Steps p.tables e below (T52.setTop (mkF m 127 #[.val (.int p1), .val (.ref b1), .unset, .unset, .unset] [(.int ((p1 &&& (2147483647 : Int32)) % (17 : Int32))), (.ref b1)])) t → Steps p.tables e below (s₁.setTop (entryFrame m #[(.int p1)] maxLocals)) t := by
    intro t k
    refine pre0 t ?_
    show Steps p.tables e below (s₁.setTop (mkF m 0 #[.val (.int p1), .unset, .unset, .unset, .unset] [])) _
    refine XS.bipush X0.here hx rfl (hb hby at_0) ?_
    show Steps p.tables e below (s₁.setTop (mkF m 2 #[.val (.int p1), .unset, .unset, .unset, .unset] [(.int (17 : Int32))])) _
    refine st1 _ ?_
    show Steps p.tables e below (T1.setTop (mkF m 5 #[.val (.int p1), .unset, .unset, .unset, .unset] [(.ref b1)])) _
    refine XS.dup X1.here hx rfl (hb hby at_5) rfl rfl ?_
    show Steps p.tables e below (T1.setTop (mkF m 6 #[.val (.int p1), .unset, .unset, .unset, .unset] [(.ref b1), (.ref b1)])) _
    refine XS.iconst X1.here hx rfl (hb hby at_6) ?_
    show Steps p.tables e below (T1.setTop (mkF m 7 #[.val (.int p1), .unset, .unset, .unset, .unset] [(.int (0 : Int32)), (.ref b1), (.ref b1)])) _
    refine st2 _ ?_
    show Steps p.tables e below (T2.setTop (mkF m 10 #[.val (.int p1), .unset, .unset, .unset, .unset] [(.ref w_POD), (.int (0 : Int32)), (.ref b1), (.ref b1)])) _
    refine st4 _ ?_
    show Steps p.tables e below (T4.setTop (mkF m 11 #[.val (.int p1), .unset, .unset, .unset, .unset] [(.ref b1)])) _
    refine XS.dup X4.here hx rfl (hb hby at_11) rfl rfl ?_
    show Steps p.tables e below (T4.setTop (mkF m 12 #[.val (.int p1), .unset, .unset, .unset, .unset] [(.ref b1), (.ref b1)])) _
    refine XS.iconst X4.here hx rfl (hb hby at_12) ?_
    show Steps p.tables e below (T4.setTop (mkF m 13 #[.val (.int p1), .unset, .unset, .unset, .unset] [(.int (1 : Int32)), (.ref b1), (.ref b1)])) _
    refine st5 _ ?_
    show Steps p.tables e below (T5.setTop (mkF m 16 #[.val (.int p1), .unset, .unset, .unset, .unset] [(.ref w_BASE), (.int (1 : Int32)), (.ref b1), (.ref b1)])) _
    refine st7 _ ?_
    show Steps p.tables e below (T7.setTop (mkF m 17 #[.val (.int p1), .unset, .unset, .unset, .unset] [(.ref b1)])) _
    refine XS.dup X7.here hx rfl (hb hby at_17) rfl rfl ?_
    show Steps p.tables e below (T7.setTop (mkF m 18 #[.val (.int p1), .unset, .unset, .unset, .unset] [(.ref b1), (.ref b1)])) _
    refine XS.iconst X7.here hx rfl (hb hby at_18) ?_
    show Steps p.tables e below (T7.setTop (mkF m 19 #[.val (.int p1), .unset, .unset, .unset, .unset] [(.int (2 : Int32)), (.ref b1), (.ref b1)])) _
    refine st8 _ ?_
    show Steps p.tables e below (T8.setTop (mkF m 22 #[.val (.int p1), .unset, .unset, .unset, .unset] [(.ref w_RESOURCE), (.int (2 : Int32)), (.ref b1), (.ref b1)])) _
    refine st10 _ ?_
    show Steps p.tables e below (T10.setTop (mkF m 23 #[.val (.int p1), .unset, .unset, .unset, .unset] [(.ref b1)])) _
    refine XS.dup X10.here hx rfl (hb hby at_23) rfl rfl ?_
    show Steps p.tables e below (T10.setTop (mkF m 24 #[.val (.int p1), .unset, .unset, .unset, .unset] [(.ref b1), (.ref b1)])) _
    refine XS.iconst X10.here hx rfl (hb hby at_24) ?_
    show Steps p.tables e below (T10.setTop (mkF m 25 #[.val (.int p1), .unset, .unset, .unset, .unset] [(.int (3 : Int32)), (.ref b1), (.ref b1)])) _
    refine st11 _ ?_
    show Steps p.tables e below (T11.setTop (mkF m 28 #[.val (.int p1), .unset, .unset, .unset, .unset] [(.ref w_AGENT), (.int (3 : Int32)), (.ref b1), (.ref b1)])) _
    refine st13 _ ?_
    show Steps p.tables e below (T13.setTop (mkF m 29 #[.val (.int p1), .unset, .unset, .unset, .unset] [(.ref b1)])) _
    refine XS.dup X13.here hx rfl (hb hby at_29) rfl rfl ?_
    show Steps p.tables e below (T13.setTop (mkF m 30 #[.val (.int p1), .unset, .unset, .unset, .unset] [(.ref b1), (.ref b1)])) _
    refine XS.iconst X13.here hx rfl (hb hby at_30) ?_
    show Steps p.tables e below (T13.setTop (mkF m 31 #[.val (.int p1), .unset, .unset, .unset, .unset] [(.int (4 : Int32)), (.ref b1), (.ref b1)])) _
    refine st14 _ ?_
    show Steps p.tables e below (T14.setTop (mkF m 34 #[.val (.int p1), .unset, .unset, .unset, .unset] [(.ref w_CLIENT), (.int (4 : Int32)), (.ref b1), (.ref b1)])) _
    refine st16 _ ?_
    show Steps p.tables e below (T16.setTop (mkF m 35 #[.val (.int p1), .unset, .unset, .unset, .unset] [(.ref b1)])) _
    refine XS.dup X16.here hx rfl (hb hby at_35) rfl rfl ?_
    show Steps p.tables e below (T16.setTop (mkF m 36 #[.val (.int p1), .unset, .unset, .unset, .unset] [(.ref b1), (.ref b1)])) _
    refine XS.iconst X16.here hx rfl (hb hby at_36) ?_
    show Steps p.tables e below (T16.setTop (mkF m 37 #[.val (.int p1), .unset, .unset, .unset, .unset] [(.int (5 : Int32)), (.ref b1), (.ref b1)])) _
    refine st17 _ ?_
    show Steps p.tables e below (T17.setTop (mkF m 40 #[.val (.int p1), .unset, .unset, .unset, .unset] [(.ref w_ISSUER), (.int (5 : Int32)), (.ref b1), (.ref b1)])) _
    refine st19 _ ?_
    show Steps p.tables e below (T19.setTop (mkF m 41 #[.val (.int p1), .unset, .unset, .unset, .unset] [(.ref b1)])) _
    refine XS.dup X19.here hx rfl (hb hby at_41) rfl rfl ?_
    show Steps p.tables e below (T19.setTop (mkF m 42 #[.val (.int p1), .unset, .unset, .unset, .unset] [(.ref b1), (.ref b1)])) _
    refine XS.bipush X19.here hx rfl (hb hby at_42) ?_
    show Steps p.tables e below (T19.setTop (mkF m 44 #[.val (.int p1), .unset, .unset, .unset, .unset] [(.int (6 : Int32)), (.ref b1), (.ref b1)])) _
    refine st20 _ ?_
    show Steps p.tables e below (T20.setTop (mkF m 47 #[.val (.int p1), .unset, .unset, .unset, .unset] [(.ref w_OWNER), (.int (6 : Int32)), (.ref b1), (.ref b1)])) _
    refine st22 _ ?_
    show Steps p.tables e below (T22.setTop (mkF m 48 #[.val (.int p1), .unset, .unset, .unset, .unset] [(.ref b1)])) _
    refine XS.dup X22.here hx rfl (hb hby at_48) rfl rfl ?_
    show Steps p.tables e below (T22.setTop (mkF m 49 #[.val (.int p1), .unset, .unset, .unset, .unset] [(.ref b1), (.ref b1)])) _
    refine XS.bipush X22.here hx rfl (hb hby at_49) ?_
    show Steps p.tables e below (T22.setTop (mkF m 51 #[.val (.int p1), .unset, .unset, .unset, .unset] [(.int (7 : Int32)), (.ref b1), (.ref b1)])) _
    refine st23 _ ?_
    show Steps p.tables e below (T23.setTop (mkF m 54 #[.val (.int p1), .unset, .unset, .unset, .unset] [(.ref w_CREATOR), (.int (7 : Int32)), (.ref b1), (.ref b1)])) _
    refine st25 _ ?_
    show Steps p.tables e below (T25.setTop (mkF m 55 #[.val (.int p1), .unset, .unset, .unset, .unset] [(.ref b1)])) _
    refine XS.dup X25.here hx rfl (hb hby at_55) rfl rfl ?_
    show Steps p.tables e below (T25.setTop (mkF m 56 #[.val (.int p1), .unset, .unset, .unset, .unset] [(.ref b1), (.ref b1)])) _
    refine XS.bipush X25.here hx rfl (hb hby at_56) ?_
    show Steps p.tables e below (T25.setTop (mkF m 58 #[.val (.int p1), .unset, .unset, .unset, .unset] [(.int (8 : Int32)), (.ref b1), (.ref b1)])) _
    refine st26 _ ?_
    show Steps p.tables e below (T26.setTop (mkF m 61 #[.val (.int p1), .unset, .unset, .unset, .unset] [(.ref w_CREDENTIAL), (.int (8 : Int32)), (.ref b1), (.ref b1)])) _
    refine st28 _ ?_
    show Steps p.tables e below (T28.setTop (mkF m 62 #[.val (.int p1), .unset, .unset, .unset, .unset] [(.ref b1)])) _
    refine XS.dup X28.here hx rfl (hb hby at_62) rfl rfl ?_
    show Steps p.tables e below (T28.setTop (mkF m 63 #[.val (.int p1), .unset, .unset, .unset, .unset] [(.ref b1), (.ref b1)])) _
    refine XS.bipush X28.here hx rfl (hb hby at_63) ?_
    show Steps p.tables e below (T28.setTop (mkF m 65 #[.val (.int p1), .unset, .unset, .unset, .unset] [(.int (9 : Int32)), (.ref b1), (.ref b1)])) _
    refine st29 _ ?_
    show Steps p.tables e below (T29.setTop (mkF m 68 #[.val (.int p1), .unset, .unset, .unset, .unset] [(.ref w_REQUESTS), (.int (9 : Int32)), (.ref b1), (.ref b1)])) _
    refine st31 _ ?_
    show Steps p.tables e below (T31.setTop (mkF m 69 #[.val (.int p1), .unset, .unset, .unset, .unset] [(.ref b1)])) _
    refine XS.dup X31.here hx rfl (hb hby at_69) rfl rfl ?_
    show Steps p.tables e below (T31.setTop (mkF m 70 #[.val (.int p1), .unset, .unset, .unset, .unset] [(.ref b1), (.ref b1)])) _
    refine XS.bipush X31.here hx rfl (hb hby at_70) ?_
    show Steps p.tables e below (T31.setTop (mkF m 72 #[.val (.int p1), .unset, .unset, .unset, .unset] [(.int (10 : Int32)), (.ref b1), (.ref b1)])) _
    refine st32 _ ?_
    show Steps p.tables e below (T32.setTop (mkF m 75 #[.val (.int p1), .unset, .unset, .unset, .unset] [(.ref w_AGENTS), (.int (10 : Int32)), (.ref b1), (.ref b1)])) _
    refine st34 _ ?_
    show Steps p.tables e below (T34.setTop (mkF m 76 #[.val (.int p1), .unset, .unset, .unset, .unset] [(.ref b1)])) _
    refine XS.dup X34.here hx rfl (hb hby at_76) rfl rfl ?_
    show Steps p.tables e below (T34.setTop (mkF m 77 #[.val (.int p1), .unset, .unset, .unset, .unset] [(.ref b1), (.ref b1)])) _
    refine XS.bipush X34.here hx rfl (hb hby at_77) ?_
    show Steps p.tables e below (T34.setTop (mkF m 79 #[.val (.int p1), .unset, .unset, .unset, .unset] [(.int (11 : Int32)), (.ref b1), (.ref b1)])) _
    refine st35 _ ?_
    show Steps p.tables e below (T35.setTop (mkF m 82 #[.val (.int p1), .unset, .unset, .unset, .unset] [(.ref w_STATS), (.int (11 : Int32)), (.ref b1), (.ref b1)])) _
    refine st37 _ ?_
    show Steps p.tables e below (T37.setTop (mkF m 83 #[.val (.int p1), .unset, .unset, .unset, .unset] [(.ref b1)])) _
    refine XS.dup X37.here hx rfl (hb hby at_83) rfl rfl ?_
    show Steps p.tables e below (T37.setTop (mkF m 84 #[.val (.int p1), .unset, .unset, .unset, .unset] [(.ref b1), (.ref b1)])) _
    refine XS.bipush X37.here hx rfl (hb hby at_84) ?_
    show Steps p.tables e below (T37.setTop (mkF m 86 #[.val (.int p1), .unset, .unset, .unset, .unset] [(.int (12 : Int32)), (.ref b1), (.ref b1)])) _
    refine st38 _ ?_
    show Steps p.tables e below (T38.setTop (mkF m 89 #[.val (.int p1), .unset, .unset, .unset, .unset] [(.ref w_WAC_ALLOW), (.int (12 : Int32)), (.ref b1), (.ref b1)])) _
    refine st40 _ ?_
    show Steps p.tables e below (T40.setTop (mkF m 90 #[.val (.int p1), .unset, .unset, .unset, .unset] [(.ref b1)])) _
    refine XS.dup X40.here hx rfl (hb hby at_90) rfl rfl ?_
    show Steps p.tables e below (T40.setTop (mkF m 91 #[.val (.int p1), .unset, .unset, .unset, .unset] [(.ref b1), (.ref b1)])) _
    refine XS.bipush X40.here hx rfl (hb hby at_91) ?_
    show Steps p.tables e below (T40.setTop (mkF m 93 #[.val (.int p1), .unset, .unset, .unset, .unset] [(.int (13 : Int32)), (.ref b1), (.ref b1)])) _
    refine st41 _ ?_
    show Steps p.tables e below (T41.setTop (mkF m 96 #[.val (.int p1), .unset, .unset, .unset, .unset] [(.ref w_METHOD), (.int (13 : Int32)), (.ref b1), (.ref b1)])) _
    refine st43 _ ?_
    show Steps p.tables e below (T43.setTop (mkF m 97 #[.val (.int p1), .unset, .unset, .unset, .unset] [(.ref b1)])) _
    refine XS.dup X43.here hx rfl (hb hby at_97) rfl rfl ?_
    show Steps p.tables e below (T43.setTop (mkF m 98 #[.val (.int p1), .unset, .unset, .unset, .unset] [(.ref b1), (.ref b1)])) _
    refine XS.bipush X43.here hx rfl (hb hby at_98) ?_
    show Steps p.tables e below (T43.setTop (mkF m 100 #[.val (.int p1), .unset, .unset, .unset, .unset] [(.int (14 : Int32)), (.ref b1), (.ref b1)])) _
    refine st44 _ ?_
    show Steps p.tables e below (T44.setTop (mkF m 103 #[.val (.int p1), .unset, .unset, .unset, .unset] [(.ref w_CREATES), (.int (14 : Int32)), (.ref b1), (.ref b1)])) _
    refine st46 _ ?_
    show Steps p.tables e below (T46.setTop (mkF m 104 #[.val (.int p1), .unset, .unset, .unset, .unset] [(.ref b1)])) _
    refine XS.dup X46.here hx rfl (hb hby at_104) rfl rfl ?_
    show Steps p.tables e below (T46.setTop (mkF m 105 #[.val (.int p1), .unset, .unset, .unset, .unset] [(.ref b1), (.ref b1)])) _
    refine XS.bipush X46.here hx rfl (hb hby at_105) ?_
    show Steps p.tables e below (T46.setTop (mkF m 107 #[.val (.int p1), .unset, .unset, .unset, .unset] [(.int (15 : Int32)), (.ref b1), (.ref b1)])) _
    refine st47 _ ?_
    show Steps p.tables e below (T47.setTop (mkF m 110 #[.val (.int p1), .unset, .unset, .unset, .unset] [(.ref w_REMOVES), (.int (15 : Int32)), (.ref b1), (.ref b1)])) _
    refine st49 _ ?_
    show Steps p.tables e below (T49.setTop (mkF m 111 #[.val (.int p1), .unset, .unset, .unset, .unset] [(.ref b1)])) _
    refine XS.dup X49.here hx rfl (hb hby at_111) rfl rfl ?_
    show Steps p.tables e below (T49.setTop (mkF m 112 #[.val (.int p1), .unset, .unset, .unset, .unset] [(.ref b1), (.ref b1)])) _
    refine XS.bipush X49.here hx rfl (hb hby at_112) ?_
    show Steps p.tables e below (T49.setTop (mkF m 114 #[.val (.int p1), .unset, .unset, .unset, .unset] [(.int (16 : Int32)), (.ref b1), (.ref b1)])) _
    refine st50 _ ?_
    show Steps p.tables e below (T50.setTop (mkF m 117 #[.val (.int p1), .unset, .unset, .unset, .unset] [(.ref w_PORT), (.int (16 : Int32)), (.ref b1), (.ref b1)])) _
    refine st52 _ ?_
    show Steps p.tables e below (T52.setTop (mkF m 118 #[.val (.int p1), .unset, .unset, .unset, .unset] [(.ref b1)])) _
    refine XS.astoreN X52.here hx rfl (hb hby at_118) rfl rfl (l' := #[.val (.int p1), .val (.ref b1), .unset, .unset, .unset]) rfl ?_
    show Steps p.tables e below (T52.setTop (mkF m 119 #[.val (.int p1), .val (.ref b1), .unset, .unset, .unset] [])) _
    refine XS.aloadN X52.here hx rfl (hb hby at_119) rfl rfl ?_
    show Steps p.tables e below (T52.setTop (mkF m 120 #[.val (.int p1), .val (.ref b1), .unset, .unset, .unset] [(.ref b1)])) _
    refine XS.iloadN X52.here hx rfl (hb hby at_120) rfl ?_
    show Steps p.tables e below (T52.setTop (mkF m 121 #[.val (.int p1), .val (.ref b1), .unset, .unset, .unset] [(.int p1), (.ref b1)])) _
    refine X52.ldcInt hx hown (mvT hZ (hw _ (List.mem_of_getElem? (i := 38) rfl))) (g := (mkF m 121 #[.val (.int p1), .val (.ref b1), .unset, .unset, .unset] [(.int p1), (.ref b1)])) rfl (hb hby at_121) _ ?_
    show Steps p.tables e below (T52.setTop (mkF m 123 #[.val (.int p1), .val (.ref b1), .unset, .unset, .unset] [(.int (2147483647 : Int32)), (.int p1), (.ref b1)])) _
    refine XS.iand X52.here hx rfl (hb hby at_123) rfl ?_
    show Steps p.tables e below (T52.setTop (mkF m 124 #[.val (.int p1), .val (.ref b1), .unset, .unset, .unset] [(.int (p1 &&& (2147483647 : Int32))), (.ref b1)])) _
    refine XS.bipush X52.here hx rfl (hb hby at_124) ?_
    show Steps p.tables e below (T52.setTop (mkF m 126 #[.val (.int p1), .val (.ref b1), .unset, .unset, .unset] [(.int (17 : Int32)), (.int (p1 &&& (2147483647 : Int32))), (.ref b1)])) _
    refine iremM X52 hx rfl (hb hby at_126) rfl (by decide) ?_
    show Steps p.tables e below (T52.setTop (mkF m 127 #[.val (.int p1), .val (.ref b1), .unset, .unset, .unset] [(.int ((p1 &&& (2147483647 : Int32)) % (17 : Int32))), (.ref b1)])) _
    exact k
  rcases (own_c0 p1) with hk54_0 | hk55_1 | hk56_2 | hk57_3 | hk58_4 | hk59_5 | hk60_6 | hk61_7 | hk62_8 | hk63_9 | hk64_10 | hk65_11 | hk66_12 | hk67_13 | hk68_14 | hk69_15 | hk70_16
  ·
    obtain ⟨cl71, Ar71, qq71, Sz71, Nn71, Hs71, Gs71⟩ := V_b1_52
    have hin71 : ¬ ((0 : Int32) < 0 ∨ cl71.slots.size ≤ ((0 : Int32)).toNatClampNeg) := inb_of Sz71 ⟨by decide, by decide⟩
    have hat71 : cl71.slots[((0 : Int32)).toNatClampNeg]? = some (.ref w_POD) := Has.at Hs71 hin71 rfl
    obtain ⟨T72, X72, e72, st72⟩ := getS2 X52 hx hZ hown (host := "") (Or.inl (hw _ (List.mem_of_getElem? (i := 16) rfl))) Via.refl e52 (own_staK S_OWNER K52 all0) (g := (mkF m 130 #[.val (.int p1), .val (.ref b1), .val (.ref w_POD), .unset, .unset] [(.ref w_POD)])) rfl (hb hby at_130)
    obtain ⟨T73, X73, e73, st73⟩ := getS2 X72 hx hZ hown (host := "") (Or.inl (hw _ (List.mem_of_getElem? (i := 20) rfl))) Via.refl e72 (own_staK S_CREDENTIAL K52 all0) (g := (mkF m 137 #[.val (.int p1), .val (.ref b1), .val (.ref w_POD), .unset, .unset] [(.ref w_POD)])) rfl (hb hby at_137)
    obtain ⟨cq74, kq74, q74a, q74b, q74c⟩ := isOf hZ e73 (E_POD.keep K52)
    obtain ⟨_, _, ⟨T74, L74, k74, n74⟩, -, X74, ⟨Lc74, hQ74, l74, y74, z74⟩, st74⟩ := X73.virtualBack hx (y := (⟨"com/example/garm/garm/command/Option", "isRepeatable", "()Z"⟩ : MethodName)) (z := (⟨"com/example/garm/garm/command/Option", "isRepeatable", "()Z"⟩ : MethodName)) hown (mvT hZ (hw _ (List.mem_of_getElem? (i := 39) rfl))) (mvT hZ (hw _ (List.mem_of_getElem? (i := 40) rfl))) (notFace_of_selects (args := #[]) (mvT hZ (hw _ (List.mem_of_getElem? (i := 42) rfl)))) (mvT hZ (hw _ (List.mem_of_getElem? (i := 42) rfl))) (mvT hZ (hw _ (List.mem_of_getElem? (i := 41) rfl))) (by decide) (backOf (W := 0) (rm1_0 l Z a0 hw [] w_POD w_VALUE w_REPEATED_VALUE h52 n0 (Nat.le_trans Z0 K52.1) (F_form_POD.keep K52 nin0) (own_staK S_REPEATED_VALUE K52 all0) ne_REPEATED_VALUE_VALUE) hZ (hw _ (List.mem_of_getElem? (i := 43) rfl)) (hw _ (List.mem_of_getElem? (i := 3) rfl)) (by decide) (by decide)) q74a q74c (g := (mkF m 150 #[.val (.int p1), .val (.ref b1), .val (.ref w_POD), .val (.int (0 : Int32)), .unset] [(.ref w_POD)])) rfl (by rw [hml]; rfl) (Steps.refl _) (argsL := []) (rest := []) (lenOf pd_0 rfl) rfl (by show 2 * 0 + _ ≤ _; exact Nat.le_of_eq rfl) (hb hby at_150) (fun _ _ => ⟨rfl, e73, (by decide : 1 + 0 ≤ _), (by decide : 17 + 0 ≤ _)⟩)
    dsimp only [Pt.U, Pt.locs, Pt.cells, Pt.slots] at X74 l74 y74 z74 st74 hQ74
    subst l74 y74 z74
    obtain ⟨rfl, N74q, e74⟩ := hQ74
    have N74 := Fr.app N52 N74q
    obtain ⟨fs, hr, hrun, hended, hW, hsame⟩ := X74.leave (v := some (.int (1 : Int32))) (fun h => by rw [Bd.returns] at h; cases h)
    refine ⟨_, _, k53 _ ?_, hrun, hended, _, _, rfl, ?_, ⟨_, rfl⟩, hW, hsame.mono (by decide) (by decide)⟩
    ·
      show Steps p.tables e below (T52.setTop (mkF m 127 #[.val (.int p1), .val (.ref b1), .unset, .unset, .unset] [(.int ((p1 &&& (2147483647 : Int32)) % (17 : Int32))), (.ref b1)])) _
      rewrite [hk54_0]
      show Steps p.tables e below (T52.setTop (mkF m 127 #[.val (.int p1), .val (.ref b1), .unset, .unset, .unset] [(.int (0 : Int32)), (.ref b1)])) _
      refine X52.aaload hx (j := (0 : Int32)) (v := (.ref w_POD)) (by rw [e52]; exact Ar71.1) (State.isArrayOf_alike hZ.alike Ar71.2.1) rfl Ar71.2.2 hin71 hat71 (g := (mkF m 127 #[.val (.int p1), .val (.ref b1), .unset, .unset, .unset] [(.int (0 : Int32)), (.ref b1)])) rfl rfl (hb hby at_127) _ ?_
      show Steps p.tables e below (T52.setTop (mkF m 128 #[.val (.int p1), .val (.ref b1), .unset, .unset, .unset] [(.ref w_POD)])) _
      refine XS.astoreN X52.here hx rfl (hb hby at_128) rfl rfl (l' := #[.val (.int p1), .val (.ref b1), .val (.ref w_POD), .unset, .unset]) rfl ?_
      show Steps p.tables e below (T52.setTop (mkF m 129 #[.val (.int p1), .val (.ref b1), .val (.ref w_POD), .unset, .unset] [])) _
      refine XS.aloadN X52.here hx rfl (hb hby at_129) rfl rfl ?_
      show Steps p.tables e below (T52.setTop (mkF m 130 #[.val (.int p1), .val (.ref b1), .val (.ref w_POD), .unset, .unset] [(.ref w_POD)])) _
      refine st72 _ ?_
      show Steps p.tables e below (T72.setTop (mkF m 133 #[.val (.int p1), .val (.ref b1), .val (.ref w_POD), .unset, .unset] [(.ref w_OWNER), (.ref w_POD)])) _
      refine Jvm.RoadKit.acmp (g := (mkF m 133 #[.val (.int p1), .val (.ref b1), .val (.ref w_POD), .unset, .unset] [(.ref w_OWNER), (.ref w_POD)])) X72 hx rfl rfl rfl (pc0 := 133) (pc' := 136) (same := false) rfl (hb hby at_133) rfl (decide_eq_false fun q => (Ne.symm ne_OWNER_POD) (Value.ref.inj q)) (by decide) (by decide) ?_
      show Steps p.tables e below (T72.setTop (mkF m 136 #[.val (.int p1), .val (.ref b1), .val (.ref w_POD), .unset, .unset] [])) _
      refine XS.aloadN X72.here hx rfl (hb hby at_136) rfl rfl ?_
      show Steps p.tables e below (T72.setTop (mkF m 137 #[.val (.int p1), .val (.ref b1), .val (.ref w_POD), .unset, .unset] [(.ref w_POD)])) _
      refine st73 _ ?_
      show Steps p.tables e below (T73.setTop (mkF m 140 #[.val (.int p1), .val (.ref b1), .val (.ref w_POD), .unset, .unset] [(.ref w_CREDENTIAL), (.ref w_POD)])) _
      refine Jvm.RoadKit.acmp (g := (mkF m 140 #[.val (.int p1), .val (.ref b1), .val (.ref w_POD), .unset, .unset] [(.ref w_CREDENTIAL), (.ref w_POD)])) X73 hx rfl rfl rfl (pc0 := 140) (pc' := 147) (same := false) rfl (hb hby at_140) rfl (decide_eq_false fun q => (Ne.symm ne_CREDENTIAL_POD) (Value.ref.inj q)) (by decide) (by decide) ?_
      show Steps p.tables e below (T73.setTop (mkF m 147 #[.val (.int p1), .val (.ref b1), .val (.ref w_POD), .unset, .unset] [])) _
      refine XS.iconst X73.here hx rfl (hb hby at_147) ?_
      show Steps p.tables e below (T73.setTop (mkF m 148 #[.val (.int p1), .val (.ref b1), .val (.ref w_POD), .unset, .unset] [(.int (0 : Int32))])) _
      refine XS.istoreN X73.here hx rfl (hb hby at_148) rfl (l' := #[.val (.int p1), .val (.ref b1), .val (.ref w_POD), .val (.int (0 : Int32)), .unset]) rfl ?_
      show Steps p.tables e below (T73.setTop (mkF m 149 #[.val (.int p1), .val (.ref b1), .val (.ref w_POD), .val (.int (0 : Int32)), .unset] [])) _
      refine XS.aloadN X73.here hx rfl (hb hby at_149) rfl rfl ?_
      show Steps p.tables e below (T73.setTop (mkF m 150 #[.val (.int p1), .val (.ref b1), .val (.ref w_POD), .val (.int (0 : Int32)), .unset] [(.ref w_POD)])) _
      refine st74.trans ?_
      show Steps p.tables e below (T74.setTop (mkF m 153 #[.val (.int p1), .val (.ref b1), .val (.ref w_POD), .val (.int (0 : Int32)), .unset] [(.int (0 : Int32))])) _
      refine XS.istore X74.here hx rfl (hb hby at_153) rfl (l' := #[.val (.int p1), .val (.ref b1), .val (.ref w_POD), .val (.int (0 : Int32)), .val (.int (0 : Int32))]) rfl ?_
      show Steps p.tables e below (T74.setTop (mkF m 155 #[.val (.int p1), .val (.ref b1), .val (.ref w_POD), .val (.int (0 : Int32)), .val (.int (0 : Int32))] [])) _
      refine XS.iload X74.here hx rfl (hb hby at_155) rfl ?_
      show Steps p.tables e below (T74.setTop (mkF m 157 #[.val (.int p1), .val (.ref b1), .val (.ref w_POD), .val (.int (0 : Int32)), .val (.int (0 : Int32))] [(.int (0 : Int32))])) _
      refine XS.iloadN X74.here hx rfl (hb hby at_157) rfl ?_
      show Steps p.tables e below (T74.setTop (mkF m 158 #[.val (.int p1), .val (.ref b1), .val (.ref w_POD), .val (.int (0 : Int32)), .val (.int (0 : Int32))] [(.int (0 : Int32)), (.int (0 : Int32))])) _
      refine XS.icmpNo X74.here hx rfl (hb hby at_158) rfl (teq (by decide : (0 : Int32) = (0 : Int32))).2 ?_
      show Steps p.tables e below (T74.setTop (mkF m 161 #[.val (.int p1), .val (.ref b1), .val (.ref w_POD), .val (.int (0 : Int32)), .val (.int (0 : Int32))] [])) _
      refine XS.iload X74.here hx rfl (hb hby at_161) rfl ?_
      show Steps p.tables e below (T74.setTop (mkF m 163 #[.val (.int p1), .val (.ref b1), .val (.ref w_POD), .val (.int (0 : Int32)), .val (.int (0 : Int32))] [(.int (0 : Int32))])) _
      refine XS.ifYes X74.here hx rfl (pc0 := 163) (pc' := 173) rfl (hb hby at_163) rfl ((if0 _ _).trans (teq (by decide : (0 : Int32) = (0 : Int32))).1) (by decide) (by decide) ?_
      show Steps p.tables e below (T74.setTop (mkF m 173 #[.val (.int p1), .val (.ref b1), .val (.ref w_POD), .val (.int (0 : Int32)), .val (.int (0 : Int32))] [])) _
      refine XS.iconst X74.here hx rfl (hb hby at_173) ?_
      show Steps p.tables e below (T74.setTop (mkF m 174 #[.val (.int p1), .val (.ref b1), .val (.ref w_POD), .val (.int (0 : Int32)), .val (.int (0 : Int32))] [(.int (1 : Int32))])) _
      refine XS.goto X74.here hx rfl (pc0 := 174) (pc' := 178) rfl (hb hby at_174) (by decide) (by decide) ?_
      show Steps p.tables e below (T74.setTop (mkF m 178 #[.val (.int p1), .val (.ref b1), .val (.ref w_POD), .val (.int (0 : Int32)), .val (.int (0 : Int32))] [(.int (1 : Int32))])) _
      exact retN X74 hx (t := .boolean) Bd.returns (by simp) (hb hby at_178) hr
    · show Q0_0 Z p1 w_POD w_BASE w_RESOURCE w_AGENT w_CLIENT w_ISSUER w_OWNER w_CREATOR w_CREDENTIAL w_REQUESTS w_AGENTS w_STATS w_WAC_ALLOW w_METHOD w_CREATES w_REMOVES w_PORT w_VALUE w_REPEATED_VALUE w_FLAG h0 n0 _ T74.heap _
      rw [e74]
      exact ⟨rfl, N74⟩
  ·
    obtain ⟨cl75, Ar75, qq75, Sz75, Nn75, Hs75, Gs75⟩ := V_b1_52
    have hin75 : ¬ ((1 : Int32) < 0 ∨ cl75.slots.size ≤ ((1 : Int32)).toNatClampNeg) := inb_of Sz75 ⟨by decide, by decide⟩
    have hat75 : cl75.slots[((1 : Int32)).toNatClampNeg]? = some (.ref w_BASE) := Has.at Hs75 hin75 rfl
    obtain ⟨T76, X76, e76, st76⟩ := getS2 X52 hx hZ hown (host := "") (Or.inl (hw _ (List.mem_of_getElem? (i := 16) rfl))) Via.refl e52 (own_staK S_OWNER K52 all0) (g := (mkF m 130 #[.val (.int p1), .val (.ref b1), .val (.ref w_BASE), .unset, .unset] [(.ref w_BASE)])) rfl (hb hby at_130)
    obtain ⟨T77, X77, e77, st77⟩ := getS2 X76 hx hZ hown (host := "") (Or.inl (hw _ (List.mem_of_getElem? (i := 20) rfl))) Via.refl e76 (own_staK S_CREDENTIAL K52 all0) (g := (mkF m 137 #[.val (.int p1), .val (.ref b1), .val (.ref w_BASE), .unset, .unset] [(.ref w_BASE)])) rfl (hb hby at_137)
    obtain ⟨cq78, kq78, q78a, q78b, q78c⟩ := isOf hZ e77 (E_BASE.keep K52)
    obtain ⟨_, _, ⟨T78, L78, k78, n78⟩, -, X78, ⟨Lc78, hQ78, l78, y78, z78⟩, st78⟩ := X77.virtualBack hx (y := (⟨"com/example/garm/garm/command/Option", "isRepeatable", "()Z"⟩ : MethodName)) (z := (⟨"com/example/garm/garm/command/Option", "isRepeatable", "()Z"⟩ : MethodName)) hown (mvT hZ (hw _ (List.mem_of_getElem? (i := 39) rfl))) (mvT hZ (hw _ (List.mem_of_getElem? (i := 40) rfl))) (notFace_of_selects (args := #[]) (mvT hZ (hw _ (List.mem_of_getElem? (i := 42) rfl)))) (mvT hZ (hw _ (List.mem_of_getElem? (i := 42) rfl))) (mvT hZ (hw _ (List.mem_of_getElem? (i := 41) rfl))) (by decide) (backOf (W := 0) (rm1_1 l Z a0 hw [] w_BASE w_VALUE w_REPEATED_VALUE h52 n0 (Nat.le_trans Z0 K52.1) (F_form_BASE.keep K52 nin0) (own_staK S_REPEATED_VALUE K52 all0) ne_REPEATED_VALUE_VALUE) hZ (hw _ (List.mem_of_getElem? (i := 43) rfl)) (hw _ (List.mem_of_getElem? (i := 3) rfl)) (by decide) (by decide)) q78a q78c (g := (mkF m 150 #[.val (.int p1), .val (.ref b1), .val (.ref w_BASE), .val (.int (0 : Int32)), .unset] [(.ref w_BASE)])) rfl (by rw [hml]; rfl) (Steps.refl _) (argsL := []) (rest := []) (lenOf pd_0 rfl) rfl (by show 2 * 0 + _ ≤ _; exact Nat.le_of_eq rfl) (hb hby at_150) (fun _ _ => ⟨rfl, e77, (by decide : 1 + 0 ≤ _), (by decide : 17 + 0 ≤ _)⟩)
    dsimp only [Pt.U, Pt.locs, Pt.cells, Pt.slots] at X78 l78 y78 z78 st78 hQ78
    subst l78 y78 z78
    obtain ⟨rfl, N78q, e78⟩ := hQ78
    have N78 := Fr.app N52 N78q
    obtain ⟨fs, hr, hrun, hended, hW, hsame⟩ := X78.leave (v := some (.int (1 : Int32))) (fun h => by rw [Bd.returns] at h; cases h)
    refine ⟨_, _, k53 _ ?_, hrun, hended, _, _, rfl, ?_, ⟨_, rfl⟩, hW, hsame.mono (by decide) (by decide)⟩
    ·
      show Steps p.tables e below (T52.setTop (mkF m 127 #[.val (.int p1), .val (.ref b1), .unset, .unset, .unset] [(.int ((p1 &&& (2147483647 : Int32)) % (17 : Int32))), (.ref b1)])) _
      rewrite [hk55_1]
      show Steps p.tables e below (T52.setTop (mkF m 127 #[.val (.int p1), .val (.ref b1), .unset, .unset, .unset] [(.int (1 : Int32)), (.ref b1)])) _
      refine X52.aaload hx (j := (1 : Int32)) (v := (.ref w_BASE)) (by rw [e52]; exact Ar75.1) (State.isArrayOf_alike hZ.alike Ar75.2.1) rfl Ar75.2.2 hin75 hat75 (g := (mkF m 127 #[.val (.int p1), .val (.ref b1), .unset, .unset, .unset] [(.int (1 : Int32)), (.ref b1)])) rfl rfl (hb hby at_127) _ ?_
      show Steps p.tables e below (T52.setTop (mkF m 128 #[.val (.int p1), .val (.ref b1), .unset, .unset, .unset] [(.ref w_BASE)])) _
      refine XS.astoreN X52.here hx rfl (hb hby at_128) rfl rfl (l' := #[.val (.int p1), .val (.ref b1), .val (.ref w_BASE), .unset, .unset]) rfl ?_
      show Steps p.tables e below (T52.setTop (mkF m 129 #[.val (.int p1), .val (.ref b1), .val (.ref w_BASE), .unset, .unset] [])) _
      refine XS.aloadN X52.here hx rfl (hb hby at_129) rfl rfl ?_
      show Steps p.tables e below (T52.setTop (mkF m 130 #[.val (.int p1), .val (.ref b1), .val (.ref w_BASE), .unset, .unset] [(.ref w_BASE)])) _
      refine st76 _ ?_
      show Steps p.tables e below (T76.setTop (mkF m 133 #[.val (.int p1), .val (.ref b1), .val (.ref w_BASE), .unset, .unset] [(.ref w_OWNER), (.ref w_BASE)])) _
      refine Jvm.RoadKit.acmp (g := (mkF m 133 #[.val (.int p1), .val (.ref b1), .val (.ref w_BASE), .unset, .unset] [(.ref w_OWNER), (.ref w_BASE)])) X76 hx rfl rfl rfl (pc0 := 133) (pc' := 136) (same := false) rfl (hb hby at_133) rfl (decide_eq_false fun q => ne_BASE_OWNER (Value.ref.inj q)) (by decide) (by decide) ?_
      show Steps p.tables e below (T76.setTop (mkF m 136 #[.val (.int p1), .val (.ref b1), .val (.ref w_BASE), .unset, .unset] [])) _
      refine XS.aloadN X76.here hx rfl (hb hby at_136) rfl rfl ?_
      show Steps p.tables e below (T76.setTop (mkF m 137 #[.val (.int p1), .val (.ref b1), .val (.ref w_BASE), .unset, .unset] [(.ref w_BASE)])) _
      refine st77 _ ?_
      show Steps p.tables e below (T77.setTop (mkF m 140 #[.val (.int p1), .val (.ref b1), .val (.ref w_BASE), .unset, .unset] [(.ref w_CREDENTIAL), (.ref w_BASE)])) _
      refine Jvm.RoadKit.acmp (g := (mkF m 140 #[.val (.int p1), .val (.ref b1), .val (.ref w_BASE), .unset, .unset] [(.ref w_CREDENTIAL), (.ref w_BASE)])) X77 hx rfl rfl rfl (pc0 := 140) (pc' := 147) (same := false) rfl (hb hby at_140) rfl (decide_eq_false fun q => ne_BASE_CREDENTIAL (Value.ref.inj q)) (by decide) (by decide) ?_
      show Steps p.tables e below (T77.setTop (mkF m 147 #[.val (.int p1), .val (.ref b1), .val (.ref w_BASE), .unset, .unset] [])) _
      refine XS.iconst X77.here hx rfl (hb hby at_147) ?_
      show Steps p.tables e below (T77.setTop (mkF m 148 #[.val (.int p1), .val (.ref b1), .val (.ref w_BASE), .unset, .unset] [(.int (0 : Int32))])) _
      refine XS.istoreN X77.here hx rfl (hb hby at_148) rfl (l' := #[.val (.int p1), .val (.ref b1), .val (.ref w_BASE), .val (.int (0 : Int32)), .unset]) rfl ?_
      show Steps p.tables e below (T77.setTop (mkF m 149 #[.val (.int p1), .val (.ref b1), .val (.ref w_BASE), .val (.int (0 : Int32)), .unset] [])) _
      refine XS.aloadN X77.here hx rfl (hb hby at_149) rfl rfl ?_
      show Steps p.tables e below (T77.setTop (mkF m 150 #[.val (.int p1), .val (.ref b1), .val (.ref w_BASE), .val (.int (0 : Int32)), .unset] [(.ref w_BASE)])) _
      refine st78.trans ?_
      show Steps p.tables e below (T78.setTop (mkF m 153 #[.val (.int p1), .val (.ref b1), .val (.ref w_BASE), .val (.int (0 : Int32)), .unset] [(.int (0 : Int32))])) _
      refine XS.istore X78.here hx rfl (hb hby at_153) rfl (l' := #[.val (.int p1), .val (.ref b1), .val (.ref w_BASE), .val (.int (0 : Int32)), .val (.int (0 : Int32))]) rfl ?_
      show Steps p.tables e below (T78.setTop (mkF m 155 #[.val (.int p1), .val (.ref b1), .val (.ref w_BASE), .val (.int (0 : Int32)), .val (.int (0 : Int32))] [])) _
      refine XS.iload X78.here hx rfl (hb hby at_155) rfl ?_
      show Steps p.tables e below (T78.setTop (mkF m 157 #[.val (.int p1), .val (.ref b1), .val (.ref w_BASE), .val (.int (0 : Int32)), .val (.int (0 : Int32))] [(.int (0 : Int32))])) _
      refine XS.iloadN X78.here hx rfl (hb hby at_157) rfl ?_
      show Steps p.tables e below (T78.setTop (mkF m 158 #[.val (.int p1), .val (.ref b1), .val (.ref w_BASE), .val (.int (0 : Int32)), .val (.int (0 : Int32))] [(.int (0 : Int32)), (.int (0 : Int32))])) _
      refine XS.icmpNo X78.here hx rfl (hb hby at_158) rfl (teq (by decide : (0 : Int32) = (0 : Int32))).2 ?_
      show Steps p.tables e below (T78.setTop (mkF m 161 #[.val (.int p1), .val (.ref b1), .val (.ref w_BASE), .val (.int (0 : Int32)), .val (.int (0 : Int32))] [])) _
      refine XS.iload X78.here hx rfl (hb hby at_161) rfl ?_
      show Steps p.tables e below (T78.setTop (mkF m 163 #[.val (.int p1), .val (.ref b1), .val (.ref w_BASE), .val (.int (0 : Int32)), .val (.int (0 : Int32))] [(.int (0 : Int32))])) _
      refine XS.ifYes X78.here hx rfl (pc0 := 163) (pc' := 173) rfl (hb hby at_163) rfl ((if0 _ _).trans (teq (by decide : (0 : Int32) = (0 : Int32))).1) (by decide) (by decide) ?_
      show Steps p.tables e below (T78.setTop (mkF m 173 #[.val (.int p1), .val (.ref b1), .val (.ref w_BASE), .val (.int (0 : Int32)), .val (.int (0 : Int32))] [])) _
      refine XS.iconst X78.here hx rfl (hb hby at_173) ?_
      show Steps p.tables e below (T78.setTop (mkF m 174 #[.val (.int p1), .val (.ref b1), .val (.ref w_BASE), .val (.int (0 : Int32)), .val (.int (0 : Int32))] [(.int (1 : Int32))])) _
      refine XS.goto X78.here hx rfl (pc0 := 174) (pc' := 178) rfl (hb hby at_174) (by decide) (by decide) ?_
      show Steps p.tables e below (T78.setTop (mkF m 178 #[.val (.int p1), .val (.ref b1), .val (.ref w_BASE), .val (.int (0 : Int32)), .val (.int (0 : Int32))] [(.int (1 : Int32))])) _
      exact retN X78 hx (t := .boolean) Bd.returns (by simp) (hb hby at_178) hr
    · show Q0_0 Z p1 w_POD w_BASE w_RESOURCE w_AGENT w_CLIENT w_ISSUER w_OWNER w_CREATOR w_CREDENTIAL w_REQUESTS w_AGENTS w_STATS w_WAC_ALLOW w_METHOD w_CREATES w_REMOVES w_PORT w_VALUE w_REPEATED_VALUE w_FLAG h0 n0 _ T78.heap _
      rw [e78]
      exact ⟨rfl, N78⟩
  ·
    obtain ⟨cl79, Ar79, qq79, Sz79, Nn79, Hs79, Gs79⟩ := V_b1_52
    have hin79 : ¬ ((2 : Int32) < 0 ∨ cl79.slots.size ≤ ((2 : Int32)).toNatClampNeg) := inb_of Sz79 ⟨by decide, by decide⟩
    have hat79 : cl79.slots[((2 : Int32)).toNatClampNeg]? = some (.ref w_RESOURCE) := Has.at Hs79 hin79 rfl
    obtain ⟨T80, X80, e80, st80⟩ := getS2 X52 hx hZ hown (host := "") (Or.inl (hw _ (List.mem_of_getElem? (i := 16) rfl))) Via.refl e52 (own_staK S_OWNER K52 all0) (g := (mkF m 130 #[.val (.int p1), .val (.ref b1), .val (.ref w_RESOURCE), .unset, .unset] [(.ref w_RESOURCE)])) rfl (hb hby at_130)
    obtain ⟨T81, X81, e81, st81⟩ := getS2 X80 hx hZ hown (host := "") (Or.inl (hw _ (List.mem_of_getElem? (i := 20) rfl))) Via.refl e80 (own_staK S_CREDENTIAL K52 all0) (g := (mkF m 137 #[.val (.int p1), .val (.ref b1), .val (.ref w_RESOURCE), .unset, .unset] [(.ref w_RESOURCE)])) rfl (hb hby at_137)
    obtain ⟨cq82, kq82, q82a, q82b, q82c⟩ := isOf hZ e81 (E_RESOURCE.keep K52)
    obtain ⟨_, _, ⟨T82, L82, k82, n82⟩, -, X82, ⟨Lc82, hQ82, l82, y82, z82⟩, st82⟩ := X81.virtualBack hx (y := (⟨"com/example/garm/garm/command/Option", "isRepeatable", "()Z"⟩ : MethodName)) (z := (⟨"com/example/garm/garm/command/Option", "isRepeatable", "()Z"⟩ : MethodName)) hown (mvT hZ (hw _ (List.mem_of_getElem? (i := 39) rfl))) (mvT hZ (hw _ (List.mem_of_getElem? (i := 40) rfl))) (notFace_of_selects (args := #[]) (mvT hZ (hw _ (List.mem_of_getElem? (i := 42) rfl)))) (mvT hZ (hw _ (List.mem_of_getElem? (i := 42) rfl))) (mvT hZ (hw _ (List.mem_of_getElem? (i := 41) rfl))) (by decide) (backOf (W := 0) (rm1_2 l Z a0 hw [] w_RESOURCE w_VALUE w_REPEATED_VALUE h52 n0 (Nat.le_trans Z0 K52.1) (F_form_RESOURCE.keep K52 nin0) (own_staK S_REPEATED_VALUE K52 all0) ne_REPEATED_VALUE_VALUE) hZ (hw _ (List.mem_of_getElem? (i := 43) rfl)) (hw _ (List.mem_of_getElem? (i := 3) rfl)) (by decide) (by decide)) q82a q82c (g := (mkF m 150 #[.val (.int p1), .val (.ref b1), .val (.ref w_RESOURCE), .val (.int (0 : Int32)), .unset] [(.ref w_RESOURCE)])) rfl (by rw [hml]; rfl) (Steps.refl _) (argsL := []) (rest := []) (lenOf pd_0 rfl) rfl (by show 2 * 0 + _ ≤ _; exact Nat.le_of_eq rfl) (hb hby at_150) (fun _ _ => ⟨rfl, e81, (by decide : 1 + 0 ≤ _), (by decide : 17 + 0 ≤ _)⟩)
    dsimp only [Pt.U, Pt.locs, Pt.cells, Pt.slots] at X82 l82 y82 z82 st82 hQ82
    subst l82 y82 z82
    obtain ⟨rfl, N82q, e82⟩ := hQ82
    have N82 := Fr.app N52 N82q
    obtain ⟨fs, hr, hrun, hended, hW, hsame⟩ := X82.leave (v := some (.int (1 : Int32))) (fun h => by rw [Bd.returns] at h; cases h)
    refine ⟨_, _, k53 _ ?_, hrun, hended, _, _, rfl, ?_, ⟨_, rfl⟩, hW, hsame.mono (by decide) (by decide)⟩
    ·
      show Steps p.tables e below (T52.setTop (mkF m 127 #[.val (.int p1), .val (.ref b1), .unset, .unset, .unset] [(.int ((p1 &&& (2147483647 : Int32)) % (17 : Int32))), (.ref b1)])) _
      rewrite [hk56_2]
      show Steps p.tables e below (T52.setTop (mkF m 127 #[.val (.int p1), .val (.ref b1), .unset, .unset, .unset] [(.int (2 : Int32)), (.ref b1)])) _
      refine X52.aaload hx (j := (2 : Int32)) (v := (.ref w_RESOURCE)) (by rw [e52]; exact Ar79.1) (State.isArrayOf_alike hZ.alike Ar79.2.1) rfl Ar79.2.2 hin79 hat79 (g := (mkF m 127 #[.val (.int p1), .val (.ref b1), .unset, .unset, .unset] [(.int (2 : Int32)), (.ref b1)])) rfl rfl (hb hby at_127) _ ?_
      show Steps p.tables e below (T52.setTop (mkF m 128 #[.val (.int p1), .val (.ref b1), .unset, .unset, .unset] [(.ref w_RESOURCE)])) _
      refine XS.astoreN X52.here hx rfl (hb hby at_128) rfl rfl (l' := #[.val (.int p1), .val (.ref b1), .val (.ref w_RESOURCE), .unset, .unset]) rfl ?_
      show Steps p.tables e below (T52.setTop (mkF m 129 #[.val (.int p1), .val (.ref b1), .val (.ref w_RESOURCE), .unset, .unset] [])) _
      refine XS.aloadN X52.here hx rfl (hb hby at_129) rfl rfl ?_
      show Steps p.tables e below (T52.setTop (mkF m 130 #[.val (.int p1), .val (.ref b1), .val (.ref w_RESOURCE), .unset, .unset] [(.ref w_RESOURCE)])) _
      refine st80 _ ?_
      show Steps p.tables e below (T80.setTop (mkF m 133 #[.val (.int p1), .val (.ref b1), .val (.ref w_RESOURCE), .unset, .unset] [(.ref w_OWNER), (.ref w_RESOURCE)])) _
      refine Jvm.RoadKit.acmp (g := (mkF m 133 #[.val (.int p1), .val (.ref b1), .val (.ref w_RESOURCE), .unset, .unset] [(.ref w_OWNER), (.ref w_RESOURCE)])) X80 hx rfl rfl rfl (pc0 := 133) (pc' := 136) (same := false) rfl (hb hby at_133) rfl (decide_eq_false fun q => (Ne.symm ne_OWNER_RESOURCE) (Value.ref.inj q)) (by decide) (by decide) ?_
      show Steps p.tables e below (T80.setTop (mkF m 136 #[.val (.int p1), .val (.ref b1), .val (.ref w_RESOURCE), .unset, .unset] [])) _
      refine XS.aloadN X80.here hx rfl (hb hby at_136) rfl rfl ?_
      show Steps p.tables e below (T80.setTop (mkF m 137 #[.val (.int p1), .val (.ref b1), .val (.ref w_RESOURCE), .unset, .unset] [(.ref w_RESOURCE)])) _
      refine st81 _ ?_
      show Steps p.tables e below (T81.setTop (mkF m 140 #[.val (.int p1), .val (.ref b1), .val (.ref w_RESOURCE), .unset, .unset] [(.ref w_CREDENTIAL), (.ref w_RESOURCE)])) _
      refine Jvm.RoadKit.acmp (g := (mkF m 140 #[.val (.int p1), .val (.ref b1), .val (.ref w_RESOURCE), .unset, .unset] [(.ref w_CREDENTIAL), (.ref w_RESOURCE)])) X81 hx rfl rfl rfl (pc0 := 140) (pc' := 147) (same := false) rfl (hb hby at_140) rfl (decide_eq_false fun q => (Ne.symm ne_CREDENTIAL_RESOURCE) (Value.ref.inj q)) (by decide) (by decide) ?_
      show Steps p.tables e below (T81.setTop (mkF m 147 #[.val (.int p1), .val (.ref b1), .val (.ref w_RESOURCE), .unset, .unset] [])) _
      refine XS.iconst X81.here hx rfl (hb hby at_147) ?_
      show Steps p.tables e below (T81.setTop (mkF m 148 #[.val (.int p1), .val (.ref b1), .val (.ref w_RESOURCE), .unset, .unset] [(.int (0 : Int32))])) _
      refine XS.istoreN X81.here hx rfl (hb hby at_148) rfl (l' := #[.val (.int p1), .val (.ref b1), .val (.ref w_RESOURCE), .val (.int (0 : Int32)), .unset]) rfl ?_
      show Steps p.tables e below (T81.setTop (mkF m 149 #[.val (.int p1), .val (.ref b1), .val (.ref w_RESOURCE), .val (.int (0 : Int32)), .unset] [])) _
      refine XS.aloadN X81.here hx rfl (hb hby at_149) rfl rfl ?_
      show Steps p.tables e below (T81.setTop (mkF m 150 #[.val (.int p1), .val (.ref b1), .val (.ref w_RESOURCE), .val (.int (0 : Int32)), .unset] [(.ref w_RESOURCE)])) _
      refine st82.trans ?_
      show Steps p.tables e below (T82.setTop (mkF m 153 #[.val (.int p1), .val (.ref b1), .val (.ref w_RESOURCE), .val (.int (0 : Int32)), .unset] [(.int (0 : Int32))])) _
      refine XS.istore X82.here hx rfl (hb hby at_153) rfl (l' := #[.val (.int p1), .val (.ref b1), .val (.ref w_RESOURCE), .val (.int (0 : Int32)), .val (.int (0 : Int32))]) rfl ?_
      show Steps p.tables e below (T82.setTop (mkF m 155 #[.val (.int p1), .val (.ref b1), .val (.ref w_RESOURCE), .val (.int (0 : Int32)), .val (.int (0 : Int32))] [])) _
      refine XS.iload X82.here hx rfl (hb hby at_155) rfl ?_
      show Steps p.tables e below (T82.setTop (mkF m 157 #[.val (.int p1), .val (.ref b1), .val (.ref w_RESOURCE), .val (.int (0 : Int32)), .val (.int (0 : Int32))] [(.int (0 : Int32))])) _
      refine XS.iloadN X82.here hx rfl (hb hby at_157) rfl ?_
      show Steps p.tables e below (T82.setTop (mkF m 158 #[.val (.int p1), .val (.ref b1), .val (.ref w_RESOURCE), .val (.int (0 : Int32)), .val (.int (0 : Int32))] [(.int (0 : Int32)), (.int (0 : Int32))])) _
      refine XS.icmpNo X82.here hx rfl (hb hby at_158) rfl (teq (by decide : (0 : Int32) = (0 : Int32))).2 ?_
      show Steps p.tables e below (T82.setTop (mkF m 161 #[.val (.int p1), .val (.ref b1), .val (.ref w_RESOURCE), .val (.int (0 : Int32)), .val (.int (0 : Int32))] [])) _
      refine XS.iload X82.here hx rfl (hb hby at_161) rfl ?_
      show Steps p.tables e below (T82.setTop (mkF m 163 #[.val (.int p1), .val (.ref b1), .val (.ref w_RESOURCE), .val (.int (0 : Int32)), .val (.int (0 : Int32))] [(.int (0 : Int32))])) _
      refine XS.ifYes X82.here hx rfl (pc0 := 163) (pc' := 173) rfl (hb hby at_163) rfl ((if0 _ _).trans (teq (by decide : (0 : Int32) = (0 : Int32))).1) (by decide) (by decide) ?_
      show Steps p.tables e below (T82.setTop (mkF m 173 #[.val (.int p1), .val (.ref b1), .val (.ref w_RESOURCE), .val (.int (0 : Int32)), .val (.int (0 : Int32))] [])) _
      refine XS.iconst X82.here hx rfl (hb hby at_173) ?_
      show Steps p.tables e below (T82.setTop (mkF m 174 #[.val (.int p1), .val (.ref b1), .val (.ref w_RESOURCE), .val (.int (0 : Int32)), .val (.int (0 : Int32))] [(.int (1 : Int32))])) _
      refine XS.goto X82.here hx rfl (pc0 := 174) (pc' := 178) rfl (hb hby at_174) (by decide) (by decide) ?_
      show Steps p.tables e below (T82.setTop (mkF m 178 #[.val (.int p1), .val (.ref b1), .val (.ref w_RESOURCE), .val (.int (0 : Int32)), .val (.int (0 : Int32))] [(.int (1 : Int32))])) _
      exact retN X82 hx (t := .boolean) Bd.returns (by simp) (hb hby at_178) hr
    · show Q0_0 Z p1 w_POD w_BASE w_RESOURCE w_AGENT w_CLIENT w_ISSUER w_OWNER w_CREATOR w_CREDENTIAL w_REQUESTS w_AGENTS w_STATS w_WAC_ALLOW w_METHOD w_CREATES w_REMOVES w_PORT w_VALUE w_REPEATED_VALUE w_FLAG h0 n0 _ T82.heap _
      rw [e82]
      exact ⟨rfl, N82⟩
  ·
    obtain ⟨cl83, Ar83, qq83, Sz83, Nn83, Hs83, Gs83⟩ := V_b1_52
    have hin83 : ¬ ((3 : Int32) < 0 ∨ cl83.slots.size ≤ ((3 : Int32)).toNatClampNeg) := inb_of Sz83 ⟨by decide, by decide⟩
    have hat83 : cl83.slots[((3 : Int32)).toNatClampNeg]? = some (.ref w_AGENT) := Has.at Hs83 hin83 rfl
    obtain ⟨T84, X84, e84, st84⟩ := getS2 X52 hx hZ hown (host := "") (Or.inl (hw _ (List.mem_of_getElem? (i := 16) rfl))) Via.refl e52 (own_staK S_OWNER K52 all0) (g := (mkF m 130 #[.val (.int p1), .val (.ref b1), .val (.ref w_AGENT), .unset, .unset] [(.ref w_AGENT)])) rfl (hb hby at_130)
    obtain ⟨T85, X85, e85, st85⟩ := getS2 X84 hx hZ hown (host := "") (Or.inl (hw _ (List.mem_of_getElem? (i := 20) rfl))) Via.refl e84 (own_staK S_CREDENTIAL K52 all0) (g := (mkF m 137 #[.val (.int p1), .val (.ref b1), .val (.ref w_AGENT), .unset, .unset] [(.ref w_AGENT)])) rfl (hb hby at_137)
    obtain ⟨cq86, kq86, q86a, q86b, q86c⟩ := isOf hZ e85 (E_AGENT.keep K52)
    obtain ⟨_, _, ⟨T86, L86, k86, n86⟩, -, X86, ⟨Lc86, hQ86, l86, y86, z86⟩, st86⟩ := X85.virtualBack hx (y := (⟨"com/example/garm/garm/command/Option", "isRepeatable", "()Z"⟩ : MethodName)) (z := (⟨"com/example/garm/garm/command/Option", "isRepeatable", "()Z"⟩ : MethodName)) hown (mvT hZ (hw _ (List.mem_of_getElem? (i := 39) rfl))) (mvT hZ (hw _ (List.mem_of_getElem? (i := 40) rfl))) (notFace_of_selects (args := #[]) (mvT hZ (hw _ (List.mem_of_getElem? (i := 42) rfl)))) (mvT hZ (hw _ (List.mem_of_getElem? (i := 42) rfl))) (mvT hZ (hw _ (List.mem_of_getElem? (i := 41) rfl))) (by decide) (backOf (W := 0) (rm1_3 l Z a0 hw [] w_AGENT w_VALUE w_REPEATED_VALUE h52 n0 (Nat.le_trans Z0 K52.1) (F_form_AGENT.keep K52 nin0) (own_staK S_REPEATED_VALUE K52 all0) ne_REPEATED_VALUE_VALUE) hZ (hw _ (List.mem_of_getElem? (i := 43) rfl)) (hw _ (List.mem_of_getElem? (i := 3) rfl)) (by decide) (by decide)) q86a q86c (g := (mkF m 150 #[.val (.int p1), .val (.ref b1), .val (.ref w_AGENT), .val (.int (0 : Int32)), .unset] [(.ref w_AGENT)])) rfl (by rw [hml]; rfl) (Steps.refl _) (argsL := []) (rest := []) (lenOf pd_0 rfl) rfl (by show 2 * 0 + _ ≤ _; exact Nat.le_of_eq rfl) (hb hby at_150) (fun _ _ => ⟨rfl, e85, (by decide : 1 + 0 ≤ _), (by decide : 17 + 0 ≤ _)⟩)
    dsimp only [Pt.U, Pt.locs, Pt.cells, Pt.slots] at X86 l86 y86 z86 st86 hQ86
    subst l86 y86 z86
    obtain ⟨rfl, N86q, e86⟩ := hQ86
    have N86 := Fr.app N52 N86q
    obtain ⟨fs, hr, hrun, hended, hW, hsame⟩ := X86.leave (v := some (.int (1 : Int32))) (fun h => by rw [Bd.returns] at h; cases h)
    refine ⟨_, _, k53 _ ?_, hrun, hended, _, _, rfl, ?_, ⟨_, rfl⟩, hW, hsame.mono (by decide) (by decide)⟩
    ·
      show Steps p.tables e below (T52.setTop (mkF m 127 #[.val (.int p1), .val (.ref b1), .unset, .unset, .unset] [(.int ((p1 &&& (2147483647 : Int32)) % (17 : Int32))), (.ref b1)])) _
      rewrite [hk57_3]
      show Steps p.tables e below (T52.setTop (mkF m 127 #[.val (.int p1), .val (.ref b1), .unset, .unset, .unset] [(.int (3 : Int32)), (.ref b1)])) _
      refine X52.aaload hx (j := (3 : Int32)) (v := (.ref w_AGENT)) (by rw [e52]; exact Ar83.1) (State.isArrayOf_alike hZ.alike Ar83.2.1) rfl Ar83.2.2 hin83 hat83 (g := (mkF m 127 #[.val (.int p1), .val (.ref b1), .unset, .unset, .unset] [(.int (3 : Int32)), (.ref b1)])) rfl rfl (hb hby at_127) _ ?_
      show Steps p.tables e below (T52.setTop (mkF m 128 #[.val (.int p1), .val (.ref b1), .unset, .unset, .unset] [(.ref w_AGENT)])) _
      refine XS.astoreN X52.here hx rfl (hb hby at_128) rfl rfl (l' := #[.val (.int p1), .val (.ref b1), .val (.ref w_AGENT), .unset, .unset]) rfl ?_
      show Steps p.tables e below (T52.setTop (mkF m 129 #[.val (.int p1), .val (.ref b1), .val (.ref w_AGENT), .unset, .unset] [])) _
      refine XS.aloadN X52.here hx rfl (hb hby at_129) rfl rfl ?_
      show Steps p.tables e below (T52.setTop (mkF m 130 #[.val (.int p1), .val (.ref b1), .val (.ref w_AGENT), .unset, .unset] [(.ref w_AGENT)])) _
      refine st84 _ ?_
      show Steps p.tables e below (T84.setTop (mkF m 133 #[.val (.int p1), .val (.ref b1), .val (.ref w_AGENT), .unset, .unset] [(.ref w_OWNER), (.ref w_AGENT)])) _
      refine Jvm.RoadKit.acmp (g := (mkF m 133 #[.val (.int p1), .val (.ref b1), .val (.ref w_AGENT), .unset, .unset] [(.ref w_OWNER), (.ref w_AGENT)])) X84 hx rfl rfl rfl (pc0 := 133) (pc' := 136) (same := false) rfl (hb hby at_133) rfl (decide_eq_false fun q => ne_AGENT_OWNER (Value.ref.inj q)) (by decide) (by decide) ?_
      show Steps p.tables e below (T84.setTop (mkF m 136 #[.val (.int p1), .val (.ref b1), .val (.ref w_AGENT), .unset, .unset] [])) _
      refine XS.aloadN X84.here hx rfl (hb hby at_136) rfl rfl ?_
      show Steps p.tables e below (T84.setTop (mkF m 137 #[.val (.int p1), .val (.ref b1), .val (.ref w_AGENT), .unset, .unset] [(.ref w_AGENT)])) _
      refine st85 _ ?_
      show Steps p.tables e below (T85.setTop (mkF m 140 #[.val (.int p1), .val (.ref b1), .val (.ref w_AGENT), .unset, .unset] [(.ref w_CREDENTIAL), (.ref w_AGENT)])) _
      refine Jvm.RoadKit.acmp (g := (mkF m 140 #[.val (.int p1), .val (.ref b1), .val (.ref w_AGENT), .unset, .unset] [(.ref w_CREDENTIAL), (.ref w_AGENT)])) X85 hx rfl rfl rfl (pc0 := 140) (pc' := 147) (same := false) rfl (hb hby at_140) rfl (decide_eq_false fun q => ne_AGENT_CREDENTIAL (Value.ref.inj q)) (by decide) (by decide) ?_
      show Steps p.tables e below (T85.setTop (mkF m 147 #[.val (.int p1), .val (.ref b1), .val (.ref w_AGENT), .unset, .unset] [])) _
      refine XS.iconst X85.here hx rfl (hb hby at_147) ?_
      show Steps p.tables e below (T85.setTop (mkF m 148 #[.val (.int p1), .val (.ref b1), .val (.ref w_AGENT), .unset, .unset] [(.int (0 : Int32))])) _
      refine XS.istoreN X85.here hx rfl (hb hby at_148) rfl (l' := #[.val (.int p1), .val (.ref b1), .val (.ref w_AGENT), .val (.int (0 : Int32)), .unset]) rfl ?_
      show Steps p.tables e below (T85.setTop (mkF m 149 #[.val (.int p1), .val (.ref b1), .val (.ref w_AGENT), .val (.int (0 : Int32)), .unset] [])) _
      refine XS.aloadN X85.here hx rfl (hb hby at_149) rfl rfl ?_
      show Steps p.tables e below (T85.setTop (mkF m 150 #[.val (.int p1), .val (.ref b1), .val (.ref w_AGENT), .val (.int (0 : Int32)), .unset] [(.ref w_AGENT)])) _
      refine st86.trans ?_
      show Steps p.tables e below (T86.setTop (mkF m 153 #[.val (.int p1), .val (.ref b1), .val (.ref w_AGENT), .val (.int (0 : Int32)), .unset] [(.int (0 : Int32))])) _
      refine XS.istore X86.here hx rfl (hb hby at_153) rfl (l' := #[.val (.int p1), .val (.ref b1), .val (.ref w_AGENT), .val (.int (0 : Int32)), .val (.int (0 : Int32))]) rfl ?_
      show Steps p.tables e below (T86.setTop (mkF m 155 #[.val (.int p1), .val (.ref b1), .val (.ref w_AGENT), .val (.int (0 : Int32)), .val (.int (0 : Int32))] [])) _
      refine XS.iload X86.here hx rfl (hb hby at_155) rfl ?_
      show Steps p.tables e below (T86.setTop (mkF m 157 #[.val (.int p1), .val (.ref b1), .val (.ref w_AGENT), .val (.int (0 : Int32)), .val (.int (0 : Int32))] [(.int (0 : Int32))])) _
      refine XS.iloadN X86.here hx rfl (hb hby at_157) rfl ?_
      show Steps p.tables e below (T86.setTop (mkF m 158 #[.val (.int p1), .val (.ref b1), .val (.ref w_AGENT), .val (.int (0 : Int32)), .val (.int (0 : Int32))] [(.int (0 : Int32)), (.int (0 : Int32))])) _
      refine XS.icmpNo X86.here hx rfl (hb hby at_158) rfl (teq (by decide : (0 : Int32) = (0 : Int32))).2 ?_
      show Steps p.tables e below (T86.setTop (mkF m 161 #[.val (.int p1), .val (.ref b1), .val (.ref w_AGENT), .val (.int (0 : Int32)), .val (.int (0 : Int32))] [])) _
      refine XS.iload X86.here hx rfl (hb hby at_161) rfl ?_
      show Steps p.tables e below (T86.setTop (mkF m 163 #[.val (.int p1), .val (.ref b1), .val (.ref w_AGENT), .val (.int (0 : Int32)), .val (.int (0 : Int32))] [(.int (0 : Int32))])) _
      refine XS.ifYes X86.here hx rfl (pc0 := 163) (pc' := 173) rfl (hb hby at_163) rfl ((if0 _ _).trans (teq (by decide : (0 : Int32) = (0 : Int32))).1) (by decide) (by decide) ?_
      show Steps p.tables e below (T86.setTop (mkF m 173 #[.val (.int p1), .val (.ref b1), .val (.ref w_AGENT), .val (.int (0 : Int32)), .val (.int (0 : Int32))] [])) _
      refine XS.iconst X86.here hx rfl (hb hby at_173) ?_
      show Steps p.tables e below (T86.setTop (mkF m 174 #[.val (.int p1), .val (.ref b1), .val (.ref w_AGENT), .val (.int (0 : Int32)), .val (.int (0 : Int32))] [(.int (1 : Int32))])) _
      refine XS.goto X86.here hx rfl (pc0 := 174) (pc' := 178) rfl (hb hby at_174) (by decide) (by decide) ?_
      show Steps p.tables e below (T86.setTop (mkF m 178 #[.val (.int p1), .val (.ref b1), .val (.ref w_AGENT), .val (.int (0 : Int32)), .val (.int (0 : Int32))] [(.int (1 : Int32))])) _
      exact retN X86 hx (t := .boolean) Bd.returns (by simp) (hb hby at_178) hr
    · show Q0_0 Z p1 w_POD w_BASE w_RESOURCE w_AGENT w_CLIENT w_ISSUER w_OWNER w_CREATOR w_CREDENTIAL w_REQUESTS w_AGENTS w_STATS w_WAC_ALLOW w_METHOD w_CREATES w_REMOVES w_PORT w_VALUE w_REPEATED_VALUE w_FLAG h0 n0 _ T86.heap _
      rw [e86]
      exact ⟨rfl, N86⟩
  ·
    obtain ⟨cl87, Ar87, qq87, Sz87, Nn87, Hs87, Gs87⟩ := V_b1_52
    have hin87 : ¬ ((4 : Int32) < 0 ∨ cl87.slots.size ≤ ((4 : Int32)).toNatClampNeg) := inb_of Sz87 ⟨by decide, by decide⟩
    have hat87 : cl87.slots[((4 : Int32)).toNatClampNeg]? = some (.ref w_CLIENT) := Has.at Hs87 hin87 rfl
    obtain ⟨T88, X88, e88, st88⟩ := getS2 X52 hx hZ hown (host := "") (Or.inl (hw _ (List.mem_of_getElem? (i := 16) rfl))) Via.refl e52 (own_staK S_OWNER K52 all0) (g := (mkF m 130 #[.val (.int p1), .val (.ref b1), .val (.ref w_CLIENT), .unset, .unset] [(.ref w_CLIENT)])) rfl (hb hby at_130)
    obtain ⟨T89, X89, e89, st89⟩ := getS2 X88 hx hZ hown (host := "") (Or.inl (hw _ (List.mem_of_getElem? (i := 20) rfl))) Via.refl e88 (own_staK S_CREDENTIAL K52 all0) (g := (mkF m 137 #[.val (.int p1), .val (.ref b1), .val (.ref w_CLIENT), .unset, .unset] [(.ref w_CLIENT)])) rfl (hb hby at_137)
    obtain ⟨cq90, kq90, q90a, q90b, q90c⟩ := isOf hZ e89 (E_CLIENT.keep K52)
    obtain ⟨_, _, ⟨T90, L90, k90, n90⟩, -, X90, ⟨Lc90, hQ90, l90, y90, z90⟩, st90⟩ := X89.virtualBack hx (y := (⟨"com/example/garm/garm/command/Option", "isRepeatable", "()Z"⟩ : MethodName)) (z := (⟨"com/example/garm/garm/command/Option", "isRepeatable", "()Z"⟩ : MethodName)) hown (mvT hZ (hw _ (List.mem_of_getElem? (i := 39) rfl))) (mvT hZ (hw _ (List.mem_of_getElem? (i := 40) rfl))) (notFace_of_selects (args := #[]) (mvT hZ (hw _ (List.mem_of_getElem? (i := 42) rfl)))) (mvT hZ (hw _ (List.mem_of_getElem? (i := 42) rfl))) (mvT hZ (hw _ (List.mem_of_getElem? (i := 41) rfl))) (by decide) (backOf (W := 0) (rm1_4 l Z a0 hw [] w_CLIENT w_VALUE w_REPEATED_VALUE h52 n0 (Nat.le_trans Z0 K52.1) (F_form_CLIENT.keep K52 nin0) (own_staK S_REPEATED_VALUE K52 all0) ne_REPEATED_VALUE_VALUE) hZ (hw _ (List.mem_of_getElem? (i := 43) rfl)) (hw _ (List.mem_of_getElem? (i := 3) rfl)) (by decide) (by decide)) q90a q90c (g := (mkF m 150 #[.val (.int p1), .val (.ref b1), .val (.ref w_CLIENT), .val (.int (0 : Int32)), .unset] [(.ref w_CLIENT)])) rfl (by rw [hml]; rfl) (Steps.refl _) (argsL := []) (rest := []) (lenOf pd_0 rfl) rfl (by show 2 * 0 + _ ≤ _; exact Nat.le_of_eq rfl) (hb hby at_150) (fun _ _ => ⟨rfl, e89, (by decide : 1 + 0 ≤ _), (by decide : 17 + 0 ≤ _)⟩)
    dsimp only [Pt.U, Pt.locs, Pt.cells, Pt.slots] at X90 l90 y90 z90 st90 hQ90
    subst l90 y90 z90
    obtain ⟨rfl, N90q, e90⟩ := hQ90
    have N90 := Fr.app N52 N90q
    obtain ⟨fs, hr, hrun, hended, hW, hsame⟩ := X90.leave (v := some (.int (1 : Int32))) (fun h => by rw [Bd.returns] at h; cases h)
    refine ⟨_, _, k53 _ ?_, hrun, hended, _, _, rfl, ?_, ⟨_, rfl⟩, hW, hsame.mono (by decide) (by decide)⟩
    ·
      show Steps p.tables e below (T52.setTop (mkF m 127 #[.val (.int p1), .val (.ref b1), .unset, .unset, .unset] [(.int ((p1 &&& (2147483647 : Int32)) % (17 : Int32))), (.ref b1)])) _
      rewrite [hk58_4]
      show Steps p.tables e below (T52.setTop (mkF m 127 #[.val (.int p1), .val (.ref b1), .unset, .unset, .unset] [(.int (4 : Int32)), (.ref b1)])) _
      refine X52.aaload hx (j := (4 : Int32)) (v := (.ref w_CLIENT)) (by rw [e52]; exact Ar87.1) (State.isArrayOf_alike hZ.alike Ar87.2.1) rfl Ar87.2.2 hin87 hat87 (g := (mkF m 127 #[.val (.int p1), .val (.ref b1), .unset, .unset, .unset] [(.int (4 : Int32)), (.ref b1)])) rfl rfl (hb hby at_127) _ ?_
      show Steps p.tables e below (T52.setTop (mkF m 128 #[.val (.int p1), .val (.ref b1), .unset, .unset, .unset] [(.ref w_CLIENT)])) _
      refine XS.astoreN X52.here hx rfl (hb hby at_128) rfl rfl (l' := #[.val (.int p1), .val (.ref b1), .val (.ref w_CLIENT), .unset, .unset]) rfl ?_
      show Steps p.tables e below (T52.setTop (mkF m 129 #[.val (.int p1), .val (.ref b1), .val (.ref w_CLIENT), .unset, .unset] [])) _
      refine XS.aloadN X52.here hx rfl (hb hby at_129) rfl rfl ?_
      show Steps p.tables e below (T52.setTop (mkF m 130 #[.val (.int p1), .val (.ref b1), .val (.ref w_CLIENT), .unset, .unset] [(.ref w_CLIENT)])) _
      refine st88 _ ?_
      show Steps p.tables e below (T88.setTop (mkF m 133 #[.val (.int p1), .val (.ref b1), .val (.ref w_CLIENT), .unset, .unset] [(.ref w_OWNER), (.ref w_CLIENT)])) _
      refine Jvm.RoadKit.acmp (g := (mkF m 133 #[.val (.int p1), .val (.ref b1), .val (.ref w_CLIENT), .unset, .unset] [(.ref w_OWNER), (.ref w_CLIENT)])) X88 hx rfl rfl rfl (pc0 := 133) (pc' := 136) (same := false) rfl (hb hby at_133) rfl (decide_eq_false fun q => ne_CLIENT_OWNER (Value.ref.inj q)) (by decide) (by decide) ?_
      show Steps p.tables e below (T88.setTop (mkF m 136 #[.val (.int p1), .val (.ref b1), .val (.ref w_CLIENT), .unset, .unset] [])) _
      refine XS.aloadN X88.here hx rfl (hb hby at_136) rfl rfl ?_
      show Steps p.tables e below (T88.setTop (mkF m 137 #[.val (.int p1), .val (.ref b1), .val (.ref w_CLIENT), .unset, .unset] [(.ref w_CLIENT)])) _
      refine st89 _ ?_
      show Steps p.tables e below (T89.setTop (mkF m 140 #[.val (.int p1), .val (.ref b1), .val (.ref w_CLIENT), .unset, .unset] [(.ref w_CREDENTIAL), (.ref w_CLIENT)])) _
      refine Jvm.RoadKit.acmp (g := (mkF m 140 #[.val (.int p1), .val (.ref b1), .val (.ref w_CLIENT), .unset, .unset] [(.ref w_CREDENTIAL), (.ref w_CLIENT)])) X89 hx rfl rfl rfl (pc0 := 140) (pc' := 147) (same := false) rfl (hb hby at_140) rfl (decide_eq_false fun q => ne_CLIENT_CREDENTIAL (Value.ref.inj q)) (by decide) (by decide) ?_
      show Steps p.tables e below (T89.setTop (mkF m 147 #[.val (.int p1), .val (.ref b1), .val (.ref w_CLIENT), .unset, .unset] [])) _
      refine XS.iconst X89.here hx rfl (hb hby at_147) ?_
      show Steps p.tables e below (T89.setTop (mkF m 148 #[.val (.int p1), .val (.ref b1), .val (.ref w_CLIENT), .unset, .unset] [(.int (0 : Int32))])) _
      refine XS.istoreN X89.here hx rfl (hb hby at_148) rfl (l' := #[.val (.int p1), .val (.ref b1), .val (.ref w_CLIENT), .val (.int (0 : Int32)), .unset]) rfl ?_
      show Steps p.tables e below (T89.setTop (mkF m 149 #[.val (.int p1), .val (.ref b1), .val (.ref w_CLIENT), .val (.int (0 : Int32)), .unset] [])) _
      refine XS.aloadN X89.here hx rfl (hb hby at_149) rfl rfl ?_
      show Steps p.tables e below (T89.setTop (mkF m 150 #[.val (.int p1), .val (.ref b1), .val (.ref w_CLIENT), .val (.int (0 : Int32)), .unset] [(.ref w_CLIENT)])) _
      refine st90.trans ?_
      show Steps p.tables e below (T90.setTop (mkF m 153 #[.val (.int p1), .val (.ref b1), .val (.ref w_CLIENT), .val (.int (0 : Int32)), .unset] [(.int (0 : Int32))])) _
      refine XS.istore X90.here hx rfl (hb hby at_153) rfl (l' := #[.val (.int p1), .val (.ref b1), .val (.ref w_CLIENT), .val (.int (0 : Int32)), .val (.int (0 : Int32))]) rfl ?_
      show Steps p.tables e below (T90.setTop (mkF m 155 #[.val (.int p1), .val (.ref b1), .val (.ref w_CLIENT), .val (.int (0 : Int32)), .val (.int (0 : Int32))] [])) _
      refine XS.iload X90.here hx rfl (hb hby at_155) rfl ?_
      show Steps p.tables e below (T90.setTop (mkF m 157 #[.val (.int p1), .val (.ref b1), .val (.ref w_CLIENT), .val (.int (0 : Int32)), .val (.int (0 : Int32))] [(.int (0 : Int32))])) _
      refine XS.iloadN X90.here hx rfl (hb hby at_157) rfl ?_
      show Steps p.tables e below (T90.setTop (mkF m 158 #[.val (.int p1), .val (.ref b1), .val (.ref w_CLIENT), .val (.int (0 : Int32)), .val (.int (0 : Int32))] [(.int (0 : Int32)), (.int (0 : Int32))])) _
      refine XS.icmpNo X90.here hx rfl (hb hby at_158) rfl (teq (by decide : (0 : Int32) = (0 : Int32))).2 ?_
      show Steps p.tables e below (T90.setTop (mkF m 161 #[.val (.int p1), .val (.ref b1), .val (.ref w_CLIENT), .val (.int (0 : Int32)), .val (.int (0 : Int32))] [])) _
      refine XS.iload X90.here hx rfl (hb hby at_161) rfl ?_
      show Steps p.tables e below (T90.setTop (mkF m 163 #[.val (.int p1), .val (.ref b1), .val (.ref w_CLIENT), .val (.int (0 : Int32)), .val (.int (0 : Int32))] [(.int (0 : Int32))])) _
      refine XS.ifYes X90.here hx rfl (pc0 := 163) (pc' := 173) rfl (hb hby at_163) rfl ((if0 _ _).trans (teq (by decide : (0 : Int32) = (0 : Int32))).1) (by decide) (by decide) ?_
      show Steps p.tables e below (T90.setTop (mkF m 173 #[.val (.int p1), .val (.ref b1), .val (.ref w_CLIENT), .val (.int (0 : Int32)), .val (.int (0 : Int32))] [])) _
      refine XS.iconst X90.here hx rfl (hb hby at_173) ?_
      show Steps p.tables e below (T90.setTop (mkF m 174 #[.val (.int p1), .val (.ref b1), .val (.ref w_CLIENT), .val (.int (0 : Int32)), .val (.int (0 : Int32))] [(.int (1 : Int32))])) _
      refine XS.goto X90.here hx rfl (pc0 := 174) (pc' := 178) rfl (hb hby at_174) (by decide) (by decide) ?_
      show Steps p.tables e below (T90.setTop (mkF m 178 #[.val (.int p1), .val (.ref b1), .val (.ref w_CLIENT), .val (.int (0 : Int32)), .val (.int (0 : Int32))] [(.int (1 : Int32))])) _
      exact retN X90 hx (t := .boolean) Bd.returns (by simp) (hb hby at_178) hr
    · show Q0_0 Z p1 w_POD w_BASE w_RESOURCE w_AGENT w_CLIENT w_ISSUER w_OWNER w_CREATOR w_CREDENTIAL w_REQUESTS w_AGENTS w_STATS w_WAC_ALLOW w_METHOD w_CREATES w_REMOVES w_PORT w_VALUE w_REPEATED_VALUE w_FLAG h0 n0 _ T90.heap _
      rw [e90]
      exact ⟨rfl, N90⟩
  ·
    obtain ⟨cl91, Ar91, qq91, Sz91, Nn91, Hs91, Gs91⟩ := V_b1_52
    have hin91 : ¬ ((5 : Int32) < 0 ∨ cl91.slots.size ≤ ((5 : Int32)).toNatClampNeg) := inb_of Sz91 ⟨by decide, by decide⟩
    have hat91 : cl91.slots[((5 : Int32)).toNatClampNeg]? = some (.ref w_ISSUER) := Has.at Hs91 hin91 rfl
    obtain ⟨T92, X92, e92, st92⟩ := getS2 X52 hx hZ hown (host := "") (Or.inl (hw _ (List.mem_of_getElem? (i := 16) rfl))) Via.refl e52 (own_staK S_OWNER K52 all0) (g := (mkF m 130 #[.val (.int p1), .val (.ref b1), .val (.ref w_ISSUER), .unset, .unset] [(.ref w_ISSUER)])) rfl (hb hby at_130)
    obtain ⟨T93, X93, e93, st93⟩ := getS2 X92 hx hZ hown (host := "") (Or.inl (hw _ (List.mem_of_getElem? (i := 20) rfl))) Via.refl e92 (own_staK S_CREDENTIAL K52 all0) (g := (mkF m 137 #[.val (.int p1), .val (.ref b1), .val (.ref w_ISSUER), .unset, .unset] [(.ref w_ISSUER)])) rfl (hb hby at_137)
    obtain ⟨cq94, kq94, q94a, q94b, q94c⟩ := isOf hZ e93 (E_ISSUER.keep K52)
    obtain ⟨_, _, ⟨T94, L94, k94, n94⟩, -, X94, ⟨Lc94, hQ94, l94, y94, z94⟩, st94⟩ := X93.virtualBack hx (y := (⟨"com/example/garm/garm/command/Option", "isRepeatable", "()Z"⟩ : MethodName)) (z := (⟨"com/example/garm/garm/command/Option", "isRepeatable", "()Z"⟩ : MethodName)) hown (mvT hZ (hw _ (List.mem_of_getElem? (i := 39) rfl))) (mvT hZ (hw _ (List.mem_of_getElem? (i := 40) rfl))) (notFace_of_selects (args := #[]) (mvT hZ (hw _ (List.mem_of_getElem? (i := 42) rfl)))) (mvT hZ (hw _ (List.mem_of_getElem? (i := 42) rfl))) (mvT hZ (hw _ (List.mem_of_getElem? (i := 41) rfl))) (by decide) (backOf (W := 0) (rm1_5 l Z a0 hw [] w_ISSUER w_VALUE w_REPEATED_VALUE h52 n0 (Nat.le_trans Z0 K52.1) (F_form_ISSUER.keep K52 nin0) (own_staK S_REPEATED_VALUE K52 all0) ne_REPEATED_VALUE_VALUE) hZ (hw _ (List.mem_of_getElem? (i := 43) rfl)) (hw _ (List.mem_of_getElem? (i := 3) rfl)) (by decide) (by decide)) q94a q94c (g := (mkF m 150 #[.val (.int p1), .val (.ref b1), .val (.ref w_ISSUER), .val (.int (0 : Int32)), .unset] [(.ref w_ISSUER)])) rfl (by rw [hml]; rfl) (Steps.refl _) (argsL := []) (rest := []) (lenOf pd_0 rfl) rfl (by show 2 * 0 + _ ≤ _; exact Nat.le_of_eq rfl) (hb hby at_150) (fun _ _ => ⟨rfl, e93, (by decide : 1 + 0 ≤ _), (by decide : 17 + 0 ≤ _)⟩)
    dsimp only [Pt.U, Pt.locs, Pt.cells, Pt.slots] at X94 l94 y94 z94 st94 hQ94
    subst l94 y94 z94
    obtain ⟨rfl, N94q, e94⟩ := hQ94
    have N94 := Fr.app N52 N94q
    obtain ⟨fs, hr, hrun, hended, hW, hsame⟩ := X94.leave (v := some (.int (1 : Int32))) (fun h => by rw [Bd.returns] at h; cases h)
    refine ⟨_, _, k53 _ ?_, hrun, hended, _, _, rfl, ?_, ⟨_, rfl⟩, hW, hsame.mono (by decide) (by decide)⟩
    ·
      show Steps p.tables e below (T52.setTop (mkF m 127 #[.val (.int p1), .val (.ref b1), .unset, .unset, .unset] [(.int ((p1 &&& (2147483647 : Int32)) % (17 : Int32))), (.ref b1)])) _
      rewrite [hk59_5]
      show Steps p.tables e below (T52.setTop (mkF m 127 #[.val (.int p1), .val (.ref b1), .unset, .unset, .unset] [(.int (5 : Int32)), (.ref b1)])) _
      refine X52.aaload hx (j := (5 : Int32)) (v := (.ref w_ISSUER)) (by rw [e52]; exact Ar91.1) (State.isArrayOf_alike hZ.alike Ar91.2.1) rfl Ar91.2.2 hin91 hat91 (g := (mkF m 127 #[.val (.int p1), .val (.ref b1), .unset, .unset, .unset] [(.int (5 : Int32)), (.ref b1)])) rfl rfl (hb hby at_127) _ ?_
      show Steps p.tables e below (T52.setTop (mkF m 128 #[.val (.int p1), .val (.ref b1), .unset, .unset, .unset] [(.ref w_ISSUER)])) _
      refine XS.astoreN X52.here hx rfl (hb hby at_128) rfl rfl (l' := #[.val (.int p1), .val (.ref b1), .val (.ref w_ISSUER), .unset, .unset]) rfl ?_
      show Steps p.tables e below (T52.setTop (mkF m 129 #[.val (.int p1), .val (.ref b1), .val (.ref w_ISSUER), .unset, .unset] [])) _
      refine XS.aloadN X52.here hx rfl (hb hby at_129) rfl rfl ?_
      show Steps p.tables e below (T52.setTop (mkF m 130 #[.val (.int p1), .val (.ref b1), .val (.ref w_ISSUER), .unset, .unset] [(.ref w_ISSUER)])) _
      refine st92 _ ?_
      show Steps p.tables e below (T92.setTop (mkF m 133 #[.val (.int p1), .val (.ref b1), .val (.ref w_ISSUER), .unset, .unset] [(.ref w_OWNER), (.ref w_ISSUER)])) _
      refine Jvm.RoadKit.acmp (g := (mkF m 133 #[.val (.int p1), .val (.ref b1), .val (.ref w_ISSUER), .unset, .unset] [(.ref w_OWNER), (.ref w_ISSUER)])) X92 hx rfl rfl rfl (pc0 := 133) (pc' := 136) (same := false) rfl (hb hby at_133) rfl (decide_eq_false fun q => ne_ISSUER_OWNER (Value.ref.inj q)) (by decide) (by decide) ?_
      show Steps p.tables e below (T92.setTop (mkF m 136 #[.val (.int p1), .val (.ref b1), .val (.ref w_ISSUER), .unset, .unset] [])) _
      refine XS.aloadN X92.here hx rfl (hb hby at_136) rfl rfl ?_
      show Steps p.tables e below (T92.setTop (mkF m 137 #[.val (.int p1), .val (.ref b1), .val (.ref w_ISSUER), .unset, .unset] [(.ref w_ISSUER)])) _
      refine st93 _ ?_
      show Steps p.tables e below (T93.setTop (mkF m 140 #[.val (.int p1), .val (.ref b1), .val (.ref w_ISSUER), .unset, .unset] [(.ref w_CREDENTIAL), (.ref w_ISSUER)])) _
      refine Jvm.RoadKit.acmp (g := (mkF m 140 #[.val (.int p1), .val (.ref b1), .val (.ref w_ISSUER), .unset, .unset] [(.ref w_CREDENTIAL), (.ref w_ISSUER)])) X93 hx rfl rfl rfl (pc0 := 140) (pc' := 147) (same := false) rfl (hb hby at_140) rfl (decide_eq_false fun q => (Ne.symm ne_CREDENTIAL_ISSUER) (Value.ref.inj q)) (by decide) (by decide) ?_
      show Steps p.tables e below (T93.setTop (mkF m 147 #[.val (.int p1), .val (.ref b1), .val (.ref w_ISSUER), .unset, .unset] [])) _
      refine XS.iconst X93.here hx rfl (hb hby at_147) ?_
      show Steps p.tables e below (T93.setTop (mkF m 148 #[.val (.int p1), .val (.ref b1), .val (.ref w_ISSUER), .unset, .unset] [(.int (0 : Int32))])) _
      refine XS.istoreN X93.here hx rfl (hb hby at_148) rfl (l' := #[.val (.int p1), .val (.ref b1), .val (.ref w_ISSUER), .val (.int (0 : Int32)), .unset]) rfl ?_
      show Steps p.tables e below (T93.setTop (mkF m 149 #[.val (.int p1), .val (.ref b1), .val (.ref w_ISSUER), .val (.int (0 : Int32)), .unset] [])) _
      refine XS.aloadN X93.here hx rfl (hb hby at_149) rfl rfl ?_
      show Steps p.tables e below (T93.setTop (mkF m 150 #[.val (.int p1), .val (.ref b1), .val (.ref w_ISSUER), .val (.int (0 : Int32)), .unset] [(.ref w_ISSUER)])) _
      refine st94.trans ?_
      show Steps p.tables e below (T94.setTop (mkF m 153 #[.val (.int p1), .val (.ref b1), .val (.ref w_ISSUER), .val (.int (0 : Int32)), .unset] [(.int (0 : Int32))])) _
      refine XS.istore X94.here hx rfl (hb hby at_153) rfl (l' := #[.val (.int p1), .val (.ref b1), .val (.ref w_ISSUER), .val (.int (0 : Int32)), .val (.int (0 : Int32))]) rfl ?_
      show Steps p.tables e below (T94.setTop (mkF m 155 #[.val (.int p1), .val (.ref b1), .val (.ref w_ISSUER), .val (.int (0 : Int32)), .val (.int (0 : Int32))] [])) _
      refine XS.iload X94.here hx rfl (hb hby at_155) rfl ?_
      show Steps p.tables e below (T94.setTop (mkF m 157 #[.val (.int p1), .val (.ref b1), .val (.ref w_ISSUER), .val (.int (0 : Int32)), .val (.int (0 : Int32))] [(.int (0 : Int32))])) _
      refine XS.iloadN X94.here hx rfl (hb hby at_157) rfl ?_
      show Steps p.tables e below (T94.setTop (mkF m 158 #[.val (.int p1), .val (.ref b1), .val (.ref w_ISSUER), .val (.int (0 : Int32)), .val (.int (0 : Int32))] [(.int (0 : Int32)), (.int (0 : Int32))])) _
      refine XS.icmpNo X94.here hx rfl (hb hby at_158) rfl (teq (by decide : (0 : Int32) = (0 : Int32))).2 ?_
      show Steps p.tables e below (T94.setTop (mkF m 161 #[.val (.int p1), .val (.ref b1), .val (.ref w_ISSUER), .val (.int (0 : Int32)), .val (.int (0 : Int32))] [])) _
      refine XS.iload X94.here hx rfl (hb hby at_161) rfl ?_
      show Steps p.tables e below (T94.setTop (mkF m 163 #[.val (.int p1), .val (.ref b1), .val (.ref w_ISSUER), .val (.int (0 : Int32)), .val (.int (0 : Int32))] [(.int (0 : Int32))])) _
      refine XS.ifYes X94.here hx rfl (pc0 := 163) (pc' := 173) rfl (hb hby at_163) rfl ((if0 _ _).trans (teq (by decide : (0 : Int32) = (0 : Int32))).1) (by decide) (by decide) ?_
      show Steps p.tables e below (T94.setTop (mkF m 173 #[.val (.int p1), .val (.ref b1), .val (.ref w_ISSUER), .val (.int (0 : Int32)), .val (.int (0 : Int32))] [])) _
      refine XS.iconst X94.here hx rfl (hb hby at_173) ?_
      show Steps p.tables e below (T94.setTop (mkF m 174 #[.val (.int p1), .val (.ref b1), .val (.ref w_ISSUER), .val (.int (0 : Int32)), .val (.int (0 : Int32))] [(.int (1 : Int32))])) _
      refine XS.goto X94.here hx rfl (pc0 := 174) (pc' := 178) rfl (hb hby at_174) (by decide) (by decide) ?_
      show Steps p.tables e below (T94.setTop (mkF m 178 #[.val (.int p1), .val (.ref b1), .val (.ref w_ISSUER), .val (.int (0 : Int32)), .val (.int (0 : Int32))] [(.int (1 : Int32))])) _
      exact retN X94 hx (t := .boolean) Bd.returns (by simp) (hb hby at_178) hr
    · show Q0_0 Z p1 w_POD w_BASE w_RESOURCE w_AGENT w_CLIENT w_ISSUER w_OWNER w_CREATOR w_CREDENTIAL w_REQUESTS w_AGENTS w_STATS w_WAC_ALLOW w_METHOD w_CREATES w_REMOVES w_PORT w_VALUE w_REPEATED_VALUE w_FLAG h0 n0 _ T94.heap _
      rw [e94]
      exact ⟨rfl, N94⟩
  ·
    obtain ⟨cl95, Ar95, qq95, Sz95, Nn95, Hs95, Gs95⟩ := V_b1_52
    have hin95 : ¬ ((6 : Int32) < 0 ∨ cl95.slots.size ≤ ((6 : Int32)).toNatClampNeg) := inb_of Sz95 ⟨by decide, by decide⟩
    have hat95 : cl95.slots[((6 : Int32)).toNatClampNeg]? = some (.ref w_OWNER) := Has.at Hs95 hin95 rfl
    obtain ⟨T96, X96, e96, st96⟩ := getS2 X52 hx hZ hown (host := "") (Or.inl (hw _ (List.mem_of_getElem? (i := 16) rfl))) Via.refl e52 (own_staK S_OWNER K52 all0) (g := (mkF m 130 #[.val (.int p1), .val (.ref b1), .val (.ref w_OWNER), .unset, .unset] [(.ref w_OWNER)])) rfl (hb hby at_130)
    obtain ⟨cq97, kq97, q97a, q97b, q97c⟩ := isOf hZ e96 (E_OWNER.keep K52)
    obtain ⟨_, _, ⟨T97, L97, k97, n97⟩, -, X97, ⟨Lc97, hQ97, l97, y97, z97⟩, st97⟩ := X96.virtualBack hx (y := (⟨"com/example/garm/garm/command/Option", "isRepeatable", "()Z"⟩ : MethodName)) (z := (⟨"com/example/garm/garm/command/Option", "isRepeatable", "()Z"⟩ : MethodName)) hown (mvT hZ (hw _ (List.mem_of_getElem? (i := 39) rfl))) (mvT hZ (hw _ (List.mem_of_getElem? (i := 40) rfl))) (notFace_of_selects (args := #[]) (mvT hZ (hw _ (List.mem_of_getElem? (i := 42) rfl)))) (mvT hZ (hw _ (List.mem_of_getElem? (i := 42) rfl))) (mvT hZ (hw _ (List.mem_of_getElem? (i := 41) rfl))) (by decide) (backOf (W := 0) (rm1_6 l Z a0 hw [] w_OWNER w_REPEATED_VALUE h52 n0 (Nat.le_trans Z0 K52.1) (F_form_OWNER.keep K52 nin0) (own_staK S_REPEATED_VALUE K52 all0)) hZ (hw _ (List.mem_of_getElem? (i := 43) rfl)) (hw _ (List.mem_of_getElem? (i := 3) rfl)) (by decide) (by decide)) q97a q97c (g := (mkF m 150 #[.val (.int p1), .val (.ref b1), .val (.ref w_OWNER), .val (.int (1 : Int32)), .unset] [(.ref w_OWNER)])) rfl (by rw [hml]; rfl) (Steps.refl _) (argsL := []) (rest := []) (lenOf pd_0 rfl) rfl (by show 2 * 0 + _ ≤ _; exact Nat.le_of_eq rfl) (hb hby at_150) (fun _ _ => ⟨rfl, e96, (by decide : 1 + 0 ≤ _), (by decide : 17 + 0 ≤ _)⟩)
    dsimp only [Pt.U, Pt.locs, Pt.cells, Pt.slots] at X97 l97 y97 z97 st97 hQ97
    subst l97 y97 z97
    obtain ⟨rfl, N97q, e97⟩ := hQ97
    have N97 := Fr.app N52 N97q
    obtain ⟨cq98, kq98, q98a, q98b, q98c⟩ := isOf hZ e97 (E_OWNER.keep K52)
    obtain ⟨_, _, ⟨T98, L98, k98, n98⟩, -, X98, ⟨Lc98, hQ98, l98, y98, z98⟩, st98⟩ := X97.virtualBack hx (y := (⟨"com/example/garm/garm/command/Option", "takesValue", "()Z"⟩ : MethodName)) (z := (⟨"com/example/garm/garm/command/Option", "takesValue", "()Z"⟩ : MethodName)) hown (mvT hZ (hw _ (List.mem_of_getElem? (i := 50) rfl))) (mvT hZ (hw _ (List.mem_of_getElem? (i := 51) rfl))) (notFace_of_selects (args := #[]) (mvT hZ (hw _ (List.mem_of_getElem? (i := 53) rfl)))) (mvT hZ (hw _ (List.mem_of_getElem? (i := 53) rfl))) (mvT hZ (hw _ (List.mem_of_getElem? (i := 52) rfl))) (by decide) (backOf (W := 0) (rm2_0 l Z a0 hw [] w_OWNER w_REPEATED_VALUE w_FLAG h52 n0 (Nat.le_trans Z0 K52.1) (F_form_OWNER.keep K52 nin0) (own_staK S_FLAG K52 all0) ne_FLAG_REPEATED_VALUE) hZ (hw _ (List.mem_of_getElem? (i := 54) rfl)) (hw _ (List.mem_of_getElem? (i := 3) rfl)) (by decide) (by decide)) q98a q98c (g := (mkF m 167 #[.val (.int p1), .val (.ref b1), .val (.ref w_OWNER), .val (.int (1 : Int32)), .val (.int (1 : Int32))] [(.ref w_OWNER)])) rfl (by rw [hml]; rfl) (Steps.refl _) (argsL := []) (rest := []) (lenOf pd_0 rfl) rfl (by show 2 * 0 + _ ≤ _; exact Nat.le_of_eq rfl) (hb hby at_167) (fun _ _ => ⟨rfl, e97, (by decide : 1 + 0 ≤ _), (by decide : 17 + 0 ≤ _)⟩)
    dsimp only [Pt.U, Pt.locs, Pt.cells, Pt.slots] at X98 l98 y98 z98 st98 hQ98
    subst l98 y98 z98
    obtain ⟨rfl, N98q, e98⟩ := hQ98
    have N98 := Fr.app N97 N98q
    obtain ⟨fs, hr, hrun, hended, hW, hsame⟩ := X98.leave (v := some (.int (1 : Int32))) (fun h => by rw [Bd.returns] at h; cases h)
    refine ⟨_, _, k53 _ ?_, hrun, hended, _, _, rfl, ?_, ⟨_, rfl⟩, hW, hsame.mono (by decide) (by decide)⟩
    ·
      show Steps p.tables e below (T52.setTop (mkF m 127 #[.val (.int p1), .val (.ref b1), .unset, .unset, .unset] [(.int ((p1 &&& (2147483647 : Int32)) % (17 : Int32))), (.ref b1)])) _
      rewrite [hk60_6]
      show Steps p.tables e below (T52.setTop (mkF m 127 #[.val (.int p1), .val (.ref b1), .unset, .unset, .unset] [(.int (6 : Int32)), (.ref b1)])) _
      refine X52.aaload hx (j := (6 : Int32)) (v := (.ref w_OWNER)) (by rw [e52]; exact Ar95.1) (State.isArrayOf_alike hZ.alike Ar95.2.1) rfl Ar95.2.2 hin95 hat95 (g := (mkF m 127 #[.val (.int p1), .val (.ref b1), .unset, .unset, .unset] [(.int (6 : Int32)), (.ref b1)])) rfl rfl (hb hby at_127) _ ?_
      show Steps p.tables e below (T52.setTop (mkF m 128 #[.val (.int p1), .val (.ref b1), .unset, .unset, .unset] [(.ref w_OWNER)])) _
      refine XS.astoreN X52.here hx rfl (hb hby at_128) rfl rfl (l' := #[.val (.int p1), .val (.ref b1), .val (.ref w_OWNER), .unset, .unset]) rfl ?_
      show Steps p.tables e below (T52.setTop (mkF m 129 #[.val (.int p1), .val (.ref b1), .val (.ref w_OWNER), .unset, .unset] [])) _
      refine XS.aloadN X52.here hx rfl (hb hby at_129) rfl rfl ?_
      show Steps p.tables e below (T52.setTop (mkF m 130 #[.val (.int p1), .val (.ref b1), .val (.ref w_OWNER), .unset, .unset] [(.ref w_OWNER)])) _
      refine st96 _ ?_
      show Steps p.tables e below (T96.setTop (mkF m 133 #[.val (.int p1), .val (.ref b1), .val (.ref w_OWNER), .unset, .unset] [(.ref w_OWNER), (.ref w_OWNER)])) _
      refine Jvm.RoadKit.acmp (g := (mkF m 133 #[.val (.int p1), .val (.ref b1), .val (.ref w_OWNER), .unset, .unset] [(.ref w_OWNER), (.ref w_OWNER)])) X96 hx rfl rfl rfl (pc0 := 133) (pc' := 143) (same := true) rfl (hb hby at_133) rfl (decide_eq_true rfl) (by decide) (by decide) ?_
      show Steps p.tables e below (T96.setTop (mkF m 143 #[.val (.int p1), .val (.ref b1), .val (.ref w_OWNER), .unset, .unset] [])) _
      refine XS.iconst X96.here hx rfl (hb hby at_143) ?_
      show Steps p.tables e below (T96.setTop (mkF m 144 #[.val (.int p1), .val (.ref b1), .val (.ref w_OWNER), .unset, .unset] [(.int (1 : Int32))])) _
      refine XS.goto X96.here hx rfl (pc0 := 144) (pc' := 148) rfl (hb hby at_144) (by decide) (by decide) ?_
      show Steps p.tables e below (T96.setTop (mkF m 148 #[.val (.int p1), .val (.ref b1), .val (.ref w_OWNER), .unset, .unset] [(.int (1 : Int32))])) _
      refine XS.istoreN X96.here hx rfl (hb hby at_148) rfl (l' := #[.val (.int p1), .val (.ref b1), .val (.ref w_OWNER), .val (.int (1 : Int32)), .unset]) rfl ?_
      show Steps p.tables e below (T96.setTop (mkF m 149 #[.val (.int p1), .val (.ref b1), .val (.ref w_OWNER), .val (.int (1 : Int32)), .unset] [])) _
      refine XS.aloadN X96.here hx rfl (hb hby at_149) rfl rfl ?_
      show Steps p.tables e below (T96.setTop (mkF m 150 #[.val (.int p1), .val (.ref b1), .val (.ref w_OWNER), .val (.int (1 : Int32)), .unset] [(.ref w_OWNER)])) _
      refine st97.trans ?_
      show Steps p.tables e below (T97.setTop (mkF m 153 #[.val (.int p1), .val (.ref b1), .val (.ref w_OWNER), .val (.int (1 : Int32)), .unset] [(.int (1 : Int32))])) _
      refine XS.istore X97.here hx rfl (hb hby at_153) rfl (l' := #[.val (.int p1), .val (.ref b1), .val (.ref w_OWNER), .val (.int (1 : Int32)), .val (.int (1 : Int32))]) rfl ?_
      show Steps p.tables e below (T97.setTop (mkF m 155 #[.val (.int p1), .val (.ref b1), .val (.ref w_OWNER), .val (.int (1 : Int32)), .val (.int (1 : Int32))] [])) _
      refine XS.iload X97.here hx rfl (hb hby at_155) rfl ?_
      show Steps p.tables e below (T97.setTop (mkF m 157 #[.val (.int p1), .val (.ref b1), .val (.ref w_OWNER), .val (.int (1 : Int32)), .val (.int (1 : Int32))] [(.int (1 : Int32))])) _
      refine XS.iloadN X97.here hx rfl (hb hby at_157) rfl ?_
      show Steps p.tables e below (T97.setTop (mkF m 158 #[.val (.int p1), .val (.ref b1), .val (.ref w_OWNER), .val (.int (1 : Int32)), .val (.int (1 : Int32))] [(.int (1 : Int32)), (.int (1 : Int32))])) _
      refine XS.icmpNo X97.here hx rfl (hb hby at_158) rfl (teq (by decide : (1 : Int32) = (1 : Int32))).2 ?_
      show Steps p.tables e below (T97.setTop (mkF m 161 #[.val (.int p1), .val (.ref b1), .val (.ref w_OWNER), .val (.int (1 : Int32)), .val (.int (1 : Int32))] [])) _
      refine XS.iload X97.here hx rfl (hb hby at_161) rfl ?_
      show Steps p.tables e below (T97.setTop (mkF m 163 #[.val (.int p1), .val (.ref b1), .val (.ref w_OWNER), .val (.int (1 : Int32)), .val (.int (1 : Int32))] [(.int (1 : Int32))])) _
      refine XS.ifNo X97.here hx rfl (hb hby at_163) rfl ((if0 _ _).trans (feq (by decide : ¬ ((1 : Int32) = (0 : Int32)))).1) ?_
      show Steps p.tables e below (T97.setTop (mkF m 166 #[.val (.int p1), .val (.ref b1), .val (.ref w_OWNER), .val (.int (1 : Int32)), .val (.int (1 : Int32))] [])) _
      refine XS.aloadN X97.here hx rfl (hb hby at_166) rfl rfl ?_
      show Steps p.tables e below (T97.setTop (mkF m 167 #[.val (.int p1), .val (.ref b1), .val (.ref w_OWNER), .val (.int (1 : Int32)), .val (.int (1 : Int32))] [(.ref w_OWNER)])) _
      refine st98.trans ?_
      show Steps p.tables e below (T98.setTop (mkF m 170 #[.val (.int p1), .val (.ref b1), .val (.ref w_OWNER), .val (.int (1 : Int32)), .val (.int (1 : Int32))] [(.int (1 : Int32))])) _
      refine XS.ifNo X98.here hx rfl (hb hby at_170) rfl ((if0 _ _).trans (feq (by decide : ¬ ((1 : Int32) = (0 : Int32)))).1) ?_
      show Steps p.tables e below (T98.setTop (mkF m 173 #[.val (.int p1), .val (.ref b1), .val (.ref w_OWNER), .val (.int (1 : Int32)), .val (.int (1 : Int32))] [])) _
      refine XS.iconst X98.here hx rfl (hb hby at_173) ?_
      show Steps p.tables e below (T98.setTop (mkF m 174 #[.val (.int p1), .val (.ref b1), .val (.ref w_OWNER), .val (.int (1 : Int32)), .val (.int (1 : Int32))] [(.int (1 : Int32))])) _
      refine XS.goto X98.here hx rfl (pc0 := 174) (pc' := 178) rfl (hb hby at_174) (by decide) (by decide) ?_
      show Steps p.tables e below (T98.setTop (mkF m 178 #[.val (.int p1), .val (.ref b1), .val (.ref w_OWNER), .val (.int (1 : Int32)), .val (.int (1 : Int32))] [(.int (1 : Int32))])) _
      exact retN X98 hx (t := .boolean) Bd.returns (by simp) (hb hby at_178) hr
    · show Q0_0 Z p1 w_POD w_BASE w_RESOURCE w_AGENT w_CLIENT w_ISSUER w_OWNER w_CREATOR w_CREDENTIAL w_REQUESTS w_AGENTS w_STATS w_WAC_ALLOW w_METHOD w_CREATES w_REMOVES w_PORT w_VALUE w_REPEATED_VALUE w_FLAG h0 n0 _ T98.heap _
      rw [e98]
      exact ⟨rfl, N98⟩
  ·
    obtain ⟨cl99, Ar99, qq99, Sz99, Nn99, Hs99, Gs99⟩ := V_b1_52
    have hin99 : ¬ ((7 : Int32) < 0 ∨ cl99.slots.size ≤ ((7 : Int32)).toNatClampNeg) := inb_of Sz99 ⟨by decide, by decide⟩
    have hat99 : cl99.slots[((7 : Int32)).toNatClampNeg]? = some (.ref w_CREATOR) := Has.at Hs99 hin99 rfl
    obtain ⟨T100, X100, e100, st100⟩ := getS2 X52 hx hZ hown (host := "") (Or.inl (hw _ (List.mem_of_getElem? (i := 16) rfl))) Via.refl e52 (own_staK S_OWNER K52 all0) (g := (mkF m 130 #[.val (.int p1), .val (.ref b1), .val (.ref w_CREATOR), .unset, .unset] [(.ref w_CREATOR)])) rfl (hb hby at_130)
    obtain ⟨T101, X101, e101, st101⟩ := getS2 X100 hx hZ hown (host := "") (Or.inl (hw _ (List.mem_of_getElem? (i := 20) rfl))) Via.refl e100 (own_staK S_CREDENTIAL K52 all0) (g := (mkF m 137 #[.val (.int p1), .val (.ref b1), .val (.ref w_CREATOR), .unset, .unset] [(.ref w_CREATOR)])) rfl (hb hby at_137)
    obtain ⟨cq102, kq102, q102a, q102b, q102c⟩ := isOf hZ e101 (E_CREATOR.keep K52)
    obtain ⟨_, _, ⟨T102, L102, k102, n102⟩, -, X102, ⟨Lc102, hQ102, l102, y102, z102⟩, st102⟩ := X101.virtualBack hx (y := (⟨"com/example/garm/garm/command/Option", "isRepeatable", "()Z"⟩ : MethodName)) (z := (⟨"com/example/garm/garm/command/Option", "isRepeatable", "()Z"⟩ : MethodName)) hown (mvT hZ (hw _ (List.mem_of_getElem? (i := 39) rfl))) (mvT hZ (hw _ (List.mem_of_getElem? (i := 40) rfl))) (notFace_of_selects (args := #[]) (mvT hZ (hw _ (List.mem_of_getElem? (i := 42) rfl)))) (mvT hZ (hw _ (List.mem_of_getElem? (i := 42) rfl))) (mvT hZ (hw _ (List.mem_of_getElem? (i := 41) rfl))) (by decide) (backOf (W := 0) (rm1_7 l Z a0 hw [] w_CREATOR w_VALUE w_REPEATED_VALUE h52 n0 (Nat.le_trans Z0 K52.1) (F_form_CREATOR.keep K52 nin0) (own_staK S_REPEATED_VALUE K52 all0) ne_REPEATED_VALUE_VALUE) hZ (hw _ (List.mem_of_getElem? (i := 43) rfl)) (hw _ (List.mem_of_getElem? (i := 3) rfl)) (by decide) (by decide)) q102a q102c (g := (mkF m 150 #[.val (.int p1), .val (.ref b1), .val (.ref w_CREATOR), .val (.int (0 : Int32)), .unset] [(.ref w_CREATOR)])) rfl (by rw [hml]; rfl) (Steps.refl _) (argsL := []) (rest := []) (lenOf pd_0 rfl) rfl (by show 2 * 0 + _ ≤ _; exact Nat.le_of_eq rfl) (hb hby at_150) (fun _ _ => ⟨rfl, e101, (by decide : 1 + 0 ≤ _), (by decide : 17 + 0 ≤ _)⟩)
    dsimp only [Pt.U, Pt.locs, Pt.cells, Pt.slots] at X102 l102 y102 z102 st102 hQ102
    subst l102 y102 z102
    obtain ⟨rfl, N102q, e102⟩ := hQ102
    have N102 := Fr.app N52 N102q
    obtain ⟨fs, hr, hrun, hended, hW, hsame⟩ := X102.leave (v := some (.int (1 : Int32))) (fun h => by rw [Bd.returns] at h; cases h)
    refine ⟨_, _, k53 _ ?_, hrun, hended, _, _, rfl, ?_, ⟨_, rfl⟩, hW, hsame.mono (by decide) (by decide)⟩
    ·
      show Steps p.tables e below (T52.setTop (mkF m 127 #[.val (.int p1), .val (.ref b1), .unset, .unset, .unset] [(.int ((p1 &&& (2147483647 : Int32)) % (17 : Int32))), (.ref b1)])) _
      rewrite [hk61_7]
      show Steps p.tables e below (T52.setTop (mkF m 127 #[.val (.int p1), .val (.ref b1), .unset, .unset, .unset] [(.int (7 : Int32)), (.ref b1)])) _
      refine X52.aaload hx (j := (7 : Int32)) (v := (.ref w_CREATOR)) (by rw [e52]; exact Ar99.1) (State.isArrayOf_alike hZ.alike Ar99.2.1) rfl Ar99.2.2 hin99 hat99 (g := (mkF m 127 #[.val (.int p1), .val (.ref b1), .unset, .unset, .unset] [(.int (7 : Int32)), (.ref b1)])) rfl rfl (hb hby at_127) _ ?_
      show Steps p.tables e below (T52.setTop (mkF m 128 #[.val (.int p1), .val (.ref b1), .unset, .unset, .unset] [(.ref w_CREATOR)])) _
      refine XS.astoreN X52.here hx rfl (hb hby at_128) rfl rfl (l' := #[.val (.int p1), .val (.ref b1), .val (.ref w_CREATOR), .unset, .unset]) rfl ?_
      show Steps p.tables e below (T52.setTop (mkF m 129 #[.val (.int p1), .val (.ref b1), .val (.ref w_CREATOR), .unset, .unset] [])) _
      refine XS.aloadN X52.here hx rfl (hb hby at_129) rfl rfl ?_
      show Steps p.tables e below (T52.setTop (mkF m 130 #[.val (.int p1), .val (.ref b1), .val (.ref w_CREATOR), .unset, .unset] [(.ref w_CREATOR)])) _
      refine st100 _ ?_
      show Steps p.tables e below (T100.setTop (mkF m 133 #[.val (.int p1), .val (.ref b1), .val (.ref w_CREATOR), .unset, .unset] [(.ref w_OWNER), (.ref w_CREATOR)])) _
      refine Jvm.RoadKit.acmp (g := (mkF m 133 #[.val (.int p1), .val (.ref b1), .val (.ref w_CREATOR), .unset, .unset] [(.ref w_OWNER), (.ref w_CREATOR)])) X100 hx rfl rfl rfl (pc0 := 133) (pc' := 136) (same := false) rfl (hb hby at_133) rfl (decide_eq_false fun q => ne_CREATOR_OWNER (Value.ref.inj q)) (by decide) (by decide) ?_
      show Steps p.tables e below (T100.setTop (mkF m 136 #[.val (.int p1), .val (.ref b1), .val (.ref w_CREATOR), .unset, .unset] [])) _
      refine XS.aloadN X100.here hx rfl (hb hby at_136) rfl rfl ?_
      show Steps p.tables e below (T100.setTop (mkF m 137 #[.val (.int p1), .val (.ref b1), .val (.ref w_CREATOR), .unset, .unset] [(.ref w_CREATOR)])) _
      refine st101 _ ?_
      show Steps p.tables e below (T101.setTop (mkF m 140 #[.val (.int p1), .val (.ref b1), .val (.ref w_CREATOR), .unset, .unset] [(.ref w_CREDENTIAL), (.ref w_CREATOR)])) _
      refine Jvm.RoadKit.acmp (g := (mkF m 140 #[.val (.int p1), .val (.ref b1), .val (.ref w_CREATOR), .unset, .unset] [(.ref w_CREDENTIAL), (.ref w_CREATOR)])) X101 hx rfl rfl rfl (pc0 := 140) (pc' := 147) (same := false) rfl (hb hby at_140) rfl (decide_eq_false fun q => ne_CREATOR_CREDENTIAL (Value.ref.inj q)) (by decide) (by decide) ?_
      show Steps p.tables e below (T101.setTop (mkF m 147 #[.val (.int p1), .val (.ref b1), .val (.ref w_CREATOR), .unset, .unset] [])) _
      refine XS.iconst X101.here hx rfl (hb hby at_147) ?_
      show Steps p.tables e below (T101.setTop (mkF m 148 #[.val (.int p1), .val (.ref b1), .val (.ref w_CREATOR), .unset, .unset] [(.int (0 : Int32))])) _
      refine XS.istoreN X101.here hx rfl (hb hby at_148) rfl (l' := #[.val (.int p1), .val (.ref b1), .val (.ref w_CREATOR), .val (.int (0 : Int32)), .unset]) rfl ?_
      show Steps p.tables e below (T101.setTop (mkF m 149 #[.val (.int p1), .val (.ref b1), .val (.ref w_CREATOR), .val (.int (0 : Int32)), .unset] [])) _
      refine XS.aloadN X101.here hx rfl (hb hby at_149) rfl rfl ?_
      show Steps p.tables e below (T101.setTop (mkF m 150 #[.val (.int p1), .val (.ref b1), .val (.ref w_CREATOR), .val (.int (0 : Int32)), .unset] [(.ref w_CREATOR)])) _
      refine st102.trans ?_
      show Steps p.tables e below (T102.setTop (mkF m 153 #[.val (.int p1), .val (.ref b1), .val (.ref w_CREATOR), .val (.int (0 : Int32)), .unset] [(.int (0 : Int32))])) _
      refine XS.istore X102.here hx rfl (hb hby at_153) rfl (l' := #[.val (.int p1), .val (.ref b1), .val (.ref w_CREATOR), .val (.int (0 : Int32)), .val (.int (0 : Int32))]) rfl ?_
      show Steps p.tables e below (T102.setTop (mkF m 155 #[.val (.int p1), .val (.ref b1), .val (.ref w_CREATOR), .val (.int (0 : Int32)), .val (.int (0 : Int32))] [])) _
      refine XS.iload X102.here hx rfl (hb hby at_155) rfl ?_
      show Steps p.tables e below (T102.setTop (mkF m 157 #[.val (.int p1), .val (.ref b1), .val (.ref w_CREATOR), .val (.int (0 : Int32)), .val (.int (0 : Int32))] [(.int (0 : Int32))])) _
      refine XS.iloadN X102.here hx rfl (hb hby at_157) rfl ?_
      show Steps p.tables e below (T102.setTop (mkF m 158 #[.val (.int p1), .val (.ref b1), .val (.ref w_CREATOR), .val (.int (0 : Int32)), .val (.int (0 : Int32))] [(.int (0 : Int32)), (.int (0 : Int32))])) _
      refine XS.icmpNo X102.here hx rfl (hb hby at_158) rfl (teq (by decide : (0 : Int32) = (0 : Int32))).2 ?_
      show Steps p.tables e below (T102.setTop (mkF m 161 #[.val (.int p1), .val (.ref b1), .val (.ref w_CREATOR), .val (.int (0 : Int32)), .val (.int (0 : Int32))] [])) _
      refine XS.iload X102.here hx rfl (hb hby at_161) rfl ?_
      show Steps p.tables e below (T102.setTop (mkF m 163 #[.val (.int p1), .val (.ref b1), .val (.ref w_CREATOR), .val (.int (0 : Int32)), .val (.int (0 : Int32))] [(.int (0 : Int32))])) _
      refine XS.ifYes X102.here hx rfl (pc0 := 163) (pc' := 173) rfl (hb hby at_163) rfl ((if0 _ _).trans (teq (by decide : (0 : Int32) = (0 : Int32))).1) (by decide) (by decide) ?_
      show Steps p.tables e below (T102.setTop (mkF m 173 #[.val (.int p1), .val (.ref b1), .val (.ref w_CREATOR), .val (.int (0 : Int32)), .val (.int (0 : Int32))] [])) _
      refine XS.iconst X102.here hx rfl (hb hby at_173) ?_
      show Steps p.tables e below (T102.setTop (mkF m 174 #[.val (.int p1), .val (.ref b1), .val (.ref w_CREATOR), .val (.int (0 : Int32)), .val (.int (0 : Int32))] [(.int (1 : Int32))])) _
      refine XS.goto X102.here hx rfl (pc0 := 174) (pc' := 178) rfl (hb hby at_174) (by decide) (by decide) ?_
      show Steps p.tables e below (T102.setTop (mkF m 178 #[.val (.int p1), .val (.ref b1), .val (.ref w_CREATOR), .val (.int (0 : Int32)), .val (.int (0 : Int32))] [(.int (1 : Int32))])) _
      exact retN X102 hx (t := .boolean) Bd.returns (by simp) (hb hby at_178) hr
    · show Q0_0 Z p1 w_POD w_BASE w_RESOURCE w_AGENT w_CLIENT w_ISSUER w_OWNER w_CREATOR w_CREDENTIAL w_REQUESTS w_AGENTS w_STATS w_WAC_ALLOW w_METHOD w_CREATES w_REMOVES w_PORT w_VALUE w_REPEATED_VALUE w_FLAG h0 n0 _ T102.heap _
      rw [e102]
      exact ⟨rfl, N102⟩
  ·
    obtain ⟨cl103, Ar103, qq103, Sz103, Nn103, Hs103, Gs103⟩ := V_b1_52
    have hin103 : ¬ ((8 : Int32) < 0 ∨ cl103.slots.size ≤ ((8 : Int32)).toNatClampNeg) := inb_of Sz103 ⟨by decide, by decide⟩
    have hat103 : cl103.slots[((8 : Int32)).toNatClampNeg]? = some (.ref w_CREDENTIAL) := Has.at Hs103 hin103 rfl
    obtain ⟨T104, X104, e104, st104⟩ := getS2 X52 hx hZ hown (host := "") (Or.inl (hw _ (List.mem_of_getElem? (i := 16) rfl))) Via.refl e52 (own_staK S_OWNER K52 all0) (g := (mkF m 130 #[.val (.int p1), .val (.ref b1), .val (.ref w_CREDENTIAL), .unset, .unset] [(.ref w_CREDENTIAL)])) rfl (hb hby at_130)
    obtain ⟨T105, X105, e105, st105⟩ := getS2 X104 hx hZ hown (host := "") (Or.inl (hw _ (List.mem_of_getElem? (i := 20) rfl))) Via.refl e104 (own_staK S_CREDENTIAL K52 all0) (g := (mkF m 137 #[.val (.int p1), .val (.ref b1), .val (.ref w_CREDENTIAL), .unset, .unset] [(.ref w_CREDENTIAL)])) rfl (hb hby at_137)
    obtain ⟨cq106, kq106, q106a, q106b, q106c⟩ := isOf hZ e105 (E_CREDENTIAL.keep K52)
    obtain ⟨_, _, ⟨T106, L106, k106, n106⟩, -, X106, ⟨Lc106, hQ106, l106, y106, z106⟩, st106⟩ := X105.virtualBack hx (y := (⟨"com/example/garm/garm/command/Option", "isRepeatable", "()Z"⟩ : MethodName)) (z := (⟨"com/example/garm/garm/command/Option", "isRepeatable", "()Z"⟩ : MethodName)) hown (mvT hZ (hw _ (List.mem_of_getElem? (i := 39) rfl))) (mvT hZ (hw _ (List.mem_of_getElem? (i := 40) rfl))) (notFace_of_selects (args := #[]) (mvT hZ (hw _ (List.mem_of_getElem? (i := 42) rfl)))) (mvT hZ (hw _ (List.mem_of_getElem? (i := 42) rfl))) (mvT hZ (hw _ (List.mem_of_getElem? (i := 41) rfl))) (by decide) (backOf (W := 0) (rm1_8 l Z a0 hw [] w_CREDENTIAL w_REPEATED_VALUE h52 n0 (Nat.le_trans Z0 K52.1) (F_form_CREDENTIAL.keep K52 nin0) (own_staK S_REPEATED_VALUE K52 all0)) hZ (hw _ (List.mem_of_getElem? (i := 43) rfl)) (hw _ (List.mem_of_getElem? (i := 3) rfl)) (by decide) (by decide)) q106a q106c (g := (mkF m 150 #[.val (.int p1), .val (.ref b1), .val (.ref w_CREDENTIAL), .val (.int (1 : Int32)), .unset] [(.ref w_CREDENTIAL)])) rfl (by rw [hml]; rfl) (Steps.refl _) (argsL := []) (rest := []) (lenOf pd_0 rfl) rfl (by show 2 * 0 + _ ≤ _; exact Nat.le_of_eq rfl) (hb hby at_150) (fun _ _ => ⟨rfl, e105, (by decide : 1 + 0 ≤ _), (by decide : 17 + 0 ≤ _)⟩)
    dsimp only [Pt.U, Pt.locs, Pt.cells, Pt.slots] at X106 l106 y106 z106 st106 hQ106
    subst l106 y106 z106
    obtain ⟨rfl, N106q, e106⟩ := hQ106
    have N106 := Fr.app N52 N106q
    obtain ⟨cq107, kq107, q107a, q107b, q107c⟩ := isOf hZ e106 (E_CREDENTIAL.keep K52)
    obtain ⟨_, _, ⟨T107, L107, k107, n107⟩, -, X107, ⟨Lc107, hQ107, l107, y107, z107⟩, st107⟩ := X106.virtualBack hx (y := (⟨"com/example/garm/garm/command/Option", "takesValue", "()Z"⟩ : MethodName)) (z := (⟨"com/example/garm/garm/command/Option", "takesValue", "()Z"⟩ : MethodName)) hown (mvT hZ (hw _ (List.mem_of_getElem? (i := 50) rfl))) (mvT hZ (hw _ (List.mem_of_getElem? (i := 51) rfl))) (notFace_of_selects (args := #[]) (mvT hZ (hw _ (List.mem_of_getElem? (i := 53) rfl)))) (mvT hZ (hw _ (List.mem_of_getElem? (i := 53) rfl))) (mvT hZ (hw _ (List.mem_of_getElem? (i := 52) rfl))) (by decide) (backOf (W := 0) (rm2_1 l Z a0 hw [] w_CREDENTIAL w_REPEATED_VALUE w_FLAG h52 n0 (Nat.le_trans Z0 K52.1) (F_form_CREDENTIAL.keep K52 nin0) (own_staK S_FLAG K52 all0) ne_FLAG_REPEATED_VALUE) hZ (hw _ (List.mem_of_getElem? (i := 54) rfl)) (hw _ (List.mem_of_getElem? (i := 3) rfl)) (by decide) (by decide)) q107a q107c (g := (mkF m 167 #[.val (.int p1), .val (.ref b1), .val (.ref w_CREDENTIAL), .val (.int (1 : Int32)), .val (.int (1 : Int32))] [(.ref w_CREDENTIAL)])) rfl (by rw [hml]; rfl) (Steps.refl _) (argsL := []) (rest := []) (lenOf pd_0 rfl) rfl (by show 2 * 0 + _ ≤ _; exact Nat.le_of_eq rfl) (hb hby at_167) (fun _ _ => ⟨rfl, e106, (by decide : 1 + 0 ≤ _), (by decide : 17 + 0 ≤ _)⟩)
    dsimp only [Pt.U, Pt.locs, Pt.cells, Pt.slots] at X107 l107 y107 z107 st107 hQ107
    subst l107 y107 z107
    obtain ⟨rfl, N107q, e107⟩ := hQ107
    have N107 := Fr.app N106 N107q
    obtain ⟨fs, hr, hrun, hended, hW, hsame⟩ := X107.leave (v := some (.int (1 : Int32))) (fun h => by rw [Bd.returns] at h; cases h)
    refine ⟨_, _, k53 _ ?_, hrun, hended, _, _, rfl, ?_, ⟨_, rfl⟩, hW, hsame.mono (by decide) (by decide)⟩
    ·
      show Steps p.tables e below (T52.setTop (mkF m 127 #[.val (.int p1), .val (.ref b1), .unset, .unset, .unset] [(.int ((p1 &&& (2147483647 : Int32)) % (17 : Int32))), (.ref b1)])) _
      rewrite [hk62_8]
      show Steps p.tables e below (T52.setTop (mkF m 127 #[.val (.int p1), .val (.ref b1), .unset, .unset, .unset] [(.int (8 : Int32)), (.ref b1)])) _
      refine X52.aaload hx (j := (8 : Int32)) (v := (.ref w_CREDENTIAL)) (by rw [e52]; exact Ar103.1) (State.isArrayOf_alike hZ.alike Ar103.2.1) rfl Ar103.2.2 hin103 hat103 (g := (mkF m 127 #[.val (.int p1), .val (.ref b1), .unset, .unset, .unset] [(.int (8 : Int32)), (.ref b1)])) rfl rfl (hb hby at_127) _ ?_
      show Steps p.tables e below (T52.setTop (mkF m 128 #[.val (.int p1), .val (.ref b1), .unset, .unset, .unset] [(.ref w_CREDENTIAL)])) _
      refine XS.astoreN X52.here hx rfl (hb hby at_128) rfl rfl (l' := #[.val (.int p1), .val (.ref b1), .val (.ref w_CREDENTIAL), .unset, .unset]) rfl ?_
      show Steps p.tables e below (T52.setTop (mkF m 129 #[.val (.int p1), .val (.ref b1), .val (.ref w_CREDENTIAL), .unset, .unset] [])) _
      refine XS.aloadN X52.here hx rfl (hb hby at_129) rfl rfl ?_
      show Steps p.tables e below (T52.setTop (mkF m 130 #[.val (.int p1), .val (.ref b1), .val (.ref w_CREDENTIAL), .unset, .unset] [(.ref w_CREDENTIAL)])) _
      refine st104 _ ?_
      show Steps p.tables e below (T104.setTop (mkF m 133 #[.val (.int p1), .val (.ref b1), .val (.ref w_CREDENTIAL), .unset, .unset] [(.ref w_OWNER), (.ref w_CREDENTIAL)])) _
      refine Jvm.RoadKit.acmp (g := (mkF m 133 #[.val (.int p1), .val (.ref b1), .val (.ref w_CREDENTIAL), .unset, .unset] [(.ref w_OWNER), (.ref w_CREDENTIAL)])) X104 hx rfl rfl rfl (pc0 := 133) (pc' := 136) (same := false) rfl (hb hby at_133) rfl (decide_eq_false fun q => ne_CREDENTIAL_OWNER (Value.ref.inj q)) (by decide) (by decide) ?_
      show Steps p.tables e below (T104.setTop (mkF m 136 #[.val (.int p1), .val (.ref b1), .val (.ref w_CREDENTIAL), .unset, .unset] [])) _
      refine XS.aloadN X104.here hx rfl (hb hby at_136) rfl rfl ?_
      show Steps p.tables e below (T104.setTop (mkF m 137 #[.val (.int p1), .val (.ref b1), .val (.ref w_CREDENTIAL), .unset, .unset] [(.ref w_CREDENTIAL)])) _
      refine st105 _ ?_
      show Steps p.tables e below (T105.setTop (mkF m 140 #[.val (.int p1), .val (.ref b1), .val (.ref w_CREDENTIAL), .unset, .unset] [(.ref w_CREDENTIAL), (.ref w_CREDENTIAL)])) _
      refine Jvm.RoadKit.acmp (g := (mkF m 140 #[.val (.int p1), .val (.ref b1), .val (.ref w_CREDENTIAL), .unset, .unset] [(.ref w_CREDENTIAL), (.ref w_CREDENTIAL)])) X105 hx rfl rfl rfl (pc0 := 140) (pc' := 143) (same := true) rfl (hb hby at_140) rfl (decide_eq_true rfl) (by decide) (by decide) ?_
      show Steps p.tables e below (T105.setTop (mkF m 143 #[.val (.int p1), .val (.ref b1), .val (.ref w_CREDENTIAL), .unset, .unset] [])) _
      refine XS.iconst X105.here hx rfl (hb hby at_143) ?_
      show Steps p.tables e below (T105.setTop (mkF m 144 #[.val (.int p1), .val (.ref b1), .val (.ref w_CREDENTIAL), .unset, .unset] [(.int (1 : Int32))])) _
      refine XS.goto X105.here hx rfl (pc0 := 144) (pc' := 148) rfl (hb hby at_144) (by decide) (by decide) ?_
      show Steps p.tables e below (T105.setTop (mkF m 148 #[.val (.int p1), .val (.ref b1), .val (.ref w_CREDENTIAL), .unset, .unset] [(.int (1 : Int32))])) _
      refine XS.istoreN X105.here hx rfl (hb hby at_148) rfl (l' := #[.val (.int p1), .val (.ref b1), .val (.ref w_CREDENTIAL), .val (.int (1 : Int32)), .unset]) rfl ?_
      show Steps p.tables e below (T105.setTop (mkF m 149 #[.val (.int p1), .val (.ref b1), .val (.ref w_CREDENTIAL), .val (.int (1 : Int32)), .unset] [])) _
      refine XS.aloadN X105.here hx rfl (hb hby at_149) rfl rfl ?_
      show Steps p.tables e below (T105.setTop (mkF m 150 #[.val (.int p1), .val (.ref b1), .val (.ref w_CREDENTIAL), .val (.int (1 : Int32)), .unset] [(.ref w_CREDENTIAL)])) _
      refine st106.trans ?_
      show Steps p.tables e below (T106.setTop (mkF m 153 #[.val (.int p1), .val (.ref b1), .val (.ref w_CREDENTIAL), .val (.int (1 : Int32)), .unset] [(.int (1 : Int32))])) _
      refine XS.istore X106.here hx rfl (hb hby at_153) rfl (l' := #[.val (.int p1), .val (.ref b1), .val (.ref w_CREDENTIAL), .val (.int (1 : Int32)), .val (.int (1 : Int32))]) rfl ?_
      show Steps p.tables e below (T106.setTop (mkF m 155 #[.val (.int p1), .val (.ref b1), .val (.ref w_CREDENTIAL), .val (.int (1 : Int32)), .val (.int (1 : Int32))] [])) _
      refine XS.iload X106.here hx rfl (hb hby at_155) rfl ?_
      show Steps p.tables e below (T106.setTop (mkF m 157 #[.val (.int p1), .val (.ref b1), .val (.ref w_CREDENTIAL), .val (.int (1 : Int32)), .val (.int (1 : Int32))] [(.int (1 : Int32))])) _
      refine XS.iloadN X106.here hx rfl (hb hby at_157) rfl ?_
      show Steps p.tables e below (T106.setTop (mkF m 158 #[.val (.int p1), .val (.ref b1), .val (.ref w_CREDENTIAL), .val (.int (1 : Int32)), .val (.int (1 : Int32))] [(.int (1 : Int32)), (.int (1 : Int32))])) _
      refine XS.icmpNo X106.here hx rfl (hb hby at_158) rfl (teq (by decide : (1 : Int32) = (1 : Int32))).2 ?_
      show Steps p.tables e below (T106.setTop (mkF m 161 #[.val (.int p1), .val (.ref b1), .val (.ref w_CREDENTIAL), .val (.int (1 : Int32)), .val (.int (1 : Int32))] [])) _
      refine XS.iload X106.here hx rfl (hb hby at_161) rfl ?_
      show Steps p.tables e below (T106.setTop (mkF m 163 #[.val (.int p1), .val (.ref b1), .val (.ref w_CREDENTIAL), .val (.int (1 : Int32)), .val (.int (1 : Int32))] [(.int (1 : Int32))])) _
      refine XS.ifNo X106.here hx rfl (hb hby at_163) rfl ((if0 _ _).trans (feq (by decide : ¬ ((1 : Int32) = (0 : Int32)))).1) ?_
      show Steps p.tables e below (T106.setTop (mkF m 166 #[.val (.int p1), .val (.ref b1), .val (.ref w_CREDENTIAL), .val (.int (1 : Int32)), .val (.int (1 : Int32))] [])) _
      refine XS.aloadN X106.here hx rfl (hb hby at_166) rfl rfl ?_
      show Steps p.tables e below (T106.setTop (mkF m 167 #[.val (.int p1), .val (.ref b1), .val (.ref w_CREDENTIAL), .val (.int (1 : Int32)), .val (.int (1 : Int32))] [(.ref w_CREDENTIAL)])) _
      refine st107.trans ?_
      show Steps p.tables e below (T107.setTop (mkF m 170 #[.val (.int p1), .val (.ref b1), .val (.ref w_CREDENTIAL), .val (.int (1 : Int32)), .val (.int (1 : Int32))] [(.int (1 : Int32))])) _
      refine XS.ifNo X107.here hx rfl (hb hby at_170) rfl ((if0 _ _).trans (feq (by decide : ¬ ((1 : Int32) = (0 : Int32)))).1) ?_
      show Steps p.tables e below (T107.setTop (mkF m 173 #[.val (.int p1), .val (.ref b1), .val (.ref w_CREDENTIAL), .val (.int (1 : Int32)), .val (.int (1 : Int32))] [])) _
      refine XS.iconst X107.here hx rfl (hb hby at_173) ?_
      show Steps p.tables e below (T107.setTop (mkF m 174 #[.val (.int p1), .val (.ref b1), .val (.ref w_CREDENTIAL), .val (.int (1 : Int32)), .val (.int (1 : Int32))] [(.int (1 : Int32))])) _
      refine XS.goto X107.here hx rfl (pc0 := 174) (pc' := 178) rfl (hb hby at_174) (by decide) (by decide) ?_
      show Steps p.tables e below (T107.setTop (mkF m 178 #[.val (.int p1), .val (.ref b1), .val (.ref w_CREDENTIAL), .val (.int (1 : Int32)), .val (.int (1 : Int32))] [(.int (1 : Int32))])) _
      exact retN X107 hx (t := .boolean) Bd.returns (by simp) (hb hby at_178) hr
    · show Q0_0 Z p1 w_POD w_BASE w_RESOURCE w_AGENT w_CLIENT w_ISSUER w_OWNER w_CREATOR w_CREDENTIAL w_REQUESTS w_AGENTS w_STATS w_WAC_ALLOW w_METHOD w_CREATES w_REMOVES w_PORT w_VALUE w_REPEATED_VALUE w_FLAG h0 n0 _ T107.heap _
      rw [e107]
      exact ⟨rfl, N107⟩
  ·
    obtain ⟨cl108, Ar108, qq108, Sz108, Nn108, Hs108, Gs108⟩ := V_b1_52
    have hin108 : ¬ ((9 : Int32) < 0 ∨ cl108.slots.size ≤ ((9 : Int32)).toNatClampNeg) := inb_of Sz108 ⟨by decide, by decide⟩
    have hat108 : cl108.slots[((9 : Int32)).toNatClampNeg]? = some (.ref w_REQUESTS) := Has.at Hs108 hin108 rfl
    obtain ⟨T109, X109, e109, st109⟩ := getS2 X52 hx hZ hown (host := "") (Or.inl (hw _ (List.mem_of_getElem? (i := 16) rfl))) Via.refl e52 (own_staK S_OWNER K52 all0) (g := (mkF m 130 #[.val (.int p1), .val (.ref b1), .val (.ref w_REQUESTS), .unset, .unset] [(.ref w_REQUESTS)])) rfl (hb hby at_130)
    obtain ⟨T110, X110, e110, st110⟩ := getS2 X109 hx hZ hown (host := "") (Or.inl (hw _ (List.mem_of_getElem? (i := 20) rfl))) Via.refl e109 (own_staK S_CREDENTIAL K52 all0) (g := (mkF m 137 #[.val (.int p1), .val (.ref b1), .val (.ref w_REQUESTS), .unset, .unset] [(.ref w_REQUESTS)])) rfl (hb hby at_137)
    obtain ⟨cq111, kq111, q111a, q111b, q111c⟩ := isOf hZ e110 (E_REQUESTS.keep K52)
    obtain ⟨_, _, ⟨T111, L111, k111, n111⟩, -, X111, ⟨Lc111, hQ111, l111, y111, z111⟩, st111⟩ := X110.virtualBack hx (y := (⟨"com/example/garm/garm/command/Option", "isRepeatable", "()Z"⟩ : MethodName)) (z := (⟨"com/example/garm/garm/command/Option", "isRepeatable", "()Z"⟩ : MethodName)) hown (mvT hZ (hw _ (List.mem_of_getElem? (i := 39) rfl))) (mvT hZ (hw _ (List.mem_of_getElem? (i := 40) rfl))) (notFace_of_selects (args := #[]) (mvT hZ (hw _ (List.mem_of_getElem? (i := 42) rfl)))) (mvT hZ (hw _ (List.mem_of_getElem? (i := 42) rfl))) (mvT hZ (hw _ (List.mem_of_getElem? (i := 41) rfl))) (by decide) (backOf (W := 0) (rm1_9 l Z a0 hw [] w_REQUESTS w_VALUE w_REPEATED_VALUE h52 n0 (Nat.le_trans Z0 K52.1) (F_form_REQUESTS.keep K52 nin0) (own_staK S_REPEATED_VALUE K52 all0) ne_REPEATED_VALUE_VALUE) hZ (hw _ (List.mem_of_getElem? (i := 43) rfl)) (hw _ (List.mem_of_getElem? (i := 3) rfl)) (by decide) (by decide)) q111a q111c (g := (mkF m 150 #[.val (.int p1), .val (.ref b1), .val (.ref w_REQUESTS), .val (.int (0 : Int32)), .unset] [(.ref w_REQUESTS)])) rfl (by rw [hml]; rfl) (Steps.refl _) (argsL := []) (rest := []) (lenOf pd_0 rfl) rfl (by show 2 * 0 + _ ≤ _; exact Nat.le_of_eq rfl) (hb hby at_150) (fun _ _ => ⟨rfl, e110, (by decide : 1 + 0 ≤ _), (by decide : 17 + 0 ≤ _)⟩)
    dsimp only [Pt.U, Pt.locs, Pt.cells, Pt.slots] at X111 l111 y111 z111 st111 hQ111
    subst l111 y111 z111
    obtain ⟨rfl, N111q, e111⟩ := hQ111
    have N111 := Fr.app N52 N111q
    obtain ⟨fs, hr, hrun, hended, hW, hsame⟩ := X111.leave (v := some (.int (1 : Int32))) (fun h => by rw [Bd.returns] at h; cases h)
    refine ⟨_, _, k53 _ ?_, hrun, hended, _, _, rfl, ?_, ⟨_, rfl⟩, hW, hsame.mono (by decide) (by decide)⟩
    ·
      show Steps p.tables e below (T52.setTop (mkF m 127 #[.val (.int p1), .val (.ref b1), .unset, .unset, .unset] [(.int ((p1 &&& (2147483647 : Int32)) % (17 : Int32))), (.ref b1)])) _
      rewrite [hk63_9]
      show Steps p.tables e below (T52.setTop (mkF m 127 #[.val (.int p1), .val (.ref b1), .unset, .unset, .unset] [(.int (9 : Int32)), (.ref b1)])) _
      refine X52.aaload hx (j := (9 : Int32)) (v := (.ref w_REQUESTS)) (by rw [e52]; exact Ar108.1) (State.isArrayOf_alike hZ.alike Ar108.2.1) rfl Ar108.2.2 hin108 hat108 (g := (mkF m 127 #[.val (.int p1), .val (.ref b1), .unset, .unset, .unset] [(.int (9 : Int32)), (.ref b1)])) rfl rfl (hb hby at_127) _ ?_
      show Steps p.tables e below (T52.setTop (mkF m 128 #[.val (.int p1), .val (.ref b1), .unset, .unset, .unset] [(.ref w_REQUESTS)])) _
      refine XS.astoreN X52.here hx rfl (hb hby at_128) rfl rfl (l' := #[.val (.int p1), .val (.ref b1), .val (.ref w_REQUESTS), .unset, .unset]) rfl ?_
      show Steps p.tables e below (T52.setTop (mkF m 129 #[.val (.int p1), .val (.ref b1), .val (.ref w_REQUESTS), .unset, .unset] [])) _
      refine XS.aloadN X52.here hx rfl (hb hby at_129) rfl rfl ?_
      show Steps p.tables e below (T52.setTop (mkF m 130 #[.val (.int p1), .val (.ref b1), .val (.ref w_REQUESTS), .unset, .unset] [(.ref w_REQUESTS)])) _
      refine st109 _ ?_
      show Steps p.tables e below (T109.setTop (mkF m 133 #[.val (.int p1), .val (.ref b1), .val (.ref w_REQUESTS), .unset, .unset] [(.ref w_OWNER), (.ref w_REQUESTS)])) _
      refine Jvm.RoadKit.acmp (g := (mkF m 133 #[.val (.int p1), .val (.ref b1), .val (.ref w_REQUESTS), .unset, .unset] [(.ref w_OWNER), (.ref w_REQUESTS)])) X109 hx rfl rfl rfl (pc0 := 133) (pc' := 136) (same := false) rfl (hb hby at_133) rfl (decide_eq_false fun q => (Ne.symm ne_OWNER_REQUESTS) (Value.ref.inj q)) (by decide) (by decide) ?_
      show Steps p.tables e below (T109.setTop (mkF m 136 #[.val (.int p1), .val (.ref b1), .val (.ref w_REQUESTS), .unset, .unset] [])) _
      refine XS.aloadN X109.here hx rfl (hb hby at_136) rfl rfl ?_
      show Steps p.tables e below (T109.setTop (mkF m 137 #[.val (.int p1), .val (.ref b1), .val (.ref w_REQUESTS), .unset, .unset] [(.ref w_REQUESTS)])) _
      refine st110 _ ?_
      show Steps p.tables e below (T110.setTop (mkF m 140 #[.val (.int p1), .val (.ref b1), .val (.ref w_REQUESTS), .unset, .unset] [(.ref w_CREDENTIAL), (.ref w_REQUESTS)])) _
      refine Jvm.RoadKit.acmp (g := (mkF m 140 #[.val (.int p1), .val (.ref b1), .val (.ref w_REQUESTS), .unset, .unset] [(.ref w_CREDENTIAL), (.ref w_REQUESTS)])) X110 hx rfl rfl rfl (pc0 := 140) (pc' := 147) (same := false) rfl (hb hby at_140) rfl (decide_eq_false fun q => (Ne.symm ne_CREDENTIAL_REQUESTS) (Value.ref.inj q)) (by decide) (by decide) ?_
      show Steps p.tables e below (T110.setTop (mkF m 147 #[.val (.int p1), .val (.ref b1), .val (.ref w_REQUESTS), .unset, .unset] [])) _
      refine XS.iconst X110.here hx rfl (hb hby at_147) ?_
      show Steps p.tables e below (T110.setTop (mkF m 148 #[.val (.int p1), .val (.ref b1), .val (.ref w_REQUESTS), .unset, .unset] [(.int (0 : Int32))])) _
      refine XS.istoreN X110.here hx rfl (hb hby at_148) rfl (l' := #[.val (.int p1), .val (.ref b1), .val (.ref w_REQUESTS), .val (.int (0 : Int32)), .unset]) rfl ?_
      show Steps p.tables e below (T110.setTop (mkF m 149 #[.val (.int p1), .val (.ref b1), .val (.ref w_REQUESTS), .val (.int (0 : Int32)), .unset] [])) _
      refine XS.aloadN X110.here hx rfl (hb hby at_149) rfl rfl ?_
      show Steps p.tables e below (T110.setTop (mkF m 150 #[.val (.int p1), .val (.ref b1), .val (.ref w_REQUESTS), .val (.int (0 : Int32)), .unset] [(.ref w_REQUESTS)])) _
      refine st111.trans ?_
      show Steps p.tables e below (T111.setTop (mkF m 153 #[.val (.int p1), .val (.ref b1), .val (.ref w_REQUESTS), .val (.int (0 : Int32)), .unset] [(.int (0 : Int32))])) _
      refine XS.istore X111.here hx rfl (hb hby at_153) rfl (l' := #[.val (.int p1), .val (.ref b1), .val (.ref w_REQUESTS), .val (.int (0 : Int32)), .val (.int (0 : Int32))]) rfl ?_
      show Steps p.tables e below (T111.setTop (mkF m 155 #[.val (.int p1), .val (.ref b1), .val (.ref w_REQUESTS), .val (.int (0 : Int32)), .val (.int (0 : Int32))] [])) _
      refine XS.iload X111.here hx rfl (hb hby at_155) rfl ?_
      show Steps p.tables e below (T111.setTop (mkF m 157 #[.val (.int p1), .val (.ref b1), .val (.ref w_REQUESTS), .val (.int (0 : Int32)), .val (.int (0 : Int32))] [(.int (0 : Int32))])) _
      refine XS.iloadN X111.here hx rfl (hb hby at_157) rfl ?_
      show Steps p.tables e below (T111.setTop (mkF m 158 #[.val (.int p1), .val (.ref b1), .val (.ref w_REQUESTS), .val (.int (0 : Int32)), .val (.int (0 : Int32))] [(.int (0 : Int32)), (.int (0 : Int32))])) _
      refine XS.icmpNo X111.here hx rfl (hb hby at_158) rfl (teq (by decide : (0 : Int32) = (0 : Int32))).2 ?_
      show Steps p.tables e below (T111.setTop (mkF m 161 #[.val (.int p1), .val (.ref b1), .val (.ref w_REQUESTS), .val (.int (0 : Int32)), .val (.int (0 : Int32))] [])) _
      refine XS.iload X111.here hx rfl (hb hby at_161) rfl ?_
      show Steps p.tables e below (T111.setTop (mkF m 163 #[.val (.int p1), .val (.ref b1), .val (.ref w_REQUESTS), .val (.int (0 : Int32)), .val (.int (0 : Int32))] [(.int (0 : Int32))])) _
      refine XS.ifYes X111.here hx rfl (pc0 := 163) (pc' := 173) rfl (hb hby at_163) rfl ((if0 _ _).trans (teq (by decide : (0 : Int32) = (0 : Int32))).1) (by decide) (by decide) ?_
      show Steps p.tables e below (T111.setTop (mkF m 173 #[.val (.int p1), .val (.ref b1), .val (.ref w_REQUESTS), .val (.int (0 : Int32)), .val (.int (0 : Int32))] [])) _
      refine XS.iconst X111.here hx rfl (hb hby at_173) ?_
      show Steps p.tables e below (T111.setTop (mkF m 174 #[.val (.int p1), .val (.ref b1), .val (.ref w_REQUESTS), .val (.int (0 : Int32)), .val (.int (0 : Int32))] [(.int (1 : Int32))])) _
      refine XS.goto X111.here hx rfl (pc0 := 174) (pc' := 178) rfl (hb hby at_174) (by decide) (by decide) ?_
      show Steps p.tables e below (T111.setTop (mkF m 178 #[.val (.int p1), .val (.ref b1), .val (.ref w_REQUESTS), .val (.int (0 : Int32)), .val (.int (0 : Int32))] [(.int (1 : Int32))])) _
      exact retN X111 hx (t := .boolean) Bd.returns (by simp) (hb hby at_178) hr
    · show Q0_0 Z p1 w_POD w_BASE w_RESOURCE w_AGENT w_CLIENT w_ISSUER w_OWNER w_CREATOR w_CREDENTIAL w_REQUESTS w_AGENTS w_STATS w_WAC_ALLOW w_METHOD w_CREATES w_REMOVES w_PORT w_VALUE w_REPEATED_VALUE w_FLAG h0 n0 _ T111.heap _
      rw [e111]
      exact ⟨rfl, N111⟩
  ·
    obtain ⟨cl112, Ar112, qq112, Sz112, Nn112, Hs112, Gs112⟩ := V_b1_52
    have hin112 : ¬ ((10 : Int32) < 0 ∨ cl112.slots.size ≤ ((10 : Int32)).toNatClampNeg) := inb_of Sz112 ⟨by decide, by decide⟩
    have hat112 : cl112.slots[((10 : Int32)).toNatClampNeg]? = some (.ref w_AGENTS) := Has.at Hs112 hin112 rfl
    obtain ⟨T113, X113, e113, st113⟩ := getS2 X52 hx hZ hown (host := "") (Or.inl (hw _ (List.mem_of_getElem? (i := 16) rfl))) Via.refl e52 (own_staK S_OWNER K52 all0) (g := (mkF m 130 #[.val (.int p1), .val (.ref b1), .val (.ref w_AGENTS), .unset, .unset] [(.ref w_AGENTS)])) rfl (hb hby at_130)
    obtain ⟨T114, X114, e114, st114⟩ := getS2 X113 hx hZ hown (host := "") (Or.inl (hw _ (List.mem_of_getElem? (i := 20) rfl))) Via.refl e113 (own_staK S_CREDENTIAL K52 all0) (g := (mkF m 137 #[.val (.int p1), .val (.ref b1), .val (.ref w_AGENTS), .unset, .unset] [(.ref w_AGENTS)])) rfl (hb hby at_137)
    obtain ⟨cq115, kq115, q115a, q115b, q115c⟩ := isOf hZ e114 (E_AGENTS.keep K52)
    obtain ⟨_, _, ⟨T115, L115, k115, n115⟩, -, X115, ⟨Lc115, hQ115, l115, y115, z115⟩, st115⟩ := X114.virtualBack hx (y := (⟨"com/example/garm/garm/command/Option", "isRepeatable", "()Z"⟩ : MethodName)) (z := (⟨"com/example/garm/garm/command/Option", "isRepeatable", "()Z"⟩ : MethodName)) hown (mvT hZ (hw _ (List.mem_of_getElem? (i := 39) rfl))) (mvT hZ (hw _ (List.mem_of_getElem? (i := 40) rfl))) (notFace_of_selects (args := #[]) (mvT hZ (hw _ (List.mem_of_getElem? (i := 42) rfl)))) (mvT hZ (hw _ (List.mem_of_getElem? (i := 42) rfl))) (mvT hZ (hw _ (List.mem_of_getElem? (i := 41) rfl))) (by decide) (backOf (W := 0) (rm1_10 l Z a0 hw [] w_AGENTS w_VALUE w_REPEATED_VALUE h52 n0 (Nat.le_trans Z0 K52.1) (F_form_AGENTS.keep K52 nin0) (own_staK S_REPEATED_VALUE K52 all0) ne_REPEATED_VALUE_VALUE) hZ (hw _ (List.mem_of_getElem? (i := 43) rfl)) (hw _ (List.mem_of_getElem? (i := 3) rfl)) (by decide) (by decide)) q115a q115c (g := (mkF m 150 #[.val (.int p1), .val (.ref b1), .val (.ref w_AGENTS), .val (.int (0 : Int32)), .unset] [(.ref w_AGENTS)])) rfl (by rw [hml]; rfl) (Steps.refl _) (argsL := []) (rest := []) (lenOf pd_0 rfl) rfl (by show 2 * 0 + _ ≤ _; exact Nat.le_of_eq rfl) (hb hby at_150) (fun _ _ => ⟨rfl, e114, (by decide : 1 + 0 ≤ _), (by decide : 17 + 0 ≤ _)⟩)
    dsimp only [Pt.U, Pt.locs, Pt.cells, Pt.slots] at X115 l115 y115 z115 st115 hQ115
    subst l115 y115 z115
    obtain ⟨rfl, N115q, e115⟩ := hQ115
    have N115 := Fr.app N52 N115q
    obtain ⟨fs, hr, hrun, hended, hW, hsame⟩ := X115.leave (v := some (.int (1 : Int32))) (fun h => by rw [Bd.returns] at h; cases h)
    refine ⟨_, _, k53 _ ?_, hrun, hended, _, _, rfl, ?_, ⟨_, rfl⟩, hW, hsame.mono (by decide) (by decide)⟩
    ·
      show Steps p.tables e below (T52.setTop (mkF m 127 #[.val (.int p1), .val (.ref b1), .unset, .unset, .unset] [(.int ((p1 &&& (2147483647 : Int32)) % (17 : Int32))), (.ref b1)])) _
      rewrite [hk64_10]
      show Steps p.tables e below (T52.setTop (mkF m 127 #[.val (.int p1), .val (.ref b1), .unset, .unset, .unset] [(.int (10 : Int32)), (.ref b1)])) _
      refine X52.aaload hx (j := (10 : Int32)) (v := (.ref w_AGENTS)) (by rw [e52]; exact Ar112.1) (State.isArrayOf_alike hZ.alike Ar112.2.1) rfl Ar112.2.2 hin112 hat112 (g := (mkF m 127 #[.val (.int p1), .val (.ref b1), .unset, .unset, .unset] [(.int (10 : Int32)), (.ref b1)])) rfl rfl (hb hby at_127) _ ?_
      show Steps p.tables e below (T52.setTop (mkF m 128 #[.val (.int p1), .val (.ref b1), .unset, .unset, .unset] [(.ref w_AGENTS)])) _
      refine XS.astoreN X52.here hx rfl (hb hby at_128) rfl rfl (l' := #[.val (.int p1), .val (.ref b1), .val (.ref w_AGENTS), .unset, .unset]) rfl ?_
      show Steps p.tables e below (T52.setTop (mkF m 129 #[.val (.int p1), .val (.ref b1), .val (.ref w_AGENTS), .unset, .unset] [])) _
      refine XS.aloadN X52.here hx rfl (hb hby at_129) rfl rfl ?_
      show Steps p.tables e below (T52.setTop (mkF m 130 #[.val (.int p1), .val (.ref b1), .val (.ref w_AGENTS), .unset, .unset] [(.ref w_AGENTS)])) _
      refine st113 _ ?_
      show Steps p.tables e below (T113.setTop (mkF m 133 #[.val (.int p1), .val (.ref b1), .val (.ref w_AGENTS), .unset, .unset] [(.ref w_OWNER), (.ref w_AGENTS)])) _
      refine Jvm.RoadKit.acmp (g := (mkF m 133 #[.val (.int p1), .val (.ref b1), .val (.ref w_AGENTS), .unset, .unset] [(.ref w_OWNER), (.ref w_AGENTS)])) X113 hx rfl rfl rfl (pc0 := 133) (pc' := 136) (same := false) rfl (hb hby at_133) rfl (decide_eq_false fun q => ne_AGENTS_OWNER (Value.ref.inj q)) (by decide) (by decide) ?_
      show Steps p.tables e below (T113.setTop (mkF m 136 #[.val (.int p1), .val (.ref b1), .val (.ref w_AGENTS), .unset, .unset] [])) _
      refine XS.aloadN X113.here hx rfl (hb hby at_136) rfl rfl ?_
      show Steps p.tables e below (T113.setTop (mkF m 137 #[.val (.int p1), .val (.ref b1), .val (.ref w_AGENTS), .unset, .unset] [(.ref w_AGENTS)])) _
      refine st114 _ ?_
      show Steps p.tables e below (T114.setTop (mkF m 140 #[.val (.int p1), .val (.ref b1), .val (.ref w_AGENTS), .unset, .unset] [(.ref w_CREDENTIAL), (.ref w_AGENTS)])) _
      refine Jvm.RoadKit.acmp (g := (mkF m 140 #[.val (.int p1), .val (.ref b1), .val (.ref w_AGENTS), .unset, .unset] [(.ref w_CREDENTIAL), (.ref w_AGENTS)])) X114 hx rfl rfl rfl (pc0 := 140) (pc' := 147) (same := false) rfl (hb hby at_140) rfl (decide_eq_false fun q => ne_AGENTS_CREDENTIAL (Value.ref.inj q)) (by decide) (by decide) ?_
      show Steps p.tables e below (T114.setTop (mkF m 147 #[.val (.int p1), .val (.ref b1), .val (.ref w_AGENTS), .unset, .unset] [])) _
      refine XS.iconst X114.here hx rfl (hb hby at_147) ?_
      show Steps p.tables e below (T114.setTop (mkF m 148 #[.val (.int p1), .val (.ref b1), .val (.ref w_AGENTS), .unset, .unset] [(.int (0 : Int32))])) _
      refine XS.istoreN X114.here hx rfl (hb hby at_148) rfl (l' := #[.val (.int p1), .val (.ref b1), .val (.ref w_AGENTS), .val (.int (0 : Int32)), .unset]) rfl ?_
      show Steps p.tables e below (T114.setTop (mkF m 149 #[.val (.int p1), .val (.ref b1), .val (.ref w_AGENTS), .val (.int (0 : Int32)), .unset] [])) _
      refine XS.aloadN X114.here hx rfl (hb hby at_149) rfl rfl ?_
      show Steps p.tables e below (T114.setTop (mkF m 150 #[.val (.int p1), .val (.ref b1), .val (.ref w_AGENTS), .val (.int (0 : Int32)), .unset] [(.ref w_AGENTS)])) _
      refine st115.trans ?_
      show Steps p.tables e below (T115.setTop (mkF m 153 #[.val (.int p1), .val (.ref b1), .val (.ref w_AGENTS), .val (.int (0 : Int32)), .unset] [(.int (0 : Int32))])) _
      refine XS.istore X115.here hx rfl (hb hby at_153) rfl (l' := #[.val (.int p1), .val (.ref b1), .val (.ref w_AGENTS), .val (.int (0 : Int32)), .val (.int (0 : Int32))]) rfl ?_
      show Steps p.tables e below (T115.setTop (mkF m 155 #[.val (.int p1), .val (.ref b1), .val (.ref w_AGENTS), .val (.int (0 : Int32)), .val (.int (0 : Int32))] [])) _
      refine XS.iload X115.here hx rfl (hb hby at_155) rfl ?_
      show Steps p.tables e below (T115.setTop (mkF m 157 #[.val (.int p1), .val (.ref b1), .val (.ref w_AGENTS), .val (.int (0 : Int32)), .val (.int (0 : Int32))] [(.int (0 : Int32))])) _
      refine XS.iloadN X115.here hx rfl (hb hby at_157) rfl ?_
      show Steps p.tables e below (T115.setTop (mkF m 158 #[.val (.int p1), .val (.ref b1), .val (.ref w_AGENTS), .val (.int (0 : Int32)), .val (.int (0 : Int32))] [(.int (0 : Int32)), (.int (0 : Int32))])) _
      refine XS.icmpNo X115.here hx rfl (hb hby at_158) rfl (teq (by decide : (0 : Int32) = (0 : Int32))).2 ?_
      show Steps p.tables e below (T115.setTop (mkF m 161 #[.val (.int p1), .val (.ref b1), .val (.ref w_AGENTS), .val (.int (0 : Int32)), .val (.int (0 : Int32))] [])) _
      refine XS.iload X115.here hx rfl (hb hby at_161) rfl ?_
      show Steps p.tables e below (T115.setTop (mkF m 163 #[.val (.int p1), .val (.ref b1), .val (.ref w_AGENTS), .val (.int (0 : Int32)), .val (.int (0 : Int32))] [(.int (0 : Int32))])) _
      refine XS.ifYes X115.here hx rfl (pc0 := 163) (pc' := 173) rfl (hb hby at_163) rfl ((if0 _ _).trans (teq (by decide : (0 : Int32) = (0 : Int32))).1) (by decide) (by decide) ?_
      show Steps p.tables e below (T115.setTop (mkF m 173 #[.val (.int p1), .val (.ref b1), .val (.ref w_AGENTS), .val (.int (0 : Int32)), .val (.int (0 : Int32))] [])) _
      refine XS.iconst X115.here hx rfl (hb hby at_173) ?_
      show Steps p.tables e below (T115.setTop (mkF m 174 #[.val (.int p1), .val (.ref b1), .val (.ref w_AGENTS), .val (.int (0 : Int32)), .val (.int (0 : Int32))] [(.int (1 : Int32))])) _
      refine XS.goto X115.here hx rfl (pc0 := 174) (pc' := 178) rfl (hb hby at_174) (by decide) (by decide) ?_
      show Steps p.tables e below (T115.setTop (mkF m 178 #[.val (.int p1), .val (.ref b1), .val (.ref w_AGENTS), .val (.int (0 : Int32)), .val (.int (0 : Int32))] [(.int (1 : Int32))])) _
      exact retN X115 hx (t := .boolean) Bd.returns (by simp) (hb hby at_178) hr
    · show Q0_0 Z p1 w_POD w_BASE w_RESOURCE w_AGENT w_CLIENT w_ISSUER w_OWNER w_CREATOR w_CREDENTIAL w_REQUESTS w_AGENTS w_STATS w_WAC_ALLOW w_METHOD w_CREATES w_REMOVES w_PORT w_VALUE w_REPEATED_VALUE w_FLAG h0 n0 _ T115.heap _
      rw [e115]
      exact ⟨rfl, N115⟩
  ·
    obtain ⟨cl116, Ar116, qq116, Sz116, Nn116, Hs116, Gs116⟩ := V_b1_52
    have hin116 : ¬ ((11 : Int32) < 0 ∨ cl116.slots.size ≤ ((11 : Int32)).toNatClampNeg) := inb_of Sz116 ⟨by decide, by decide⟩
    have hat116 : cl116.slots[((11 : Int32)).toNatClampNeg]? = some (.ref w_STATS) := Has.at Hs116 hin116 rfl
    obtain ⟨T117, X117, e117, st117⟩ := getS2 X52 hx hZ hown (host := "") (Or.inl (hw _ (List.mem_of_getElem? (i := 16) rfl))) Via.refl e52 (own_staK S_OWNER K52 all0) (g := (mkF m 130 #[.val (.int p1), .val (.ref b1), .val (.ref w_STATS), .unset, .unset] [(.ref w_STATS)])) rfl (hb hby at_130)
    obtain ⟨T118, X118, e118, st118⟩ := getS2 X117 hx hZ hown (host := "") (Or.inl (hw _ (List.mem_of_getElem? (i := 20) rfl))) Via.refl e117 (own_staK S_CREDENTIAL K52 all0) (g := (mkF m 137 #[.val (.int p1), .val (.ref b1), .val (.ref w_STATS), .unset, .unset] [(.ref w_STATS)])) rfl (hb hby at_137)
    obtain ⟨cq119, kq119, q119a, q119b, q119c⟩ := isOf hZ e118 (E_STATS.keep K52)
    obtain ⟨_, _, ⟨T119, L119, k119, n119⟩, -, X119, ⟨Lc119, hQ119, l119, y119, z119⟩, st119⟩ := X118.virtualBack hx (y := (⟨"com/example/garm/garm/command/Option", "isRepeatable", "()Z"⟩ : MethodName)) (z := (⟨"com/example/garm/garm/command/Option", "isRepeatable", "()Z"⟩ : MethodName)) hown (mvT hZ (hw _ (List.mem_of_getElem? (i := 39) rfl))) (mvT hZ (hw _ (List.mem_of_getElem? (i := 40) rfl))) (notFace_of_selects (args := #[]) (mvT hZ (hw _ (List.mem_of_getElem? (i := 42) rfl)))) (mvT hZ (hw _ (List.mem_of_getElem? (i := 42) rfl))) (mvT hZ (hw _ (List.mem_of_getElem? (i := 41) rfl))) (by decide) (backOf (W := 0) (rm1_11 l Z a0 hw [] w_STATS w_REPEATED_VALUE w_FLAG h52 n0 (Nat.le_trans Z0 K52.1) (F_form_STATS.keep K52 nin0) (own_staK S_REPEATED_VALUE K52 all0) ne_FLAG_REPEATED_VALUE) hZ (hw _ (List.mem_of_getElem? (i := 43) rfl)) (hw _ (List.mem_of_getElem? (i := 3) rfl)) (by decide) (by decide)) q119a q119c (g := (mkF m 150 #[.val (.int p1), .val (.ref b1), .val (.ref w_STATS), .val (.int (0 : Int32)), .unset] [(.ref w_STATS)])) rfl (by rw [hml]; rfl) (Steps.refl _) (argsL := []) (rest := []) (lenOf pd_0 rfl) rfl (by show 2 * 0 + _ ≤ _; exact Nat.le_of_eq rfl) (hb hby at_150) (fun _ _ => ⟨rfl, e118, (by decide : 1 + 0 ≤ _), (by decide : 17 + 0 ≤ _)⟩)
    dsimp only [Pt.U, Pt.locs, Pt.cells, Pt.slots] at X119 l119 y119 z119 st119 hQ119
    subst l119 y119 z119
    obtain ⟨rfl, N119q, e119⟩ := hQ119
    have N119 := Fr.app N52 N119q
    obtain ⟨fs, hr, hrun, hended, hW, hsame⟩ := X119.leave (v := some (.int (1 : Int32))) (fun h => by rw [Bd.returns] at h; cases h)
    refine ⟨_, _, k53 _ ?_, hrun, hended, _, _, rfl, ?_, ⟨_, rfl⟩, hW, hsame.mono (by decide) (by decide)⟩
    ·
      show Steps p.tables e below (T52.setTop (mkF m 127 #[.val (.int p1), .val (.ref b1), .unset, .unset, .unset] [(.int ((p1 &&& (2147483647 : Int32)) % (17 : Int32))), (.ref b1)])) _
      rewrite [hk65_11]
      show Steps p.tables e below (T52.setTop (mkF m 127 #[.val (.int p1), .val (.ref b1), .unset, .unset, .unset] [(.int (11 : Int32)), (.ref b1)])) _
      refine X52.aaload hx (j := (11 : Int32)) (v := (.ref w_STATS)) (by rw [e52]; exact Ar116.1) (State.isArrayOf_alike hZ.alike Ar116.2.1) rfl Ar116.2.2 hin116 hat116 (g := (mkF m 127 #[.val (.int p1), .val (.ref b1), .unset, .unset, .unset] [(.int (11 : Int32)), (.ref b1)])) rfl rfl (hb hby at_127) _ ?_
      show Steps p.tables e below (T52.setTop (mkF m 128 #[.val (.int p1), .val (.ref b1), .unset, .unset, .unset] [(.ref w_STATS)])) _
      refine XS.astoreN X52.here hx rfl (hb hby at_128) rfl rfl (l' := #[.val (.int p1), .val (.ref b1), .val (.ref w_STATS), .unset, .unset]) rfl ?_
      show Steps p.tables e below (T52.setTop (mkF m 129 #[.val (.int p1), .val (.ref b1), .val (.ref w_STATS), .unset, .unset] [])) _
      refine XS.aloadN X52.here hx rfl (hb hby at_129) rfl rfl ?_
      show Steps p.tables e below (T52.setTop (mkF m 130 #[.val (.int p1), .val (.ref b1), .val (.ref w_STATS), .unset, .unset] [(.ref w_STATS)])) _
      refine st117 _ ?_
      show Steps p.tables e below (T117.setTop (mkF m 133 #[.val (.int p1), .val (.ref b1), .val (.ref w_STATS), .unset, .unset] [(.ref w_OWNER), (.ref w_STATS)])) _
      refine Jvm.RoadKit.acmp (g := (mkF m 133 #[.val (.int p1), .val (.ref b1), .val (.ref w_STATS), .unset, .unset] [(.ref w_OWNER), (.ref w_STATS)])) X117 hx rfl rfl rfl (pc0 := 133) (pc' := 136) (same := false) rfl (hb hby at_133) rfl (decide_eq_false fun q => (Ne.symm ne_OWNER_STATS) (Value.ref.inj q)) (by decide) (by decide) ?_
      show Steps p.tables e below (T117.setTop (mkF m 136 #[.val (.int p1), .val (.ref b1), .val (.ref w_STATS), .unset, .unset] [])) _
      refine XS.aloadN X117.here hx rfl (hb hby at_136) rfl rfl ?_
      show Steps p.tables e below (T117.setTop (mkF m 137 #[.val (.int p1), .val (.ref b1), .val (.ref w_STATS), .unset, .unset] [(.ref w_STATS)])) _
      refine st118 _ ?_
      show Steps p.tables e below (T118.setTop (mkF m 140 #[.val (.int p1), .val (.ref b1), .val (.ref w_STATS), .unset, .unset] [(.ref w_CREDENTIAL), (.ref w_STATS)])) _
      refine Jvm.RoadKit.acmp (g := (mkF m 140 #[.val (.int p1), .val (.ref b1), .val (.ref w_STATS), .unset, .unset] [(.ref w_CREDENTIAL), (.ref w_STATS)])) X118 hx rfl rfl rfl (pc0 := 140) (pc' := 147) (same := false) rfl (hb hby at_140) rfl (decide_eq_false fun q => (Ne.symm ne_CREDENTIAL_STATS) (Value.ref.inj q)) (by decide) (by decide) ?_
      show Steps p.tables e below (T118.setTop (mkF m 147 #[.val (.int p1), .val (.ref b1), .val (.ref w_STATS), .unset, .unset] [])) _
      refine XS.iconst X118.here hx rfl (hb hby at_147) ?_
      show Steps p.tables e below (T118.setTop (mkF m 148 #[.val (.int p1), .val (.ref b1), .val (.ref w_STATS), .unset, .unset] [(.int (0 : Int32))])) _
      refine XS.istoreN X118.here hx rfl (hb hby at_148) rfl (l' := #[.val (.int p1), .val (.ref b1), .val (.ref w_STATS), .val (.int (0 : Int32)), .unset]) rfl ?_
      show Steps p.tables e below (T118.setTop (mkF m 149 #[.val (.int p1), .val (.ref b1), .val (.ref w_STATS), .val (.int (0 : Int32)), .unset] [])) _
      refine XS.aloadN X118.here hx rfl (hb hby at_149) rfl rfl ?_
      show Steps p.tables e below (T118.setTop (mkF m 150 #[.val (.int p1), .val (.ref b1), .val (.ref w_STATS), .val (.int (0 : Int32)), .unset] [(.ref w_STATS)])) _
      refine st119.trans ?_
      show Steps p.tables e below (T119.setTop (mkF m 153 #[.val (.int p1), .val (.ref b1), .val (.ref w_STATS), .val (.int (0 : Int32)), .unset] [(.int (0 : Int32))])) _
      refine XS.istore X119.here hx rfl (hb hby at_153) rfl (l' := #[.val (.int p1), .val (.ref b1), .val (.ref w_STATS), .val (.int (0 : Int32)), .val (.int (0 : Int32))]) rfl ?_
      show Steps p.tables e below (T119.setTop (mkF m 155 #[.val (.int p1), .val (.ref b1), .val (.ref w_STATS), .val (.int (0 : Int32)), .val (.int (0 : Int32))] [])) _
      refine XS.iload X119.here hx rfl (hb hby at_155) rfl ?_
      show Steps p.tables e below (T119.setTop (mkF m 157 #[.val (.int p1), .val (.ref b1), .val (.ref w_STATS), .val (.int (0 : Int32)), .val (.int (0 : Int32))] [(.int (0 : Int32))])) _
      refine XS.iloadN X119.here hx rfl (hb hby at_157) rfl ?_
      show Steps p.tables e below (T119.setTop (mkF m 158 #[.val (.int p1), .val (.ref b1), .val (.ref w_STATS), .val (.int (0 : Int32)), .val (.int (0 : Int32))] [(.int (0 : Int32)), (.int (0 : Int32))])) _
      refine XS.icmpNo X119.here hx rfl (hb hby at_158) rfl (teq (by decide : (0 : Int32) = (0 : Int32))).2 ?_
      show Steps p.tables e below (T119.setTop (mkF m 161 #[.val (.int p1), .val (.ref b1), .val (.ref w_STATS), .val (.int (0 : Int32)), .val (.int (0 : Int32))] [])) _
      refine XS.iload X119.here hx rfl (hb hby at_161) rfl ?_
      show Steps p.tables e below (T119.setTop (mkF m 163 #[.val (.int p1), .val (.ref b1), .val (.ref w_STATS), .val (.int (0 : Int32)), .val (.int (0 : Int32))] [(.int (0 : Int32))])) _
      refine XS.ifYes X119.here hx rfl (pc0 := 163) (pc' := 173) rfl (hb hby at_163) rfl ((if0 _ _).trans (teq (by decide : (0 : Int32) = (0 : Int32))).1) (by decide) (by decide) ?_
      show Steps p.tables e below (T119.setTop (mkF m 173 #[.val (.int p1), .val (.ref b1), .val (.ref w_STATS), .val (.int (0 : Int32)), .val (.int (0 : Int32))] [])) _
      refine XS.iconst X119.here hx rfl (hb hby at_173) ?_
      show Steps p.tables e below (T119.setTop (mkF m 174 #[.val (.int p1), .val (.ref b1), .val (.ref w_STATS), .val (.int (0 : Int32)), .val (.int (0 : Int32))] [(.int (1 : Int32))])) _
      refine XS.goto X119.here hx rfl (pc0 := 174) (pc' := 178) rfl (hb hby at_174) (by decide) (by decide) ?_
      show Steps p.tables e below (T119.setTop (mkF m 178 #[.val (.int p1), .val (.ref b1), .val (.ref w_STATS), .val (.int (0 : Int32)), .val (.int (0 : Int32))] [(.int (1 : Int32))])) _
      exact retN X119 hx (t := .boolean) Bd.returns (by simp) (hb hby at_178) hr
    · show Q0_0 Z p1 w_POD w_BASE w_RESOURCE w_AGENT w_CLIENT w_ISSUER w_OWNER w_CREATOR w_CREDENTIAL w_REQUESTS w_AGENTS w_STATS w_WAC_ALLOW w_METHOD w_CREATES w_REMOVES w_PORT w_VALUE w_REPEATED_VALUE w_FLAG h0 n0 _ T119.heap _
      rw [e119]
      exact ⟨rfl, N119⟩
  ·
    obtain ⟨cl120, Ar120, qq120, Sz120, Nn120, Hs120, Gs120⟩ := V_b1_52
    have hin120 : ¬ ((12 : Int32) < 0 ∨ cl120.slots.size ≤ ((12 : Int32)).toNatClampNeg) := inb_of Sz120 ⟨by decide, by decide⟩
    have hat120 : cl120.slots[((12 : Int32)).toNatClampNeg]? = some (.ref w_WAC_ALLOW) := Has.at Hs120 hin120 rfl
    obtain ⟨T121, X121, e121, st121⟩ := getS2 X52 hx hZ hown (host := "") (Or.inl (hw _ (List.mem_of_getElem? (i := 16) rfl))) Via.refl e52 (own_staK S_OWNER K52 all0) (g := (mkF m 130 #[.val (.int p1), .val (.ref b1), .val (.ref w_WAC_ALLOW), .unset, .unset] [(.ref w_WAC_ALLOW)])) rfl (hb hby at_130)
    obtain ⟨T122, X122, e122, st122⟩ := getS2 X121 hx hZ hown (host := "") (Or.inl (hw _ (List.mem_of_getElem? (i := 20) rfl))) Via.refl e121 (own_staK S_CREDENTIAL K52 all0) (g := (mkF m 137 #[.val (.int p1), .val (.ref b1), .val (.ref w_WAC_ALLOW), .unset, .unset] [(.ref w_WAC_ALLOW)])) rfl (hb hby at_137)
    obtain ⟨cq123, kq123, q123a, q123b, q123c⟩ := isOf hZ e122 (E_WAC_ALLOW.keep K52)
    obtain ⟨_, _, ⟨T123, L123, k123, n123⟩, -, X123, ⟨Lc123, hQ123, l123, y123, z123⟩, st123⟩ := X122.virtualBack hx (y := (⟨"com/example/garm/garm/command/Option", "isRepeatable", "()Z"⟩ : MethodName)) (z := (⟨"com/example/garm/garm/command/Option", "isRepeatable", "()Z"⟩ : MethodName)) hown (mvT hZ (hw _ (List.mem_of_getElem? (i := 39) rfl))) (mvT hZ (hw _ (List.mem_of_getElem? (i := 40) rfl))) (notFace_of_selects (args := #[]) (mvT hZ (hw _ (List.mem_of_getElem? (i := 42) rfl)))) (mvT hZ (hw _ (List.mem_of_getElem? (i := 42) rfl))) (mvT hZ (hw _ (List.mem_of_getElem? (i := 41) rfl))) (by decide) (backOf (W := 0) (rm1_12 l Z a0 hw [] w_WAC_ALLOW w_REPEATED_VALUE w_FLAG h52 n0 (Nat.le_trans Z0 K52.1) (F_form_WAC_ALLOW.keep K52 nin0) (own_staK S_REPEATED_VALUE K52 all0) ne_FLAG_REPEATED_VALUE) hZ (hw _ (List.mem_of_getElem? (i := 43) rfl)) (hw _ (List.mem_of_getElem? (i := 3) rfl)) (by decide) (by decide)) q123a q123c (g := (mkF m 150 #[.val (.int p1), .val (.ref b1), .val (.ref w_WAC_ALLOW), .val (.int (0 : Int32)), .unset] [(.ref w_WAC_ALLOW)])) rfl (by rw [hml]; rfl) (Steps.refl _) (argsL := []) (rest := []) (lenOf pd_0 rfl) rfl (by show 2 * 0 + _ ≤ _; exact Nat.le_of_eq rfl) (hb hby at_150) (fun _ _ => ⟨rfl, e122, (by decide : 1 + 0 ≤ _), (by decide : 17 + 0 ≤ _)⟩)
    dsimp only [Pt.U, Pt.locs, Pt.cells, Pt.slots] at X123 l123 y123 z123 st123 hQ123
    subst l123 y123 z123
    obtain ⟨rfl, N123q, e123⟩ := hQ123
    have N123 := Fr.app N52 N123q
    obtain ⟨fs, hr, hrun, hended, hW, hsame⟩ := X123.leave (v := some (.int (1 : Int32))) (fun h => by rw [Bd.returns] at h; cases h)
    refine ⟨_, _, k53 _ ?_, hrun, hended, _, _, rfl, ?_, ⟨_, rfl⟩, hW, hsame.mono (by decide) (by decide)⟩
    ·
      show Steps p.tables e below (T52.setTop (mkF m 127 #[.val (.int p1), .val (.ref b1), .unset, .unset, .unset] [(.int ((p1 &&& (2147483647 : Int32)) % (17 : Int32))), (.ref b1)])) _
      rewrite [hk66_12]
      show Steps p.tables e below (T52.setTop (mkF m 127 #[.val (.int p1), .val (.ref b1), .unset, .unset, .unset] [(.int (12 : Int32)), (.ref b1)])) _
      refine X52.aaload hx (j := (12 : Int32)) (v := (.ref w_WAC_ALLOW)) (by rw [e52]; exact Ar120.1) (State.isArrayOf_alike hZ.alike Ar120.2.1) rfl Ar120.2.2 hin120 hat120 (g := (mkF m 127 #[.val (.int p1), .val (.ref b1), .unset, .unset, .unset] [(.int (12 : Int32)), (.ref b1)])) rfl rfl (hb hby at_127) _ ?_
      show Steps p.tables e below (T52.setTop (mkF m 128 #[.val (.int p1), .val (.ref b1), .unset, .unset, .unset] [(.ref w_WAC_ALLOW)])) _
      refine XS.astoreN X52.here hx rfl (hb hby at_128) rfl rfl (l' := #[.val (.int p1), .val (.ref b1), .val (.ref w_WAC_ALLOW), .unset, .unset]) rfl ?_
      show Steps p.tables e below (T52.setTop (mkF m 129 #[.val (.int p1), .val (.ref b1), .val (.ref w_WAC_ALLOW), .unset, .unset] [])) _
      refine XS.aloadN X52.here hx rfl (hb hby at_129) rfl rfl ?_
      show Steps p.tables e below (T52.setTop (mkF m 130 #[.val (.int p1), .val (.ref b1), .val (.ref w_WAC_ALLOW), .unset, .unset] [(.ref w_WAC_ALLOW)])) _
      refine st121 _ ?_
      show Steps p.tables e below (T121.setTop (mkF m 133 #[.val (.int p1), .val (.ref b1), .val (.ref w_WAC_ALLOW), .unset, .unset] [(.ref w_OWNER), (.ref w_WAC_ALLOW)])) _
      refine Jvm.RoadKit.acmp (g := (mkF m 133 #[.val (.int p1), .val (.ref b1), .val (.ref w_WAC_ALLOW), .unset, .unset] [(.ref w_OWNER), (.ref w_WAC_ALLOW)])) X121 hx rfl rfl rfl (pc0 := 133) (pc' := 136) (same := false) rfl (hb hby at_133) rfl (decide_eq_false fun q => (Ne.symm ne_OWNER_WAC_ALLOW) (Value.ref.inj q)) (by decide) (by decide) ?_
      show Steps p.tables e below (T121.setTop (mkF m 136 #[.val (.int p1), .val (.ref b1), .val (.ref w_WAC_ALLOW), .unset, .unset] [])) _
      refine XS.aloadN X121.here hx rfl (hb hby at_136) rfl rfl ?_
      show Steps p.tables e below (T121.setTop (mkF m 137 #[.val (.int p1), .val (.ref b1), .val (.ref w_WAC_ALLOW), .unset, .unset] [(.ref w_WAC_ALLOW)])) _
      refine st122 _ ?_
      show Steps p.tables e below (T122.setTop (mkF m 140 #[.val (.int p1), .val (.ref b1), .val (.ref w_WAC_ALLOW), .unset, .unset] [(.ref w_CREDENTIAL), (.ref w_WAC_ALLOW)])) _
      refine Jvm.RoadKit.acmp (g := (mkF m 140 #[.val (.int p1), .val (.ref b1), .val (.ref w_WAC_ALLOW), .unset, .unset] [(.ref w_CREDENTIAL), (.ref w_WAC_ALLOW)])) X122 hx rfl rfl rfl (pc0 := 140) (pc' := 147) (same := false) rfl (hb hby at_140) rfl (decide_eq_false fun q => (Ne.symm ne_CREDENTIAL_WAC_ALLOW) (Value.ref.inj q)) (by decide) (by decide) ?_
      show Steps p.tables e below (T122.setTop (mkF m 147 #[.val (.int p1), .val (.ref b1), .val (.ref w_WAC_ALLOW), .unset, .unset] [])) _
      refine XS.iconst X122.here hx rfl (hb hby at_147) ?_
      show Steps p.tables e below (T122.setTop (mkF m 148 #[.val (.int p1), .val (.ref b1), .val (.ref w_WAC_ALLOW), .unset, .unset] [(.int (0 : Int32))])) _
      refine XS.istoreN X122.here hx rfl (hb hby at_148) rfl (l' := #[.val (.int p1), .val (.ref b1), .val (.ref w_WAC_ALLOW), .val (.int (0 : Int32)), .unset]) rfl ?_
      show Steps p.tables e below (T122.setTop (mkF m 149 #[.val (.int p1), .val (.ref b1), .val (.ref w_WAC_ALLOW), .val (.int (0 : Int32)), .unset] [])) _
      refine XS.aloadN X122.here hx rfl (hb hby at_149) rfl rfl ?_
      show Steps p.tables e below (T122.setTop (mkF m 150 #[.val (.int p1), .val (.ref b1), .val (.ref w_WAC_ALLOW), .val (.int (0 : Int32)), .unset] [(.ref w_WAC_ALLOW)])) _
      refine st123.trans ?_
      show Steps p.tables e below (T123.setTop (mkF m 153 #[.val (.int p1), .val (.ref b1), .val (.ref w_WAC_ALLOW), .val (.int (0 : Int32)), .unset] [(.int (0 : Int32))])) _
      refine XS.istore X123.here hx rfl (hb hby at_153) rfl (l' := #[.val (.int p1), .val (.ref b1), .val (.ref w_WAC_ALLOW), .val (.int (0 : Int32)), .val (.int (0 : Int32))]) rfl ?_
      show Steps p.tables e below (T123.setTop (mkF m 155 #[.val (.int p1), .val (.ref b1), .val (.ref w_WAC_ALLOW), .val (.int (0 : Int32)), .val (.int (0 : Int32))] [])) _
      refine XS.iload X123.here hx rfl (hb hby at_155) rfl ?_
      show Steps p.tables e below (T123.setTop (mkF m 157 #[.val (.int p1), .val (.ref b1), .val (.ref w_WAC_ALLOW), .val (.int (0 : Int32)), .val (.int (0 : Int32))] [(.int (0 : Int32))])) _
      refine XS.iloadN X123.here hx rfl (hb hby at_157) rfl ?_
      show Steps p.tables e below (T123.setTop (mkF m 158 #[.val (.int p1), .val (.ref b1), .val (.ref w_WAC_ALLOW), .val (.int (0 : Int32)), .val (.int (0 : Int32))] [(.int (0 : Int32)), (.int (0 : Int32))])) _
      refine XS.icmpNo X123.here hx rfl (hb hby at_158) rfl (teq (by decide : (0 : Int32) = (0 : Int32))).2 ?_
      show Steps p.tables e below (T123.setTop (mkF m 161 #[.val (.int p1), .val (.ref b1), .val (.ref w_WAC_ALLOW), .val (.int (0 : Int32)), .val (.int (0 : Int32))] [])) _
      refine XS.iload X123.here hx rfl (hb hby at_161) rfl ?_
      show Steps p.tables e below (T123.setTop (mkF m 163 #[.val (.int p1), .val (.ref b1), .val (.ref w_WAC_ALLOW), .val (.int (0 : Int32)), .val (.int (0 : Int32))] [(.int (0 : Int32))])) _
      refine XS.ifYes X123.here hx rfl (pc0 := 163) (pc' := 173) rfl (hb hby at_163) rfl ((if0 _ _).trans (teq (by decide : (0 : Int32) = (0 : Int32))).1) (by decide) (by decide) ?_
      show Steps p.tables e below (T123.setTop (mkF m 173 #[.val (.int p1), .val (.ref b1), .val (.ref w_WAC_ALLOW), .val (.int (0 : Int32)), .val (.int (0 : Int32))] [])) _
      refine XS.iconst X123.here hx rfl (hb hby at_173) ?_
      show Steps p.tables e below (T123.setTop (mkF m 174 #[.val (.int p1), .val (.ref b1), .val (.ref w_WAC_ALLOW), .val (.int (0 : Int32)), .val (.int (0 : Int32))] [(.int (1 : Int32))])) _
      refine XS.goto X123.here hx rfl (pc0 := 174) (pc' := 178) rfl (hb hby at_174) (by decide) (by decide) ?_
      show Steps p.tables e below (T123.setTop (mkF m 178 #[.val (.int p1), .val (.ref b1), .val (.ref w_WAC_ALLOW), .val (.int (0 : Int32)), .val (.int (0 : Int32))] [(.int (1 : Int32))])) _
      exact retN X123 hx (t := .boolean) Bd.returns (by simp) (hb hby at_178) hr
    · show Q0_0 Z p1 w_POD w_BASE w_RESOURCE w_AGENT w_CLIENT w_ISSUER w_OWNER w_CREATOR w_CREDENTIAL w_REQUESTS w_AGENTS w_STATS w_WAC_ALLOW w_METHOD w_CREATES w_REMOVES w_PORT w_VALUE w_REPEATED_VALUE w_FLAG h0 n0 _ T123.heap _
      rw [e123]
      exact ⟨rfl, N123⟩
  ·
    obtain ⟨cl124, Ar124, qq124, Sz124, Nn124, Hs124, Gs124⟩ := V_b1_52
    have hin124 : ¬ ((13 : Int32) < 0 ∨ cl124.slots.size ≤ ((13 : Int32)).toNatClampNeg) := inb_of Sz124 ⟨by decide, by decide⟩
    have hat124 : cl124.slots[((13 : Int32)).toNatClampNeg]? = some (.ref w_METHOD) := Has.at Hs124 hin124 rfl
    obtain ⟨T125, X125, e125, st125⟩ := getS2 X52 hx hZ hown (host := "") (Or.inl (hw _ (List.mem_of_getElem? (i := 16) rfl))) Via.refl e52 (own_staK S_OWNER K52 all0) (g := (mkF m 130 #[.val (.int p1), .val (.ref b1), .val (.ref w_METHOD), .unset, .unset] [(.ref w_METHOD)])) rfl (hb hby at_130)
    obtain ⟨T126, X126, e126, st126⟩ := getS2 X125 hx hZ hown (host := "") (Or.inl (hw _ (List.mem_of_getElem? (i := 20) rfl))) Via.refl e125 (own_staK S_CREDENTIAL K52 all0) (g := (mkF m 137 #[.val (.int p1), .val (.ref b1), .val (.ref w_METHOD), .unset, .unset] [(.ref w_METHOD)])) rfl (hb hby at_137)
    obtain ⟨cq127, kq127, q127a, q127b, q127c⟩ := isOf hZ e126 (E_METHOD.keep K52)
    obtain ⟨_, _, ⟨T127, L127, k127, n127⟩, -, X127, ⟨Lc127, hQ127, l127, y127, z127⟩, st127⟩ := X126.virtualBack hx (y := (⟨"com/example/garm/garm/command/Option", "isRepeatable", "()Z"⟩ : MethodName)) (z := (⟨"com/example/garm/garm/command/Option", "isRepeatable", "()Z"⟩ : MethodName)) hown (mvT hZ (hw _ (List.mem_of_getElem? (i := 39) rfl))) (mvT hZ (hw _ (List.mem_of_getElem? (i := 40) rfl))) (notFace_of_selects (args := #[]) (mvT hZ (hw _ (List.mem_of_getElem? (i := 42) rfl)))) (mvT hZ (hw _ (List.mem_of_getElem? (i := 42) rfl))) (mvT hZ (hw _ (List.mem_of_getElem? (i := 41) rfl))) (by decide) (backOf (W := 0) (rm1_13 l Z a0 hw [] w_METHOD w_VALUE w_REPEATED_VALUE h52 n0 (Nat.le_trans Z0 K52.1) (F_form_METHOD.keep K52 nin0) (own_staK S_REPEATED_VALUE K52 all0) ne_REPEATED_VALUE_VALUE) hZ (hw _ (List.mem_of_getElem? (i := 43) rfl)) (hw _ (List.mem_of_getElem? (i := 3) rfl)) (by decide) (by decide)) q127a q127c (g := (mkF m 150 #[.val (.int p1), .val (.ref b1), .val (.ref w_METHOD), .val (.int (0 : Int32)), .unset] [(.ref w_METHOD)])) rfl (by rw [hml]; rfl) (Steps.refl _) (argsL := []) (rest := []) (lenOf pd_0 rfl) rfl (by show 2 * 0 + _ ≤ _; exact Nat.le_of_eq rfl) (hb hby at_150) (fun _ _ => ⟨rfl, e126, (by decide : 1 + 0 ≤ _), (by decide : 17 + 0 ≤ _)⟩)
    dsimp only [Pt.U, Pt.locs, Pt.cells, Pt.slots] at X127 l127 y127 z127 st127 hQ127
    subst l127 y127 z127
    obtain ⟨rfl, N127q, e127⟩ := hQ127
    have N127 := Fr.app N52 N127q
    obtain ⟨fs, hr, hrun, hended, hW, hsame⟩ := X127.leave (v := some (.int (1 : Int32))) (fun h => by rw [Bd.returns] at h; cases h)
    refine ⟨_, _, k53 _ ?_, hrun, hended, _, _, rfl, ?_, ⟨_, rfl⟩, hW, hsame.mono (by decide) (by decide)⟩
    ·
      show Steps p.tables e below (T52.setTop (mkF m 127 #[.val (.int p1), .val (.ref b1), .unset, .unset, .unset] [(.int ((p1 &&& (2147483647 : Int32)) % (17 : Int32))), (.ref b1)])) _
      rewrite [hk67_13]
      show Steps p.tables e below (T52.setTop (mkF m 127 #[.val (.int p1), .val (.ref b1), .unset, .unset, .unset] [(.int (13 : Int32)), (.ref b1)])) _
      refine X52.aaload hx (j := (13 : Int32)) (v := (.ref w_METHOD)) (by rw [e52]; exact Ar124.1) (State.isArrayOf_alike hZ.alike Ar124.2.1) rfl Ar124.2.2 hin124 hat124 (g := (mkF m 127 #[.val (.int p1), .val (.ref b1), .unset, .unset, .unset] [(.int (13 : Int32)), (.ref b1)])) rfl rfl (hb hby at_127) _ ?_
      show Steps p.tables e below (T52.setTop (mkF m 128 #[.val (.int p1), .val (.ref b1), .unset, .unset, .unset] [(.ref w_METHOD)])) _
      refine XS.astoreN X52.here hx rfl (hb hby at_128) rfl rfl (l' := #[.val (.int p1), .val (.ref b1), .val (.ref w_METHOD), .unset, .unset]) rfl ?_
      show Steps p.tables e below (T52.setTop (mkF m 129 #[.val (.int p1), .val (.ref b1), .val (.ref w_METHOD), .unset, .unset] [])) _
      refine XS.aloadN X52.here hx rfl (hb hby at_129) rfl rfl ?_
      show Steps p.tables e below (T52.setTop (mkF m 130 #[.val (.int p1), .val (.ref b1), .val (.ref w_METHOD), .unset, .unset] [(.ref w_METHOD)])) _
      refine st125 _ ?_
      show Steps p.tables e below (T125.setTop (mkF m 133 #[.val (.int p1), .val (.ref b1), .val (.ref w_METHOD), .unset, .unset] [(.ref w_OWNER), (.ref w_METHOD)])) _
      refine Jvm.RoadKit.acmp (g := (mkF m 133 #[.val (.int p1), .val (.ref b1), .val (.ref w_METHOD), .unset, .unset] [(.ref w_OWNER), (.ref w_METHOD)])) X125 hx rfl rfl rfl (pc0 := 133) (pc' := 136) (same := false) rfl (hb hby at_133) rfl (decide_eq_false fun q => ne_METHOD_OWNER (Value.ref.inj q)) (by decide) (by decide) ?_
      show Steps p.tables e below (T125.setTop (mkF m 136 #[.val (.int p1), .val (.ref b1), .val (.ref w_METHOD), .unset, .unset] [])) _
      refine XS.aloadN X125.here hx rfl (hb hby at_136) rfl rfl ?_
      show Steps p.tables e below (T125.setTop (mkF m 137 #[.val (.int p1), .val (.ref b1), .val (.ref w_METHOD), .unset, .unset] [(.ref w_METHOD)])) _
      refine st126 _ ?_
      show Steps p.tables e below (T126.setTop (mkF m 140 #[.val (.int p1), .val (.ref b1), .val (.ref w_METHOD), .unset, .unset] [(.ref w_CREDENTIAL), (.ref w_METHOD)])) _
      refine Jvm.RoadKit.acmp (g := (mkF m 140 #[.val (.int p1), .val (.ref b1), .val (.ref w_METHOD), .unset, .unset] [(.ref w_CREDENTIAL), (.ref w_METHOD)])) X126 hx rfl rfl rfl (pc0 := 140) (pc' := 147) (same := false) rfl (hb hby at_140) rfl (decide_eq_false fun q => (Ne.symm ne_CREDENTIAL_METHOD) (Value.ref.inj q)) (by decide) (by decide) ?_
      show Steps p.tables e below (T126.setTop (mkF m 147 #[.val (.int p1), .val (.ref b1), .val (.ref w_METHOD), .unset, .unset] [])) _
      refine XS.iconst X126.here hx rfl (hb hby at_147) ?_
      show Steps p.tables e below (T126.setTop (mkF m 148 #[.val (.int p1), .val (.ref b1), .val (.ref w_METHOD), .unset, .unset] [(.int (0 : Int32))])) _
      refine XS.istoreN X126.here hx rfl (hb hby at_148) rfl (l' := #[.val (.int p1), .val (.ref b1), .val (.ref w_METHOD), .val (.int (0 : Int32)), .unset]) rfl ?_
      show Steps p.tables e below (T126.setTop (mkF m 149 #[.val (.int p1), .val (.ref b1), .val (.ref w_METHOD), .val (.int (0 : Int32)), .unset] [])) _
      refine XS.aloadN X126.here hx rfl (hb hby at_149) rfl rfl ?_
      show Steps p.tables e below (T126.setTop (mkF m 150 #[.val (.int p1), .val (.ref b1), .val (.ref w_METHOD), .val (.int (0 : Int32)), .unset] [(.ref w_METHOD)])) _
      refine st127.trans ?_
      show Steps p.tables e below (T127.setTop (mkF m 153 #[.val (.int p1), .val (.ref b1), .val (.ref w_METHOD), .val (.int (0 : Int32)), .unset] [(.int (0 : Int32))])) _
      refine XS.istore X127.here hx rfl (hb hby at_153) rfl (l' := #[.val (.int p1), .val (.ref b1), .val (.ref w_METHOD), .val (.int (0 : Int32)), .val (.int (0 : Int32))]) rfl ?_
      show Steps p.tables e below (T127.setTop (mkF m 155 #[.val (.int p1), .val (.ref b1), .val (.ref w_METHOD), .val (.int (0 : Int32)), .val (.int (0 : Int32))] [])) _
      refine XS.iload X127.here hx rfl (hb hby at_155) rfl ?_
      show Steps p.tables e below (T127.setTop (mkF m 157 #[.val (.int p1), .val (.ref b1), .val (.ref w_METHOD), .val (.int (0 : Int32)), .val (.int (0 : Int32))] [(.int (0 : Int32))])) _
      refine XS.iloadN X127.here hx rfl (hb hby at_157) rfl ?_
      show Steps p.tables e below (T127.setTop (mkF m 158 #[.val (.int p1), .val (.ref b1), .val (.ref w_METHOD), .val (.int (0 : Int32)), .val (.int (0 : Int32))] [(.int (0 : Int32)), (.int (0 : Int32))])) _
      refine XS.icmpNo X127.here hx rfl (hb hby at_158) rfl (teq (by decide : (0 : Int32) = (0 : Int32))).2 ?_
      show Steps p.tables e below (T127.setTop (mkF m 161 #[.val (.int p1), .val (.ref b1), .val (.ref w_METHOD), .val (.int (0 : Int32)), .val (.int (0 : Int32))] [])) _
      refine XS.iload X127.here hx rfl (hb hby at_161) rfl ?_
      show Steps p.tables e below (T127.setTop (mkF m 163 #[.val (.int p1), .val (.ref b1), .val (.ref w_METHOD), .val (.int (0 : Int32)), .val (.int (0 : Int32))] [(.int (0 : Int32))])) _
      refine XS.ifYes X127.here hx rfl (pc0 := 163) (pc' := 173) rfl (hb hby at_163) rfl ((if0 _ _).trans (teq (by decide : (0 : Int32) = (0 : Int32))).1) (by decide) (by decide) ?_
      show Steps p.tables e below (T127.setTop (mkF m 173 #[.val (.int p1), .val (.ref b1), .val (.ref w_METHOD), .val (.int (0 : Int32)), .val (.int (0 : Int32))] [])) _
      refine XS.iconst X127.here hx rfl (hb hby at_173) ?_
      show Steps p.tables e below (T127.setTop (mkF m 174 #[.val (.int p1), .val (.ref b1), .val (.ref w_METHOD), .val (.int (0 : Int32)), .val (.int (0 : Int32))] [(.int (1 : Int32))])) _
      refine XS.goto X127.here hx rfl (pc0 := 174) (pc' := 178) rfl (hb hby at_174) (by decide) (by decide) ?_
      show Steps p.tables e below (T127.setTop (mkF m 178 #[.val (.int p1), .val (.ref b1), .val (.ref w_METHOD), .val (.int (0 : Int32)), .val (.int (0 : Int32))] [(.int (1 : Int32))])) _
      exact retN X127 hx (t := .boolean) Bd.returns (by simp) (hb hby at_178) hr
    · show Q0_0 Z p1 w_POD w_BASE w_RESOURCE w_AGENT w_CLIENT w_ISSUER w_OWNER w_CREATOR w_CREDENTIAL w_REQUESTS w_AGENTS w_STATS w_WAC_ALLOW w_METHOD w_CREATES w_REMOVES w_PORT w_VALUE w_REPEATED_VALUE w_FLAG h0 n0 _ T127.heap _
      rw [e127]
      exact ⟨rfl, N127⟩
  ·
    obtain ⟨cl128, Ar128, qq128, Sz128, Nn128, Hs128, Gs128⟩ := V_b1_52
    have hin128 : ¬ ((14 : Int32) < 0 ∨ cl128.slots.size ≤ ((14 : Int32)).toNatClampNeg) := inb_of Sz128 ⟨by decide, by decide⟩
    have hat128 : cl128.slots[((14 : Int32)).toNatClampNeg]? = some (.ref w_CREATES) := Has.at Hs128 hin128 rfl
    obtain ⟨T129, X129, e129, st129⟩ := getS2 X52 hx hZ hown (host := "") (Or.inl (hw _ (List.mem_of_getElem? (i := 16) rfl))) Via.refl e52 (own_staK S_OWNER K52 all0) (g := (mkF m 130 #[.val (.int p1), .val (.ref b1), .val (.ref w_CREATES), .unset, .unset] [(.ref w_CREATES)])) rfl (hb hby at_130)
    obtain ⟨T130, X130, e130, st130⟩ := getS2 X129 hx hZ hown (host := "") (Or.inl (hw _ (List.mem_of_getElem? (i := 20) rfl))) Via.refl e129 (own_staK S_CREDENTIAL K52 all0) (g := (mkF m 137 #[.val (.int p1), .val (.ref b1), .val (.ref w_CREATES), .unset, .unset] [(.ref w_CREATES)])) rfl (hb hby at_137)
    obtain ⟨cq131, kq131, q131a, q131b, q131c⟩ := isOf hZ e130 (E_CREATES.keep K52)
    obtain ⟨_, _, ⟨T131, L131, k131, n131⟩, -, X131, ⟨Lc131, hQ131, l131, y131, z131⟩, st131⟩ := X130.virtualBack hx (y := (⟨"com/example/garm/garm/command/Option", "isRepeatable", "()Z"⟩ : MethodName)) (z := (⟨"com/example/garm/garm/command/Option", "isRepeatable", "()Z"⟩ : MethodName)) hown (mvT hZ (hw _ (List.mem_of_getElem? (i := 39) rfl))) (mvT hZ (hw _ (List.mem_of_getElem? (i := 40) rfl))) (notFace_of_selects (args := #[]) (mvT hZ (hw _ (List.mem_of_getElem? (i := 42) rfl)))) (mvT hZ (hw _ (List.mem_of_getElem? (i := 42) rfl))) (mvT hZ (hw _ (List.mem_of_getElem? (i := 41) rfl))) (by decide) (backOf (W := 0) (rm1_14 l Z a0 hw [] w_CREATES w_REPEATED_VALUE w_FLAG h52 n0 (Nat.le_trans Z0 K52.1) (F_form_CREATES.keep K52 nin0) (own_staK S_REPEATED_VALUE K52 all0) ne_FLAG_REPEATED_VALUE) hZ (hw _ (List.mem_of_getElem? (i := 43) rfl)) (hw _ (List.mem_of_getElem? (i := 3) rfl)) (by decide) (by decide)) q131a q131c (g := (mkF m 150 #[.val (.int p1), .val (.ref b1), .val (.ref w_CREATES), .val (.int (0 : Int32)), .unset] [(.ref w_CREATES)])) rfl (by rw [hml]; rfl) (Steps.refl _) (argsL := []) (rest := []) (lenOf pd_0 rfl) rfl (by show 2 * 0 + _ ≤ _; exact Nat.le_of_eq rfl) (hb hby at_150) (fun _ _ => ⟨rfl, e130, (by decide : 1 + 0 ≤ _), (by decide : 17 + 0 ≤ _)⟩)
    dsimp only [Pt.U, Pt.locs, Pt.cells, Pt.slots] at X131 l131 y131 z131 st131 hQ131
    subst l131 y131 z131
    obtain ⟨rfl, N131q, e131⟩ := hQ131
    have N131 := Fr.app N52 N131q
    obtain ⟨fs, hr, hrun, hended, hW, hsame⟩ := X131.leave (v := some (.int (1 : Int32))) (fun h => by rw [Bd.returns] at h; cases h)
    refine ⟨_, _, k53 _ ?_, hrun, hended, _, _, rfl, ?_, ⟨_, rfl⟩, hW, hsame.mono (by decide) (by decide)⟩
    ·
      show Steps p.tables e below (T52.setTop (mkF m 127 #[.val (.int p1), .val (.ref b1), .unset, .unset, .unset] [(.int ((p1 &&& (2147483647 : Int32)) % (17 : Int32))), (.ref b1)])) _
      rewrite [hk68_14]
      show Steps p.tables e below (T52.setTop (mkF m 127 #[.val (.int p1), .val (.ref b1), .unset, .unset, .unset] [(.int (14 : Int32)), (.ref b1)])) _
      refine X52.aaload hx (j := (14 : Int32)) (v := (.ref w_CREATES)) (by rw [e52]; exact Ar128.1) (State.isArrayOf_alike hZ.alike Ar128.2.1) rfl Ar128.2.2 hin128 hat128 (g := (mkF m 127 #[.val (.int p1), .val (.ref b1), .unset, .unset, .unset] [(.int (14 : Int32)), (.ref b1)])) rfl rfl (hb hby at_127) _ ?_
      show Steps p.tables e below (T52.setTop (mkF m 128 #[.val (.int p1), .val (.ref b1), .unset, .unset, .unset] [(.ref w_CREATES)])) _
      refine XS.astoreN X52.here hx rfl (hb hby at_128) rfl rfl (l' := #[.val (.int p1), .val (.ref b1), .val (.ref w_CREATES), .unset, .unset]) rfl ?_
      show Steps p.tables e below (T52.setTop (mkF m 129 #[.val (.int p1), .val (.ref b1), .val (.ref w_CREATES), .unset, .unset] [])) _
      refine XS.aloadN X52.here hx rfl (hb hby at_129) rfl rfl ?_
      show Steps p.tables e below (T52.setTop (mkF m 130 #[.val (.int p1), .val (.ref b1), .val (.ref w_CREATES), .unset, .unset] [(.ref w_CREATES)])) _
      refine st129 _ ?_
      show Steps p.tables e below (T129.setTop (mkF m 133 #[.val (.int p1), .val (.ref b1), .val (.ref w_CREATES), .unset, .unset] [(.ref w_OWNER), (.ref w_CREATES)])) _
      refine Jvm.RoadKit.acmp (g := (mkF m 133 #[.val (.int p1), .val (.ref b1), .val (.ref w_CREATES), .unset, .unset] [(.ref w_OWNER), (.ref w_CREATES)])) X129 hx rfl rfl rfl (pc0 := 133) (pc' := 136) (same := false) rfl (hb hby at_133) rfl (decide_eq_false fun q => ne_CREATES_OWNER (Value.ref.inj q)) (by decide) (by decide) ?_
      show Steps p.tables e below (T129.setTop (mkF m 136 #[.val (.int p1), .val (.ref b1), .val (.ref w_CREATES), .unset, .unset] [])) _
      refine XS.aloadN X129.here hx rfl (hb hby at_136) rfl rfl ?_
      show Steps p.tables e below (T129.setTop (mkF m 137 #[.val (.int p1), .val (.ref b1), .val (.ref w_CREATES), .unset, .unset] [(.ref w_CREATES)])) _
      refine st130 _ ?_
      show Steps p.tables e below (T130.setTop (mkF m 140 #[.val (.int p1), .val (.ref b1), .val (.ref w_CREATES), .unset, .unset] [(.ref w_CREDENTIAL), (.ref w_CREATES)])) _
      refine Jvm.RoadKit.acmp (g := (mkF m 140 #[.val (.int p1), .val (.ref b1), .val (.ref w_CREATES), .unset, .unset] [(.ref w_CREDENTIAL), (.ref w_CREATES)])) X130 hx rfl rfl rfl (pc0 := 140) (pc' := 147) (same := false) rfl (hb hby at_140) rfl (decide_eq_false fun q => ne_CREATES_CREDENTIAL (Value.ref.inj q)) (by decide) (by decide) ?_
      show Steps p.tables e below (T130.setTop (mkF m 147 #[.val (.int p1), .val (.ref b1), .val (.ref w_CREATES), .unset, .unset] [])) _
      refine XS.iconst X130.here hx rfl (hb hby at_147) ?_
      show Steps p.tables e below (T130.setTop (mkF m 148 #[.val (.int p1), .val (.ref b1), .val (.ref w_CREATES), .unset, .unset] [(.int (0 : Int32))])) _
      refine XS.istoreN X130.here hx rfl (hb hby at_148) rfl (l' := #[.val (.int p1), .val (.ref b1), .val (.ref w_CREATES), .val (.int (0 : Int32)), .unset]) rfl ?_
      show Steps p.tables e below (T130.setTop (mkF m 149 #[.val (.int p1), .val (.ref b1), .val (.ref w_CREATES), .val (.int (0 : Int32)), .unset] [])) _
      refine XS.aloadN X130.here hx rfl (hb hby at_149) rfl rfl ?_
      show Steps p.tables e below (T130.setTop (mkF m 150 #[.val (.int p1), .val (.ref b1), .val (.ref w_CREATES), .val (.int (0 : Int32)), .unset] [(.ref w_CREATES)])) _
      refine st131.trans ?_
      show Steps p.tables e below (T131.setTop (mkF m 153 #[.val (.int p1), .val (.ref b1), .val (.ref w_CREATES), .val (.int (0 : Int32)), .unset] [(.int (0 : Int32))])) _
      refine XS.istore X131.here hx rfl (hb hby at_153) rfl (l' := #[.val (.int p1), .val (.ref b1), .val (.ref w_CREATES), .val (.int (0 : Int32)), .val (.int (0 : Int32))]) rfl ?_
      show Steps p.tables e below (T131.setTop (mkF m 155 #[.val (.int p1), .val (.ref b1), .val (.ref w_CREATES), .val (.int (0 : Int32)), .val (.int (0 : Int32))] [])) _
      refine XS.iload X131.here hx rfl (hb hby at_155) rfl ?_
      show Steps p.tables e below (T131.setTop (mkF m 157 #[.val (.int p1), .val (.ref b1), .val (.ref w_CREATES), .val (.int (0 : Int32)), .val (.int (0 : Int32))] [(.int (0 : Int32))])) _
      refine XS.iloadN X131.here hx rfl (hb hby at_157) rfl ?_
      show Steps p.tables e below (T131.setTop (mkF m 158 #[.val (.int p1), .val (.ref b1), .val (.ref w_CREATES), .val (.int (0 : Int32)), .val (.int (0 : Int32))] [(.int (0 : Int32)), (.int (0 : Int32))])) _
      refine XS.icmpNo X131.here hx rfl (hb hby at_158) rfl (teq (by decide : (0 : Int32) = (0 : Int32))).2 ?_
      show Steps p.tables e below (T131.setTop (mkF m 161 #[.val (.int p1), .val (.ref b1), .val (.ref w_CREATES), .val (.int (0 : Int32)), .val (.int (0 : Int32))] [])) _
      refine XS.iload X131.here hx rfl (hb hby at_161) rfl ?_
      show Steps p.tables e below (T131.setTop (mkF m 163 #[.val (.int p1), .val (.ref b1), .val (.ref w_CREATES), .val (.int (0 : Int32)), .val (.int (0 : Int32))] [(.int (0 : Int32))])) _
      refine XS.ifYes X131.here hx rfl (pc0 := 163) (pc' := 173) rfl (hb hby at_163) rfl ((if0 _ _).trans (teq (by decide : (0 : Int32) = (0 : Int32))).1) (by decide) (by decide) ?_
      show Steps p.tables e below (T131.setTop (mkF m 173 #[.val (.int p1), .val (.ref b1), .val (.ref w_CREATES), .val (.int (0 : Int32)), .val (.int (0 : Int32))] [])) _
      refine XS.iconst X131.here hx rfl (hb hby at_173) ?_
      show Steps p.tables e below (T131.setTop (mkF m 174 #[.val (.int p1), .val (.ref b1), .val (.ref w_CREATES), .val (.int (0 : Int32)), .val (.int (0 : Int32))] [(.int (1 : Int32))])) _
      refine XS.goto X131.here hx rfl (pc0 := 174) (pc' := 178) rfl (hb hby at_174) (by decide) (by decide) ?_
      show Steps p.tables e below (T131.setTop (mkF m 178 #[.val (.int p1), .val (.ref b1), .val (.ref w_CREATES), .val (.int (0 : Int32)), .val (.int (0 : Int32))] [(.int (1 : Int32))])) _
      exact retN X131 hx (t := .boolean) Bd.returns (by simp) (hb hby at_178) hr
    · show Q0_0 Z p1 w_POD w_BASE w_RESOURCE w_AGENT w_CLIENT w_ISSUER w_OWNER w_CREATOR w_CREDENTIAL w_REQUESTS w_AGENTS w_STATS w_WAC_ALLOW w_METHOD w_CREATES w_REMOVES w_PORT w_VALUE w_REPEATED_VALUE w_FLAG h0 n0 _ T131.heap _
      rw [e131]
      exact ⟨rfl, N131⟩
  ·
    obtain ⟨cl132, Ar132, qq132, Sz132, Nn132, Hs132, Gs132⟩ := V_b1_52
    have hin132 : ¬ ((15 : Int32) < 0 ∨ cl132.slots.size ≤ ((15 : Int32)).toNatClampNeg) := inb_of Sz132 ⟨by decide, by decide⟩
    have hat132 : cl132.slots[((15 : Int32)).toNatClampNeg]? = some (.ref w_REMOVES) := Has.at Hs132 hin132 rfl
    obtain ⟨T133, X133, e133, st133⟩ := getS2 X52 hx hZ hown (host := "") (Or.inl (hw _ (List.mem_of_getElem? (i := 16) rfl))) Via.refl e52 (own_staK S_OWNER K52 all0) (g := (mkF m 130 #[.val (.int p1), .val (.ref b1), .val (.ref w_REMOVES), .unset, .unset] [(.ref w_REMOVES)])) rfl (hb hby at_130)
    obtain ⟨T134, X134, e134, st134⟩ := getS2 X133 hx hZ hown (host := "") (Or.inl (hw _ (List.mem_of_getElem? (i := 20) rfl))) Via.refl e133 (own_staK S_CREDENTIAL K52 all0) (g := (mkF m 137 #[.val (.int p1), .val (.ref b1), .val (.ref w_REMOVES), .unset, .unset] [(.ref w_REMOVES)])) rfl (hb hby at_137)
    obtain ⟨cq135, kq135, q135a, q135b, q135c⟩ := isOf hZ e134 (E_REMOVES.keep K52)
    obtain ⟨_, _, ⟨T135, L135, k135, n135⟩, -, X135, ⟨Lc135, hQ135, l135, y135, z135⟩, st135⟩ := X134.virtualBack hx (y := (⟨"com/example/garm/garm/command/Option", "isRepeatable", "()Z"⟩ : MethodName)) (z := (⟨"com/example/garm/garm/command/Option", "isRepeatable", "()Z"⟩ : MethodName)) hown (mvT hZ (hw _ (List.mem_of_getElem? (i := 39) rfl))) (mvT hZ (hw _ (List.mem_of_getElem? (i := 40) rfl))) (notFace_of_selects (args := #[]) (mvT hZ (hw _ (List.mem_of_getElem? (i := 42) rfl)))) (mvT hZ (hw _ (List.mem_of_getElem? (i := 42) rfl))) (mvT hZ (hw _ (List.mem_of_getElem? (i := 41) rfl))) (by decide) (backOf (W := 0) (rm1_15 l Z a0 hw [] w_REMOVES w_REPEATED_VALUE w_FLAG h52 n0 (Nat.le_trans Z0 K52.1) (F_form_REMOVES.keep K52 nin0) (own_staK S_REPEATED_VALUE K52 all0) ne_FLAG_REPEATED_VALUE) hZ (hw _ (List.mem_of_getElem? (i := 43) rfl)) (hw _ (List.mem_of_getElem? (i := 3) rfl)) (by decide) (by decide)) q135a q135c (g := (mkF m 150 #[.val (.int p1), .val (.ref b1), .val (.ref w_REMOVES), .val (.int (0 : Int32)), .unset] [(.ref w_REMOVES)])) rfl (by rw [hml]; rfl) (Steps.refl _) (argsL := []) (rest := []) (lenOf pd_0 rfl) rfl (by show 2 * 0 + _ ≤ _; exact Nat.le_of_eq rfl) (hb hby at_150) (fun _ _ => ⟨rfl, e134, (by decide : 1 + 0 ≤ _), (by decide : 17 + 0 ≤ _)⟩)
    dsimp only [Pt.U, Pt.locs, Pt.cells, Pt.slots] at X135 l135 y135 z135 st135 hQ135
    subst l135 y135 z135
    obtain ⟨rfl, N135q, e135⟩ := hQ135
    have N135 := Fr.app N52 N135q
    obtain ⟨fs, hr, hrun, hended, hW, hsame⟩ := X135.leave (v := some (.int (1 : Int32))) (fun h => by rw [Bd.returns] at h; cases h)
    refine ⟨_, _, k53 _ ?_, hrun, hended, _, _, rfl, ?_, ⟨_, rfl⟩, hW, hsame.mono (by decide) (by decide)⟩
    ·
      show Steps p.tables e below (T52.setTop (mkF m 127 #[.val (.int p1), .val (.ref b1), .unset, .unset, .unset] [(.int ((p1 &&& (2147483647 : Int32)) % (17 : Int32))), (.ref b1)])) _
      rewrite [hk69_15]
      show Steps p.tables e below (T52.setTop (mkF m 127 #[.val (.int p1), .val (.ref b1), .unset, .unset, .unset] [(.int (15 : Int32)), (.ref b1)])) _
      refine X52.aaload hx (j := (15 : Int32)) (v := (.ref w_REMOVES)) (by rw [e52]; exact Ar132.1) (State.isArrayOf_alike hZ.alike Ar132.2.1) rfl Ar132.2.2 hin132 hat132 (g := (mkF m 127 #[.val (.int p1), .val (.ref b1), .unset, .unset, .unset] [(.int (15 : Int32)), (.ref b1)])) rfl rfl (hb hby at_127) _ ?_
      show Steps p.tables e below (T52.setTop (mkF m 128 #[.val (.int p1), .val (.ref b1), .unset, .unset, .unset] [(.ref w_REMOVES)])) _
      refine XS.astoreN X52.here hx rfl (hb hby at_128) rfl rfl (l' := #[.val (.int p1), .val (.ref b1), .val (.ref w_REMOVES), .unset, .unset]) rfl ?_
      show Steps p.tables e below (T52.setTop (mkF m 129 #[.val (.int p1), .val (.ref b1), .val (.ref w_REMOVES), .unset, .unset] [])) _
      refine XS.aloadN X52.here hx rfl (hb hby at_129) rfl rfl ?_
      show Steps p.tables e below (T52.setTop (mkF m 130 #[.val (.int p1), .val (.ref b1), .val (.ref w_REMOVES), .unset, .unset] [(.ref w_REMOVES)])) _
      refine st133 _ ?_
      show Steps p.tables e below (T133.setTop (mkF m 133 #[.val (.int p1), .val (.ref b1), .val (.ref w_REMOVES), .unset, .unset] [(.ref w_OWNER), (.ref w_REMOVES)])) _
      refine Jvm.RoadKit.acmp (g := (mkF m 133 #[.val (.int p1), .val (.ref b1), .val (.ref w_REMOVES), .unset, .unset] [(.ref w_OWNER), (.ref w_REMOVES)])) X133 hx rfl rfl rfl (pc0 := 133) (pc' := 136) (same := false) rfl (hb hby at_133) rfl (decide_eq_false fun q => (Ne.symm ne_OWNER_REMOVES) (Value.ref.inj q)) (by decide) (by decide) ?_
      show Steps p.tables e below (T133.setTop (mkF m 136 #[.val (.int p1), .val (.ref b1), .val (.ref w_REMOVES), .unset, .unset] [])) _
      refine XS.aloadN X133.here hx rfl (hb hby at_136) rfl rfl ?_
      show Steps p.tables e below (T133.setTop (mkF m 137 #[.val (.int p1), .val (.ref b1), .val (.ref w_REMOVES), .unset, .unset] [(.ref w_REMOVES)])) _
      refine st134 _ ?_
      show Steps p.tables e below (T134.setTop (mkF m 140 #[.val (.int p1), .val (.ref b1), .val (.ref w_REMOVES), .unset, .unset] [(.ref w_CREDENTIAL), (.ref w_REMOVES)])) _
      refine Jvm.RoadKit.acmp (g := (mkF m 140 #[.val (.int p1), .val (.ref b1), .val (.ref w_REMOVES), .unset, .unset] [(.ref w_CREDENTIAL), (.ref w_REMOVES)])) X134 hx rfl rfl rfl (pc0 := 140) (pc' := 147) (same := false) rfl (hb hby at_140) rfl (decide_eq_false fun q => (Ne.symm ne_CREDENTIAL_REMOVES) (Value.ref.inj q)) (by decide) (by decide) ?_
      show Steps p.tables e below (T134.setTop (mkF m 147 #[.val (.int p1), .val (.ref b1), .val (.ref w_REMOVES), .unset, .unset] [])) _
      refine XS.iconst X134.here hx rfl (hb hby at_147) ?_
      show Steps p.tables e below (T134.setTop (mkF m 148 #[.val (.int p1), .val (.ref b1), .val (.ref w_REMOVES), .unset, .unset] [(.int (0 : Int32))])) _
      refine XS.istoreN X134.here hx rfl (hb hby at_148) rfl (l' := #[.val (.int p1), .val (.ref b1), .val (.ref w_REMOVES), .val (.int (0 : Int32)), .unset]) rfl ?_
      show Steps p.tables e below (T134.setTop (mkF m 149 #[.val (.int p1), .val (.ref b1), .val (.ref w_REMOVES), .val (.int (0 : Int32)), .unset] [])) _
      refine XS.aloadN X134.here hx rfl (hb hby at_149) rfl rfl ?_
      show Steps p.tables e below (T134.setTop (mkF m 150 #[.val (.int p1), .val (.ref b1), .val (.ref w_REMOVES), .val (.int (0 : Int32)), .unset] [(.ref w_REMOVES)])) _
      refine st135.trans ?_
      show Steps p.tables e below (T135.setTop (mkF m 153 #[.val (.int p1), .val (.ref b1), .val (.ref w_REMOVES), .val (.int (0 : Int32)), .unset] [(.int (0 : Int32))])) _
      refine XS.istore X135.here hx rfl (hb hby at_153) rfl (l' := #[.val (.int p1), .val (.ref b1), .val (.ref w_REMOVES), .val (.int (0 : Int32)), .val (.int (0 : Int32))]) rfl ?_
      show Steps p.tables e below (T135.setTop (mkF m 155 #[.val (.int p1), .val (.ref b1), .val (.ref w_REMOVES), .val (.int (0 : Int32)), .val (.int (0 : Int32))] [])) _
      refine XS.iload X135.here hx rfl (hb hby at_155) rfl ?_
      show Steps p.tables e below (T135.setTop (mkF m 157 #[.val (.int p1), .val (.ref b1), .val (.ref w_REMOVES), .val (.int (0 : Int32)), .val (.int (0 : Int32))] [(.int (0 : Int32))])) _
      refine XS.iloadN X135.here hx rfl (hb hby at_157) rfl ?_
      show Steps p.tables e below (T135.setTop (mkF m 158 #[.val (.int p1), .val (.ref b1), .val (.ref w_REMOVES), .val (.int (0 : Int32)), .val (.int (0 : Int32))] [(.int (0 : Int32)), (.int (0 : Int32))])) _
      refine XS.icmpNo X135.here hx rfl (hb hby at_158) rfl (teq (by decide : (0 : Int32) = (0 : Int32))).2 ?_
      show Steps p.tables e below (T135.setTop (mkF m 161 #[.val (.int p1), .val (.ref b1), .val (.ref w_REMOVES), .val (.int (0 : Int32)), .val (.int (0 : Int32))] [])) _
      refine XS.iload X135.here hx rfl (hb hby at_161) rfl ?_
      show Steps p.tables e below (T135.setTop (mkF m 163 #[.val (.int p1), .val (.ref b1), .val (.ref w_REMOVES), .val (.int (0 : Int32)), .val (.int (0 : Int32))] [(.int (0 : Int32))])) _
      refine XS.ifYes X135.here hx rfl (pc0 := 163) (pc' := 173) rfl (hb hby at_163) rfl ((if0 _ _).trans (teq (by decide : (0 : Int32) = (0 : Int32))).1) (by decide) (by decide) ?_
      show Steps p.tables e below (T135.setTop (mkF m 173 #[.val (.int p1), .val (.ref b1), .val (.ref w_REMOVES), .val (.int (0 : Int32)), .val (.int (0 : Int32))] [])) _
      refine XS.iconst X135.here hx rfl (hb hby at_173) ?_
      show Steps p.tables e below (T135.setTop (mkF m 174 #[.val (.int p1), .val (.ref b1), .val (.ref w_REMOVES), .val (.int (0 : Int32)), .val (.int (0 : Int32))] [(.int (1 : Int32))])) _
      refine XS.goto X135.here hx rfl (pc0 := 174) (pc' := 178) rfl (hb hby at_174) (by decide) (by decide) ?_
      show Steps p.tables e below (T135.setTop (mkF m 178 #[.val (.int p1), .val (.ref b1), .val (.ref w_REMOVES), .val (.int (0 : Int32)), .val (.int (0 : Int32))] [(.int (1 : Int32))])) _
      exact retN X135 hx (t := .boolean) Bd.returns (by simp) (hb hby at_178) hr
    · show Q0_0 Z p1 w_POD w_BASE w_RESOURCE w_AGENT w_CLIENT w_ISSUER w_OWNER w_CREATOR w_CREDENTIAL w_REQUESTS w_AGENTS w_STATS w_WAC_ALLOW w_METHOD w_CREATES w_REMOVES w_PORT w_VALUE w_REPEATED_VALUE w_FLAG h0 n0 _ T135.heap _
      rw [e135]
      exact ⟨rfl, N135⟩
  ·
    obtain ⟨cl136, Ar136, qq136, Sz136, Nn136, Hs136, Gs136⟩ := V_b1_52
    have hin136 : ¬ ((16 : Int32) < 0 ∨ cl136.slots.size ≤ ((16 : Int32)).toNatClampNeg) := inb_of Sz136 ⟨by decide, by decide⟩
    have hat136 : cl136.slots[((16 : Int32)).toNatClampNeg]? = some (.ref w_PORT) := Has.at Hs136 hin136 rfl
    obtain ⟨T137, X137, e137, st137⟩ := getS2 X52 hx hZ hown (host := "") (Or.inl (hw _ (List.mem_of_getElem? (i := 16) rfl))) Via.refl e52 (own_staK S_OWNER K52 all0) (g := (mkF m 130 #[.val (.int p1), .val (.ref b1), .val (.ref w_PORT), .unset, .unset] [(.ref w_PORT)])) rfl (hb hby at_130)
    obtain ⟨T138, X138, e138, st138⟩ := getS2 X137 hx hZ hown (host := "") (Or.inl (hw _ (List.mem_of_getElem? (i := 20) rfl))) Via.refl e137 (own_staK S_CREDENTIAL K52 all0) (g := (mkF m 137 #[.val (.int p1), .val (.ref b1), .val (.ref w_PORT), .unset, .unset] [(.ref w_PORT)])) rfl (hb hby at_137)
    obtain ⟨cq139, kq139, q139a, q139b, q139c⟩ := isOf hZ e138 (E_PORT.keep K52)
    obtain ⟨_, _, ⟨T139, L139, k139, n139⟩, -, X139, ⟨Lc139, hQ139, l139, y139, z139⟩, st139⟩ := X138.virtualBack hx (y := (⟨"com/example/garm/garm/command/Option", "isRepeatable", "()Z"⟩ : MethodName)) (z := (⟨"com/example/garm/garm/command/Option", "isRepeatable", "()Z"⟩ : MethodName)) hown (mvT hZ (hw _ (List.mem_of_getElem? (i := 39) rfl))) (mvT hZ (hw _ (List.mem_of_getElem? (i := 40) rfl))) (notFace_of_selects (args := #[]) (mvT hZ (hw _ (List.mem_of_getElem? (i := 42) rfl)))) (mvT hZ (hw _ (List.mem_of_getElem? (i := 42) rfl))) (mvT hZ (hw _ (List.mem_of_getElem? (i := 41) rfl))) (by decide) (backOf (W := 0) (rm1_16 l Z a0 hw [] w_PORT w_VALUE w_REPEATED_VALUE h52 n0 (Nat.le_trans Z0 K52.1) (F_form_PORT.keep K52 nin0) (own_staK S_REPEATED_VALUE K52 all0) ne_REPEATED_VALUE_VALUE) hZ (hw _ (List.mem_of_getElem? (i := 43) rfl)) (hw _ (List.mem_of_getElem? (i := 3) rfl)) (by decide) (by decide)) q139a q139c (g := (mkF m 150 #[.val (.int p1), .val (.ref b1), .val (.ref w_PORT), .val (.int (0 : Int32)), .unset] [(.ref w_PORT)])) rfl (by rw [hml]; rfl) (Steps.refl _) (argsL := []) (rest := []) (lenOf pd_0 rfl) rfl (by show 2 * 0 + _ ≤ _; exact Nat.le_of_eq rfl) (hb hby at_150) (fun _ _ => ⟨rfl, e138, (by decide : 1 + 0 ≤ _), (by decide : 17 + 0 ≤ _)⟩)
    dsimp only [Pt.U, Pt.locs, Pt.cells, Pt.slots] at X139 l139 y139 z139 st139 hQ139
    subst l139 y139 z139
    obtain ⟨rfl, N139q, e139⟩ := hQ139
    have N139 := Fr.app N52 N139q
    obtain ⟨fs, hr, hrun, hended, hW, hsame⟩ := X139.leave (v := some (.int (1 : Int32))) (fun h => by rw [Bd.returns] at h; cases h)
    refine ⟨_, _, k53 _ ?_, hrun, hended, _, _, rfl, ?_, ⟨_, rfl⟩, hW, hsame.mono (by decide) (by decide)⟩
    ·
      show Steps p.tables e below (T52.setTop (mkF m 127 #[.val (.int p1), .val (.ref b1), .unset, .unset, .unset] [(.int ((p1 &&& (2147483647 : Int32)) % (17 : Int32))), (.ref b1)])) _
      rewrite [hk70_16]
      show Steps p.tables e below (T52.setTop (mkF m 127 #[.val (.int p1), .val (.ref b1), .unset, .unset, .unset] [(.int (16 : Int32)), (.ref b1)])) _
      refine X52.aaload hx (j := (16 : Int32)) (v := (.ref w_PORT)) (by rw [e52]; exact Ar136.1) (State.isArrayOf_alike hZ.alike Ar136.2.1) rfl Ar136.2.2 hin136 hat136 (g := (mkF m 127 #[.val (.int p1), .val (.ref b1), .unset, .unset, .unset] [(.int (16 : Int32)), (.ref b1)])) rfl rfl (hb hby at_127) _ ?_
      show Steps p.tables e below (T52.setTop (mkF m 128 #[.val (.int p1), .val (.ref b1), .unset, .unset, .unset] [(.ref w_PORT)])) _
      refine XS.astoreN X52.here hx rfl (hb hby at_128) rfl rfl (l' := #[.val (.int p1), .val (.ref b1), .val (.ref w_PORT), .unset, .unset]) rfl ?_
      show Steps p.tables e below (T52.setTop (mkF m 129 #[.val (.int p1), .val (.ref b1), .val (.ref w_PORT), .unset, .unset] [])) _
      refine XS.aloadN X52.here hx rfl (hb hby at_129) rfl rfl ?_
      show Steps p.tables e below (T52.setTop (mkF m 130 #[.val (.int p1), .val (.ref b1), .val (.ref w_PORT), .unset, .unset] [(.ref w_PORT)])) _
      refine st137 _ ?_
      show Steps p.tables e below (T137.setTop (mkF m 133 #[.val (.int p1), .val (.ref b1), .val (.ref w_PORT), .unset, .unset] [(.ref w_OWNER), (.ref w_PORT)])) _
      refine Jvm.RoadKit.acmp (g := (mkF m 133 #[.val (.int p1), .val (.ref b1), .val (.ref w_PORT), .unset, .unset] [(.ref w_OWNER), (.ref w_PORT)])) X137 hx rfl rfl rfl (pc0 := 133) (pc' := 136) (same := false) rfl (hb hby at_133) rfl (decide_eq_false fun q => (Ne.symm ne_OWNER_PORT) (Value.ref.inj q)) (by decide) (by decide) ?_
      show Steps p.tables e below (T137.setTop (mkF m 136 #[.val (.int p1), .val (.ref b1), .val (.ref w_PORT), .unset, .unset] [])) _
      refine XS.aloadN X137.here hx rfl (hb hby at_136) rfl rfl ?_
      show Steps p.tables e below (T137.setTop (mkF m 137 #[.val (.int p1), .val (.ref b1), .val (.ref w_PORT), .unset, .unset] [(.ref w_PORT)])) _
      refine st138 _ ?_
      show Steps p.tables e below (T138.setTop (mkF m 140 #[.val (.int p1), .val (.ref b1), .val (.ref w_PORT), .unset, .unset] [(.ref w_CREDENTIAL), (.ref w_PORT)])) _
      refine Jvm.RoadKit.acmp (g := (mkF m 140 #[.val (.int p1), .val (.ref b1), .val (.ref w_PORT), .unset, .unset] [(.ref w_CREDENTIAL), (.ref w_PORT)])) X138 hx rfl rfl rfl (pc0 := 140) (pc' := 147) (same := false) rfl (hb hby at_140) rfl (decide_eq_false fun q => (Ne.symm ne_CREDENTIAL_PORT) (Value.ref.inj q)) (by decide) (by decide) ?_
      show Steps p.tables e below (T138.setTop (mkF m 147 #[.val (.int p1), .val (.ref b1), .val (.ref w_PORT), .unset, .unset] [])) _
      refine XS.iconst X138.here hx rfl (hb hby at_147) ?_
      show Steps p.tables e below (T138.setTop (mkF m 148 #[.val (.int p1), .val (.ref b1), .val (.ref w_PORT), .unset, .unset] [(.int (0 : Int32))])) _
      refine XS.istoreN X138.here hx rfl (hb hby at_148) rfl (l' := #[.val (.int p1), .val (.ref b1), .val (.ref w_PORT), .val (.int (0 : Int32)), .unset]) rfl ?_
      show Steps p.tables e below (T138.setTop (mkF m 149 #[.val (.int p1), .val (.ref b1), .val (.ref w_PORT), .val (.int (0 : Int32)), .unset] [])) _
      refine XS.aloadN X138.here hx rfl (hb hby at_149) rfl rfl ?_
      show Steps p.tables e below (T138.setTop (mkF m 150 #[.val (.int p1), .val (.ref b1), .val (.ref w_PORT), .val (.int (0 : Int32)), .unset] [(.ref w_PORT)])) _
      refine st139.trans ?_
      show Steps p.tables e below (T139.setTop (mkF m 153 #[.val (.int p1), .val (.ref b1), .val (.ref w_PORT), .val (.int (0 : Int32)), .unset] [(.int (0 : Int32))])) _
      refine XS.istore X139.here hx rfl (hb hby at_153) rfl (l' := #[.val (.int p1), .val (.ref b1), .val (.ref w_PORT), .val (.int (0 : Int32)), .val (.int (0 : Int32))]) rfl ?_
      show Steps p.tables e below (T139.setTop (mkF m 155 #[.val (.int p1), .val (.ref b1), .val (.ref w_PORT), .val (.int (0 : Int32)), .val (.int (0 : Int32))] [])) _
      refine XS.iload X139.here hx rfl (hb hby at_155) rfl ?_
      show Steps p.tables e below (T139.setTop (mkF m 157 #[.val (.int p1), .val (.ref b1), .val (.ref w_PORT), .val (.int (0 : Int32)), .val (.int (0 : Int32))] [(.int (0 : Int32))])) _
      refine XS.iloadN X139.here hx rfl (hb hby at_157) rfl ?_
      show Steps p.tables e below (T139.setTop (mkF m 158 #[.val (.int p1), .val (.ref b1), .val (.ref w_PORT), .val (.int (0 : Int32)), .val (.int (0 : Int32))] [(.int (0 : Int32)), (.int (0 : Int32))])) _
      refine XS.icmpNo X139.here hx rfl (hb hby at_158) rfl (teq (by decide : (0 : Int32) = (0 : Int32))).2 ?_
      show Steps p.tables e below (T139.setTop (mkF m 161 #[.val (.int p1), .val (.ref b1), .val (.ref w_PORT), .val (.int (0 : Int32)), .val (.int (0 : Int32))] [])) _
      refine XS.iload X139.here hx rfl (hb hby at_161) rfl ?_
      show Steps p.tables e below (T139.setTop (mkF m 163 #[.val (.int p1), .val (.ref b1), .val (.ref w_PORT), .val (.int (0 : Int32)), .val (.int (0 : Int32))] [(.int (0 : Int32))])) _
      refine XS.ifYes X139.here hx rfl (pc0 := 163) (pc' := 173) rfl (hb hby at_163) rfl ((if0 _ _).trans (teq (by decide : (0 : Int32) = (0 : Int32))).1) (by decide) (by decide) ?_
      show Steps p.tables e below (T139.setTop (mkF m 173 #[.val (.int p1), .val (.ref b1), .val (.ref w_PORT), .val (.int (0 : Int32)), .val (.int (0 : Int32))] [])) _
      refine XS.iconst X139.here hx rfl (hb hby at_173) ?_
      show Steps p.tables e below (T139.setTop (mkF m 174 #[.val (.int p1), .val (.ref b1), .val (.ref w_PORT), .val (.int (0 : Int32)), .val (.int (0 : Int32))] [(.int (1 : Int32))])) _
      refine XS.goto X139.here hx rfl (pc0 := 174) (pc' := 178) rfl (hb hby at_174) (by decide) (by decide) ?_
      show Steps p.tables e below (T139.setTop (mkF m 178 #[.val (.int p1), .val (.ref b1), .val (.ref w_PORT), .val (.int (0 : Int32)), .val (.int (0 : Int32))] [(.int (1 : Int32))])) _
      exact retN X139 hx (t := .boolean) Bd.returns (by simp) (hb hby at_178) hr
    · show Q0_0 Z p1 w_POD w_BASE w_RESOURCE w_AGENT w_CLIENT w_ISSUER w_OWNER w_CREATOR w_CREDENTIAL w_REQUESTS w_AGENTS w_STATS w_WAC_ALLOW w_METHOD w_CREATES w_REMOVES w_PORT w_VALUE w_REPEATED_VALUE w_FLAG h0 n0 _ T139.heap _
      rw [e139]
      exact ⟨rfl, N139⟩
set_option maxRecDepth 65536 in
set_option maxHeartbeats 40000000 in
theorem comes_1 {Post : Tables → Env → Array Value → State → Outcome → State → Prop} (hpost : ∀ tb e args s v u, (limb_1_1.after args s (.returned v) u = true ∧ limb_1_2.after args s (.returned v) u = true ∧ True) → FrameEnd s (.returned v) u (Jvm.fieldLocs frame_1_writes args s ++ Jvm.arrayLocs frame_1_arrays args s ++ Jvm.staticLocs frame_1_statics s) 16 128 → Post tb e args s (.returned v) u) :
    ArmFor flags0 classFile x code maxLocals ret World_1 tables_1 room_1 Calls_1 rest_1 Pre_1 Post := by
  intro l hfl _ _ p e ha hc hk s m args below hf hA hF happ hP
  obtain ⟨hcalls, hrest, hpre⟩ := hP
  obtain ⟨-, -, -, hnamed, -, -, -, hat⟩ := (Spec.applies_iff hf).mp happ
  obtain ⟨hg, hn⟩ := and_e (Cond.before_iff.mp (show (Jvm.Cond.and given_1 narrow_1).before args s = true from hpre))
  obtain ⟨g1a, g1b⟩ := and_e hg
  obtain ⟨a0w, rfl⟩ : ∃ a0w : Value, args = #[a0w] := by
    have hs : args.size = 1 := by simpa [Cond.value, given_1] using g1a
    obtain ⟨L⟩ := args
    match L, hs with
    | [a0w], _ => exact ⟨a0w, rfl⟩
  have hw := fun d (hd : d ∈ tables_1) => atoms_spec (ws := Jvm.Cond.code x code maxLocals ret :: tables_1) hat d (List.mem_cons_of_mem _ hd)
  have hfit : Fit s := fun {y c} hc i hi => by
    obtain ⟨ha, rfl⟩ := Array.getElem?_eq_some_iff.mp hc
    have q := List.all_eq_true.mp ((Array.all_eq_true_iff_forall_mem.mp hF) _ (Array.getElem_mem ha)) i (List.mem_range.mpr hi)
    simpa [Array.getElem?_eq_getElem hi] using q
  obtain ⟨i0, ei0⟩ := is_v g1b
  obtain rfl : a0w = (.int i0) := Option.some.inj ei0
  obtain ⟨hn0, hm0⟩ := and_e hn
  obtain ⟨hn1, hm1⟩ := and_e hm0
  obtain ⟨hn2, hm2⟩ := and_e hm1
  obtain ⟨hn3, hm3⟩ := and_e hm2
  obtain ⟨hn4, hm4⟩ := and_e hm3
  obtain ⟨hn5, hm5⟩ := and_e hm4
  obtain ⟨hn6, hm6⟩ := and_e hm5
  obtain ⟨hn7, hm7⟩ := and_e hm6
  obtain ⟨hn8, hm8⟩ := and_e hm7
  obtain ⟨hn9, hm9⟩ := and_e hm8
  obtain ⟨hn10, hm10⟩ := and_e hm9
  obtain ⟨hn11, hm11⟩ := and_e hm10
  obtain ⟨hn12, hm12⟩ := and_e hm11
  obtain ⟨hn13, hm13⟩ := and_e hm12
  obtain ⟨hn14, hm14⟩ := and_e hm13
  obtain ⟨hn15, hm15⟩ := and_e hm14
  obtain ⟨hn16, hm16⟩ := and_e hm15
  obtain ⟨hn17, hm17⟩ := and_e hm16
  obtain ⟨hn18, hm18⟩ := and_e hm17
  obtain ⟨hn19, hm19⟩ := and_e hm18
  obtain ⟨hn20, hm20⟩ := and_e hm19
  obtain ⟨hn21, hm21⟩ := and_e hm20
  obtain ⟨hn22, hm22⟩ := and_e hm21
  obtain ⟨hn23, hm23⟩ := and_e hm22
  obtain ⟨hn24, hm24⟩ := and_e hm23
  obtain ⟨hn25, hm25⟩ := and_e hm24
  obtain ⟨hn26, hm26⟩ := and_e hm25
  obtain ⟨hn27, hm27⟩ := and_e hm26
  obtain ⟨hn28, hm28⟩ := and_e hm27
  obtain ⟨hn29, hm29⟩ := and_e hm28
  obtain ⟨hn30, hm30⟩ := and_e hm29
  obtain ⟨hn31, hm31⟩ := and_e hm30
  obtain ⟨hn32, hm32⟩ := and_e hm31
  obtain ⟨hn33, hm33⟩ := and_e hm32
  obtain ⟨hn34, hm34⟩ := and_e hm33
  obtain ⟨hn35, hm35⟩ := and_e hm34
  obtain ⟨hn36, hm36⟩ := and_e hm35
  obtain ⟨hn37, hm37⟩ := and_e hm36
  obtain ⟨hn38, hm38⟩ := and_e hm37
  obtain ⟨hn39, hm39⟩ := and_e hm38
  obtain ⟨hn40, hm40⟩ := and_e hm39
  obtain ⟨hn41, hm41⟩ := and_e hm40
  obtain ⟨hn42, hm42⟩ := and_e hm41
  obtain ⟨hn43, hm43⟩ := and_e hm42
  obtain ⟨hn44, hm44⟩ := and_e hm43
  obtain ⟨hn45, hm45⟩ := and_e hm44
  obtain ⟨hn46, hm46⟩ := and_e hm45
  obtain ⟨hn47, hm47⟩ := and_e hm46
  obtain ⟨hn48, hm48⟩ := and_e hm47
  obtain ⟨hn49, hm49⟩ := and_e hm48
  obtain ⟨hn50, hm50⟩ := and_e hm49
  obtain ⟨hn51, hm51⟩ := and_e hm50
  obtain ⟨hn52, hm52⟩ := and_e hm51
  obtain ⟨hn53, hm53⟩ := and_e hm52
  obtain ⟨hn54, hm54⟩ := and_e hm53
  obtain ⟨hn55, hm55⟩ := and_e hm54
  obtain ⟨w_POD, v_POD⟩ := exa_v hn0
  have S_POD := Sta.start v_POD (Or.inr ⟨(hw _ (List.mem_of_getElem? (i := 3) rfl)), (hw _ (List.mem_of_getElem? (i := 4) rfl))⟩)
  have E_POD := Exa.start v_POD hn0
  obtain ⟨w_BASE, v_BASE⟩ := exa_v hn1
  have S_BASE := Sta.start v_BASE (Or.inr ⟨(hw _ (List.mem_of_getElem? (i := 3) rfl)), (hw _ (List.mem_of_getElem? (i := 7) rfl))⟩)
  have E_BASE := Exa.start v_BASE hn1
  obtain ⟨w_RESOURCE, v_RESOURCE⟩ := exa_v hn2
  have S_RESOURCE := Sta.start v_RESOURCE (Or.inr ⟨(hw _ (List.mem_of_getElem? (i := 3) rfl)), (hw _ (List.mem_of_getElem? (i := 9) rfl))⟩)
  have E_RESOURCE := Exa.start v_RESOURCE hn2
  obtain ⟨w_AGENT, v_AGENT⟩ := exa_v hn3
  have S_AGENT := Sta.start v_AGENT (Or.inr ⟨(hw _ (List.mem_of_getElem? (i := 3) rfl)), (hw _ (List.mem_of_getElem? (i := 11) rfl))⟩)
  have E_AGENT := Exa.start v_AGENT hn3
  obtain ⟨w_CLIENT, v_CLIENT⟩ := exa_v hn4
  have S_CLIENT := Sta.start v_CLIENT (Or.inr ⟨(hw _ (List.mem_of_getElem? (i := 3) rfl)), (hw _ (List.mem_of_getElem? (i := 13) rfl))⟩)
  have E_CLIENT := Exa.start v_CLIENT hn4
  obtain ⟨w_ISSUER, v_ISSUER⟩ := exa_v hn5
  have S_ISSUER := Sta.start v_ISSUER (Or.inr ⟨(hw _ (List.mem_of_getElem? (i := 3) rfl)), (hw _ (List.mem_of_getElem? (i := 15) rfl))⟩)
  have E_ISSUER := Exa.start v_ISSUER hn5
  obtain ⟨w_OWNER, v_OWNER⟩ := exa_v hn6
  have S_OWNER := Sta.start v_OWNER (Or.inr ⟨(hw _ (List.mem_of_getElem? (i := 3) rfl)), (hw _ (List.mem_of_getElem? (i := 17) rfl))⟩)
  have E_OWNER := Exa.start v_OWNER hn6
  obtain ⟨w_CREATOR, v_CREATOR⟩ := exa_v hn7
  have S_CREATOR := Sta.start v_CREATOR (Or.inr ⟨(hw _ (List.mem_of_getElem? (i := 3) rfl)), (hw _ (List.mem_of_getElem? (i := 19) rfl))⟩)
  have E_CREATOR := Exa.start v_CREATOR hn7
  obtain ⟨w_CREDENTIAL, v_CREDENTIAL⟩ := exa_v hn8
  have S_CREDENTIAL := Sta.start v_CREDENTIAL (Or.inr ⟨(hw _ (List.mem_of_getElem? (i := 3) rfl)), (hw _ (List.mem_of_getElem? (i := 21) rfl))⟩)
  have E_CREDENTIAL := Exa.start v_CREDENTIAL hn8
  obtain ⟨w_REQUESTS, v_REQUESTS⟩ := exa_v hn9
  have S_REQUESTS := Sta.start v_REQUESTS (Or.inr ⟨(hw _ (List.mem_of_getElem? (i := 3) rfl)), (hw _ (List.mem_of_getElem? (i := 23) rfl))⟩)
  have E_REQUESTS := Exa.start v_REQUESTS hn9
  obtain ⟨w_AGENTS, v_AGENTS⟩ := exa_v hn10
  have S_AGENTS := Sta.start v_AGENTS (Or.inr ⟨(hw _ (List.mem_of_getElem? (i := 3) rfl)), (hw _ (List.mem_of_getElem? (i := 25) rfl))⟩)
  have E_AGENTS := Exa.start v_AGENTS hn10
  obtain ⟨w_STATS, v_STATS⟩ := exa_v hn11
  have S_STATS := Sta.start v_STATS (Or.inr ⟨(hw _ (List.mem_of_getElem? (i := 3) rfl)), (hw _ (List.mem_of_getElem? (i := 27) rfl))⟩)
  have E_STATS := Exa.start v_STATS hn11
  obtain ⟨w_WAC_ALLOW, v_WAC_ALLOW⟩ := exa_v hn12
  have S_WAC_ALLOW := Sta.start v_WAC_ALLOW (Or.inr ⟨(hw _ (List.mem_of_getElem? (i := 3) rfl)), (hw _ (List.mem_of_getElem? (i := 29) rfl))⟩)
  have E_WAC_ALLOW := Exa.start v_WAC_ALLOW hn12
  obtain ⟨w_METHOD, v_METHOD⟩ := exa_v hn13
  have S_METHOD := Sta.start v_METHOD (Or.inr ⟨(hw _ (List.mem_of_getElem? (i := 3) rfl)), (hw _ (List.mem_of_getElem? (i := 31) rfl))⟩)
  have E_METHOD := Exa.start v_METHOD hn13
  obtain ⟨w_CREATES, v_CREATES⟩ := exa_v hn14
  have S_CREATES := Sta.start v_CREATES (Or.inr ⟨(hw _ (List.mem_of_getElem? (i := 3) rfl)), (hw _ (List.mem_of_getElem? (i := 33) rfl))⟩)
  have E_CREATES := Exa.start v_CREATES hn14
  obtain ⟨w_REMOVES, v_REMOVES⟩ := exa_v hn15
  have S_REMOVES := Sta.start v_REMOVES (Or.inr ⟨(hw _ (List.mem_of_getElem? (i := 3) rfl)), (hw _ (List.mem_of_getElem? (i := 35) rfl))⟩)
  have E_REMOVES := Exa.start v_REMOVES hn15
  obtain ⟨w_PORT, v_PORT⟩ := exa_v hn16
  have S_PORT := Sta.start v_PORT (Or.inr ⟨(hw _ (List.mem_of_getElem? (i := 3) rfl)), (hw _ (List.mem_of_getElem? (i := 37) rfl))⟩)
  have E_PORT := Exa.start v_PORT hn16
  obtain ⟨w_VALUE, v_VALUE⟩ := exa_v hn20
  have S_VALUE := Sta.start v_VALUE (Or.inr ⟨(hw _ (List.mem_of_getElem? (i := 46) rfl)), (hw _ (List.mem_of_getElem? (i := 47) rfl))⟩)
  have E_VALUE := Exa.start v_VALUE hn20
  obtain ⟨w_REPEATED_VALUE, v_REPEATED_VALUE⟩ := exa_v hn22
  have S_REPEATED_VALUE := Sta.start v_REPEATED_VALUE (Or.inr ⟨(hw _ (List.mem_of_getElem? (i := 46) rfl)), (hw _ (List.mem_of_getElem? (i := 49) rfl))⟩)
  have E_REPEATED_VALUE := Exa.start v_REPEATED_VALUE hn22
  obtain ⟨w_FLAG, v_FLAG⟩ := exa_v hn28
  have S_FLAG := Sta.start v_FLAG (Or.inr ⟨(hw _ (List.mem_of_getElem? (i := 46) rfl)), (hw _ (List.mem_of_getElem? (i := 56) rfl))⟩)
  have E_FLAG := Exa.start v_FLAG hn28
  have F_ordinal_POD := Fld.start ((fld_at v_POD).symm.trans (own_eqI hn17))
  have F_ordinal_OWNER := Fld.start ((fld_at v_OWNER).symm.trans (own_eqI hn18))
  have F_ordinal_CREDENTIAL := Fld.start ((fld_at v_CREDENTIAL).symm.trans (own_eqI hn19))
  have F_form_POD := Fld.start ((fld_at v_POD).symm.trans (own_eqR hn21 v_VALUE))
  have F_ordinal_VALUE := Fld.start ((fld_at v_VALUE).symm.trans (own_eqI hn23))
  have F_ordinal_REPEATED_VALUE := Fld.start ((fld_at v_REPEATED_VALUE).symm.trans (own_eqI hn24))
  have F_ordinal_AGENT := Fld.start ((fld_at v_AGENT).symm.trans (own_eqI hn25))
  have F_form_AGENT := Fld.start ((fld_at v_AGENT).symm.trans (own_eqR hn26 v_VALUE))
  have F_form_CREDENTIAL := Fld.start ((fld_at v_CREDENTIAL).symm.trans (own_eqR hn27 v_REPEATED_VALUE))
  have F_ordinal_FLAG := Fld.start ((fld_at v_FLAG).symm.trans (own_eqI hn29))
  have F_ordinal_REQUESTS := Fld.start ((fld_at v_REQUESTS).symm.trans (own_eqI hn30))
  have F_form_REQUESTS := Fld.start ((fld_at v_REQUESTS).symm.trans (own_eqR hn31 v_VALUE))
  have F_form_OWNER := Fld.start ((fld_at v_OWNER).symm.trans (own_eqR hn32 v_REPEATED_VALUE))
  have F_ordinal_CREATOR := Fld.start ((fld_at v_CREATOR).symm.trans (own_eqI hn33))
  have F_form_CREATOR := Fld.start ((fld_at v_CREATOR).symm.trans (own_eqR hn34 v_VALUE))
  have F_ordinal_RESOURCE := Fld.start ((fld_at v_RESOURCE).symm.trans (own_eqI hn35))
  have F_form_RESOURCE := Fld.start ((fld_at v_RESOURCE).symm.trans (own_eqR hn36 v_VALUE))
  have F_ordinal_STATS := Fld.start ((fld_at v_STATS).symm.trans (own_eqI hn37))
  have F_form_STATS := Fld.start ((fld_at v_STATS).symm.trans (own_eqR hn38 v_FLAG))
  have F_ordinal_BASE := Fld.start ((fld_at v_BASE).symm.trans (own_eqI hn39))
  have F_form_BASE := Fld.start ((fld_at v_BASE).symm.trans (own_eqR hn40 v_VALUE))
  have F_ordinal_METHOD := Fld.start ((fld_at v_METHOD).symm.trans (own_eqI hn41))
  have F_form_METHOD := Fld.start ((fld_at v_METHOD).symm.trans (own_eqR hn42 v_VALUE))
  have F_ordinal_CLIENT := Fld.start ((fld_at v_CLIENT).symm.trans (own_eqI hn43))
  have F_form_CLIENT := Fld.start ((fld_at v_CLIENT).symm.trans (own_eqR hn44 v_VALUE))
  have F_ordinal_AGENTS := Fld.start ((fld_at v_AGENTS).symm.trans (own_eqI hn45))
  have F_form_AGENTS := Fld.start ((fld_at v_AGENTS).symm.trans (own_eqR hn46 v_VALUE))
  have F_ordinal_PORT := Fld.start ((fld_at v_PORT).symm.trans (own_eqI hn47))
  have F_form_PORT := Fld.start ((fld_at v_PORT).symm.trans (own_eqR hn48 v_VALUE))
  have F_ordinal_REMOVES := Fld.start ((fld_at v_REMOVES).symm.trans (own_eqI hn49))
  have F_form_REMOVES := Fld.start ((fld_at v_REMOVES).symm.trans (own_eqR hn50 v_FLAG))
  have F_ordinal_ISSUER := Fld.start ((fld_at v_ISSUER).symm.trans (own_eqI hn51))
  have F_form_ISSUER := Fld.start ((fld_at v_ISSUER).symm.trans (own_eqR hn52 v_VALUE))
  have F_ordinal_CREATES := Fld.start ((fld_at v_CREATES).symm.trans (own_eqI hn53))
  have F_form_CREATES := Fld.start ((fld_at v_CREATES).symm.trans (own_eqR hn54 v_FLAG))
  have F_ordinal_WAC_ALLOW := Fld.start ((fld_at v_WAC_ALLOW).symm.trans (own_eqI hn55))
  have F_form_WAC_ALLOW := Fld.start ((fld_at v_WAC_ALLOW).symm.trans (own_eqR hm55 v_FLAG))
  have ne_OWNER_POD := Fld.ne F_ordinal_OWNER F_ordinal_POD (fun q => absurd (Value.int.inj q) (by decide))
  have ne_CREDENTIAL_POD := Fld.ne F_ordinal_CREDENTIAL F_ordinal_POD (fun q => absurd (Value.int.inj q) (by decide))
  have ne_REPEATED_VALUE_VALUE := Fld.ne F_ordinal_REPEATED_VALUE F_ordinal_VALUE (fun q => absurd (Value.int.inj q) (by decide))
  have ne_BASE_OWNER := Fld.ne F_ordinal_BASE F_ordinal_OWNER (fun q => absurd (Value.int.inj q) (by decide))
  have ne_BASE_CREDENTIAL := Fld.ne F_ordinal_BASE F_ordinal_CREDENTIAL (fun q => absurd (Value.int.inj q) (by decide))
  have ne_OWNER_RESOURCE := Fld.ne F_ordinal_OWNER F_ordinal_RESOURCE (fun q => absurd (Value.int.inj q) (by decide))
  have ne_CREDENTIAL_RESOURCE := Fld.ne F_ordinal_CREDENTIAL F_ordinal_RESOURCE (fun q => absurd (Value.int.inj q) (by decide))
  have ne_AGENT_OWNER := Fld.ne F_ordinal_AGENT F_ordinal_OWNER (fun q => absurd (Value.int.inj q) (by decide))
  have ne_AGENT_CREDENTIAL := Fld.ne F_ordinal_AGENT F_ordinal_CREDENTIAL (fun q => absurd (Value.int.inj q) (by decide))
  have ne_CLIENT_OWNER := Fld.ne F_ordinal_CLIENT F_ordinal_OWNER (fun q => absurd (Value.int.inj q) (by decide))
  have ne_CLIENT_CREDENTIAL := Fld.ne F_ordinal_CLIENT F_ordinal_CREDENTIAL (fun q => absurd (Value.int.inj q) (by decide))
  have ne_ISSUER_OWNER := Fld.ne F_ordinal_ISSUER F_ordinal_OWNER (fun q => absurd (Value.int.inj q) (by decide))
  have ne_CREDENTIAL_ISSUER := Fld.ne F_ordinal_CREDENTIAL F_ordinal_ISSUER (fun q => absurd (Value.int.inj q) (by decide))
  have ne_FLAG_REPEATED_VALUE := Fld.ne F_ordinal_FLAG F_ordinal_REPEATED_VALUE (fun q => absurd (Value.int.inj q) (by decide))
  have ne_CREATOR_OWNER := Fld.ne F_ordinal_CREATOR F_ordinal_OWNER (fun q => absurd (Value.int.inj q) (by decide))
  have ne_CREATOR_CREDENTIAL := Fld.ne F_ordinal_CREATOR F_ordinal_CREDENTIAL (fun q => absurd (Value.int.inj q) (by decide))
  have ne_CREDENTIAL_OWNER := Fld.ne F_ordinal_CREDENTIAL F_ordinal_OWNER (fun q => absurd (Value.int.inj q) (by decide))
  have ne_OWNER_REQUESTS := Fld.ne F_ordinal_OWNER F_ordinal_REQUESTS (fun q => absurd (Value.int.inj q) (by decide))
  have ne_CREDENTIAL_REQUESTS := Fld.ne F_ordinal_CREDENTIAL F_ordinal_REQUESTS (fun q => absurd (Value.int.inj q) (by decide))
  have ne_AGENTS_OWNER := Fld.ne F_ordinal_AGENTS F_ordinal_OWNER (fun q => absurd (Value.int.inj q) (by decide))
  have ne_AGENTS_CREDENTIAL := Fld.ne F_ordinal_AGENTS F_ordinal_CREDENTIAL (fun q => absurd (Value.int.inj q) (by decide))
  have ne_OWNER_STATS := Fld.ne F_ordinal_OWNER F_ordinal_STATS (fun q => absurd (Value.int.inj q) (by decide))
  have ne_CREDENTIAL_STATS := Fld.ne F_ordinal_CREDENTIAL F_ordinal_STATS (fun q => absurd (Value.int.inj q) (by decide))
  have ne_OWNER_WAC_ALLOW := Fld.ne F_ordinal_OWNER F_ordinal_WAC_ALLOW (fun q => absurd (Value.int.inj q) (by decide))
  have ne_CREDENTIAL_WAC_ALLOW := Fld.ne F_ordinal_CREDENTIAL F_ordinal_WAC_ALLOW (fun q => absurd (Value.int.inj q) (by decide))
  have ne_METHOD_OWNER := Fld.ne F_ordinal_METHOD F_ordinal_OWNER (fun q => absurd (Value.int.inj q) (by decide))
  have ne_CREDENTIAL_METHOD := Fld.ne F_ordinal_CREDENTIAL F_ordinal_METHOD (fun q => absurd (Value.int.inj q) (by decide))
  have ne_CREATES_OWNER := Fld.ne F_ordinal_CREATES F_ordinal_OWNER (fun q => absurd (Value.int.inj q) (by decide))
  have ne_CREATES_CREDENTIAL := Fld.ne F_ordinal_CREATES F_ordinal_CREDENTIAL (fun q => absurd (Value.int.inj q) (by decide))
  have ne_OWNER_REMOVES := Fld.ne F_ordinal_OWNER F_ordinal_REMOVES (fun q => absurd (Value.int.inj q) (by decide))
  have ne_CREDENTIAL_REMOVES := Fld.ne F_ordinal_CREDENTIAL F_ordinal_REMOVES (fun q => absurd (Value.int.inj q) (by decide))
  have ne_OWNER_PORT := Fld.ne F_ordinal_OWNER F_ordinal_PORT (fun q => absurd (Value.int.inj q) (by decide))
  have ne_CREDENTIAL_PORT := Fld.ne F_ordinal_CREDENTIAL F_ordinal_PORT (fun q => absurd (Value.int.inj q) (by decide))
  obtain ⟨n, o, h1, h2, h3, _, L, rfl, ⟨rfl, N⟩, hq⟩ := rm0_0 l s _ hw tables_1 i0 w_POD w_BASE w_RESOURCE w_AGENT w_CLIENT w_ISSUER w_OWNER w_CREATOR w_CREDENTIAL w_REQUESTS w_AGENTS w_STATS w_WAC_ALLOW w_METHOD w_CREATES w_REMOVES w_PORT w_VALUE w_REPEATED_VALUE w_FLAG s.heap s.heap.size (Nat.le_refl _) S_POD E_POD S_BASE E_BASE S_RESOURCE E_RESOURCE S_AGENT E_AGENT S_CLIENT E_CLIENT S_ISSUER E_ISSUER S_OWNER E_OWNER S_CREATOR E_CREATOR S_CREDENTIAL E_CREDENTIAL S_REQUESTS E_REQUESTS S_AGENTS E_AGENTS S_STATS E_STATS S_WAC_ALLOW E_WAC_ALLOW S_METHOD E_METHOD S_CREATES E_CREATES S_REMOVES E_REMOVES S_PORT E_PORT ne_OWNER_POD ne_CREDENTIAL_POD F_form_POD S_REPEATED_VALUE ne_REPEATED_VALUE_VALUE ne_BASE_OWNER ne_BASE_CREDENTIAL F_form_BASE ne_OWNER_RESOURCE ne_CREDENTIAL_RESOURCE F_form_RESOURCE ne_AGENT_OWNER ne_AGENT_CREDENTIAL F_form_AGENT ne_CLIENT_OWNER ne_CLIENT_CREDENTIAL F_form_CLIENT ne_ISSUER_OWNER ne_CREDENTIAL_ISSUER F_form_ISSUER F_form_OWNER S_FLAG ne_FLAG_REPEATED_VALUE ne_CREATOR_OWNER ne_CREATOR_CREDENTIAL F_form_CREATOR ne_CREDENTIAL_OWNER F_form_CREDENTIAL ne_OWNER_REQUESTS ne_CREDENTIAL_REQUESTS F_form_REQUESTS ne_AGENTS_OWNER ne_AGENTS_CREDENTIAL F_form_AGENTS ne_OWNER_STATS ne_CREDENTIAL_STATS F_form_STATS ne_OWNER_WAC_ALLOW ne_CREDENTIAL_WAC_ALLOW F_form_WAC_ALLOW ne_METHOD_OWNER ne_CREDENTIAL_METHOD F_form_METHOD ne_CREATES_OWNER ne_CREATES_CREDENTIAL F_form_CREATES ne_OWNER_REMOVES ne_CREDENTIAL_REMOVES F_form_REMOVES ne_OWNER_PORT ne_CREDENTIAL_PORT F_form_PORT p e ha hc hk s m _ below hf ((Spec.applies_iff_loose hf).mp happ).1 ⟨rfl, State.Warmed39.refl s, rfl⟩ trivial
  refine ⟨n, _, h1, h2, h3, hpost _ _ _ _ _ _ ⟨Cond.after_iff.mpr rfl, Cond.after_iff.mpr (eq_i res_at (Term.int_eval (1)) rfl), trivial⟩ ⟨hq.1, hq.2.1, (hq.2.2.sift fun y hy => Or.inr (N y hy)).mono (by decide) (by decide)⟩⟩
theorem main_1_1 : Claimed_1_1 := comes_1 fun _ _ _ _ _ _ h hF => ⟨h.1, hF⟩
theorem main_1_2 : Claimed_1_2 := comes_1 fun _ _ _ _ _ _ h hF => ⟨h.2.1, hF⟩
end Jvm.Pilot.@@N@@
namespace Jvm.Pilot.@@N@@
open Jvm Jvm.ClassFile Sem Op Lib Jvm.Free Jvm.Stand Jvm.Pilot.@@N@@.Jvm.D
/-! MADE BY PROGRAM (witnessworld.py) out of the Statement's table words and the real class files: 14 classes; the members and pool entries that the words name. The judged class is class 1, her method 1. -/
namespace start1
open Jvm.ClassFile
def u (s : String) : CpInfo := .utf8 (stringToUtf16 s)
/-- a pool by its gaps: so many unusable entries, then the entry; so many at the end -/
def gap : Nat → List CpInfo → List CpInfo
  | 0, r => r
  | n + 1, r => .unusable :: gap n r
def poolList (es : List (Nat × CpInfo)) (last : Nat) : List CpInfo := es.foldr (fun e r => gap e.1 (e.2 :: r)) (gap last [])
def pool (es : List (Nat × CpInfo)) (last : Nat) : Array CpInfo := ⟨poolList es last⟩
def fileOf (pool : Array CpInfo) (this : Nat) (attrs : Array Attribute := #[]) (ms : Array MethodInfo := #[]) (fl : Nat := 33) (sup : Nat := 0) (ifs : Array Nat := #[]) (fds : Array FieldInfo := #[]) : ClassFile where
  minorVersion := 0
  majorVersion := 65
  constantPool := pool
  accessFlags := fl
  thisClass := this
  superClass := sup
  interfaces := ifs
  fields := fds
  methods := ms
  attributes := attrs
def plain (name : String) (sup : Option ClassId) : Class where
  name := name
  kind := .ordinary
  loader := none
  accessFlags := 33
  super := sup
  interfaces := #[]
  cf := none
  fields := #[]
  methods := #[]
  instanceTypes := #[]
  staticTypes := #[]
  resolved := #[]
  callSites := []
  init := .initialized
  statics := none
  mirror := none

def pool0 : Array CpInfo := pool [(5, u "<init>"), (0, u "()V"), (1, .class_ 10), (1, u "java/lang/Object")] 113

def k0m0 : Method := { name := "<init>", desc := "()V", sig := { parameters := [], returnType := none }, accessFlags := 1, code := none }
/-- java/lang/Object -/
def k0 : Class := { plain "java/lang/Object" none with
  accessFlags := 33
  interfaces := #[]
  cf := some (fileOf pool0 8 #[] #[{ accessFlags := 1, nameIndex := 5, descriptorIndex := 6, attributes := #[] }] 33 0 #[] #[])
  fields := #[]
  methods := #[k0m0]
  instanceTypes := #[]
  staticTypes := #[]
  resolved := Array.replicate 124 none
  statics := none }

def pool1 : Array CpInfo := pool [(2, .class_ 4), (1, u "java/lang/Object"), (0, u "<init>"), (0, u "()V"), (0, .class_ 8), (0, u "com/example/garm/garm/command/Option"), (0, .fieldref 7 10), (0, .nameAndType 11 12), (0, u "POD"), (0, u "Lcom/example/garm/garm/command/Option;"), (0, .fieldref 7 14), (0, .nameAndType 15 12), (0, u "BASE"), (0, .fieldref 7 17), (0, .nameAndType 18 12), (0, u "RESOURCE"), (0, .fieldref 7 20), (0, .nameAndType 21 12), (0, u "AGENT"), (0, .fieldref 7 23), (0, .nameAndType 24 12), (0, u "CLIENT"), (0, .fieldref 7 26), (0, .nameAndType 27 12), (0, u "ISSUER"), (0, .fieldref 7 29), (0, .nameAndType 30 12), (0, u "OWNER"), (0, .fieldref 7 32), (0, .nameAndType 33 12), (0, u "CREATOR"), (0, .fieldref 7 35), (0, .nameAndType 36 12), (0, u "CREDENTIAL"), (0, .fieldref 7 38), (0, .nameAndType 39 12), (0, u "REQUESTS"), (0, .fieldref 7 41), (0, .nameAndType 42 12), (0, u "AGENTS"), (0, .fieldref 7 44), (0, .nameAndType 45 12), (0, u "STATS"), (0, .fieldref 7 47), (0, .nameAndType 48 12), (0, u "WAC_ALLOW"), (0, .fieldref 7 50), (0, .nameAndType 51 12), (0, u "METHOD"), (0, .fieldref 7 53), (0, .nameAndType 54 12), (0, u "CREATES"), (0, .fieldref 7 56), (0, .nameAndType 57 12), (0, u "REMOVES"), (0, .fieldref 7 59), (0, .nameAndType 60 12), (0, u "PORT"), (0, .integer 2147483647), (0, .methodref 7 63), (0, .nameAndType 64 65), (0, u "isRepeatable"), (0, u "()Z"), (0, .methodref 7 67), (0, .nameAndType 68 65), (0, u "takesValue"), (0, .class_ 70), (0, u "com/example/garm/garm/command/OptionIsRepeatablePinLaw"), (2, u "law"), (0, u "(I)Z")] 5

def k1m0 : Method := { name := "<init>", desc := "()V", sig := { parameters := [], returnType := none }, accessFlags := 2, code := none }
def k1c1 : Code := { maxStack := 4, maxLocals := 5, code := code, exceptionTable := #[], attributes := #[] }
def k1m1 : Method := { name := "law", desc := "(I)Z", sig := { parameters := [.int], returnType := some .boolean }, accessFlags := 9, code := some k1c1 }
/-- com/example/garm/garm/command/OptionIsRepeatablePinLaw -/
def k1 : Class := { plain "com/example/garm/garm/command/OptionIsRepeatablePinLaw" (some 0) with
  accessFlags := 49
  interfaces := #[]
  cf := some (fileOf pool1 69 #[] #[{ accessFlags := 2, nameIndex := 5, descriptorIndex := 6, attributes := #[] }, { accessFlags := 9, nameIndex := 73, descriptorIndex := 74, attributes := #[] }] 49 2 #[] #[])
  fields := #[]
  methods := #[k1m0, k1m1]
  instanceTypes := #[]
  staticTypes := #[]
  resolved := Array.replicate 80 none
  statics := none }

def pool2 : Array CpInfo := pool [(1, .class_ 2), (0, u "java/lang/constant/Constable"), (0, .class_ 4), (0, u "java/lang/Object")] 6

/-- java/lang/constant/Constable -/
def k2 : Class := { plain "java/lang/constant/Constable" (some 0) with
  accessFlags := 1537
  interfaces := #[]
  cf := some (fileOf pool2 1 #[] #[] 1537 3 #[] #[])
  fields := #[]
  methods := #[]
  instanceTypes := #[]
  staticTypes := #[]
  resolved := Array.replicate 11 none
  statics := none }

def pool3 : Array CpInfo := pool [(1, .class_ 2), (0, u "java/lang/Comparable"), (0, .class_ 4), (0, u "java/lang/Object")] 7

/-- java/lang/Comparable -/
def k3 : Class := { plain "java/lang/Comparable" (some 0) with
  accessFlags := 1537
  interfaces := #[]
  cf := some (fileOf pool3 1 #[] #[] 1537 3 #[] #[])
  fields := #[]
  methods := #[]
  instanceTypes := #[]
  staticTypes := #[]
  resolved := Array.replicate 12 none
  statics := none }

def pool4 : Array CpInfo := pool [(1, .class_ 2), (0, u "java/io/Serializable"), (0, .class_ 4), (0, u "java/lang/Object")] 2

/-- java/io/Serializable -/
def k4 : Class := { plain "java/io/Serializable" (some 0) with
  accessFlags := 1537
  interfaces := #[]
  cf := some (fileOf pool4 1 #[] #[] 1537 3 #[] #[])
  fields := #[]
  methods := #[]
  instanceTypes := #[]
  staticTypes := #[]
  resolved := Array.replicate 7 none
  statics := none }

def pool5 : Array CpInfo := pool [(2, .class_ 4), (1, u "java/lang/Enum"), (0, u "name"), (0, u "Ljava/lang/String;"), (2, u "ordinal"), (0, u "I"), (1, .class_ 14), (1, u "java/lang/Object"), (4, u "hash"), (86, .class_ 108), (1, u "java/lang/Enum$EnumDesc"), (2, .class_ 112), (0, u "java/lang/constant/Constable"), (0, .class_ 114), (0, u "java/lang/Comparable"), (0, .class_ 116), (0, u "java/io/Serializable")] 87

/-- java/lang/Enum -/
def k5 : Class := { plain "java/lang/Enum" (some 0) with
  accessFlags := 1057
  interfaces := #[2, 3, 4]
  cf := some (fileOf pool5 2 #[.nestMembers #[106]] #[] 1057 12 #[111, 113, 115] #[{ accessFlags := 18, nameIndex := 5, descriptorIndex := 6, attributes := #[] }, { accessFlags := 18, nameIndex := 9, descriptorIndex := 10, attributes := #[] }, { accessFlags := 2, nameIndex := 19, descriptorIndex := 10, attributes := #[] }])
  fields := #[{ name := "name", type := (.object "java/lang/String"), accessFlags := 18, slot := 0, constantValue := 0 }, { name := "ordinal", type := .int, accessFlags := 18, slot := 1, constantValue := 0 }, { name := "hash", type := .int, accessFlags := 2, slot := 2, constantValue := 0 }]
  methods := #[]
  instanceTypes := #[(.object "java/lang/String"), .int, .int]
  staticTypes := #[]
  resolved := Array.replicate 204 none
  statics := none }

def pool6 : Array CpInfo := pool [(1, .class_ 2), (0, u "com/example/garm/garm/command/Option"), (2, u "POD"), (0, u "Lcom/example/garm/garm/command/Option;"), (2, u "BASE"), (2, u "RESOURCE"), (2, u "AGENT"), (2, u "CLIENT"), (2, u "ISSUER"), (2, u "OWNER"), (2, u "CREATOR"), (2, u "CREDENTIAL"), (2, u "REQUESTS"), (2, u "AGENTS"), (2, u "STATS"), (2, u "WAC_ALLOW"), (2, u "METHOD"), (2, u "CREATES"), (2, u "REMOVES"), (2, u "PORT"), (2, u "$VALUES"), (0, u "[Lcom/example/garm/garm/command/Option;"), (6, .class_ 67), (1, u "java/lang/Enum"), (6, .fieldref 1 75), (0, .nameAndType 76 77), (0, u "form"), (0, u "Lcom/example/garm/garm/command/Option$Form;"), (2, u "part"), (0, u "Lcom/example/garm/garm/command/Option$Part;"), (24, .fieldref 107 108), (0, .class_ 109), (0, .nameAndType 110 77), (0, u "com/example/garm/garm/command/Option$Form"), (0, u "FLAG"), (0, .fieldref 107 112), (0, .nameAndType 113 77), (0, u "REPEATED_VALUE"), (1, .class_ 117), (1, u "com/example/garm/garm/command/Option$Part"), (53, u "REQUIRED"), (0, u "Ljava/util/List;"), (5, u "ONE_REQUEST"), (11, u "takesValue"), (0, u "()Z"), (0, u "isRepeatable")] 24

def k6c0 : Code := { maxStack := 2, maxLocals := 1, code := prog_4_method_5_code, exceptionTable := #[], attributes := #[] }
def k6m0 : Method := { name := "takesValue", desc := "()Z", sig := { parameters := [], returnType := some .boolean }, accessFlags := 0, code := some k6c0 }
def k6c1 : Code := { maxStack := 2, maxLocals := 1, code := prog_4_method_6_code, exceptionTable := #[], attributes := #[] }
def k6m1 : Method := { name := "isRepeatable", desc := "()Z", sig := { parameters := [], returnType := some .boolean }, accessFlags := 0, code := some k6c1 }
/-- com/example/garm/garm/command/Option -/
def k6 : Class := { plain "com/example/garm/garm/command/Option" (some 5) with
  accessFlags := 16432
  interfaces := #[]
  cf := some (fileOf pool6 1 #[.nestMembers #[115, 107]] #[{ accessFlags := 0, nameIndex := 190, descriptorIndex := 191, attributes := #[] }, { accessFlags := 0, nameIndex := 192, descriptorIndex := 191, attributes := #[] }] 16432 65 #[] #[{ accessFlags := 16409, nameIndex := 5, descriptorIndex := 6, attributes := #[] }, { accessFlags := 16409, nameIndex := 9, descriptorIndex := 6, attributes := #[] }, { accessFlags := 16409, nameIndex := 12, descriptorIndex := 6, attributes := #[] }, { accessFlags := 16409, nameIndex := 15, descriptorIndex := 6, attributes := #[] }, { accessFlags := 16409, nameIndex := 18, descriptorIndex := 6, attributes := #[] }, { accessFlags := 16409, nameIndex := 21, descriptorIndex := 6, attributes := #[] }, { accessFlags := 16409, nameIndex := 24, descriptorIndex := 6, attributes := #[] }, { accessFlags := 16409, nameIndex := 27, descriptorIndex := 6, attributes := #[] }, { accessFlags := 16409, nameIndex := 30, descriptorIndex := 6, attributes := #[] }, { accessFlags := 16409, nameIndex := 33, descriptorIndex := 6, attributes := #[] }, { accessFlags := 16409, nameIndex := 36, descriptorIndex := 6, attributes := #[] }, { accessFlags := 16409, nameIndex := 39, descriptorIndex := 6, attributes := #[] }, { accessFlags := 16409, nameIndex := 42, descriptorIndex := 6, attributes := #[] }, { accessFlags := 16409, nameIndex := 45, descriptorIndex := 6, attributes := #[] }, { accessFlags := 16409, nameIndex := 48, descriptorIndex := 6, attributes := #[] }, { accessFlags := 16409, nameIndex := 51, descriptorIndex := 6, attributes := #[] }, { accessFlags := 16409, nameIndex := 54, descriptorIndex := 6, attributes := #[] }, { accessFlags := 24, nameIndex := 171, descriptorIndex := 172, attributes := #[] }, { accessFlags := 24, nameIndex := 178, descriptorIndex := 172, attributes := #[] }, { accessFlags := 18, nameIndex := 76, descriptorIndex := 77, attributes := #[] }, { accessFlags := 18, nameIndex := 80, descriptorIndex := 81, attributes := #[] }, { accessFlags := 4122, nameIndex := 57, descriptorIndex := 58, attributes := #[] }])
  fields := #[{ name := "POD", type := (.object "com/example/garm/garm/command/Option"), accessFlags := 16409, slot := 0, constantValue := 0 }, { name := "BASE", type := (.object "com/example/garm/garm/command/Option"), accessFlags := 16409, slot := 1, constantValue := 0 }, { name := "RESOURCE", type := (.object "com/example/garm/garm/command/Option"), accessFlags := 16409, slot := 2, constantValue := 0 }, { name := "AGENT", type := (.object "com/example/garm/garm/command/Option"), accessFlags := 16409, slot := 3, constantValue := 0 }, { name := "CLIENT", type := (.object "com/example/garm/garm/command/Option"), accessFlags := 16409, slot := 4, constantValue := 0 }, { name := "ISSUER", type := (.object "com/example/garm/garm/command/Option"), accessFlags := 16409, slot := 5, constantValue := 0 }, { name := "OWNER", type := (.object "com/example/garm/garm/command/Option"), accessFlags := 16409, slot := 6, constantValue := 0 }, { name := "CREATOR", type := (.object "com/example/garm/garm/command/Option"), accessFlags := 16409, slot := 7, constantValue := 0 }, { name := "CREDENTIAL", type := (.object "com/example/garm/garm/command/Option"), accessFlags := 16409, slot := 8, constantValue := 0 }, { name := "REQUESTS", type := (.object "com/example/garm/garm/command/Option"), accessFlags := 16409, slot := 9, constantValue := 0 }, { name := "AGENTS", type := (.object "com/example/garm/garm/command/Option"), accessFlags := 16409, slot := 10, constantValue := 0 }, { name := "STATS", type := (.object "com/example/garm/garm/command/Option"), accessFlags := 16409, slot := 11, constantValue := 0 }, { name := "WAC_ALLOW", type := (.object "com/example/garm/garm/command/Option"), accessFlags := 16409, slot := 12, constantValue := 0 }, { name := "METHOD", type := (.object "com/example/garm/garm/command/Option"), accessFlags := 16409, slot := 13, constantValue := 0 }, { name := "CREATES", type := (.object "com/example/garm/garm/command/Option"), accessFlags := 16409, slot := 14, constantValue := 0 }, { name := "REMOVES", type := (.object "com/example/garm/garm/command/Option"), accessFlags := 16409, slot := 15, constantValue := 0 }, { name := "PORT", type := (.object "com/example/garm/garm/command/Option"), accessFlags := 16409, slot := 16, constantValue := 0 }, { name := "REQUIRED", type := (.object "java/util/List"), accessFlags := 24, slot := 17, constantValue := 0 }, { name := "ONE_REQUEST", type := (.object "java/util/List"), accessFlags := 24, slot := 18, constantValue := 0 }, { name := "form", type := (.object "com/example/garm/garm/command/Option$Form"), accessFlags := 18, slot := 3, constantValue := 0 }, { name := "part", type := (.object "com/example/garm/garm/command/Option$Part"), accessFlags := 18, slot := 4, constantValue := 0 }, { name := "$VALUES", type := (.array (.object "com/example/garm/garm/command/Option")), accessFlags := 4122, slot := 19, constantValue := 0 }]
  methods := #[k6m0, k6m1]
  instanceTypes := #[(.object "java/lang/String"), .int, .int, (.object "com/example/garm/garm/command/Option$Form"), (.object "com/example/garm/garm/command/Option$Part")]
  staticTypes := #[(.object "com/example/garm/garm/command/Option"), (.object "com/example/garm/garm/command/Option"), (.object "com/example/garm/garm/command/Option"), (.object "com/example/garm/garm/command/Option"), (.object "com/example/garm/garm/command/Option"), (.object "com/example/garm/garm/command/Option"), (.object "com/example/garm/garm/command/Option"), (.object "com/example/garm/garm/command/Option"), (.object "com/example/garm/garm/command/Option"), (.object "com/example/garm/garm/command/Option"), (.object "com/example/garm/garm/command/Option"), (.object "com/example/garm/garm/command/Option"), (.object "com/example/garm/garm/command/Option"), (.object "com/example/garm/garm/command/Option"), (.object "com/example/garm/garm/command/Option"), (.object "com/example/garm/garm/command/Option"), (.object "com/example/garm/garm/command/Option"), (.object "java/util/List"), (.object "java/util/List"), (.array (.object "com/example/garm/garm/command/Option"))]
  resolved := Array.replicate 217 none
  statics := some 0 }

def pool7 : Array CpInfo := pool [(1, .class_ 2), (0, u "com/example/garm/garm/command/Option$Form"), (2, u "FLAG"), (0, u "Lcom/example/garm/garm/command/Option$Form;"), (2, u "VALUE"), (2, u "REPEATED_VALUE"), (2, u "$VALUES"), (0, u "[Lcom/example/garm/garm/command/Option$Form;"), (6, .class_ 25), (1, u "java/lang/Enum"), (26, .class_ 53), (0, u "com/example/garm/garm/command/Option")] 2

/-- com/example/garm/garm/command/Option$Form -/
def k7 : Class := { plain "com/example/garm/garm/command/Option$Form" (some 5) with
  accessFlags := 16432
  interfaces := #[]
  cf := some (fileOf pool7 1 #[.nestHost 52] #[] 16432 23 #[] #[{ accessFlags := 16409, nameIndex := 5, descriptorIndex := 6, attributes := #[] }, { accessFlags := 16409, nameIndex := 9, descriptorIndex := 6, attributes := #[] }, { accessFlags := 16409, nameIndex := 12, descriptorIndex := 6, attributes := #[] }, { accessFlags := 4122, nameIndex := 15, descriptorIndex := 16, attributes := #[] }])
  fields := #[{ name := "FLAG", type := (.object "com/example/garm/garm/command/Option$Form"), accessFlags := 16409, slot := 0, constantValue := 0 }, { name := "VALUE", type := (.object "com/example/garm/garm/command/Option$Form"), accessFlags := 16409, slot := 1, constantValue := 0 }, { name := "REPEATED_VALUE", type := (.object "com/example/garm/garm/command/Option$Form"), accessFlags := 16409, slot := 2, constantValue := 0 }, { name := "$VALUES", type := (.array (.object "com/example/garm/garm/command/Option$Form")), accessFlags := 4122, slot := 3, constantValue := 0 }]
  methods := #[]
  instanceTypes := #[(.object "java/lang/String"), .int, .int]
  staticTypes := #[(.object "com/example/garm/garm/command/Option$Form"), (.object "com/example/garm/garm/command/Option$Form"), (.object "com/example/garm/garm/command/Option$Form"), (.array (.object "com/example/garm/garm/command/Option$Form"))]
  resolved := Array.replicate 56 none
  statics := some 1 }

def pool8 : Array CpInfo := pool [(1, u "java/lang/Cloneable"), (0, .class_ 1), (0, u "java/lang/Object"), (0, .class_ 3)] 3

/-- java/lang/Cloneable -/
def k8 : Class := { plain "java/lang/Cloneable" (some 0) with
  accessFlags := 1537
  interfaces := #[]
  cf := some (fileOf pool8 2 #[] #[] 1537 4 #[] #[])
  fields := #[]
  methods := #[]
  instanceTypes := #[]
  staticTypes := #[]
  resolved := Array.replicate 8 none
  statics := none }

/-- the primitive byte -/
def k9 : Class := { plain "byte" none with kind := .primitive 'B', accessFlags := 0x411 }
/-- [B -/
def k10 : Class := { plain "[B" (some 0) with kind := .array 9 .byte, interfaces := #[8, 4], accessFlags := 1041 }

/-- the primitive int -/
def k11 : Class := { plain "int" none with kind := .primitive 'I', accessFlags := 0x411 }
/-- [I -/
def k12 : Class := { plain "[I" (some 0) with kind := .array 11 .int, interfaces := #[8, 4], accessFlags := 1041 }

/-- [Lcom/example/garm/garm/command/Option; -/
def k13 : Class := { plain "[Lcom/example/garm/garm/command/Option;" (some 0) with kind := .array 6 (.object "com/example/garm/garm/command/Option"), interfaces := #[8, 4], accessFlags := 1041 }

def heap : Heap := #[{ cls := 6, slots := #[.ref 2, .ref 3, .ref 4, .ref 5, .ref 6, .ref 7, .ref 8, .ref 9, .ref 10, .ref 11, .ref 12, .ref 13, .ref 14, .ref 15, .ref 16, .ref 17, .ref 18, .null, .null, .null], vm := .statics 6 },
  { cls := 7, slots := #[.ref 21, .ref 19, .ref 20, .null], vm := .statics 7 },
  { cls := 6, slots := #[.null, .int 0, .int 0, .ref 19, .null], vm := .none },
  { cls := 6, slots := #[.null, .int 1, .int 0, .ref 19, .null], vm := .none },
  { cls := 6, slots := #[.null, .int 2, .int 0, .ref 19, .null], vm := .none },
  { cls := 6, slots := #[.null, .int 3, .int 0, .ref 19, .null], vm := .none },
  { cls := 6, slots := #[.null, .int 4, .int 0, .ref 19, .null], vm := .none },
  { cls := 6, slots := #[.null, .int 5, .int 0, .ref 19, .null], vm := .none },
  { cls := 6, slots := #[.null, .int 6, .int 0, .ref 20, .null], vm := .none },
  { cls := 6, slots := #[.null, .int 7, .int 0, .ref 19, .null], vm := .none },
  { cls := 6, slots := #[.null, .int 8, .int 0, .ref 20, .null], vm := .none },
  { cls := 6, slots := #[.null, .int 9, .int 0, .ref 19, .null], vm := .none },
  { cls := 6, slots := #[.null, .int 10, .int 0, .ref 19, .null], vm := .none },
  { cls := 6, slots := #[.null, .int 11, .int 0, .ref 21, .null], vm := .none },
  { cls := 6, slots := #[.null, .int 12, .int 0, .ref 21, .null], vm := .none },
  { cls := 6, slots := #[.null, .int 13, .int 0, .ref 19, .null], vm := .none },
  { cls := 6, slots := #[.null, .int 14, .int 0, .ref 21, .null], vm := .none },
  { cls := 6, slots := #[.null, .int 15, .int 0, .ref 21, .null], vm := .none },
  { cls := 6, slots := #[.null, .int 16, .int 0, .ref 19, .null], vm := .none },
  { cls := 7, slots := #[.null, .int 1, .int 0], vm := .none },
  { cls := 7, slots := #[.null, .int 2, .int 0], vm := .none },
  { cls := 7, slots := #[.null, .int 0, .int 0], vm := .none }]
def classes : Array Class := #[k0, k1, k2, k3, k4, k5, k6, k7, k8, k9, k10, k11, k12, k13]
def interned : List (Array UInt16 × Addr) := []
def slotsUsed : Nat := 118
def theMethod : MethodId := ⟨1, 1⟩
def args0 : Array Value := #[.int 5]
def aboutOver (below : List Frame) : State where
  vm := { classes := classes, interned := interned.toArray }
  heap := heap
  slotsUsed := slotsUsed
  threads := #[{ frames := .invoking theMethod args0 :: below }]
def below0 : List Frame := [.native { method := ⟨0, 0⟩, args := #[] }]
def about1 : State := aboutOver below0
def p0 : Program := .bare "" "" ""
def e0 : Env := launch0.env 0 0 0
theorem w_frames : about1.frames = Frame.invoking theMethod args0 :: below0 := rfl
set_option maxRecDepth 65536 in
theorem w_args : argsFit about1.vm theMethod args0 = true := by decide +kernel
set_option maxRecDepth 65536 in
theorem w_heap : heapFits about1 = true := by decide +kernel
set_option maxRecDepth 65536 in
theorem w_runnable : about1.curStatus? = some .runnable := by decide +kernel
set_option maxRecDepth 65536 in
theorem w_alone : about1.alone = true := by decide +kernel
set_option maxRecDepth 65536 in
theorem w_named : about1.methodNamed? x = some theMethod := by decide +kernel
set_option maxRecDepth 65536 in
theorem w_hears : about1.hears theMethod below0 = true := by decide +kernel
set_option maxRecDepth 65536 in
theorem w_ripe : about1.ripe theMethod args0 below0 = true := by decide +kernel
theorem w_running : about1.status = .running := rfl
set_option maxRecDepth 65536 in
theorem w_room : about1.hasRoom e0.platform room_1 = true :=
  launch0.hasRoom_least _ room_1 (by decide +kernel) (by decide +kernel) (by decide +kernel) (by decide +kernel) (by decide +kernel) (by decide +kernel)
theorem allAtoms_all (ts : List Jvm.Cond) (a : Array Jvm.Value) (st : Jvm.State) : (allAtoms ts).before a st = ts.all (fun c => c.before a st) := by
  induction ts with
  | nil => rfl
  | cons c t ih =>
    show (Jvm.Cond.and c (allAtoms t)).before a st = _
    rw [Jvm.Cond.before_and, ih, List.all_cons]
def words1 : List Jvm.Cond := Jvm.Cond.code x code maxLocals ret :: tables_1
/-- a 'code' word, met by the world's own term for the bytes: nothing is compared byte by byte -/
theorem code_word {y : MethodName} {bytes : ByteArray} {mx : Nat} {rt : Option FieldType} {a : Array Value} {s : State} {m : MethodId} {meth : Method} {c : Code} (h1 : s.methodNamed? y = some m) (h2 : s.vm.method? m = some meth) (h3 : meth.code = some c) (h4 : c.code = bytes)
    (h5 : (c.maxLocals == mx && c.exceptionTable.isEmpty && decide (c.maxStack ≤ mostOperands) && decide (meth.sig.returnType = rt) && !meth.locks && decide (parseMethodDescriptor y.desc = some meth.sig)) = true) : (Jvm.Cond.code y bytes mx rt).before a s = true := by
  simp only [Bool.and_eq_true, beq_iff_eq, Bool.not_eq_true', decide_eq_true_eq] at h5
  obtain ⟨⟨⟨⟨⟨g1, g2⟩, g3⟩, g4⟩, g5⟩, g6⟩ := h5
  simp [Cond.before, Cond.holds, Cond.value, h1, h2, h3, h4, g1, g2, g3, g4, g5, g6]
def isCode : Jvm.Cond → Bool
  | .code _ _ _ _ => true
  | _ => false
theorem all_split {L : List Jvm.Cond} {P : Jvm.Cond → Bool} (h1 : L.all (fun c => isCode c || P c) = true) (h2 : ∀ c ∈ L.filter isCode, P c = true) : L.all P = true := by
  refine List.all_eq_true.mpr fun c hc => ?_
  have h := List.all_eq_true.mp h1 c hc
  rcases Bool.eq_false_or_eq_true (isCode c) with hi | hi
  · exact h2 c (List.mem_filter.mpr ⟨hc, hi⟩)
  · simpa [hi] using h
set_option maxRecDepth 65536 in
theorem w_c0 : (Jvm.Cond.code x code maxLocals ret).before args0 about1 = true := code_word (m := ⟨1, 1⟩) (meth := k1m1) (c := k1c1) (by decide +kernel) rfl rfl rfl (by decide +kernel)
set_option maxRecDepth 65536 in
theorem w_c1 : (Jvm.Cond.code ({ cls := "com/example/garm/garm/command/Option", name := "isRepeatable", desc := "()Z" } : Jvm.MethodName) prog_4_method_6_code (1 : Nat) (Option.some Jvm.ClassFile.FieldType.boolean)).before args0 about1 = true := code_word (m := ⟨6, 1⟩) (meth := k6m1) (c := k6c1) (by decide +kernel) rfl rfl rfl (by decide +kernel)
set_option maxRecDepth 65536 in
theorem w_c2 : (Jvm.Cond.code ({ cls := "com/example/garm/garm/command/Option", name := "takesValue", desc := "()Z" } : Jvm.MethodName) prog_4_method_5_code (1 : Nat) (Option.some Jvm.ClassFile.FieldType.boolean)).before args0 about1 = true := code_word (m := ⟨6, 0⟩) (meth := k6m0) (c := k6c0) (by decide +kernel) rfl rfl rfl (by decide +kernel)
def codes1 : List Jvm.Cond := [Jvm.Cond.code x code maxLocals ret, Jvm.Cond.code ({ cls := "com/example/garm/garm/command/Option", name := "isRepeatable", desc := "()Z" } : Jvm.MethodName) prog_4_method_6_code (1 : Nat) (Option.some Jvm.ClassFile.FieldType.boolean), Jvm.Cond.code ({ cls := "com/example/garm/garm/command/Option", name := "takesValue", desc := "()Z" } : Jvm.MethodName) prog_4_method_5_code (1 : Nat) (Option.some Jvm.ClassFile.FieldType.boolean)]
set_option maxRecDepth 65536 in
theorem codes_eq : words1.filter isCode = codes1 := rfl
theorem w_codes : ∀ c ∈ words1.filter isCode, c.before args0 about1 = true := by
  rw [codes_eq]
  intro c hc
  simp only [codes1, List.mem_cons, List.not_mem_nil, or_false] at hc
  rcases hc with rfl | rfl | rfl
  · exact w_c0
  · exact w_c1
  · exact w_c2
set_option maxRecDepth 65536 in
theorem w_t1 : (words1.take 24).all (fun c => isCode c || c.before args0 about1) = true := by decide +kernel
set_option maxRecDepth 65536 in
theorem w_t2 : ((words1.drop 24).take 24).all (fun c => isCode c || c.before args0 about1) = true := by decide +kernel
set_option maxRecDepth 65536 in
theorem w_t3 : ((words1.drop 24).drop 24).all (fun c => isCode c || c.before args0 about1) = true := by decide +kernel
theorem w_tables : (allAtoms (Jvm.Cond.code x code maxLocals ret :: tables_1)).before args0 about1 = true := by
  rw [allAtoms_all]
  show words1.all (fun c => c.before args0 about1) = true
  refine all_split ?_ w_codes
  rw [← List.take_append_drop 24 words1, List.all_append, w_t1, ← List.take_append_drop 24 (words1.drop 24), List.all_append, w_t2, w_t3]
  rfl
set_option maxRecDepth 65536 in
theorem w_case : (Jvm.Cond.and given_1 narrow_1).before args0 about1 = true := by decide +kernel
theorem w_applies : (headSpec (Jvm.Cond.code x code maxLocals ret :: tables_1) room_1).applies x e0.platform about1 = true :=
  (Spec.applies_iff w_frames).mpr ⟨w_running, w_runnable, w_alone, w_named, w_hears, w_ripe, w_room, w_tables⟩
theorem atStart : AtStart classFile x code maxLocals ret World_1 tables_1 room_1 Calls_1 rest_1 Pre_1 launch0 p0 e0 about1 theMethod args0 below0 :=
  ⟨lists_1, trivial, launch0.admits_env _ _ _, launch0.least_env, fairChoices_fair.cas, fairChoices_fair.clock, w_frames, w_args, w_heap, w_applies, trivial, trivial, w_case⟩
end start1
theorem witness_1 : WitnessClaimed_1 := ⟨start1.p0, start1.e0, start1.about1, start1.theMethod, start1.args0, start1.below0, start1.atStart⟩
end Jvm.Pilot.@@N@@
