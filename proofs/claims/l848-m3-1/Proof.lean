import JvmDerived
import JvmDerived.Pilot.@@N@@Statement
import JvmDerived.Pilot.@@N@@Code
set_option linter.unusedVariables false
set_option linter.unusedSimpArgs false
namespace Jvm.RoadKit
open Sem ClassFile Op Lib Jvm.Stand Jvm.Free Jvm.LawKit
section New
variable {p : Program} {l : Launch} {e : Env} {R : Room} {s : State} {m : MethodId} {args : Array Value} {below : List Frame} {meth : Method} {c : Code} {T : State} {locs : List Loc} {cells slots : Nat}
theorem retI (X : Stand p l e R s m args below meth c T locs cells slots) (hx : p.tables.exec = Jvm.exec) {pc : Nat} {Ls : Array Slot} {z : Int32} {rest : List Value} (hret : meth.sig.returnType = some .int) (hd : decode c.code pc = .ok (.ireturn, 1)) {fs : List Frame}
    (hl : ∀ (f : JFrame) (acts : List Action), f.method = m → f.locked = none → f.entered = [] → (doReturn e (T.setTop f) acts (some (.int z))).1 = T.setFrames fs) : Steps p.tables e below (T.setTop (mkF m pc Ls (.int z :: rest))) (T.setFrames fs) := by
  have hm' : T.vm.method? m = some meth := X.method'
  have hn : narrow .int (.int z) = .int z := rfl
  show Steps p.tables e below (T.setTop { method := m, pc := pc, locals := Ls, stack := _ :: rest, locked := none }) _
  jvm_step X.here [X.here.top, hx, hd, hm', hret, hn]
  first | (intro acts; rw [hl _ acts rfl rfl rfl]) | rw [hl _ _ rfl rfl rfl]
  exact Steps.refl _
end New
end Jvm.RoadKit
namespace Jvm.Pilot.@@N@@
open Jvm Jvm.ClassFile Sem Op Lib Jvm.Free Jvm.Stand Jvm.LawKit Jvm.RoadKit Bundle Jvm.Pilot.@@N@@.Jvm.D
theorem own_staK {Z : State} {h h' : Heap} {C n d : String} {v : Value} {ws : List Addr} (F : Sta Z h C n d v) (K : Keep h h' ws) (q : ∀ x ∈ ws, ∃ C', Exa Z h x C') : Sta Z h' C n d v := by
  obtain ⟨cf, i, k, f, st, cell, h1, h2, h3, h4, h5, h6, r⟩ := F
  refine ⟨cf, i, k, f, st, cell, h1, h2, h3, h4, K.2.1 _ _ h5 (fun hm => ?_), h6, r⟩
  obtain ⟨C', cell', k', e1, -, -, e4, -⟩ := q _ hm
  cases h5.symm.trans e1
  rw [h6] at e4; cases e4
theorem own_eqI {args : Array Value} {first s : State} {o : Option Outcome} {idx : List Nat} {a : Term} {n : Int32} (h : (Jvm.Cond.eq a (Term.int n)).value args first o s idx = some true) : a.eval args first o idx s = some (.int n) := by
  obtain ⟨x, y, h1, h2, -, -⟩ := cmp_v (Or.inl h)
  cases h2.symm.trans (Term.int_eval n)
  cases x <;> simp [Cond.value, h1, h2] at h
  rw [h1, h]
theorem own_eqR {args : Array Value} {first s : State} {o : Option Outcome} {idx : List Nat} {a b : Term} {x : Addr} (h : (Jvm.Cond.eq a b).value args first o s idx = some true) (hb : b.eval args first o idx s = some (.ref x)) : a.eval args first o idx s = some (.ref x) := by
  obtain ⟨u, y, h1, h2, -, -⟩ := cmp_v (Or.inl h)
  cases h2.symm.trans hb
  cases u <;> simp [Cond.value, h1, h2] at h
  rw [h1, h]
theorem own_eqL {args : Array Value} {first s : State} {o : Option Outcome} {idx : List Nat} {a : Term} {n : Int64} (h : (Jvm.Cond.eq a (Term.long n)).value args first o s idx = some true) : a.eval args first o idx s = some (.long n) := by
  obtain ⟨x, y, h1, h2, -, -⟩ := cmp_v (Or.inl h)
  cases h2.symm.trans (long_at n)
  cases x <;> simp [Cond.value, h1, h2] at h
  rw [h1, h]
theorem own_c0 (x : Int32) : ((x &&& (2147483647 : Int32)) % (17 : Int32)) = (0 : Int32) ∨ ((x &&& (2147483647 : Int32)) % (17 : Int32)) = (1 : Int32) ∨ ((x &&& (2147483647 : Int32)) % (17 : Int32)) = (2 : Int32) ∨ ((x &&& (2147483647 : Int32)) % (17 : Int32)) = (3 : Int32) ∨ ((x &&& (2147483647 : Int32)) % (17 : Int32)) = (4 : Int32) ∨ ((x &&& (2147483647 : Int32)) % (17 : Int32)) = (5 : Int32) ∨ ((x &&& (2147483647 : Int32)) % (17 : Int32)) = (6 : Int32) ∨ ((x &&& (2147483647 : Int32)) % (17 : Int32)) = (7 : Int32) ∨ ((x &&& (2147483647 : Int32)) % (17 : Int32)) = (8 : Int32) ∨ ((x &&& (2147483647 : Int32)) % (17 : Int32)) = (9 : Int32) ∨ ((x &&& (2147483647 : Int32)) % (17 : Int32)) = (10 : Int32) ∨ ((x &&& (2147483647 : Int32)) % (17 : Int32)) = (11 : Int32) ∨ ((x &&& (2147483647 : Int32)) % (17 : Int32)) = (12 : Int32) ∨ ((x &&& (2147483647 : Int32)) % (17 : Int32)) = (13 : Int32) ∨ ((x &&& (2147483647 : Int32)) % (17 : Int32)) = (14 : Int32) ∨ ((x &&& (2147483647 : Int32)) % (17 : Int32)) = (15 : Int32) ∨ ((x &&& (2147483647 : Int32)) % (17 : Int32)) = (16 : Int32) := by
  have h1 := (c_and x (2147483647 : Int32) (by decide)).1
  have h2 := (c_irem (x &&& (2147483647 : Int32)) (17 : Int32) 17 (by decide)).1 h1
  have h9 : (((x &&& (2147483647 : Int32)) % (17 : Int32))).toInt = 0 ∨ (((x &&& (2147483647 : Int32)) % (17 : Int32))).toInt = 1 ∨ (((x &&& (2147483647 : Int32)) % (17 : Int32))).toInt = 2 ∨ (((x &&& (2147483647 : Int32)) % (17 : Int32))).toInt = 3 ∨ (((x &&& (2147483647 : Int32)) % (17 : Int32))).toInt = 4 ∨ (((x &&& (2147483647 : Int32)) % (17 : Int32))).toInt = 5 ∨ (((x &&& (2147483647 : Int32)) % (17 : Int32))).toInt = 6 ∨ (((x &&& (2147483647 : Int32)) % (17 : Int32))).toInt = 7 ∨ (((x &&& (2147483647 : Int32)) % (17 : Int32))).toInt = 8 ∨ (((x &&& (2147483647 : Int32)) % (17 : Int32))).toInt = 9 ∨ (((x &&& (2147483647 : Int32)) % (17 : Int32))).toInt = 10 ∨ (((x &&& (2147483647 : Int32)) % (17 : Int32))).toInt = 11 ∨ (((x &&& (2147483647 : Int32)) % (17 : Int32))).toInt = 12 ∨ (((x &&& (2147483647 : Int32)) % (17 : Int32))).toInt = 13 ∨ (((x &&& (2147483647 : Int32)) % (17 : Int32))).toInt = 14 ∨ (((x &&& (2147483647 : Int32)) % (17 : Int32))).toInt = 15 ∨ (((x &&& (2147483647 : Int32)) % (17 : Int32))).toInt = 16 := by omega
  rcases h9 with q | q | q | q | q | q | q | q | q | q | q | q | q | q | q | q | q
  · exact Or.inl (Int32.toInt_inj.mp (q.trans (by decide)))
  · exact Or.inr (Or.inl (Int32.toInt_inj.mp (q.trans (by decide))))
  · exact Or.inr (Or.inr (Or.inl (Int32.toInt_inj.mp (q.trans (by decide)))))
  · exact Or.inr (Or.inr (Or.inr (Or.inl (Int32.toInt_inj.mp (q.trans (by decide))))))
  · exact Or.inr (Or.inr (Or.inr (Or.inr (Or.inl (Int32.toInt_inj.mp (q.trans (by decide)))))))
  · exact Or.inr (Or.inr (Or.inr (Or.inr (Or.inr (Or.inl (Int32.toInt_inj.mp (q.trans (by decide))))))))
  · exact Or.inr (Or.inr (Or.inr (Or.inr (Or.inr (Or.inr (Or.inl (Int32.toInt_inj.mp (q.trans (by decide)))))))))
  · exact Or.inr (Or.inr (Or.inr (Or.inr (Or.inr (Or.inr (Or.inr (Or.inl (Int32.toInt_inj.mp (q.trans (by decide))))))))))
  · exact Or.inr (Or.inr (Or.inr (Or.inr (Or.inr (Or.inr (Or.inr (Or.inr (Or.inl (Int32.toInt_inj.mp (q.trans (by decide)))))))))))
  · exact Or.inr (Or.inr (Or.inr (Or.inr (Or.inr (Or.inr (Or.inr (Or.inr (Or.inr (Or.inl (Int32.toInt_inj.mp (q.trans (by decide))))))))))))
  · exact Or.inr (Or.inr (Or.inr (Or.inr (Or.inr (Or.inr (Or.inr (Or.inr (Or.inr (Or.inr (Or.inl (Int32.toInt_inj.mp (q.trans (by decide)))))))))))))
  · exact Or.inr (Or.inr (Or.inr (Or.inr (Or.inr (Or.inr (Or.inr (Or.inr (Or.inr (Or.inr (Or.inr (Or.inl (Int32.toInt_inj.mp (q.trans (by decide))))))))))))))
  · exact Or.inr (Or.inr (Or.inr (Or.inr (Or.inr (Or.inr (Or.inr (Or.inr (Or.inr (Or.inr (Or.inr (Or.inr (Or.inl (Int32.toInt_inj.mp (q.trans (by decide)))))))))))))))
  · exact Or.inr (Or.inr (Or.inr (Or.inr (Or.inr (Or.inr (Or.inr (Or.inr (Or.inr (Or.inr (Or.inr (Or.inr (Or.inr (Or.inl (Int32.toInt_inj.mp (q.trans (by decide))))))))))))))))
  · exact Or.inr (Or.inr (Or.inr (Or.inr (Or.inr (Or.inr (Or.inr (Or.inr (Or.inr (Or.inr (Or.inr (Or.inr (Or.inr (Or.inr (Or.inl (Int32.toInt_inj.mp (q.trans (by decide)))))))))))))))))
  · exact Or.inr (Or.inr (Or.inr (Or.inr (Or.inr (Or.inr (Or.inr (Or.inr (Or.inr (Or.inr (Or.inr (Or.inr (Or.inr (Or.inr (Or.inr (Or.inl (Int32.toInt_inj.mp (q.trans (by decide))))))))))))))))))
  · exact Or.inr (Or.inr (Or.inr (Or.inr (Or.inr (Or.inr (Or.inr (Or.inr (Or.inr (Or.inr (Or.inr (Or.inr (Or.inr (Or.inr (Or.inr (Or.inr (Int32.toInt_inj.mp (q.trans (by decide))))))))))))))))))
theorem d1_0 : decode prog_4_method_5_code 0 = .ok (.aload_n 0, 1) := by decide +kernel
theorem d1_1 : decode prog_4_method_5_code 1 = .ok (.getfield 74, 3) := by decide +kernel
theorem d1_4 : decode prog_4_method_5_code 4 = .ok (.getstatic 106, 3) := by decide +kernel
theorem d1_7 : decode prog_4_method_5_code 7 = .ok (.if_acmp .eq 7, 3) := by decide +kernel
theorem d1_10 : decode prog_4_method_5_code 10 = .ok (.iconst 1, 1) := by decide +kernel
theorem d1_11 : decode prog_4_method_5_code 11 = .ok (.goto 4, 3) := by decide +kernel
theorem d1_15 : decode prog_4_method_5_code 15 = .ok (.ireturn, 1) := by decide +kernel
theorem pn_0 : plainName "com/example/garm/garm/command/Option" = true := by first | (simp [plainName, overriddenIn]; done) | decide +kernel
theorem ef_rm1_0 (m : MethodId) (x0 : Addr) : entryFrame m #[(.ref x0)] 1 = mkF m 0 #[.val (.ref x0)] [] := by first | (simp [entryFrame, mkF, argsToLocals, Value.category]; done) | rfl
def Q1_0 (Z : State) (w_POD : Addr) (w_VALUE : Addr) (w_FLAG : Addr) (h0 : Heap) (n0 : Nat) (v : Option Value) (h : Heap) (L : List Loc) : Prop := v = some (.int (1 : Int32)) ∧ Fr n0 L ∧ h = h0
set_option maxRecDepth 65536 in
set_option maxHeartbeats 40000000 in
theorem rm1_0 (l : Launch) (Z : State) (a0 : Array Value) (hw : ∀ d ∈ tables_1, d.before a0 Z = true) (ws : List Jvm.Cond) (w_POD : Addr) (w_VALUE : Addr) (w_FLAG : Addr) (h0 : Heap) (n0 : Nat) (Z0 : n0 ≤ h0.size) (F_form_POD : Fld Z h0 w_POD "com/example/garm/garm/command/Option" "form" "Lcom/example/garm/garm/command/Option$Form;" (.ref w_VALUE)) (S_FLAG : Sta Z h0 "com/example/garm/garm/command/Option$Form" "FLAG" "Lcom/example/garm/garm/command/Option$Form;" (.ref w_FLAG)) (ne_FLAG_VALUE : w_FLAG ≠ w_VALUE) :
    MetFree l (⟨"com/example/garm/garm/command/Option", "takesValue", "()Z"⟩ : MethodName) (head1 (Jvm.Cond.code (⟨"com/example/garm/garm/command/Option", "takesValue", "()Z"⟩ : MethodName) prog_4_method_5_code 1 (some .boolean) :: ws) ({ frames := 0, cells := 0, slots := 0, locals := 0 } : Room)) (fun a U => a = #[(.ref w_POD)] ∧ Z.Warmed39 U.vm ∧ U.heap = h0) (fun _ _ _ _ _ => True) (fun _ U o U' => ∃ v L, o = .returned v ∧ Q1_0 Z w_POD w_VALUE w_FLAG h0 n0 v U'.heap L ∧ FrameEnd U o U' L ({ frames := 0, cells := 0, slots := 0, locals := 0 } : Room).cells ({ frames := 0, cells := 0, slots := 0, locals := 0 } : Room).slots) := by
  refine MetFree.of_bodySF (plainFor_of_name pn_0) hisR ?_
  intro p e s m args below meth c s₁ Bd hml0 hP hK
  obtain ⟨rfl, hZ, hh⟩ := hP
  have hx := Bd.exec
  have hby := Bd.bytes
  have hml : c.maxLocals = 1 := hml0
  have hown : s.vm.findClass "com/example/garm/garm/command/Option" = some m.cls := findClass_of_methodNamed Bd.named
  have hnm := (name_of_methodNamed Bd.named Bd.method).1
  have X0 : Stand p l e ({ frames := 0, cells := 0, slots := 0, locals := 0 } : Room) s m #[(.ref w_POD)] below meth c s₁ [] 0 0 := Stand.of_body Bd
  have e0 : s₁.heap = h0 := by rw [← hh, Bd.state]; rfl
  have N0 := Fr.nil n0
  have pre0 : ∀ t, Steps p.tables e below (s₁.setTop (mkF m 0 #[.val (.ref w_POD)] [])) t → Steps p.tables e below (s₁.setTop (entryFrame m #[(.ref w_POD)] 1)) t := fun t k => castTop (ef_rm1_0 m w_POD) k
  obtain ⟨T1, X1, e1, st1⟩ := getF X0 hx hZ hown (host := "") (Or.inl (hw _ (List.mem_of_getElem? (i := 44) rfl))) Via.refl e0 F_form_POD (g := (mkF m 1 #[.val (.ref w_POD)] [(.ref w_POD)])) rfl rfl (hb hby d1_1)
  obtain ⟨T2, X2, e2, st2⟩ := getS2 X1 hx hZ hown (host := "") (Or.inl (hw _ (List.mem_of_getElem? (i := 48) rfl))) Via.refl e1 S_FLAG (g := (mkF m 4 #[.val (.ref w_POD)] [(.ref w_VALUE)])) rfl (hb hby d1_4)
  obtain ⟨fs, hr, hrun, hended, hW, hsame⟩ := X2.leave (v := some (.int (1 : Int32))) (fun h => by rw [Bd.returns] at h; cases h)
  refine ⟨_, _, pre0 _ ?_, hrun, hended, _, _, rfl, ?_, ⟨_, rfl⟩, hW, hsame.mono (by decide) (by decide)⟩
  ·
    show Steps p.tables e below (s₁.setTop (mkF m 0 #[.val (.ref w_POD)] [])) _
    refine XS.aloadN X0.here hx rfl (hb hby d1_0) rfl rfl ?_
    show Steps p.tables e below (s₁.setTop (mkF m 1 #[.val (.ref w_POD)] [(.ref w_POD)])) _
    refine st1 _ ?_
    show Steps p.tables e below (T1.setTop (mkF m 4 #[.val (.ref w_POD)] [(.ref w_VALUE)])) _
    refine st2 _ ?_
    show Steps p.tables e below (T2.setTop (mkF m 7 #[.val (.ref w_POD)] [(.ref w_FLAG), (.ref w_VALUE)])) _
    refine Jvm.RoadKit.acmp (g := (mkF m 7 #[.val (.ref w_POD)] [(.ref w_FLAG), (.ref w_VALUE)])) X2 hx rfl rfl rfl (pc0 := 7) (pc' := 10) (same := false) rfl (hb hby d1_7) rfl (decide_eq_false fun q => (Ne.symm ne_FLAG_VALUE) (Value.ref.inj q)) (by decide) (by decide) ?_
    show Steps p.tables e below (T2.setTop (mkF m 10 #[.val (.ref w_POD)] [])) _
    refine XS.iconst X2.here hx rfl (hb hby d1_10) ?_
    show Steps p.tables e below (T2.setTop (mkF m 11 #[.val (.ref w_POD)] [(.int (1 : Int32))])) _
    refine XS.goto X2.here hx rfl (pc0 := 11) (pc' := 15) rfl (hb hby d1_11) (by decide) (by decide) ?_
    show Steps p.tables e below (T2.setTop (mkF m 15 #[.val (.ref w_POD)] [(.int (1 : Int32))])) _
    exact retN X2 hx (t := .boolean) Bd.returns (by simp) (hb hby d1_15) hr
  · show Q1_0 Z w_POD w_VALUE w_FLAG h0 n0 _ T2.heap _
    rw [e2]
    exact ⟨rfl, N0, rfl⟩
theorem pd_0 : parseMethodDescriptor "()Z" = some ⟨[], some .boolean⟩ := by decide +kernel
theorem d2_0 : decode prog_4_method_6_code 0 = .ok (.aload_n 0, 1) := by decide +kernel
theorem d2_1 : decode prog_4_method_6_code 1 = .ok (.getfield 74, 3) := by decide +kernel
theorem d2_4 : decode prog_4_method_6_code 4 = .ok (.getstatic 111, 3) := by decide +kernel
theorem d2_7 : decode prog_4_method_6_code 7 = .ok (.if_acmp .ne 7, 3) := by decide +kernel
theorem d2_14 : decode prog_4_method_6_code 14 = .ok (.iconst 0, 1) := by decide +kernel
theorem d2_15 : decode prog_4_method_6_code 15 = .ok (.ireturn, 1) := by decide +kernel
theorem ef_rm2_0 (m : MethodId) (x0 : Addr) : entryFrame m #[(.ref x0)] 1 = mkF m 0 #[.val (.ref x0)] [] := by first | (simp [entryFrame, mkF, argsToLocals, Value.category]; done) | rfl
def Q2_0 (Z : State) (w_POD : Addr) (w_VALUE : Addr) (w_REPEATED_VALUE : Addr) (h0 : Heap) (n0 : Nat) (v : Option Value) (h : Heap) (L : List Loc) : Prop := v = some (.int (0 : Int32)) ∧ Fr n0 L ∧ h = h0
set_option maxRecDepth 65536 in
set_option maxHeartbeats 40000000 in
theorem rm2_0 (l : Launch) (Z : State) (a0 : Array Value) (hw : ∀ d ∈ tables_1, d.before a0 Z = true) (ws : List Jvm.Cond) (w_POD : Addr) (w_VALUE : Addr) (w_REPEATED_VALUE : Addr) (h0 : Heap) (n0 : Nat) (Z0 : n0 ≤ h0.size) (F_form_POD : Fld Z h0 w_POD "com/example/garm/garm/command/Option" "form" "Lcom/example/garm/garm/command/Option$Form;" (.ref w_VALUE)) (S_REPEATED_VALUE : Sta Z h0 "com/example/garm/garm/command/Option$Form" "REPEATED_VALUE" "Lcom/example/garm/garm/command/Option$Form;" (.ref w_REPEATED_VALUE)) (ne_REPEATED_VALUE_VALUE : w_REPEATED_VALUE ≠ w_VALUE) :
    MetFree l (⟨"com/example/garm/garm/command/Option", "isRepeatable", "()Z"⟩ : MethodName) (head1 (Jvm.Cond.code (⟨"com/example/garm/garm/command/Option", "isRepeatable", "()Z"⟩ : MethodName) prog_4_method_6_code 1 (some .boolean) :: ws) ({ frames := 0, cells := 0, slots := 0, locals := 0 } : Room)) (fun a U => a = #[(.ref w_POD)] ∧ Z.Warmed39 U.vm ∧ U.heap = h0) (fun _ _ _ _ _ => True) (fun _ U o U' => ∃ v L, o = .returned v ∧ Q2_0 Z w_POD w_VALUE w_REPEATED_VALUE h0 n0 v U'.heap L ∧ FrameEnd U o U' L ({ frames := 0, cells := 0, slots := 0, locals := 0 } : Room).cells ({ frames := 0, cells := 0, slots := 0, locals := 0 } : Room).slots) := by
  refine MetFree.of_bodySF (plainFor_of_name pn_0) hisR ?_
  intro p e s m args below meth c s₁ Bd hml0 hP hK
  obtain ⟨rfl, hZ, hh⟩ := hP
  have hx := Bd.exec
  have hby := Bd.bytes
  have hml : c.maxLocals = 1 := hml0
  have hown : s.vm.findClass "com/example/garm/garm/command/Option" = some m.cls := findClass_of_methodNamed Bd.named
  have hnm := (name_of_methodNamed Bd.named Bd.method).1
  have X0 : Stand p l e ({ frames := 0, cells := 0, slots := 0, locals := 0 } : Room) s m #[(.ref w_POD)] below meth c s₁ [] 0 0 := Stand.of_body Bd
  have e0 : s₁.heap = h0 := by rw [← hh, Bd.state]; rfl
  have N0 := Fr.nil n0
  have pre0 : ∀ t, Steps p.tables e below (s₁.setTop (mkF m 0 #[.val (.ref w_POD)] [])) t → Steps p.tables e below (s₁.setTop (entryFrame m #[(.ref w_POD)] 1)) t := fun t k => castTop (ef_rm2_0 m w_POD) k
  obtain ⟨T1, X1, e1, st1⟩ := getF X0 hx hZ hown (host := "") (Or.inl (hw _ (List.mem_of_getElem? (i := 44) rfl))) Via.refl e0 F_form_POD (g := (mkF m 1 #[.val (.ref w_POD)] [(.ref w_POD)])) rfl rfl (hb hby d2_1)
  obtain ⟨T2, X2, e2, st2⟩ := getS2 X1 hx hZ hown (host := "") (Or.inl (hw _ (List.mem_of_getElem? (i := 55) rfl))) Via.refl e1 S_REPEATED_VALUE (g := (mkF m 4 #[.val (.ref w_POD)] [(.ref w_VALUE)])) rfl (hb hby d2_4)
  obtain ⟨fs, hr, hrun, hended, hW, hsame⟩ := X2.leave (v := some (.int (0 : Int32))) (fun h => by rw [Bd.returns] at h; cases h)
  refine ⟨_, _, pre0 _ ?_, hrun, hended, _, _, rfl, ?_, ⟨_, rfl⟩, hW, hsame.mono (by decide) (by decide)⟩
  ·
    show Steps p.tables e below (s₁.setTop (mkF m 0 #[.val (.ref w_POD)] [])) _
    refine XS.aloadN X0.here hx rfl (hb hby d2_0) rfl rfl ?_
    show Steps p.tables e below (s₁.setTop (mkF m 1 #[.val (.ref w_POD)] [(.ref w_POD)])) _
    refine st1 _ ?_
    show Steps p.tables e below (T1.setTop (mkF m 4 #[.val (.ref w_POD)] [(.ref w_VALUE)])) _
    refine st2 _ ?_
    show Steps p.tables e below (T2.setTop (mkF m 7 #[.val (.ref w_POD)] [(.ref w_REPEATED_VALUE), (.ref w_VALUE)])) _
    refine Jvm.RoadKit.acmp (g := (mkF m 7 #[.val (.ref w_POD)] [(.ref w_REPEATED_VALUE), (.ref w_VALUE)])) X2 hx rfl rfl rfl (pc0 := 7) (pc' := 14) (same := false) rfl (hb hby d2_7) rfl (decide_eq_false fun q => (Ne.symm ne_REPEATED_VALUE_VALUE) (Value.ref.inj q)) (by decide) (by decide) ?_
    show Steps p.tables e below (T2.setTop (mkF m 14 #[.val (.ref w_POD)] [])) _
    refine XS.iconst X2.here hx rfl (hb hby d2_14) ?_
    show Steps p.tables e below (T2.setTop (mkF m 15 #[.val (.ref w_POD)] [(.int (0 : Int32))])) _
    exact retN X2 hx (t := .boolean) Bd.returns (by simp) (hb hby d2_15) hr
  · show Q2_0 Z w_POD w_VALUE w_REPEATED_VALUE h0 n0 _ T2.heap _
    rw [e2]
    exact ⟨rfl, N0, rfl⟩
theorem ef_rm1_1 (m : MethodId) (x0 : Addr) : entryFrame m #[(.ref x0)] 1 = mkF m 0 #[.val (.ref x0)] [] := by first | (simp [entryFrame, mkF, argsToLocals, Value.category]; done) | rfl
def Q1_1 (Z : State) (w_BASE : Addr) (w_VALUE : Addr) (w_FLAG : Addr) (h0 : Heap) (n0 : Nat) (v : Option Value) (h : Heap) (L : List Loc) : Prop := v = some (.int (1 : Int32)) ∧ Fr n0 L ∧ h = h0
set_option maxRecDepth 65536 in
set_option maxHeartbeats 40000000 in
theorem rm1_1 (l : Launch) (Z : State) (a0 : Array Value) (hw : ∀ d ∈ tables_1, d.before a0 Z = true) (ws : List Jvm.Cond) (w_BASE : Addr) (w_VALUE : Addr) (w_FLAG : Addr) (h0 : Heap) (n0 : Nat) (Z0 : n0 ≤ h0.size) (F_form_BASE : Fld Z h0 w_BASE "com/example/garm/garm/command/Option" "form" "Lcom/example/garm/garm/command/Option$Form;" (.ref w_VALUE)) (S_FLAG : Sta Z h0 "com/example/garm/garm/command/Option$Form" "FLAG" "Lcom/example/garm/garm/command/Option$Form;" (.ref w_FLAG)) (ne_FLAG_VALUE : w_FLAG ≠ w_VALUE) :
    MetFree l (⟨"com/example/garm/garm/command/Option", "takesValue", "()Z"⟩ : MethodName) (head1 (Jvm.Cond.code (⟨"com/example/garm/garm/command/Option", "takesValue", "()Z"⟩ : MethodName) prog_4_method_5_code 1 (some .boolean) :: ws) ({ frames := 0, cells := 0, slots := 0, locals := 0 } : Room)) (fun a U => a = #[(.ref w_BASE)] ∧ Z.Warmed39 U.vm ∧ U.heap = h0) (fun _ _ _ _ _ => True) (fun _ U o U' => ∃ v L, o = .returned v ∧ Q1_1 Z w_BASE w_VALUE w_FLAG h0 n0 v U'.heap L ∧ FrameEnd U o U' L ({ frames := 0, cells := 0, slots := 0, locals := 0 } : Room).cells ({ frames := 0, cells := 0, slots := 0, locals := 0 } : Room).slots) := by
  refine MetFree.of_bodySF (plainFor_of_name pn_0) hisR ?_
  intro p e s m args below meth c s₁ Bd hml0 hP hK
  obtain ⟨rfl, hZ, hh⟩ := hP
  have hx := Bd.exec
  have hby := Bd.bytes
  have hml : c.maxLocals = 1 := hml0
  have hown : s.vm.findClass "com/example/garm/garm/command/Option" = some m.cls := findClass_of_methodNamed Bd.named
  have hnm := (name_of_methodNamed Bd.named Bd.method).1
  have X0 : Stand p l e ({ frames := 0, cells := 0, slots := 0, locals := 0 } : Room) s m #[(.ref w_BASE)] below meth c s₁ [] 0 0 := Stand.of_body Bd
  have e0 : s₁.heap = h0 := by rw [← hh, Bd.state]; rfl
  have N0 := Fr.nil n0
  have pre0 : ∀ t, Steps p.tables e below (s₁.setTop (mkF m 0 #[.val (.ref w_BASE)] [])) t → Steps p.tables e below (s₁.setTop (entryFrame m #[(.ref w_BASE)] 1)) t := fun t k => castTop (ef_rm1_1 m w_BASE) k
  obtain ⟨T1, X1, e1, st1⟩ := getF X0 hx hZ hown (host := "") (Or.inl (hw _ (List.mem_of_getElem? (i := 44) rfl))) Via.refl e0 F_form_BASE (g := (mkF m 1 #[.val (.ref w_BASE)] [(.ref w_BASE)])) rfl rfl (hb hby d1_1)
  obtain ⟨T2, X2, e2, st2⟩ := getS2 X1 hx hZ hown (host := "") (Or.inl (hw _ (List.mem_of_getElem? (i := 48) rfl))) Via.refl e1 S_FLAG (g := (mkF m 4 #[.val (.ref w_BASE)] [(.ref w_VALUE)])) rfl (hb hby d1_4)
  obtain ⟨fs, hr, hrun, hended, hW, hsame⟩ := X2.leave (v := some (.int (1 : Int32))) (fun h => by rw [Bd.returns] at h; cases h)
  refine ⟨_, _, pre0 _ ?_, hrun, hended, _, _, rfl, ?_, ⟨_, rfl⟩, hW, hsame.mono (by decide) (by decide)⟩
  ·
    show Steps p.tables e below (s₁.setTop (mkF m 0 #[.val (.ref w_BASE)] [])) _
    refine XS.aloadN X0.here hx rfl (hb hby d1_0) rfl rfl ?_
    show Steps p.tables e below (s₁.setTop (mkF m 1 #[.val (.ref w_BASE)] [(.ref w_BASE)])) _
    refine st1 _ ?_
    show Steps p.tables e below (T1.setTop (mkF m 4 #[.val (.ref w_BASE)] [(.ref w_VALUE)])) _
    refine st2 _ ?_
    show Steps p.tables e below (T2.setTop (mkF m 7 #[.val (.ref w_BASE)] [(.ref w_FLAG), (.ref w_VALUE)])) _
    refine Jvm.RoadKit.acmp (g := (mkF m 7 #[.val (.ref w_BASE)] [(.ref w_FLAG), (.ref w_VALUE)])) X2 hx rfl rfl rfl (pc0 := 7) (pc' := 10) (same := false) rfl (hb hby d1_7) rfl (decide_eq_false fun q => (Ne.symm ne_FLAG_VALUE) (Value.ref.inj q)) (by decide) (by decide) ?_
    show Steps p.tables e below (T2.setTop (mkF m 10 #[.val (.ref w_BASE)] [])) _
    refine XS.iconst X2.here hx rfl (hb hby d1_10) ?_
    show Steps p.tables e below (T2.setTop (mkF m 11 #[.val (.ref w_BASE)] [(.int (1 : Int32))])) _
    refine XS.goto X2.here hx rfl (pc0 := 11) (pc' := 15) rfl (hb hby d1_11) (by decide) (by decide) ?_
    show Steps p.tables e below (T2.setTop (mkF m 15 #[.val (.ref w_BASE)] [(.int (1 : Int32))])) _
    exact retN X2 hx (t := .boolean) Bd.returns (by simp) (hb hby d1_15) hr
  · show Q1_1 Z w_BASE w_VALUE w_FLAG h0 n0 _ T2.heap _
    rw [e2]
    exact ⟨rfl, N0, rfl⟩
theorem ef_rm2_1 (m : MethodId) (x0 : Addr) : entryFrame m #[(.ref x0)] 1 = mkF m 0 #[.val (.ref x0)] [] := by first | (simp [entryFrame, mkF, argsToLocals, Value.category]; done) | rfl
def Q2_1 (Z : State) (w_BASE : Addr) (w_VALUE : Addr) (w_REPEATED_VALUE : Addr) (h0 : Heap) (n0 : Nat) (v : Option Value) (h : Heap) (L : List Loc) : Prop := v = some (.int (0 : Int32)) ∧ Fr n0 L ∧ h = h0
set_option maxRecDepth 65536 in
set_option maxHeartbeats 40000000 in
theorem rm2_1 (l : Launch) (Z : State) (a0 : Array Value) (hw : ∀ d ∈ tables_1, d.before a0 Z = true) (ws : List Jvm.Cond) (w_BASE : Addr) (w_VALUE : Addr) (w_REPEATED_VALUE : Addr) (h0 : Heap) (n0 : Nat) (Z0 : n0 ≤ h0.size) (F_form_BASE : Fld Z h0 w_BASE "com/example/garm/garm/command/Option" "form" "Lcom/example/garm/garm/command/Option$Form;" (.ref w_VALUE)) (S_REPEATED_VALUE : Sta Z h0 "com/example/garm/garm/command/Option$Form" "REPEATED_VALUE" "Lcom/example/garm/garm/command/Option$Form;" (.ref w_REPEATED_VALUE)) (ne_REPEATED_VALUE_VALUE : w_REPEATED_VALUE ≠ w_VALUE) :
    MetFree l (⟨"com/example/garm/garm/command/Option", "isRepeatable", "()Z"⟩ : MethodName) (head1 (Jvm.Cond.code (⟨"com/example/garm/garm/command/Option", "isRepeatable", "()Z"⟩ : MethodName) prog_4_method_6_code 1 (some .boolean) :: ws) ({ frames := 0, cells := 0, slots := 0, locals := 0 } : Room)) (fun a U => a = #[(.ref w_BASE)] ∧ Z.Warmed39 U.vm ∧ U.heap = h0) (fun _ _ _ _ _ => True) (fun _ U o U' => ∃ v L, o = .returned v ∧ Q2_1 Z w_BASE w_VALUE w_REPEATED_VALUE h0 n0 v U'.heap L ∧ FrameEnd U o U' L ({ frames := 0, cells := 0, slots := 0, locals := 0 } : Room).cells ({ frames := 0, cells := 0, slots := 0, locals := 0 } : Room).slots) := by
  refine MetFree.of_bodySF (plainFor_of_name pn_0) hisR ?_
  intro p e s m args below meth c s₁ Bd hml0 hP hK
  obtain ⟨rfl, hZ, hh⟩ := hP
  have hx := Bd.exec
  have hby := Bd.bytes
  have hml : c.maxLocals = 1 := hml0
  have hown : s.vm.findClass "com/example/garm/garm/command/Option" = some m.cls := findClass_of_methodNamed Bd.named
  have hnm := (name_of_methodNamed Bd.named Bd.method).1
  have X0 : Stand p l e ({ frames := 0, cells := 0, slots := 0, locals := 0 } : Room) s m #[(.ref w_BASE)] below meth c s₁ [] 0 0 := Stand.of_body Bd
  have e0 : s₁.heap = h0 := by rw [← hh, Bd.state]; rfl
  have N0 := Fr.nil n0
  have pre0 : ∀ t, Steps p.tables e below (s₁.setTop (mkF m 0 #[.val (.ref w_BASE)] [])) t → Steps p.tables e below (s₁.setTop (entryFrame m #[(.ref w_BASE)] 1)) t := fun t k => castTop (ef_rm2_1 m w_BASE) k
  obtain ⟨T1, X1, e1, st1⟩ := getF X0 hx hZ hown (host := "") (Or.inl (hw _ (List.mem_of_getElem? (i := 44) rfl))) Via.refl e0 F_form_BASE (g := (mkF m 1 #[.val (.ref w_BASE)] [(.ref w_BASE)])) rfl rfl (hb hby d2_1)
  obtain ⟨T2, X2, e2, st2⟩ := getS2 X1 hx hZ hown (host := "") (Or.inl (hw _ (List.mem_of_getElem? (i := 55) rfl))) Via.refl e1 S_REPEATED_VALUE (g := (mkF m 4 #[.val (.ref w_BASE)] [(.ref w_VALUE)])) rfl (hb hby d2_4)
  obtain ⟨fs, hr, hrun, hended, hW, hsame⟩ := X2.leave (v := some (.int (0 : Int32))) (fun h => by rw [Bd.returns] at h; cases h)
  refine ⟨_, _, pre0 _ ?_, hrun, hended, _, _, rfl, ?_, ⟨_, rfl⟩, hW, hsame.mono (by decide) (by decide)⟩
  ·
    show Steps p.tables e below (s₁.setTop (mkF m 0 #[.val (.ref w_BASE)] [])) _
    refine XS.aloadN X0.here hx rfl (hb hby d2_0) rfl rfl ?_
    show Steps p.tables e below (s₁.setTop (mkF m 1 #[.val (.ref w_BASE)] [(.ref w_BASE)])) _
    refine st1 _ ?_
    show Steps p.tables e below (T1.setTop (mkF m 4 #[.val (.ref w_BASE)] [(.ref w_VALUE)])) _
    refine st2 _ ?_
    show Steps p.tables e below (T2.setTop (mkF m 7 #[.val (.ref w_BASE)] [(.ref w_REPEATED_VALUE), (.ref w_VALUE)])) _
    refine Jvm.RoadKit.acmp (g := (mkF m 7 #[.val (.ref w_BASE)] [(.ref w_REPEATED_VALUE), (.ref w_VALUE)])) X2 hx rfl rfl rfl (pc0 := 7) (pc' := 14) (same := false) rfl (hb hby d2_7) rfl (decide_eq_false fun q => (Ne.symm ne_REPEATED_VALUE_VALUE) (Value.ref.inj q)) (by decide) (by decide) ?_
    show Steps p.tables e below (T2.setTop (mkF m 14 #[.val (.ref w_BASE)] [])) _
    refine XS.iconst X2.here hx rfl (hb hby d2_14) ?_
    show Steps p.tables e below (T2.setTop (mkF m 15 #[.val (.ref w_BASE)] [(.int (0 : Int32))])) _
    exact retN X2 hx (t := .boolean) Bd.returns (by simp) (hb hby d2_15) hr
  · show Q2_1 Z w_BASE w_VALUE w_REPEATED_VALUE h0 n0 _ T2.heap _
    rw [e2]
    exact ⟨rfl, N0, rfl⟩
theorem ef_rm1_2 (m : MethodId) (x0 : Addr) : entryFrame m #[(.ref x0)] 1 = mkF m 0 #[.val (.ref x0)] [] := by first | (simp [entryFrame, mkF, argsToLocals, Value.category]; done) | rfl
def Q1_2 (Z : State) (w_RESOURCE : Addr) (w_VALUE : Addr) (w_FLAG : Addr) (h0 : Heap) (n0 : Nat) (v : Option Value) (h : Heap) (L : List Loc) : Prop := v = some (.int (1 : Int32)) ∧ Fr n0 L ∧ h = h0
set_option maxRecDepth 65536 in
set_option maxHeartbeats 40000000 in
theorem rm1_2 (l : Launch) (Z : State) (a0 : Array Value) (hw : ∀ d ∈ tables_1, d.before a0 Z = true) (ws : List Jvm.Cond) (w_RESOURCE : Addr) (w_VALUE : Addr) (w_FLAG : Addr) (h0 : Heap) (n0 : Nat) (Z0 : n0 ≤ h0.size) (F_form_RESOURCE : Fld Z h0 w_RESOURCE "com/example/garm/garm/command/Option" "form" "Lcom/example/garm/garm/command/Option$Form;" (.ref w_VALUE)) (S_FLAG : Sta Z h0 "com/example/garm/garm/command/Option$Form" "FLAG" "Lcom/example/garm/garm/command/Option$Form;" (.ref w_FLAG)) (ne_FLAG_VALUE : w_FLAG ≠ w_VALUE) :
    MetFree l (⟨"com/example/garm/garm/command/Option", "takesValue", "()Z"⟩ : MethodName) (head1 (Jvm.Cond.code (⟨"com/example/garm/garm/command/Option", "takesValue", "()Z"⟩ : MethodName) prog_4_method_5_code 1 (some .boolean) :: ws) ({ frames := 0, cells := 0, slots := 0, locals := 0 } : Room)) (fun a U => a = #[(.ref w_RESOURCE)] ∧ Z.Warmed39 U.vm ∧ U.heap = h0) (fun _ _ _ _ _ => True) (fun _ U o U' => ∃ v L, o = .returned v ∧ Q1_2 Z w_RESOURCE w_VALUE w_FLAG h0 n0 v U'.heap L ∧ FrameEnd U o U' L ({ frames := 0, cells := 0, slots := 0, locals := 0 } : Room).cells ({ frames := 0, cells := 0, slots := 0, locals := 0 } : Room).slots) := by
  refine MetFree.of_bodySF (plainFor_of_name pn_0) hisR ?_
  intro p e s m args below meth c s₁ Bd hml0 hP hK
  obtain ⟨rfl, hZ, hh⟩ := hP
  have hx := Bd.exec
  have hby := Bd.bytes
  have hml : c.maxLocals = 1 := hml0
  have hown : s.vm.findClass "com/example/garm/garm/command/Option" = some m.cls := findClass_of_methodNamed Bd.named
  have hnm := (name_of_methodNamed Bd.named Bd.method).1
  have X0 : Stand p l e ({ frames := 0, cells := 0, slots := 0, locals := 0 } : Room) s m #[(.ref w_RESOURCE)] below meth c s₁ [] 0 0 := Stand.of_body Bd
  have e0 : s₁.heap = h0 := by rw [← hh, Bd.state]; rfl
  have N0 := Fr.nil n0
  have pre0 : ∀ t, Steps p.tables e below (s₁.setTop (mkF m 0 #[.val (.ref w_RESOURCE)] [])) t → Steps p.tables e below (s₁.setTop (entryFrame m #[(.ref w_RESOURCE)] 1)) t := fun t k => castTop (ef_rm1_2 m w_RESOURCE) k
  obtain ⟨T1, X1, e1, st1⟩ := getF X0 hx hZ hown (host := "") (Or.inl (hw _ (List.mem_of_getElem? (i := 44) rfl))) Via.refl e0 F_form_RESOURCE (g := (mkF m 1 #[.val (.ref w_RESOURCE)] [(.ref w_RESOURCE)])) rfl rfl (hb hby d1_1)
  obtain ⟨T2, X2, e2, st2⟩ := getS2 X1 hx hZ hown (host := "") (Or.inl (hw _ (List.mem_of_getElem? (i := 48) rfl))) Via.refl e1 S_FLAG (g := (mkF m 4 #[.val (.ref w_RESOURCE)] [(.ref w_VALUE)])) rfl (hb hby d1_4)
  obtain ⟨fs, hr, hrun, hended, hW, hsame⟩ := X2.leave (v := some (.int (1 : Int32))) (fun h => by rw [Bd.returns] at h; cases h)
  refine ⟨_, _, pre0 _ ?_, hrun, hended, _, _, rfl, ?_, ⟨_, rfl⟩, hW, hsame.mono (by decide) (by decide)⟩
  ·
    show Steps p.tables e below (s₁.setTop (mkF m 0 #[.val (.ref w_RESOURCE)] [])) _
    refine XS.aloadN X0.here hx rfl (hb hby d1_0) rfl rfl ?_
    show Steps p.tables e below (s₁.setTop (mkF m 1 #[.val (.ref w_RESOURCE)] [(.ref w_RESOURCE)])) _
    refine st1 _ ?_
    show Steps p.tables e below (T1.setTop (mkF m 4 #[.val (.ref w_RESOURCE)] [(.ref w_VALUE)])) _
    refine st2 _ ?_
    show Steps p.tables e below (T2.setTop (mkF m 7 #[.val (.ref w_RESOURCE)] [(.ref w_FLAG), (.ref w_VALUE)])) _
    refine Jvm.RoadKit.acmp (g := (mkF m 7 #[.val (.ref w_RESOURCE)] [(.ref w_FLAG), (.ref w_VALUE)])) X2 hx rfl rfl rfl (pc0 := 7) (pc' := 10) (same := false) rfl (hb hby d1_7) rfl (decide_eq_false fun q => (Ne.symm ne_FLAG_VALUE) (Value.ref.inj q)) (by decide) (by decide) ?_
    show Steps p.tables e below (T2.setTop (mkF m 10 #[.val (.ref w_RESOURCE)] [])) _
    refine XS.iconst X2.here hx rfl (hb hby d1_10) ?_
    show Steps p.tables e below (T2.setTop (mkF m 11 #[.val (.ref w_RESOURCE)] [(.int (1 : Int32))])) _
    refine XS.goto X2.here hx rfl (pc0 := 11) (pc' := 15) rfl (hb hby d1_11) (by decide) (by decide) ?_
    show Steps p.tables e below (T2.setTop (mkF m 15 #[.val (.ref w_RESOURCE)] [(.int (1 : Int32))])) _
    exact retN X2 hx (t := .boolean) Bd.returns (by simp) (hb hby d1_15) hr
  · show Q1_2 Z w_RESOURCE w_VALUE w_FLAG h0 n0 _ T2.heap _
    rw [e2]
    exact ⟨rfl, N0, rfl⟩
theorem ef_rm2_2 (m : MethodId) (x0 : Addr) : entryFrame m #[(.ref x0)] 1 = mkF m 0 #[.val (.ref x0)] [] := by first | (simp [entryFrame, mkF, argsToLocals, Value.category]; done) | rfl
def Q2_2 (Z : State) (w_RESOURCE : Addr) (w_VALUE : Addr) (w_REPEATED_VALUE : Addr) (h0 : Heap) (n0 : Nat) (v : Option Value) (h : Heap) (L : List Loc) : Prop := v = some (.int (0 : Int32)) ∧ Fr n0 L ∧ h = h0
set_option maxRecDepth 65536 in
set_option maxHeartbeats 40000000 in
theorem rm2_2 (l : Launch) (Z : State) (a0 : Array Value) (hw : ∀ d ∈ tables_1, d.before a0 Z = true) (ws : List Jvm.Cond) (w_RESOURCE : Addr) (w_VALUE : Addr) (w_REPEATED_VALUE : Addr) (h0 : Heap) (n0 : Nat) (Z0 : n0 ≤ h0.size) (F_form_RESOURCE : Fld Z h0 w_RESOURCE "com/example/garm/garm/command/Option" "form" "Lcom/example/garm/garm/command/Option$Form;" (.ref w_VALUE)) (S_REPEATED_VALUE : Sta Z h0 "com/example/garm/garm/command/Option$Form" "REPEATED_VALUE" "Lcom/example/garm/garm/command/Option$Form;" (.ref w_REPEATED_VALUE)) (ne_REPEATED_VALUE_VALUE : w_REPEATED_VALUE ≠ w_VALUE) :
    MetFree l (⟨"com/example/garm/garm/command/Option", "isRepeatable", "()Z"⟩ : MethodName) (head1 (Jvm.Cond.code (⟨"com/example/garm/garm/command/Option", "isRepeatable", "()Z"⟩ : MethodName) prog_4_method_6_code 1 (some .boolean) :: ws) ({ frames := 0, cells := 0, slots := 0, locals := 0 } : Room)) (fun a U => a = #[(.ref w_RESOURCE)] ∧ Z.Warmed39 U.vm ∧ U.heap = h0) (fun _ _ _ _ _ => True) (fun _ U o U' => ∃ v L, o = .returned v ∧ Q2_2 Z w_RESOURCE w_VALUE w_REPEATED_VALUE h0 n0 v U'.heap L ∧ FrameEnd U o U' L ({ frames := 0, cells := 0, slots := 0, locals := 0 } : Room).cells ({ frames := 0, cells := 0, slots := 0, locals := 0 } : Room).slots) := by
  refine MetFree.of_bodySF (plainFor_of_name pn_0) hisR ?_
  intro p e s m args below meth c s₁ Bd hml0 hP hK
  obtain ⟨rfl, hZ, hh⟩ := hP
  have hx := Bd.exec
  have hby := Bd.bytes
  have hml : c.maxLocals = 1 := hml0
  have hown : s.vm.findClass "com/example/garm/garm/command/Option" = some m.cls := findClass_of_methodNamed Bd.named
  have hnm := (name_of_methodNamed Bd.named Bd.method).1
  have X0 : Stand p l e ({ frames := 0, cells := 0, slots := 0, locals := 0 } : Room) s m #[(.ref w_RESOURCE)] below meth c s₁ [] 0 0 := Stand.of_body Bd
  have e0 : s₁.heap = h0 := by rw [← hh, Bd.state]; rfl
  have N0 := Fr.nil n0
  have pre0 : ∀ t, Steps p.tables e below (s₁.setTop (mkF m 0 #[.val (.ref w_RESOURCE)] [])) t → Steps p.tables e below (s₁.setTop (entryFrame m #[(.ref w_RESOURCE)] 1)) t := fun t k => castTop (ef_rm2_2 m w_RESOURCE) k
  obtain ⟨T1, X1, e1, st1⟩ := getF X0 hx hZ hown (host := "") (Or.inl (hw _ (List.mem_of_getElem? (i := 44) rfl))) Via.refl e0 F_form_RESOURCE (g := (mkF m 1 #[.val (.ref w_RESOURCE)] [(.ref w_RESOURCE)])) rfl rfl (hb hby d2_1)
  obtain ⟨T2, X2, e2, st2⟩ := getS2 X1 hx hZ hown (host := "") (Or.inl (hw _ (List.mem_of_getElem? (i := 55) rfl))) Via.refl e1 S_REPEATED_VALUE (g := (mkF m 4 #[.val (.ref w_RESOURCE)] [(.ref w_VALUE)])) rfl (hb hby d2_4)
  obtain ⟨fs, hr, hrun, hended, hW, hsame⟩ := X2.leave (v := some (.int (0 : Int32))) (fun h => by rw [Bd.returns] at h; cases h)
  refine ⟨_, _, pre0 _ ?_, hrun, hended, _, _, rfl, ?_, ⟨_, rfl⟩, hW, hsame.mono (by decide) (by decide)⟩
  ·
    show Steps p.tables e below (s₁.setTop (mkF m 0 #[.val (.ref w_RESOURCE)] [])) _
    refine XS.aloadN X0.here hx rfl (hb hby d2_0) rfl rfl ?_
    show Steps p.tables e below (s₁.setTop (mkF m 1 #[.val (.ref w_RESOURCE)] [(.ref w_RESOURCE)])) _
    refine st1 _ ?_
    show Steps p.tables e below (T1.setTop (mkF m 4 #[.val (.ref w_RESOURCE)] [(.ref w_VALUE)])) _
    refine st2 _ ?_
    show Steps p.tables e below (T2.setTop (mkF m 7 #[.val (.ref w_RESOURCE)] [(.ref w_REPEATED_VALUE), (.ref w_VALUE)])) _
    refine Jvm.RoadKit.acmp (g := (mkF m 7 #[.val (.ref w_RESOURCE)] [(.ref w_REPEATED_VALUE), (.ref w_VALUE)])) X2 hx rfl rfl rfl (pc0 := 7) (pc' := 14) (same := false) rfl (hb hby d2_7) rfl (decide_eq_false fun q => (Ne.symm ne_REPEATED_VALUE_VALUE) (Value.ref.inj q)) (by decide) (by decide) ?_
    show Steps p.tables e below (T2.setTop (mkF m 14 #[.val (.ref w_RESOURCE)] [])) _
    refine XS.iconst X2.here hx rfl (hb hby d2_14) ?_
    show Steps p.tables e below (T2.setTop (mkF m 15 #[.val (.ref w_RESOURCE)] [(.int (0 : Int32))])) _
    exact retN X2 hx (t := .boolean) Bd.returns (by simp) (hb hby d2_15) hr
  · show Q2_2 Z w_RESOURCE w_VALUE w_REPEATED_VALUE h0 n0 _ T2.heap _
    rw [e2]
    exact ⟨rfl, N0, rfl⟩
theorem ef_rm1_3 (m : MethodId) (x0 : Addr) : entryFrame m #[(.ref x0)] 1 = mkF m 0 #[.val (.ref x0)] [] := by first | (simp [entryFrame, mkF, argsToLocals, Value.category]; done) | rfl
def Q1_3 (Z : State) (w_AGENT : Addr) (w_VALUE : Addr) (w_FLAG : Addr) (h0 : Heap) (n0 : Nat) (v : Option Value) (h : Heap) (L : List Loc) : Prop := v = some (.int (1 : Int32)) ∧ Fr n0 L ∧ h = h0
set_option maxRecDepth 65536 in
set_option maxHeartbeats 40000000 in
theorem rm1_3 (l : Launch) (Z : State) (a0 : Array Value) (hw : ∀ d ∈ tables_1, d.before a0 Z = true) (ws : List Jvm.Cond) (w_AGENT : Addr) (w_VALUE : Addr) (w_FLAG : Addr) (h0 : Heap) (n0 : Nat) (Z0 : n0 ≤ h0.size) (F_form_AGENT : Fld Z h0 w_AGENT "com/example/garm/garm/command/Option" "form" "Lcom/example/garm/garm/command/Option$Form;" (.ref w_VALUE)) (S_FLAG : Sta Z h0 "com/example/garm/garm/command/Option$Form" "FLAG" "Lcom/example/garm/garm/command/Option$Form;" (.ref w_FLAG)) (ne_FLAG_VALUE : w_FLAG ≠ w_VALUE) :
    MetFree l (⟨"com/example/garm/garm/command/Option", "takesValue", "()Z"⟩ : MethodName) (head1 (Jvm.Cond.code (⟨"com/example/garm/garm/command/Option", "takesValue", "()Z"⟩ : MethodName) prog_4_method_5_code 1 (some .boolean) :: ws) ({ frames := 0, cells := 0, slots := 0, locals := 0 } : Room)) (fun a U => a = #[(.ref w_AGENT)] ∧ Z.Warmed39 U.vm ∧ U.heap = h0) (fun _ _ _ _ _ => True) (fun _ U o U' => ∃ v L, o = .returned v ∧ Q1_3 Z w_AGENT w_VALUE w_FLAG h0 n0 v U'.heap L ∧ FrameEnd U o U' L ({ frames := 0, cells := 0, slots := 0, locals := 0 } : Room).cells ({ frames := 0, cells := 0, slots := 0, locals := 0 } : Room).slots) := by
  refine MetFree.of_bodySF (plainFor_of_name pn_0) hisR ?_
  intro p e s m args below meth c s₁ Bd hml0 hP hK
  obtain ⟨rfl, hZ, hh⟩ := hP
  have hx := Bd.exec
  have hby := Bd.bytes
  have hml : c.maxLocals = 1 := hml0
  have hown : s.vm.findClass "com/example/garm/garm/command/Option" = some m.cls := findClass_of_methodNamed Bd.named
  have hnm := (name_of_methodNamed Bd.named Bd.method).1
  have X0 : Stand p l e ({ frames := 0, cells := 0, slots := 0, locals := 0 } : Room) s m #[(.ref w_AGENT)] below meth c s₁ [] 0 0 := Stand.of_body Bd
  have e0 : s₁.heap = h0 := by rw [← hh, Bd.state]; rfl
  have N0 := Fr.nil n0
  have pre0 : ∀ t, Steps p.tables e below (s₁.setTop (mkF m 0 #[.val (.ref w_AGENT)] [])) t → Steps p.tables e below (s₁.setTop (entryFrame m #[(.ref w_AGENT)] 1)) t := fun t k => castTop (ef_rm1_3 m w_AGENT) k
  obtain ⟨T1, X1, e1, st1⟩ := getF X0 hx hZ hown (host := "") (Or.inl (hw _ (List.mem_of_getElem? (i := 44) rfl))) Via.refl e0 F_form_AGENT (g := (mkF m 1 #[.val (.ref w_AGENT)] [(.ref w_AGENT)])) rfl rfl (hb hby d1_1)
  obtain ⟨T2, X2, e2, st2⟩ := getS2 X1 hx hZ hown (host := "") (Or.inl (hw _ (List.mem_of_getElem? (i := 48) rfl))) Via.refl e1 S_FLAG (g := (mkF m 4 #[.val (.ref w_AGENT)] [(.ref w_VALUE)])) rfl (hb hby d1_4)
  obtain ⟨fs, hr, hrun, hended, hW, hsame⟩ := X2.leave (v := some (.int (1 : Int32))) (fun h => by rw [Bd.returns] at h; cases h)
  refine ⟨_, _, pre0 _ ?_, hrun, hended, _, _, rfl, ?_, ⟨_, rfl⟩, hW, hsame.mono (by decide) (by decide)⟩
  ·
    show Steps p.tables e below (s₁.setTop (mkF m 0 #[.val (.ref w_AGENT)] [])) _
    refine XS.aloadN X0.here hx rfl (hb hby d1_0) rfl rfl ?_
    show Steps p.tables e below (s₁.setTop (mkF m 1 #[.val (.ref w_AGENT)] [(.ref w_AGENT)])) _
    refine st1 _ ?_
    show Steps p.tables e below (T1.setTop (mkF m 4 #[.val (.ref w_AGENT)] [(.ref w_VALUE)])) _
    refine st2 _ ?_
    show Steps p.tables e below (T2.setTop (mkF m 7 #[.val (.ref w_AGENT)] [(.ref w_FLAG), (.ref w_VALUE)])) _
    refine Jvm.RoadKit.acmp (g := (mkF m 7 #[.val (.ref w_AGENT)] [(.ref w_FLAG), (.ref w_VALUE)])) X2 hx rfl rfl rfl (pc0 := 7) (pc' := 10) (same := false) rfl (hb hby d1_7) rfl (decide_eq_false fun q => (Ne.symm ne_FLAG_VALUE) (Value.ref.inj q)) (by decide) (by decide) ?_
    show Steps p.tables e below (T2.setTop (mkF m 10 #[.val (.ref w_AGENT)] [])) _
    refine XS.iconst X2.here hx rfl (hb hby d1_10) ?_
    show Steps p.tables e below (T2.setTop (mkF m 11 #[.val (.ref w_AGENT)] [(.int (1 : Int32))])) _
    refine XS.goto X2.here hx rfl (pc0 := 11) (pc' := 15) rfl (hb hby d1_11) (by decide) (by decide) ?_
    show Steps p.tables e below (T2.setTop (mkF m 15 #[.val (.ref w_AGENT)] [(.int (1 : Int32))])) _
    exact retN X2 hx (t := .boolean) Bd.returns (by simp) (hb hby d1_15) hr
  · show Q1_3 Z w_AGENT w_VALUE w_FLAG h0 n0 _ T2.heap _
    rw [e2]
    exact ⟨rfl, N0, rfl⟩
theorem ef_rm2_3 (m : MethodId) (x0 : Addr) : entryFrame m #[(.ref x0)] 1 = mkF m 0 #[.val (.ref x0)] [] := by first | (simp [entryFrame, mkF, argsToLocals, Value.category]; done) | rfl
def Q2_3 (Z : State) (w_AGENT : Addr) (w_VALUE : Addr) (w_REPEATED_VALUE : Addr) (h0 : Heap) (n0 : Nat) (v : Option Value) (h : Heap) (L : List Loc) : Prop := v = some (.int (0 : Int32)) ∧ Fr n0 L ∧ h = h0
set_option maxRecDepth 65536 in
set_option maxHeartbeats 40000000 in
theorem rm2_3 (l : Launch) (Z : State) (a0 : Array Value) (hw : ∀ d ∈ tables_1, d.before a0 Z = true) (ws : List Jvm.Cond) (w_AGENT : Addr) (w_VALUE : Addr) (w_REPEATED_VALUE : Addr) (h0 : Heap) (n0 : Nat) (Z0 : n0 ≤ h0.size) (F_form_AGENT : Fld Z h0 w_AGENT "com/example/garm/garm/command/Option" "form" "Lcom/example/garm/garm/command/Option$Form;" (.ref w_VALUE)) (S_REPEATED_VALUE : Sta Z h0 "com/example/garm/garm/command/Option$Form" "REPEATED_VALUE" "Lcom/example/garm/garm/command/Option$Form;" (.ref w_REPEATED_VALUE)) (ne_REPEATED_VALUE_VALUE : w_REPEATED_VALUE ≠ w_VALUE) :
    MetFree l (⟨"com/example/garm/garm/command/Option", "isRepeatable", "()Z"⟩ : MethodName) (head1 (Jvm.Cond.code (⟨"com/example/garm/garm/command/Option", "isRepeatable", "()Z"⟩ : MethodName) prog_4_method_6_code 1 (some .boolean) :: ws) ({ frames := 0, cells := 0, slots := 0, locals := 0 } : Room)) (fun a U => a = #[(.ref w_AGENT)] ∧ Z.Warmed39 U.vm ∧ U.heap = h0) (fun _ _ _ _ _ => True) (fun _ U o U' => ∃ v L, o = .returned v ∧ Q2_3 Z w_AGENT w_VALUE w_REPEATED_VALUE h0 n0 v U'.heap L ∧ FrameEnd U o U' L ({ frames := 0, cells := 0, slots := 0, locals := 0 } : Room).cells ({ frames := 0, cells := 0, slots := 0, locals := 0 } : Room).slots) := by
  refine MetFree.of_bodySF (plainFor_of_name pn_0) hisR ?_
  intro p e s m args below meth c s₁ Bd hml0 hP hK
  obtain ⟨rfl, hZ, hh⟩ := hP
  have hx := Bd.exec
  have hby := Bd.bytes
  have hml : c.maxLocals = 1 := hml0
  have hown : s.vm.findClass "com/example/garm/garm/command/Option" = some m.cls := findClass_of_methodNamed Bd.named
  have hnm := (name_of_methodNamed Bd.named Bd.method).1
  have X0 : Stand p l e ({ frames := 0, cells := 0, slots := 0, locals := 0 } : Room) s m #[(.ref w_AGENT)] below meth c s₁ [] 0 0 := Stand.of_body Bd
  have e0 : s₁.heap = h0 := by rw [← hh, Bd.state]; rfl
  have N0 := Fr.nil n0
  have pre0 : ∀ t, Steps p.tables e below (s₁.setTop (mkF m 0 #[.val (.ref w_AGENT)] [])) t → Steps p.tables e below (s₁.setTop (entryFrame m #[(.ref w_AGENT)] 1)) t := fun t k => castTop (ef_rm2_3 m w_AGENT) k
  obtain ⟨T1, X1, e1, st1⟩ := getF X0 hx hZ hown (host := "") (Or.inl (hw _ (List.mem_of_getElem? (i := 44) rfl))) Via.refl e0 F_form_AGENT (g := (mkF m 1 #[.val (.ref w_AGENT)] [(.ref w_AGENT)])) rfl rfl (hb hby d2_1)
  obtain ⟨T2, X2, e2, st2⟩ := getS2 X1 hx hZ hown (host := "") (Or.inl (hw _ (List.mem_of_getElem? (i := 55) rfl))) Via.refl e1 S_REPEATED_VALUE (g := (mkF m 4 #[.val (.ref w_AGENT)] [(.ref w_VALUE)])) rfl (hb hby d2_4)
  obtain ⟨fs, hr, hrun, hended, hW, hsame⟩ := X2.leave (v := some (.int (0 : Int32))) (fun h => by rw [Bd.returns] at h; cases h)
  refine ⟨_, _, pre0 _ ?_, hrun, hended, _, _, rfl, ?_, ⟨_, rfl⟩, hW, hsame.mono (by decide) (by decide)⟩
  ·
    show Steps p.tables e below (s₁.setTop (mkF m 0 #[.val (.ref w_AGENT)] [])) _
    refine XS.aloadN X0.here hx rfl (hb hby d2_0) rfl rfl ?_
    show Steps p.tables e below (s₁.setTop (mkF m 1 #[.val (.ref w_AGENT)] [(.ref w_AGENT)])) _
    refine st1 _ ?_
    show Steps p.tables e below (T1.setTop (mkF m 4 #[.val (.ref w_AGENT)] [(.ref w_VALUE)])) _
    refine st2 _ ?_
    show Steps p.tables e below (T2.setTop (mkF m 7 #[.val (.ref w_AGENT)] [(.ref w_REPEATED_VALUE), (.ref w_VALUE)])) _
    refine Jvm.RoadKit.acmp (g := (mkF m 7 #[.val (.ref w_AGENT)] [(.ref w_REPEATED_VALUE), (.ref w_VALUE)])) X2 hx rfl rfl rfl (pc0 := 7) (pc' := 14) (same := false) rfl (hb hby d2_7) rfl (decide_eq_false fun q => (Ne.symm ne_REPEATED_VALUE_VALUE) (Value.ref.inj q)) (by decide) (by decide) ?_
    show Steps p.tables e below (T2.setTop (mkF m 14 #[.val (.ref w_AGENT)] [])) _
    refine XS.iconst X2.here hx rfl (hb hby d2_14) ?_
    show Steps p.tables e below (T2.setTop (mkF m 15 #[.val (.ref w_AGENT)] [(.int (0 : Int32))])) _
    exact retN X2 hx (t := .boolean) Bd.returns (by simp) (hb hby d2_15) hr
  · show Q2_3 Z w_AGENT w_VALUE w_REPEATED_VALUE h0 n0 _ T2.heap _
    rw [e2]
    exact ⟨rfl, N0, rfl⟩
theorem ef_rm1_4 (m : MethodId) (x0 : Addr) : entryFrame m #[(.ref x0)] 1 = mkF m 0 #[.val (.ref x0)] [] := by first | (simp [entryFrame, mkF, argsToLocals, Value.category]; done) | rfl
def Q1_4 (Z : State) (w_CLIENT : Addr) (w_VALUE : Addr) (w_FLAG : Addr) (h0 : Heap) (n0 : Nat) (v : Option Value) (h : Heap) (L : List Loc) : Prop := v = some (.int (1 : Int32)) ∧ Fr n0 L ∧ h = h0
set_option maxRecDepth 65536 in
set_option maxHeartbeats 40000000 in
theorem rm1_4 (l : Launch) (Z : State) (a0 : Array Value) (hw : ∀ d ∈ tables_1, d.before a0 Z = true) (ws : List Jvm.Cond) (w_CLIENT : Addr) (w_VALUE : Addr) (w_FLAG : Addr) (h0 : Heap) (n0 : Nat) (Z0 : n0 ≤ h0.size) (F_form_CLIENT : Fld Z h0 w_CLIENT "com/example/garm/garm/command/Option" "form" "Lcom/example/garm/garm/command/Option$Form;" (.ref w_VALUE)) (S_FLAG : Sta Z h0 "com/example/garm/garm/command/Option$Form" "FLAG" "Lcom/example/garm/garm/command/Option$Form;" (.ref w_FLAG)) (ne_FLAG_VALUE : w_FLAG ≠ w_VALUE) :
    MetFree l (⟨"com/example/garm/garm/command/Option", "takesValue", "()Z"⟩ : MethodName) (head1 (Jvm.Cond.code (⟨"com/example/garm/garm/command/Option", "takesValue", "()Z"⟩ : MethodName) prog_4_method_5_code 1 (some .boolean) :: ws) ({ frames := 0, cells := 0, slots := 0, locals := 0 } : Room)) (fun a U => a = #[(.ref w_CLIENT)] ∧ Z.Warmed39 U.vm ∧ U.heap = h0) (fun _ _ _ _ _ => True) (fun _ U o U' => ∃ v L, o = .returned v ∧ Q1_4 Z w_CLIENT w_VALUE w_FLAG h0 n0 v U'.heap L ∧ FrameEnd U o U' L ({ frames := 0, cells := 0, slots := 0, locals := 0 } : Room).cells ({ frames := 0, cells := 0, slots := 0, locals := 0 } : Room).slots) := by
  refine MetFree.of_bodySF (plainFor_of_name pn_0) hisR ?_
  intro p e s m args below meth c s₁ Bd hml0 hP hK
  obtain ⟨rfl, hZ, hh⟩ := hP
  have hx := Bd.exec
  have hby := Bd.bytes
  have hml : c.maxLocals = 1 := hml0
  have hown : s.vm.findClass "com/example/garm/garm/command/Option" = some m.cls := findClass_of_methodNamed Bd.named
  have hnm := (name_of_methodNamed Bd.named Bd.method).1
  have X0 : Stand p l e ({ frames := 0, cells := 0, slots := 0, locals := 0 } : Room) s m #[(.ref w_CLIENT)] below meth c s₁ [] 0 0 := Stand.of_body Bd
  have e0 : s₁.heap = h0 := by rw [← hh, Bd.state]; rfl
  have N0 := Fr.nil n0
  have pre0 : ∀ t, Steps p.tables e below (s₁.setTop (mkF m 0 #[.val (.ref w_CLIENT)] [])) t → Steps p.tables e below (s₁.setTop (entryFrame m #[(.ref w_CLIENT)] 1)) t := fun t k => castTop (ef_rm1_4 m w_CLIENT) k
  obtain ⟨T1, X1, e1, st1⟩ := getF X0 hx hZ hown (host := "") (Or.inl (hw _ (List.mem_of_getElem? (i := 44) rfl))) Via.refl e0 F_form_CLIENT (g := (mkF m 1 #[.val (.ref w_CLIENT)] [(.ref w_CLIENT)])) rfl rfl (hb hby d1_1)
  obtain ⟨T2, X2, e2, st2⟩ := getS2 X1 hx hZ hown (host := "") (Or.inl (hw _ (List.mem_of_getElem? (i := 48) rfl))) Via.refl e1 S_FLAG (g := (mkF m 4 #[.val (.ref w_CLIENT)] [(.ref w_VALUE)])) rfl (hb hby d1_4)
  obtain ⟨fs, hr, hrun, hended, hW, hsame⟩ := X2.leave (v := some (.int (1 : Int32))) (fun h => by rw [Bd.returns] at h; cases h)
  refine ⟨_, _, pre0 _ ?_, hrun, hended, _, _, rfl, ?_, ⟨_, rfl⟩, hW, hsame.mono (by decide) (by decide)⟩
  ·
    show Steps p.tables e below (s₁.setTop (mkF m 0 #[.val (.ref w_CLIENT)] [])) _
    refine XS.aloadN X0.here hx rfl (hb hby d1_0) rfl rfl ?_
    show Steps p.tables e below (s₁.setTop (mkF m 1 #[.val (.ref w_CLIENT)] [(.ref w_CLIENT)])) _
    refine st1 _ ?_
    show Steps p.tables e below (T1.setTop (mkF m 4 #[.val (.ref w_CLIENT)] [(.ref w_VALUE)])) _
    refine st2 _ ?_
    show Steps p.tables e below (T2.setTop (mkF m 7 #[.val (.ref w_CLIENT)] [(.ref w_FLAG), (.ref w_VALUE)])) _
    refine Jvm.RoadKit.acmp (g := (mkF m 7 #[.val (.ref w_CLIENT)] [(.ref w_FLAG), (.ref w_VALUE)])) X2 hx rfl rfl rfl (pc0 := 7) (pc' := 10) (same := false) rfl (hb hby d1_7) rfl (decide_eq_false fun q => (Ne.symm ne_FLAG_VALUE) (Value.ref.inj q)) (by decide) (by decide) ?_
    show Steps p.tables e below (T2.setTop (mkF m 10 #[.val (.ref w_CLIENT)] [])) _
    refine XS.iconst X2.here hx rfl (hb hby d1_10) ?_
    show Steps p.tables e below (T2.setTop (mkF m 11 #[.val (.ref w_CLIENT)] [(.int (1 : Int32))])) _
    refine XS.goto X2.here hx rfl (pc0 := 11) (pc' := 15) rfl (hb hby d1_11) (by decide) (by decide) ?_
    show Steps p.tables e below (T2.setTop (mkF m 15 #[.val (.ref w_CLIENT)] [(.int (1 : Int32))])) _
    exact retN X2 hx (t := .boolean) Bd.returns (by simp) (hb hby d1_15) hr
  · show Q1_4 Z w_CLIENT w_VALUE w_FLAG h0 n0 _ T2.heap _
    rw [e2]
    exact ⟨rfl, N0, rfl⟩
theorem ef_rm2_4 (m : MethodId) (x0 : Addr) : entryFrame m #[(.ref x0)] 1 = mkF m 0 #[.val (.ref x0)] [] := by first | (simp [entryFrame, mkF, argsToLocals, Value.category]; done) | rfl
def Q2_4 (Z : State) (w_CLIENT : Addr) (w_VALUE : Addr) (w_REPEATED_VALUE : Addr) (h0 : Heap) (n0 : Nat) (v : Option Value) (h : Heap) (L : List Loc) : Prop := v = some (.int (0 : Int32)) ∧ Fr n0 L ∧ h = h0
set_option maxRecDepth 65536 in
set_option maxHeartbeats 40000000 in
theorem rm2_4 (l : Launch) (Z : State) (a0 : Array Value) (hw : ∀ d ∈ tables_1, d.before a0 Z = true) (ws : List Jvm.Cond) (w_CLIENT : Addr) (w_VALUE : Addr) (w_REPEATED_VALUE : Addr) (h0 : Heap) (n0 : Nat) (Z0 : n0 ≤ h0.size) (F_form_CLIENT : Fld Z h0 w_CLIENT "com/example/garm/garm/command/Option" "form" "Lcom/example/garm/garm/command/Option$Form;" (.ref w_VALUE)) (S_REPEATED_VALUE : Sta Z h0 "com/example/garm/garm/command/Option$Form" "REPEATED_VALUE" "Lcom/example/garm/garm/command/Option$Form;" (.ref w_REPEATED_VALUE)) (ne_REPEATED_VALUE_VALUE : w_REPEATED_VALUE ≠ w_VALUE) :
    MetFree l (⟨"com/example/garm/garm/command/Option", "isRepeatable", "()Z"⟩ : MethodName) (head1 (Jvm.Cond.code (⟨"com/example/garm/garm/command/Option", "isRepeatable", "()Z"⟩ : MethodName) prog_4_method_6_code 1 (some .boolean) :: ws) ({ frames := 0, cells := 0, slots := 0, locals := 0 } : Room)) (fun a U => a = #[(.ref w_CLIENT)] ∧ Z.Warmed39 U.vm ∧ U.heap = h0) (fun _ _ _ _ _ => True) (fun _ U o U' => ∃ v L, o = .returned v ∧ Q2_4 Z w_CLIENT w_VALUE w_REPEATED_VALUE h0 n0 v U'.heap L ∧ FrameEnd U o U' L ({ frames := 0, cells := 0, slots := 0, locals := 0 } : Room).cells ({ frames := 0, cells := 0, slots := 0, locals := 0 } : Room).slots) := by
  refine MetFree.of_bodySF (plainFor_of_name pn_0) hisR ?_
  intro p e s m args below meth c s₁ Bd hml0 hP hK
  obtain ⟨rfl, hZ, hh⟩ := hP
  have hx := Bd.exec
  have hby := Bd.bytes
  have hml : c.maxLocals = 1 := hml0
  have hown : s.vm.findClass "com/example/garm/garm/command/Option" = some m.cls := findClass_of_methodNamed Bd.named
  have hnm := (name_of_methodNamed Bd.named Bd.method).1
  have X0 : Stand p l e ({ frames := 0, cells := 0, slots := 0, locals := 0 } : Room) s m #[(.ref w_CLIENT)] below meth c s₁ [] 0 0 := Stand.of_body Bd
  have e0 : s₁.heap = h0 := by rw [← hh, Bd.state]; rfl
  have N0 := Fr.nil n0
  have pre0 : ∀ t, Steps p.tables e below (s₁.setTop (mkF m 0 #[.val (.ref w_CLIENT)] [])) t → Steps p.tables e below (s₁.setTop (entryFrame m #[(.ref w_CLIENT)] 1)) t := fun t k => castTop (ef_rm2_4 m w_CLIENT) k
  obtain ⟨T1, X1, e1, st1⟩ := getF X0 hx hZ hown (host := "") (Or.inl (hw _ (List.mem_of_getElem? (i := 44) rfl))) Via.refl e0 F_form_CLIENT (g := (mkF m 1 #[.val (.ref w_CLIENT)] [(.ref w_CLIENT)])) rfl rfl (hb hby d2_1)
  obtain ⟨T2, X2, e2, st2⟩ := getS2 X1 hx hZ hown (host := "") (Or.inl (hw _ (List.mem_of_getElem? (i := 55) rfl))) Via.refl e1 S_REPEATED_VALUE (g := (mkF m 4 #[.val (.ref w_CLIENT)] [(.ref w_VALUE)])) rfl (hb hby d2_4)
  obtain ⟨fs, hr, hrun, hended, hW, hsame⟩ := X2.leave (v := some (.int (0 : Int32))) (fun h => by rw [Bd.returns] at h; cases h)
  refine ⟨_, _, pre0 _ ?_, hrun, hended, _, _, rfl, ?_, ⟨_, rfl⟩, hW, hsame.mono (by decide) (by decide)⟩
  ·
    show Steps p.tables e below (s₁.setTop (mkF m 0 #[.val (.ref w_CLIENT)] [])) _
    refine XS.aloadN X0.here hx rfl (hb hby d2_0) rfl rfl ?_
    show Steps p.tables e below (s₁.setTop (mkF m 1 #[.val (.ref w_CLIENT)] [(.ref w_CLIENT)])) _
    refine st1 _ ?_
    show Steps p.tables e below (T1.setTop (mkF m 4 #[.val (.ref w_CLIENT)] [(.ref w_VALUE)])) _
    refine st2 _ ?_
    show Steps p.tables e below (T2.setTop (mkF m 7 #[.val (.ref w_CLIENT)] [(.ref w_REPEATED_VALUE), (.ref w_VALUE)])) _
    refine Jvm.RoadKit.acmp (g := (mkF m 7 #[.val (.ref w_CLIENT)] [(.ref w_REPEATED_VALUE), (.ref w_VALUE)])) X2 hx rfl rfl rfl (pc0 := 7) (pc' := 14) (same := false) rfl (hb hby d2_7) rfl (decide_eq_false fun q => (Ne.symm ne_REPEATED_VALUE_VALUE) (Value.ref.inj q)) (by decide) (by decide) ?_
    show Steps p.tables e below (T2.setTop (mkF m 14 #[.val (.ref w_CLIENT)] [])) _
    refine XS.iconst X2.here hx rfl (hb hby d2_14) ?_
    show Steps p.tables e below (T2.setTop (mkF m 15 #[.val (.ref w_CLIENT)] [(.int (0 : Int32))])) _
    exact retN X2 hx (t := .boolean) Bd.returns (by simp) (hb hby d2_15) hr
  · show Q2_4 Z w_CLIENT w_VALUE w_REPEATED_VALUE h0 n0 _ T2.heap _
    rw [e2]
    exact ⟨rfl, N0, rfl⟩
theorem ef_rm1_5 (m : MethodId) (x0 : Addr) : entryFrame m #[(.ref x0)] 1 = mkF m 0 #[.val (.ref x0)] [] := by first | (simp [entryFrame, mkF, argsToLocals, Value.category]; done) | rfl
def Q1_5 (Z : State) (w_ISSUER : Addr) (w_VALUE : Addr) (w_FLAG : Addr) (h0 : Heap) (n0 : Nat) (v : Option Value) (h : Heap) (L : List Loc) : Prop := v = some (.int (1 : Int32)) ∧ Fr n0 L ∧ h = h0
set_option maxRecDepth 65536 in
set_option maxHeartbeats 40000000 in
theorem rm1_5 (l : Launch) (Z : State) (a0 : Array Value) (hw : ∀ d ∈ tables_1, d.before a0 Z = true) (ws : List Jvm.Cond) (w_ISSUER : Addr) (w_VALUE : Addr) (w_FLAG : Addr) (h0 : Heap) (n0 : Nat) (Z0 : n0 ≤ h0.size) (F_form_ISSUER : Fld Z h0 w_ISSUER "com/example/garm/garm/command/Option" "form" "Lcom/example/garm/garm/command/Option$Form;" (.ref w_VALUE)) (S_FLAG : Sta Z h0 "com/example/garm/garm/command/Option$Form" "FLAG" "Lcom/example/garm/garm/command/Option$Form;" (.ref w_FLAG)) (ne_FLAG_VALUE : w_FLAG ≠ w_VALUE) :
    MetFree l (⟨"com/example/garm/garm/command/Option", "takesValue", "()Z"⟩ : MethodName) (head1 (Jvm.Cond.code (⟨"com/example/garm/garm/command/Option", "takesValue", "()Z"⟩ : MethodName) prog_4_method_5_code 1 (some .boolean) :: ws) ({ frames := 0, cells := 0, slots := 0, locals := 0 } : Room)) (fun a U => a = #[(.ref w_ISSUER)] ∧ Z.Warmed39 U.vm ∧ U.heap = h0) (fun _ _ _ _ _ => True) (fun _ U o U' => ∃ v L, o = .returned v ∧ Q1_5 Z w_ISSUER w_VALUE w_FLAG h0 n0 v U'.heap L ∧ FrameEnd U o U' L ({ frames := 0, cells := 0, slots := 0, locals := 0 } : Room).cells ({ frames := 0, cells := 0, slots := 0, locals := 0 } : Room).slots) := by
  refine MetFree.of_bodySF (plainFor_of_name pn_0) hisR ?_
  intro p e s m args below meth c s₁ Bd hml0 hP hK
  obtain ⟨rfl, hZ, hh⟩ := hP
  have hx := Bd.exec
  have hby := Bd.bytes
  have hml : c.maxLocals = 1 := hml0
  have hown : s.vm.findClass "com/example/garm/garm/command/Option" = some m.cls := findClass_of_methodNamed Bd.named
  have hnm := (name_of_methodNamed Bd.named Bd.method).1
  have X0 : Stand p l e ({ frames := 0, cells := 0, slots := 0, locals := 0 } : Room) s m #[(.ref w_ISSUER)] below meth c s₁ [] 0 0 := Stand.of_body Bd
  have e0 : s₁.heap = h0 := by rw [← hh, Bd.state]; rfl
  have N0 := Fr.nil n0
  have pre0 : ∀ t, Steps p.tables e below (s₁.setTop (mkF m 0 #[.val (.ref w_ISSUER)] [])) t → Steps p.tables e below (s₁.setTop (entryFrame m #[(.ref w_ISSUER)] 1)) t := fun t k => castTop (ef_rm1_5 m w_ISSUER) k
  obtain ⟨T1, X1, e1, st1⟩ := getF X0 hx hZ hown (host := "") (Or.inl (hw _ (List.mem_of_getElem? (i := 44) rfl))) Via.refl e0 F_form_ISSUER (g := (mkF m 1 #[.val (.ref w_ISSUER)] [(.ref w_ISSUER)])) rfl rfl (hb hby d1_1)
  obtain ⟨T2, X2, e2, st2⟩ := getS2 X1 hx hZ hown (host := "") (Or.inl (hw _ (List.mem_of_getElem? (i := 48) rfl))) Via.refl e1 S_FLAG (g := (mkF m 4 #[.val (.ref w_ISSUER)] [(.ref w_VALUE)])) rfl (hb hby d1_4)
  obtain ⟨fs, hr, hrun, hended, hW, hsame⟩ := X2.leave (v := some (.int (1 : Int32))) (fun h => by rw [Bd.returns] at h; cases h)
  refine ⟨_, _, pre0 _ ?_, hrun, hended, _, _, rfl, ?_, ⟨_, rfl⟩, hW, hsame.mono (by decide) (by decide)⟩
  ·
    show Steps p.tables e below (s₁.setTop (mkF m 0 #[.val (.ref w_ISSUER)] [])) _
    refine XS.aloadN X0.here hx rfl (hb hby d1_0) rfl rfl ?_
    show Steps p.tables e below (s₁.setTop (mkF m 1 #[.val (.ref w_ISSUER)] [(.ref w_ISSUER)])) _
    refine st1 _ ?_
    show Steps p.tables e below (T1.setTop (mkF m 4 #[.val (.ref w_ISSUER)] [(.ref w_VALUE)])) _
    refine st2 _ ?_
    show Steps p.tables e below (T2.setTop (mkF m 7 #[.val (.ref w_ISSUER)] [(.ref w_FLAG), (.ref w_VALUE)])) _
    refine Jvm.RoadKit.acmp (g := (mkF m 7 #[.val (.ref w_ISSUER)] [(.ref w_FLAG), (.ref w_VALUE)])) X2 hx rfl rfl rfl (pc0 := 7) (pc' := 10) (same := false) rfl (hb hby d1_7) rfl (decide_eq_false fun q => (Ne.symm ne_FLAG_VALUE) (Value.ref.inj q)) (by decide) (by decide) ?_
    show Steps p.tables e below (T2.setTop (mkF m 10 #[.val (.ref w_ISSUER)] [])) _
    refine XS.iconst X2.here hx rfl (hb hby d1_10) ?_
    show Steps p.tables e below (T2.setTop (mkF m 11 #[.val (.ref w_ISSUER)] [(.int (1 : Int32))])) _
    refine XS.goto X2.here hx rfl (pc0 := 11) (pc' := 15) rfl (hb hby d1_11) (by decide) (by decide) ?_
    show Steps p.tables e below (T2.setTop (mkF m 15 #[.val (.ref w_ISSUER)] [(.int (1 : Int32))])) _
    exact retN X2 hx (t := .boolean) Bd.returns (by simp) (hb hby d1_15) hr
  · show Q1_5 Z w_ISSUER w_VALUE w_FLAG h0 n0 _ T2.heap _
    rw [e2]
    exact ⟨rfl, N0, rfl⟩
theorem ef_rm2_5 (m : MethodId) (x0 : Addr) : entryFrame m #[(.ref x0)] 1 = mkF m 0 #[.val (.ref x0)] [] := by first | (simp [entryFrame, mkF, argsToLocals, Value.category]; done) | rfl
def Q2_5 (Z : State) (w_ISSUER : Addr) (w_VALUE : Addr) (w_REPEATED_VALUE : Addr) (h0 : Heap) (n0 : Nat) (v : Option Value) (h : Heap) (L : List Loc) : Prop := v = some (.int (0 : Int32)) ∧ Fr n0 L ∧ h = h0
set_option maxRecDepth 65536 in
set_option maxHeartbeats 40000000 in
theorem rm2_5 (l : Launch) (Z : State) (a0 : Array Value) (hw : ∀ d ∈ tables_1, d.before a0 Z = true) (ws : List Jvm.Cond) (w_ISSUER : Addr) (w_VALUE : Addr) (w_REPEATED_VALUE : Addr) (h0 : Heap) (n0 : Nat) (Z0 : n0 ≤ h0.size) (F_form_ISSUER : Fld Z h0 w_ISSUER "com/example/garm/garm/command/Option" "form" "Lcom/example/garm/garm/command/Option$Form;" (.ref w_VALUE)) (S_REPEATED_VALUE : Sta Z h0 "com/example/garm/garm/command/Option$Form" "REPEATED_VALUE" "Lcom/example/garm/garm/command/Option$Form;" (.ref w_REPEATED_VALUE)) (ne_REPEATED_VALUE_VALUE : w_REPEATED_VALUE ≠ w_VALUE) :
    MetFree l (⟨"com/example/garm/garm/command/Option", "isRepeatable", "()Z"⟩ : MethodName) (head1 (Jvm.Cond.code (⟨"com/example/garm/garm/command/Option", "isRepeatable", "()Z"⟩ : MethodName) prog_4_method_6_code 1 (some .boolean) :: ws) ({ frames := 0, cells := 0, slots := 0, locals := 0 } : Room)) (fun a U => a = #[(.ref w_ISSUER)] ∧ Z.Warmed39 U.vm ∧ U.heap = h0) (fun _ _ _ _ _ => True) (fun _ U o U' => ∃ v L, o = .returned v ∧ Q2_5 Z w_ISSUER w_VALUE w_REPEATED_VALUE h0 n0 v U'.heap L ∧ FrameEnd U o U' L ({ frames := 0, cells := 0, slots := 0, locals := 0 } : Room).cells ({ frames := 0, cells := 0, slots := 0, locals := 0 } : Room).slots) := by
  refine MetFree.of_bodySF (plainFor_of_name pn_0) hisR ?_
  intro p e s m args below meth c s₁ Bd hml0 hP hK
  obtain ⟨rfl, hZ, hh⟩ := hP
  have hx := Bd.exec
  have hby := Bd.bytes
  have hml : c.maxLocals = 1 := hml0
  have hown : s.vm.findClass "com/example/garm/garm/command/Option" = some m.cls := findClass_of_methodNamed Bd.named
  have hnm := (name_of_methodNamed Bd.named Bd.method).1
  have X0 : Stand p l e ({ frames := 0, cells := 0, slots := 0, locals := 0 } : Room) s m #[(.ref w_ISSUER)] below meth c s₁ [] 0 0 := Stand.of_body Bd
  have e0 : s₁.heap = h0 := by rw [← hh, Bd.state]; rfl
  have N0 := Fr.nil n0
  have pre0 : ∀ t, Steps p.tables e below (s₁.setTop (mkF m 0 #[.val (.ref w_ISSUER)] [])) t → Steps p.tables e below (s₁.setTop (entryFrame m #[(.ref w_ISSUER)] 1)) t := fun t k => castTop (ef_rm2_5 m w_ISSUER) k
  obtain ⟨T1, X1, e1, st1⟩ := getF X0 hx hZ hown (host := "") (Or.inl (hw _ (List.mem_of_getElem? (i := 44) rfl))) Via.refl e0 F_form_ISSUER (g := (mkF m 1 #[.val (.ref w_ISSUER)] [(.ref w_ISSUER)])) rfl rfl (hb hby d2_1)
  obtain ⟨T2, X2, e2, st2⟩ := getS2 X1 hx hZ hown (host := "") (Or.inl (hw _ (List.mem_of_getElem? (i := 55) rfl))) Via.refl e1 S_REPEATED_VALUE (g := (mkF m 4 #[.val (.ref w_ISSUER)] [(.ref w_VALUE)])) rfl (hb hby d2_4)
  obtain ⟨fs, hr, hrun, hended, hW, hsame⟩ := X2.leave (v := some (.int (0 : Int32))) (fun h => by rw [Bd.returns] at h; cases h)
  refine ⟨_, _, pre0 _ ?_, hrun, hended, _, _, rfl, ?_, ⟨_, rfl⟩, hW, hsame.mono (by decide) (by decide)⟩
  ·
    show Steps p.tables e below (s₁.setTop (mkF m 0 #[.val (.ref w_ISSUER)] [])) _
    refine XS.aloadN X0.here hx rfl (hb hby d2_0) rfl rfl ?_
    show Steps p.tables e below (s₁.setTop (mkF m 1 #[.val (.ref w_ISSUER)] [(.ref w_ISSUER)])) _
    refine st1 _ ?_
    show Steps p.tables e below (T1.setTop (mkF m 4 #[.val (.ref w_ISSUER)] [(.ref w_VALUE)])) _
    refine st2 _ ?_
    show Steps p.tables e below (T2.setTop (mkF m 7 #[.val (.ref w_ISSUER)] [(.ref w_REPEATED_VALUE), (.ref w_VALUE)])) _
    refine Jvm.RoadKit.acmp (g := (mkF m 7 #[.val (.ref w_ISSUER)] [(.ref w_REPEATED_VALUE), (.ref w_VALUE)])) X2 hx rfl rfl rfl (pc0 := 7) (pc' := 14) (same := false) rfl (hb hby d2_7) rfl (decide_eq_false fun q => (Ne.symm ne_REPEATED_VALUE_VALUE) (Value.ref.inj q)) (by decide) (by decide) ?_
    show Steps p.tables e below (T2.setTop (mkF m 14 #[.val (.ref w_ISSUER)] [])) _
    refine XS.iconst X2.here hx rfl (hb hby d2_14) ?_
    show Steps p.tables e below (T2.setTop (mkF m 15 #[.val (.ref w_ISSUER)] [(.int (0 : Int32))])) _
    exact retN X2 hx (t := .boolean) Bd.returns (by simp) (hb hby d2_15) hr
  · show Q2_5 Z w_ISSUER w_VALUE w_REPEATED_VALUE h0 n0 _ T2.heap _
    rw [e2]
    exact ⟨rfl, N0, rfl⟩
theorem ef_rm1_6 (m : MethodId) (x0 : Addr) : entryFrame m #[(.ref x0)] 1 = mkF m 0 #[.val (.ref x0)] [] := by first | (simp [entryFrame, mkF, argsToLocals, Value.category]; done) | rfl
def Q1_6 (Z : State) (w_OWNER : Addr) (w_FLAG : Addr) (w_REPEATED_VALUE : Addr) (h0 : Heap) (n0 : Nat) (v : Option Value) (h : Heap) (L : List Loc) : Prop := v = some (.int (1 : Int32)) ∧ Fr n0 L ∧ h = h0
set_option maxRecDepth 65536 in
set_option maxHeartbeats 40000000 in
theorem rm1_6 (l : Launch) (Z : State) (a0 : Array Value) (hw : ∀ d ∈ tables_1, d.before a0 Z = true) (ws : List Jvm.Cond) (w_OWNER : Addr) (w_FLAG : Addr) (w_REPEATED_VALUE : Addr) (h0 : Heap) (n0 : Nat) (Z0 : n0 ≤ h0.size) (F_form_OWNER : Fld Z h0 w_OWNER "com/example/garm/garm/command/Option" "form" "Lcom/example/garm/garm/command/Option$Form;" (.ref w_REPEATED_VALUE)) (S_FLAG : Sta Z h0 "com/example/garm/garm/command/Option$Form" "FLAG" "Lcom/example/garm/garm/command/Option$Form;" (.ref w_FLAG)) (ne_FLAG_REPEATED_VALUE : w_FLAG ≠ w_REPEATED_VALUE) :
    MetFree l (⟨"com/example/garm/garm/command/Option", "takesValue", "()Z"⟩ : MethodName) (head1 (Jvm.Cond.code (⟨"com/example/garm/garm/command/Option", "takesValue", "()Z"⟩ : MethodName) prog_4_method_5_code 1 (some .boolean) :: ws) ({ frames := 0, cells := 0, slots := 0, locals := 0 } : Room)) (fun a U => a = #[(.ref w_OWNER)] ∧ Z.Warmed39 U.vm ∧ U.heap = h0) (fun _ _ _ _ _ => True) (fun _ U o U' => ∃ v L, o = .returned v ∧ Q1_6 Z w_OWNER w_FLAG w_REPEATED_VALUE h0 n0 v U'.heap L ∧ FrameEnd U o U' L ({ frames := 0, cells := 0, slots := 0, locals := 0 } : Room).cells ({ frames := 0, cells := 0, slots := 0, locals := 0 } : Room).slots) := by
  refine MetFree.of_bodySF (plainFor_of_name pn_0) hisR ?_
  intro p e s m args below meth c s₁ Bd hml0 hP hK
  obtain ⟨rfl, hZ, hh⟩ := hP
  have hx := Bd.exec
  have hby := Bd.bytes
  have hml : c.maxLocals = 1 := hml0
  have hown : s.vm.findClass "com/example/garm/garm/command/Option" = some m.cls := findClass_of_methodNamed Bd.named
  have hnm := (name_of_methodNamed Bd.named Bd.method).1
  have X0 : Stand p l e ({ frames := 0, cells := 0, slots := 0, locals := 0 } : Room) s m #[(.ref w_OWNER)] below meth c s₁ [] 0 0 := Stand.of_body Bd
  have e0 : s₁.heap = h0 := by rw [← hh, Bd.state]; rfl
  have N0 := Fr.nil n0
  have pre0 : ∀ t, Steps p.tables e below (s₁.setTop (mkF m 0 #[.val (.ref w_OWNER)] [])) t → Steps p.tables e below (s₁.setTop (entryFrame m #[(.ref w_OWNER)] 1)) t := fun t k => castTop (ef_rm1_6 m w_OWNER) k
  obtain ⟨T1, X1, e1, st1⟩ := getF X0 hx hZ hown (host := "") (Or.inl (hw _ (List.mem_of_getElem? (i := 44) rfl))) Via.refl e0 F_form_OWNER (g := (mkF m 1 #[.val (.ref w_OWNER)] [(.ref w_OWNER)])) rfl rfl (hb hby d1_1)
  obtain ⟨T2, X2, e2, st2⟩ := getS2 X1 hx hZ hown (host := "") (Or.inl (hw _ (List.mem_of_getElem? (i := 48) rfl))) Via.refl e1 S_FLAG (g := (mkF m 4 #[.val (.ref w_OWNER)] [(.ref w_REPEATED_VALUE)])) rfl (hb hby d1_4)
  obtain ⟨fs, hr, hrun, hended, hW, hsame⟩ := X2.leave (v := some (.int (1 : Int32))) (fun h => by rw [Bd.returns] at h; cases h)
  refine ⟨_, _, pre0 _ ?_, hrun, hended, _, _, rfl, ?_, ⟨_, rfl⟩, hW, hsame.mono (by decide) (by decide)⟩
  ·
    show Steps p.tables e below (s₁.setTop (mkF m 0 #[.val (.ref w_OWNER)] [])) _
    refine XS.aloadN X0.here hx rfl (hb hby d1_0) rfl rfl ?_
    show Steps p.tables e below (s₁.setTop (mkF m 1 #[.val (.ref w_OWNER)] [(.ref w_OWNER)])) _
    refine st1 _ ?_
    show Steps p.tables e below (T1.setTop (mkF m 4 #[.val (.ref w_OWNER)] [(.ref w_REPEATED_VALUE)])) _
    refine st2 _ ?_
    show Steps p.tables e below (T2.setTop (mkF m 7 #[.val (.ref w_OWNER)] [(.ref w_FLAG), (.ref w_REPEATED_VALUE)])) _
    refine Jvm.RoadKit.acmp (g := (mkF m 7 #[.val (.ref w_OWNER)] [(.ref w_FLAG), (.ref w_REPEATED_VALUE)])) X2 hx rfl rfl rfl (pc0 := 7) (pc' := 10) (same := false) rfl (hb hby d1_7) rfl (decide_eq_false fun q => (Ne.symm ne_FLAG_REPEATED_VALUE) (Value.ref.inj q)) (by decide) (by decide) ?_
    show Steps p.tables e below (T2.setTop (mkF m 10 #[.val (.ref w_OWNER)] [])) _
    refine XS.iconst X2.here hx rfl (hb hby d1_10) ?_
    show Steps p.tables e below (T2.setTop (mkF m 11 #[.val (.ref w_OWNER)] [(.int (1 : Int32))])) _
    refine XS.goto X2.here hx rfl (pc0 := 11) (pc' := 15) rfl (hb hby d1_11) (by decide) (by decide) ?_
    show Steps p.tables e below (T2.setTop (mkF m 15 #[.val (.ref w_OWNER)] [(.int (1 : Int32))])) _
    exact retN X2 hx (t := .boolean) Bd.returns (by simp) (hb hby d1_15) hr
  · show Q1_6 Z w_OWNER w_FLAG w_REPEATED_VALUE h0 n0 _ T2.heap _
    rw [e2]
    exact ⟨rfl, N0, rfl⟩
theorem d2_10 : decode prog_4_method_6_code 10 = .ok (.iconst 1, 1) := by decide +kernel
theorem d2_11 : decode prog_4_method_6_code 11 = .ok (.goto 4, 3) := by decide +kernel
theorem ef_rm2_6 (m : MethodId) (x0 : Addr) : entryFrame m #[(.ref x0)] 1 = mkF m 0 #[.val (.ref x0)] [] := by first | (simp [entryFrame, mkF, argsToLocals, Value.category]; done) | rfl
def Q2_6 (Z : State) (w_OWNER : Addr) (w_REPEATED_VALUE : Addr) (h0 : Heap) (n0 : Nat) (v : Option Value) (h : Heap) (L : List Loc) : Prop := v = some (.int (1 : Int32)) ∧ Fr n0 L ∧ h = h0
set_option maxRecDepth 65536 in
set_option maxHeartbeats 40000000 in
theorem rm2_6 (l : Launch) (Z : State) (a0 : Array Value) (hw : ∀ d ∈ tables_1, d.before a0 Z = true) (ws : List Jvm.Cond) (w_OWNER : Addr) (w_REPEATED_VALUE : Addr) (h0 : Heap) (n0 : Nat) (Z0 : n0 ≤ h0.size) (F_form_OWNER : Fld Z h0 w_OWNER "com/example/garm/garm/command/Option" "form" "Lcom/example/garm/garm/command/Option$Form;" (.ref w_REPEATED_VALUE)) (S_REPEATED_VALUE : Sta Z h0 "com/example/garm/garm/command/Option$Form" "REPEATED_VALUE" "Lcom/example/garm/garm/command/Option$Form;" (.ref w_REPEATED_VALUE)) :
    MetFree l (⟨"com/example/garm/garm/command/Option", "isRepeatable", "()Z"⟩ : MethodName) (head1 (Jvm.Cond.code (⟨"com/example/garm/garm/command/Option", "isRepeatable", "()Z"⟩ : MethodName) prog_4_method_6_code 1 (some .boolean) :: ws) ({ frames := 0, cells := 0, slots := 0, locals := 0 } : Room)) (fun a U => a = #[(.ref w_OWNER)] ∧ Z.Warmed39 U.vm ∧ U.heap = h0) (fun _ _ _ _ _ => True) (fun _ U o U' => ∃ v L, o = .returned v ∧ Q2_6 Z w_OWNER w_REPEATED_VALUE h0 n0 v U'.heap L ∧ FrameEnd U o U' L ({ frames := 0, cells := 0, slots := 0, locals := 0 } : Room).cells ({ frames := 0, cells := 0, slots := 0, locals := 0 } : Room).slots) := by
  refine MetFree.of_bodySF (plainFor_of_name pn_0) hisR ?_
  intro p e s m args below meth c s₁ Bd hml0 hP hK
  obtain ⟨rfl, hZ, hh⟩ := hP
  have hx := Bd.exec
  have hby := Bd.bytes
  have hml : c.maxLocals = 1 := hml0
  have hown : s.vm.findClass "com/example/garm/garm/command/Option" = some m.cls := findClass_of_methodNamed Bd.named
  have hnm := (name_of_methodNamed Bd.named Bd.method).1
  have X0 : Stand p l e ({ frames := 0, cells := 0, slots := 0, locals := 0 } : Room) s m #[(.ref w_OWNER)] below meth c s₁ [] 0 0 := Stand.of_body Bd
  have e0 : s₁.heap = h0 := by rw [← hh, Bd.state]; rfl
  have N0 := Fr.nil n0
  have pre0 : ∀ t, Steps p.tables e below (s₁.setTop (mkF m 0 #[.val (.ref w_OWNER)] [])) t → Steps p.tables e below (s₁.setTop (entryFrame m #[(.ref w_OWNER)] 1)) t := fun t k => castTop (ef_rm2_6 m w_OWNER) k
  obtain ⟨T1, X1, e1, st1⟩ := getF X0 hx hZ hown (host := "") (Or.inl (hw _ (List.mem_of_getElem? (i := 44) rfl))) Via.refl e0 F_form_OWNER (g := (mkF m 1 #[.val (.ref w_OWNER)] [(.ref w_OWNER)])) rfl rfl (hb hby d2_1)
  obtain ⟨T2, X2, e2, st2⟩ := getS2 X1 hx hZ hown (host := "") (Or.inl (hw _ (List.mem_of_getElem? (i := 55) rfl))) Via.refl e1 S_REPEATED_VALUE (g := (mkF m 4 #[.val (.ref w_OWNER)] [(.ref w_REPEATED_VALUE)])) rfl (hb hby d2_4)
  obtain ⟨fs, hr, hrun, hended, hW, hsame⟩ := X2.leave (v := some (.int (1 : Int32))) (fun h => by rw [Bd.returns] at h; cases h)
  refine ⟨_, _, pre0 _ ?_, hrun, hended, _, _, rfl, ?_, ⟨_, rfl⟩, hW, hsame.mono (by decide) (by decide)⟩
  ·
    show Steps p.tables e below (s₁.setTop (mkF m 0 #[.val (.ref w_OWNER)] [])) _
    refine XS.aloadN X0.here hx rfl (hb hby d2_0) rfl rfl ?_
    show Steps p.tables e below (s₁.setTop (mkF m 1 #[.val (.ref w_OWNER)] [(.ref w_OWNER)])) _
    refine st1 _ ?_
    show Steps p.tables e below (T1.setTop (mkF m 4 #[.val (.ref w_OWNER)] [(.ref w_REPEATED_VALUE)])) _
    refine st2 _ ?_
    show Steps p.tables e below (T2.setTop (mkF m 7 #[.val (.ref w_OWNER)] [(.ref w_REPEATED_VALUE), (.ref w_REPEATED_VALUE)])) _
    refine Jvm.RoadKit.acmp (g := (mkF m 7 #[.val (.ref w_OWNER)] [(.ref w_REPEATED_VALUE), (.ref w_REPEATED_VALUE)])) X2 hx rfl rfl rfl (pc0 := 7) (pc' := 10) (same := true) rfl (hb hby d2_7) rfl (decide_eq_true rfl) (by decide) (by decide) ?_
    show Steps p.tables e below (T2.setTop (mkF m 10 #[.val (.ref w_OWNER)] [])) _
    refine XS.iconst X2.here hx rfl (hb hby d2_10) ?_
    show Steps p.tables e below (T2.setTop (mkF m 11 #[.val (.ref w_OWNER)] [(.int (1 : Int32))])) _
    refine XS.goto X2.here hx rfl (pc0 := 11) (pc' := 15) rfl (hb hby d2_11) (by decide) (by decide) ?_
    show Steps p.tables e below (T2.setTop (mkF m 15 #[.val (.ref w_OWNER)] [(.int (1 : Int32))])) _
    exact retN X2 hx (t := .boolean) Bd.returns (by simp) (hb hby d2_15) hr
  · show Q2_6 Z w_OWNER w_REPEATED_VALUE h0 n0 _ T2.heap _
    rw [e2]
    exact ⟨rfl, N0, rfl⟩
theorem ef_rm1_7 (m : MethodId) (x0 : Addr) : entryFrame m #[(.ref x0)] 1 = mkF m 0 #[.val (.ref x0)] [] := by first | (simp [entryFrame, mkF, argsToLocals, Value.category]; done) | rfl
def Q1_7 (Z : State) (w_CREATOR : Addr) (w_VALUE : Addr) (w_FLAG : Addr) (h0 : Heap) (n0 : Nat) (v : Option Value) (h : Heap) (L : List Loc) : Prop := v = some (.int (1 : Int32)) ∧ Fr n0 L ∧ h = h0
set_option maxRecDepth 65536 in
set_option maxHeartbeats 40000000 in
theorem rm1_7 (l : Launch) (Z : State) (a0 : Array Value) (hw : ∀ d ∈ tables_1, d.before a0 Z = true) (ws : List Jvm.Cond) (w_CREATOR : Addr) (w_VALUE : Addr) (w_FLAG : Addr) (h0 : Heap) (n0 : Nat) (Z0 : n0 ≤ h0.size) (F_form_CREATOR : Fld Z h0 w_CREATOR "com/example/garm/garm/command/Option" "form" "Lcom/example/garm/garm/command/Option$Form;" (.ref w_VALUE)) (S_FLAG : Sta Z h0 "com/example/garm/garm/command/Option$Form" "FLAG" "Lcom/example/garm/garm/command/Option$Form;" (.ref w_FLAG)) (ne_FLAG_VALUE : w_FLAG ≠ w_VALUE) :
    MetFree l (⟨"com/example/garm/garm/command/Option", "takesValue", "()Z"⟩ : MethodName) (head1 (Jvm.Cond.code (⟨"com/example/garm/garm/command/Option", "takesValue", "()Z"⟩ : MethodName) prog_4_method_5_code 1 (some .boolean) :: ws) ({ frames := 0, cells := 0, slots := 0, locals := 0 } : Room)) (fun a U => a = #[(.ref w_CREATOR)] ∧ Z.Warmed39 U.vm ∧ U.heap = h0) (fun _ _ _ _ _ => True) (fun _ U o U' => ∃ v L, o = .returned v ∧ Q1_7 Z w_CREATOR w_VALUE w_FLAG h0 n0 v U'.heap L ∧ FrameEnd U o U' L ({ frames := 0, cells := 0, slots := 0, locals := 0 } : Room).cells ({ frames := 0, cells := 0, slots := 0, locals := 0 } : Room).slots) := by
  refine MetFree.of_bodySF (plainFor_of_name pn_0) hisR ?_
  intro p e s m args below meth c s₁ Bd hml0 hP hK
  obtain ⟨rfl, hZ, hh⟩ := hP
  have hx := Bd.exec
  have hby := Bd.bytes
  have hml : c.maxLocals = 1 := hml0
  have hown : s.vm.findClass "com/example/garm/garm/command/Option" = some m.cls := findClass_of_methodNamed Bd.named
  have hnm := (name_of_methodNamed Bd.named Bd.method).1
  have X0 : Stand p l e ({ frames := 0, cells := 0, slots := 0, locals := 0 } : Room) s m #[(.ref w_CREATOR)] below meth c s₁ [] 0 0 := Stand.of_body Bd
  have e0 : s₁.heap = h0 := by rw [← hh, Bd.state]; rfl
  have N0 := Fr.nil n0
  have pre0 : ∀ t, Steps p.tables e below (s₁.setTop (mkF m 0 #[.val (.ref w_CREATOR)] [])) t → Steps p.tables e below (s₁.setTop (entryFrame m #[(.ref w_CREATOR)] 1)) t := fun t k => castTop (ef_rm1_7 m w_CREATOR) k
  obtain ⟨T1, X1, e1, st1⟩ := getF X0 hx hZ hown (host := "") (Or.inl (hw _ (List.mem_of_getElem? (i := 44) rfl))) Via.refl e0 F_form_CREATOR (g := (mkF m 1 #[.val (.ref w_CREATOR)] [(.ref w_CREATOR)])) rfl rfl (hb hby d1_1)
  obtain ⟨T2, X2, e2, st2⟩ := getS2 X1 hx hZ hown (host := "") (Or.inl (hw _ (List.mem_of_getElem? (i := 48) rfl))) Via.refl e1 S_FLAG (g := (mkF m 4 #[.val (.ref w_CREATOR)] [(.ref w_VALUE)])) rfl (hb hby d1_4)
  obtain ⟨fs, hr, hrun, hended, hW, hsame⟩ := X2.leave (v := some (.int (1 : Int32))) (fun h => by rw [Bd.returns] at h; cases h)
  refine ⟨_, _, pre0 _ ?_, hrun, hended, _, _, rfl, ?_, ⟨_, rfl⟩, hW, hsame.mono (by decide) (by decide)⟩
  ·
    show Steps p.tables e below (s₁.setTop (mkF m 0 #[.val (.ref w_CREATOR)] [])) _
    refine XS.aloadN X0.here hx rfl (hb hby d1_0) rfl rfl ?_
    show Steps p.tables e below (s₁.setTop (mkF m 1 #[.val (.ref w_CREATOR)] [(.ref w_CREATOR)])) _
    refine st1 _ ?_
    show Steps p.tables e below (T1.setTop (mkF m 4 #[.val (.ref w_CREATOR)] [(.ref w_VALUE)])) _
    refine st2 _ ?_
    show Steps p.tables e below (T2.setTop (mkF m 7 #[.val (.ref w_CREATOR)] [(.ref w_FLAG), (.ref w_VALUE)])) _
    refine Jvm.RoadKit.acmp (g := (mkF m 7 #[.val (.ref w_CREATOR)] [(.ref w_FLAG), (.ref w_VALUE)])) X2 hx rfl rfl rfl (pc0 := 7) (pc' := 10) (same := false) rfl (hb hby d1_7) rfl (decide_eq_false fun q => (Ne.symm ne_FLAG_VALUE) (Value.ref.inj q)) (by decide) (by decide) ?_
    show Steps p.tables e below (T2.setTop (mkF m 10 #[.val (.ref w_CREATOR)] [])) _
    refine XS.iconst X2.here hx rfl (hb hby d1_10) ?_
    show Steps p.tables e below (T2.setTop (mkF m 11 #[.val (.ref w_CREATOR)] [(.int (1 : Int32))])) _
    refine XS.goto X2.here hx rfl (pc0 := 11) (pc' := 15) rfl (hb hby d1_11) (by decide) (by decide) ?_
    show Steps p.tables e below (T2.setTop (mkF m 15 #[.val (.ref w_CREATOR)] [(.int (1 : Int32))])) _
    exact retN X2 hx (t := .boolean) Bd.returns (by simp) (hb hby d1_15) hr
  · show Q1_7 Z w_CREATOR w_VALUE w_FLAG h0 n0 _ T2.heap _
    rw [e2]
    exact ⟨rfl, N0, rfl⟩
theorem ef_rm2_7 (m : MethodId) (x0 : Addr) : entryFrame m #[(.ref x0)] 1 = mkF m 0 #[.val (.ref x0)] [] := by first | (simp [entryFrame, mkF, argsToLocals, Value.category]; done) | rfl
def Q2_7 (Z : State) (w_CREATOR : Addr) (w_VALUE : Addr) (w_REPEATED_VALUE : Addr) (h0 : Heap) (n0 : Nat) (v : Option Value) (h : Heap) (L : List Loc) : Prop := v = some (.int (0 : Int32)) ∧ Fr n0 L ∧ h = h0
set_option maxRecDepth 65536 in
set_option maxHeartbeats 40000000 in
theorem rm2_7 (l : Launch) (Z : State) (a0 : Array Value) (hw : ∀ d ∈ tables_1, d.before a0 Z = true) (ws : List Jvm.Cond) (w_CREATOR : Addr) (w_VALUE : Addr) (w_REPEATED_VALUE : Addr) (h0 : Heap) (n0 : Nat) (Z0 : n0 ≤ h0.size) (F_form_CREATOR : Fld Z h0 w_CREATOR "com/example/garm/garm/command/Option" "form" "Lcom/example/garm/garm/command/Option$Form;" (.ref w_VALUE)) (S_REPEATED_VALUE : Sta Z h0 "com/example/garm/garm/command/Option$Form" "REPEATED_VALUE" "Lcom/example/garm/garm/command/Option$Form;" (.ref w_REPEATED_VALUE)) (ne_REPEATED_VALUE_VALUE : w_REPEATED_VALUE ≠ w_VALUE) :
    MetFree l (⟨"com/example/garm/garm/command/Option", "isRepeatable", "()Z"⟩ : MethodName) (head1 (Jvm.Cond.code (⟨"com/example/garm/garm/command/Option", "isRepeatable", "()Z"⟩ : MethodName) prog_4_method_6_code 1 (some .boolean) :: ws) ({ frames := 0, cells := 0, slots := 0, locals := 0 } : Room)) (fun a U => a = #[(.ref w_CREATOR)] ∧ Z.Warmed39 U.vm ∧ U.heap = h0) (fun _ _ _ _ _ => True) (fun _ U o U' => ∃ v L, o = .returned v ∧ Q2_7 Z w_CREATOR w_VALUE w_REPEATED_VALUE h0 n0 v U'.heap L ∧ FrameEnd U o U' L ({ frames := 0, cells := 0, slots := 0, locals := 0 } : Room).cells ({ frames := 0, cells := 0, slots := 0, locals := 0 } : Room).slots) := by
  refine MetFree.of_bodySF (plainFor_of_name pn_0) hisR ?_
  intro p e s m args below meth c s₁ Bd hml0 hP hK
  obtain ⟨rfl, hZ, hh⟩ := hP
  have hx := Bd.exec
  have hby := Bd.bytes
  have hml : c.maxLocals = 1 := hml0
  have hown : s.vm.findClass "com/example/garm/garm/command/Option" = some m.cls := findClass_of_methodNamed Bd.named
  have hnm := (name_of_methodNamed Bd.named Bd.method).1
  have X0 : Stand p l e ({ frames := 0, cells := 0, slots := 0, locals := 0 } : Room) s m #[(.ref w_CREATOR)] below meth c s₁ [] 0 0 := Stand.of_body Bd
  have e0 : s₁.heap = h0 := by rw [← hh, Bd.state]; rfl
  have N0 := Fr.nil n0
  have pre0 : ∀ t, Steps p.tables e below (s₁.setTop (mkF m 0 #[.val (.ref w_CREATOR)] [])) t → Steps p.tables e below (s₁.setTop (entryFrame m #[(.ref w_CREATOR)] 1)) t := fun t k => castTop (ef_rm2_7 m w_CREATOR) k
  obtain ⟨T1, X1, e1, st1⟩ := getF X0 hx hZ hown (host := "") (Or.inl (hw _ (List.mem_of_getElem? (i := 44) rfl))) Via.refl e0 F_form_CREATOR (g := (mkF m 1 #[.val (.ref w_CREATOR)] [(.ref w_CREATOR)])) rfl rfl (hb hby d2_1)
  obtain ⟨T2, X2, e2, st2⟩ := getS2 X1 hx hZ hown (host := "") (Or.inl (hw _ (List.mem_of_getElem? (i := 55) rfl))) Via.refl e1 S_REPEATED_VALUE (g := (mkF m 4 #[.val (.ref w_CREATOR)] [(.ref w_VALUE)])) rfl (hb hby d2_4)
  obtain ⟨fs, hr, hrun, hended, hW, hsame⟩ := X2.leave (v := some (.int (0 : Int32))) (fun h => by rw [Bd.returns] at h; cases h)
  refine ⟨_, _, pre0 _ ?_, hrun, hended, _, _, rfl, ?_, ⟨_, rfl⟩, hW, hsame.mono (by decide) (by decide)⟩
  ·
    show Steps p.tables e below (s₁.setTop (mkF m 0 #[.val (.ref w_CREATOR)] [])) _
    refine XS.aloadN X0.here hx rfl (hb hby d2_0) rfl rfl ?_
    show Steps p.tables e below (s₁.setTop (mkF m 1 #[.val (.ref w_CREATOR)] [(.ref w_CREATOR)])) _
    refine st1 _ ?_
    show Steps p.tables e below (T1.setTop (mkF m 4 #[.val (.ref w_CREATOR)] [(.ref w_VALUE)])) _
    refine st2 _ ?_
    show Steps p.tables e below (T2.setTop (mkF m 7 #[.val (.ref w_CREATOR)] [(.ref w_REPEATED_VALUE), (.ref w_VALUE)])) _
    refine Jvm.RoadKit.acmp (g := (mkF m 7 #[.val (.ref w_CREATOR)] [(.ref w_REPEATED_VALUE), (.ref w_VALUE)])) X2 hx rfl rfl rfl (pc0 := 7) (pc' := 14) (same := false) rfl (hb hby d2_7) rfl (decide_eq_false fun q => (Ne.symm ne_REPEATED_VALUE_VALUE) (Value.ref.inj q)) (by decide) (by decide) ?_
    show Steps p.tables e below (T2.setTop (mkF m 14 #[.val (.ref w_CREATOR)] [])) _
    refine XS.iconst X2.here hx rfl (hb hby d2_14) ?_
    show Steps p.tables e below (T2.setTop (mkF m 15 #[.val (.ref w_CREATOR)] [(.int (0 : Int32))])) _
    exact retN X2 hx (t := .boolean) Bd.returns (by simp) (hb hby d2_15) hr
  · show Q2_7 Z w_CREATOR w_VALUE w_REPEATED_VALUE h0 n0 _ T2.heap _
    rw [e2]
    exact ⟨rfl, N0, rfl⟩
theorem ef_rm1_8 (m : MethodId) (x0 : Addr) : entryFrame m #[(.ref x0)] 1 = mkF m 0 #[.val (.ref x0)] [] := by first | (simp [entryFrame, mkF, argsToLocals, Value.category]; done) | rfl
def Q1_8 (Z : State) (w_CREDENTIAL : Addr) (w_FLAG : Addr) (w_REPEATED_VALUE : Addr) (h0 : Heap) (n0 : Nat) (v : Option Value) (h : Heap) (L : List Loc) : Prop := v = some (.int (1 : Int32)) ∧ Fr n0 L ∧ h = h0
set_option maxRecDepth 65536 in
set_option maxHeartbeats 40000000 in
theorem rm1_8 (l : Launch) (Z : State) (a0 : Array Value) (hw : ∀ d ∈ tables_1, d.before a0 Z = true) (ws : List Jvm.Cond) (w_CREDENTIAL : Addr) (w_FLAG : Addr) (w_REPEATED_VALUE : Addr) (h0 : Heap) (n0 : Nat) (Z0 : n0 ≤ h0.size) (F_form_CREDENTIAL : Fld Z h0 w_CREDENTIAL "com/example/garm/garm/command/Option" "form" "Lcom/example/garm/garm/command/Option$Form;" (.ref w_REPEATED_VALUE)) (S_FLAG : Sta Z h0 "com/example/garm/garm/command/Option$Form" "FLAG" "Lcom/example/garm/garm/command/Option$Form;" (.ref w_FLAG)) (ne_FLAG_REPEATED_VALUE : w_FLAG ≠ w_REPEATED_VALUE) :
    MetFree l (⟨"com/example/garm/garm/command/Option", "takesValue", "()Z"⟩ : MethodName) (head1 (Jvm.Cond.code (⟨"com/example/garm/garm/command/Option", "takesValue", "()Z"⟩ : MethodName) prog_4_method_5_code 1 (some .boolean) :: ws) ({ frames := 0, cells := 0, slots := 0, locals := 0 } : Room)) (fun a U => a = #[(.ref w_CREDENTIAL)] ∧ Z.Warmed39 U.vm ∧ U.heap = h0) (fun _ _ _ _ _ => True) (fun _ U o U' => ∃ v L, o = .returned v ∧ Q1_8 Z w_CREDENTIAL w_FLAG w_REPEATED_VALUE h0 n0 v U'.heap L ∧ FrameEnd U o U' L ({ frames := 0, cells := 0, slots := 0, locals := 0 } : Room).cells ({ frames := 0, cells := 0, slots := 0, locals := 0 } : Room).slots) := by
  refine MetFree.of_bodySF (plainFor_of_name pn_0) hisR ?_
  intro p e s m args below meth c s₁ Bd hml0 hP hK
  obtain ⟨rfl, hZ, hh⟩ := hP
  have hx := Bd.exec
  have hby := Bd.bytes
  have hml : c.maxLocals = 1 := hml0
  have hown : s.vm.findClass "com/example/garm/garm/command/Option" = some m.cls := findClass_of_methodNamed Bd.named
  have hnm := (name_of_methodNamed Bd.named Bd.method).1
  have X0 : Stand p l e ({ frames := 0, cells := 0, slots := 0, locals := 0 } : Room) s m #[(.ref w_CREDENTIAL)] below meth c s₁ [] 0 0 := Stand.of_body Bd
  have e0 : s₁.heap = h0 := by rw [← hh, Bd.state]; rfl
  have N0 := Fr.nil n0
  have pre0 : ∀ t, Steps p.tables e below (s₁.setTop (mkF m 0 #[.val (.ref w_CREDENTIAL)] [])) t → Steps p.tables e below (s₁.setTop (entryFrame m #[(.ref w_CREDENTIAL)] 1)) t := fun t k => castTop (ef_rm1_8 m w_CREDENTIAL) k
  obtain ⟨T1, X1, e1, st1⟩ := getF X0 hx hZ hown (host := "") (Or.inl (hw _ (List.mem_of_getElem? (i := 44) rfl))) Via.refl e0 F_form_CREDENTIAL (g := (mkF m 1 #[.val (.ref w_CREDENTIAL)] [(.ref w_CREDENTIAL)])) rfl rfl (hb hby d1_1)
  obtain ⟨T2, X2, e2, st2⟩ := getS2 X1 hx hZ hown (host := "") (Or.inl (hw _ (List.mem_of_getElem? (i := 48) rfl))) Via.refl e1 S_FLAG (g := (mkF m 4 #[.val (.ref w_CREDENTIAL)] [(.ref w_REPEATED_VALUE)])) rfl (hb hby d1_4)
  obtain ⟨fs, hr, hrun, hended, hW, hsame⟩ := X2.leave (v := some (.int (1 : Int32))) (fun h => by rw [Bd.returns] at h; cases h)
  refine ⟨_, _, pre0 _ ?_, hrun, hended, _, _, rfl, ?_, ⟨_, rfl⟩, hW, hsame.mono (by decide) (by decide)⟩
  ·
    show Steps p.tables e below (s₁.setTop (mkF m 0 #[.val (.ref w_CREDENTIAL)] [])) _
    refine XS.aloadN X0.here hx rfl (hb hby d1_0) rfl rfl ?_
    show Steps p.tables e below (s₁.setTop (mkF m 1 #[.val (.ref w_CREDENTIAL)] [(.ref w_CREDENTIAL)])) _
    refine st1 _ ?_
    show Steps p.tables e below (T1.setTop (mkF m 4 #[.val (.ref w_CREDENTIAL)] [(.ref w_REPEATED_VALUE)])) _
    refine st2 _ ?_
    show Steps p.tables e below (T2.setTop (mkF m 7 #[.val (.ref w_CREDENTIAL)] [(.ref w_FLAG), (.ref w_REPEATED_VALUE)])) _
    refine Jvm.RoadKit.acmp (g := (mkF m 7 #[.val (.ref w_CREDENTIAL)] [(.ref w_FLAG), (.ref w_REPEATED_VALUE)])) X2 hx rfl rfl rfl (pc0 := 7) (pc' := 10) (same := false) rfl (hb hby d1_7) rfl (decide_eq_false fun q => (Ne.symm ne_FLAG_REPEATED_VALUE) (Value.ref.inj q)) (by decide) (by decide) ?_
    show Steps p.tables e below (T2.setTop (mkF m 10 #[.val (.ref w_CREDENTIAL)] [])) _
    refine XS.iconst X2.here hx rfl (hb hby d1_10) ?_
    show Steps p.tables e below (T2.setTop (mkF m 11 #[.val (.ref w_CREDENTIAL)] [(.int (1 : Int32))])) _
    refine XS.goto X2.here hx rfl (pc0 := 11) (pc' := 15) rfl (hb hby d1_11) (by decide) (by decide) ?_
    show Steps p.tables e below (T2.setTop (mkF m 15 #[.val (.ref w_CREDENTIAL)] [(.int (1 : Int32))])) _
    exact retN X2 hx (t := .boolean) Bd.returns (by simp) (hb hby d1_15) hr
  · show Q1_8 Z w_CREDENTIAL w_FLAG w_REPEATED_VALUE h0 n0 _ T2.heap _
    rw [e2]
    exact ⟨rfl, N0, rfl⟩
theorem ef_rm2_8 (m : MethodId) (x0 : Addr) : entryFrame m #[(.ref x0)] 1 = mkF m 0 #[.val (.ref x0)] [] := by first | (simp [entryFrame, mkF, argsToLocals, Value.category]; done) | rfl
def Q2_8 (Z : State) (w_CREDENTIAL : Addr) (w_REPEATED_VALUE : Addr) (h0 : Heap) (n0 : Nat) (v : Option Value) (h : Heap) (L : List Loc) : Prop := v = some (.int (1 : Int32)) ∧ Fr n0 L ∧ h = h0
set_option maxRecDepth 65536 in
set_option maxHeartbeats 40000000 in
theorem rm2_8 (l : Launch) (Z : State) (a0 : Array Value) (hw : ∀ d ∈ tables_1, d.before a0 Z = true) (ws : List Jvm.Cond) (w_CREDENTIAL : Addr) (w_REPEATED_VALUE : Addr) (h0 : Heap) (n0 : Nat) (Z0 : n0 ≤ h0.size) (F_form_CREDENTIAL : Fld Z h0 w_CREDENTIAL "com/example/garm/garm/command/Option" "form" "Lcom/example/garm/garm/command/Option$Form;" (.ref w_REPEATED_VALUE)) (S_REPEATED_VALUE : Sta Z h0 "com/example/garm/garm/command/Option$Form" "REPEATED_VALUE" "Lcom/example/garm/garm/command/Option$Form;" (.ref w_REPEATED_VALUE)) :
    MetFree l (⟨"com/example/garm/garm/command/Option", "isRepeatable", "()Z"⟩ : MethodName) (head1 (Jvm.Cond.code (⟨"com/example/garm/garm/command/Option", "isRepeatable", "()Z"⟩ : MethodName) prog_4_method_6_code 1 (some .boolean) :: ws) ({ frames := 0, cells := 0, slots := 0, locals := 0 } : Room)) (fun a U => a = #[(.ref w_CREDENTIAL)] ∧ Z.Warmed39 U.vm ∧ U.heap = h0) (fun _ _ _ _ _ => True) (fun _ U o U' => ∃ v L, o = .returned v ∧ Q2_8 Z w_CREDENTIAL w_REPEATED_VALUE h0 n0 v U'.heap L ∧ FrameEnd U o U' L ({ frames := 0, cells := 0, slots := 0, locals := 0 } : Room).cells ({ frames := 0, cells := 0, slots := 0, locals := 0 } : Room).slots) := by
  refine MetFree.of_bodySF (plainFor_of_name pn_0) hisR ?_
  intro p e s m args below meth c s₁ Bd hml0 hP hK
  obtain ⟨rfl, hZ, hh⟩ := hP
  have hx := Bd.exec
  have hby := Bd.bytes
  have hml : c.maxLocals = 1 := hml0
  have hown : s.vm.findClass "com/example/garm/garm/command/Option" = some m.cls := findClass_of_methodNamed Bd.named
  have hnm := (name_of_methodNamed Bd.named Bd.method).1
  have X0 : Stand p l e ({ frames := 0, cells := 0, slots := 0, locals := 0 } : Room) s m #[(.ref w_CREDENTIAL)] below meth c s₁ [] 0 0 := Stand.of_body Bd
  have e0 : s₁.heap = h0 := by rw [← hh, Bd.state]; rfl
  have N0 := Fr.nil n0
  have pre0 : ∀ t, Steps p.tables e below (s₁.setTop (mkF m 0 #[.val (.ref w_CREDENTIAL)] [])) t → Steps p.tables e below (s₁.setTop (entryFrame m #[(.ref w_CREDENTIAL)] 1)) t := fun t k => castTop (ef_rm2_8 m w_CREDENTIAL) k
  obtain ⟨T1, X1, e1, st1⟩ := getF X0 hx hZ hown (host := "") (Or.inl (hw _ (List.mem_of_getElem? (i := 44) rfl))) Via.refl e0 F_form_CREDENTIAL (g := (mkF m 1 #[.val (.ref w_CREDENTIAL)] [(.ref w_CREDENTIAL)])) rfl rfl (hb hby d2_1)
  obtain ⟨T2, X2, e2, st2⟩ := getS2 X1 hx hZ hown (host := "") (Or.inl (hw _ (List.mem_of_getElem? (i := 55) rfl))) Via.refl e1 S_REPEATED_VALUE (g := (mkF m 4 #[.val (.ref w_CREDENTIAL)] [(.ref w_REPEATED_VALUE)])) rfl (hb hby d2_4)
  obtain ⟨fs, hr, hrun, hended, hW, hsame⟩ := X2.leave (v := some (.int (1 : Int32))) (fun h => by rw [Bd.returns] at h; cases h)
  refine ⟨_, _, pre0 _ ?_, hrun, hended, _, _, rfl, ?_, ⟨_, rfl⟩, hW, hsame.mono (by decide) (by decide)⟩
  ·
    show Steps p.tables e below (s₁.setTop (mkF m 0 #[.val (.ref w_CREDENTIAL)] [])) _
    refine XS.aloadN X0.here hx rfl (hb hby d2_0) rfl rfl ?_
    show Steps p.tables e below (s₁.setTop (mkF m 1 #[.val (.ref w_CREDENTIAL)] [(.ref w_CREDENTIAL)])) _
    refine st1 _ ?_
    show Steps p.tables e below (T1.setTop (mkF m 4 #[.val (.ref w_CREDENTIAL)] [(.ref w_REPEATED_VALUE)])) _
    refine st2 _ ?_
    show Steps p.tables e below (T2.setTop (mkF m 7 #[.val (.ref w_CREDENTIAL)] [(.ref w_REPEATED_VALUE), (.ref w_REPEATED_VALUE)])) _
    refine Jvm.RoadKit.acmp (g := (mkF m 7 #[.val (.ref w_CREDENTIAL)] [(.ref w_REPEATED_VALUE), (.ref w_REPEATED_VALUE)])) X2 hx rfl rfl rfl (pc0 := 7) (pc' := 10) (same := true) rfl (hb hby d2_7) rfl (decide_eq_true rfl) (by decide) (by decide) ?_
    show Steps p.tables e below (T2.setTop (mkF m 10 #[.val (.ref w_CREDENTIAL)] [])) _
    refine XS.iconst X2.here hx rfl (hb hby d2_10) ?_
    show Steps p.tables e below (T2.setTop (mkF m 11 #[.val (.ref w_CREDENTIAL)] [(.int (1 : Int32))])) _
    refine XS.goto X2.here hx rfl (pc0 := 11) (pc' := 15) rfl (hb hby d2_11) (by decide) (by decide) ?_
    show Steps p.tables e below (T2.setTop (mkF m 15 #[.val (.ref w_CREDENTIAL)] [(.int (1 : Int32))])) _
    exact retN X2 hx (t := .boolean) Bd.returns (by simp) (hb hby d2_15) hr
  · show Q2_8 Z w_CREDENTIAL w_REPEATED_VALUE h0 n0 _ T2.heap _
    rw [e2]
    exact ⟨rfl, N0, rfl⟩
theorem ef_rm1_9 (m : MethodId) (x0 : Addr) : entryFrame m #[(.ref x0)] 1 = mkF m 0 #[.val (.ref x0)] [] := by first | (simp [entryFrame, mkF, argsToLocals, Value.category]; done) | rfl
def Q1_9 (Z : State) (w_REQUESTS : Addr) (w_VALUE : Addr) (w_FLAG : Addr) (h0 : Heap) (n0 : Nat) (v : Option Value) (h : Heap) (L : List Loc) : Prop := v = some (.int (1 : Int32)) ∧ Fr n0 L ∧ h = h0
set_option maxRecDepth 65536 in
set_option maxHeartbeats 40000000 in
theorem rm1_9 (l : Launch) (Z : State) (a0 : Array Value) (hw : ∀ d ∈ tables_1, d.before a0 Z = true) (ws : List Jvm.Cond) (w_REQUESTS : Addr) (w_VALUE : Addr) (w_FLAG : Addr) (h0 : Heap) (n0 : Nat) (Z0 : n0 ≤ h0.size) (F_form_REQUESTS : Fld Z h0 w_REQUESTS "com/example/garm/garm/command/Option" "form" "Lcom/example/garm/garm/command/Option$Form;" (.ref w_VALUE)) (S_FLAG : Sta Z h0 "com/example/garm/garm/command/Option$Form" "FLAG" "Lcom/example/garm/garm/command/Option$Form;" (.ref w_FLAG)) (ne_FLAG_VALUE : w_FLAG ≠ w_VALUE) :
    MetFree l (⟨"com/example/garm/garm/command/Option", "takesValue", "()Z"⟩ : MethodName) (head1 (Jvm.Cond.code (⟨"com/example/garm/garm/command/Option", "takesValue", "()Z"⟩ : MethodName) prog_4_method_5_code 1 (some .boolean) :: ws) ({ frames := 0, cells := 0, slots := 0, locals := 0 } : Room)) (fun a U => a = #[(.ref w_REQUESTS)] ∧ Z.Warmed39 U.vm ∧ U.heap = h0) (fun _ _ _ _ _ => True) (fun _ U o U' => ∃ v L, o = .returned v ∧ Q1_9 Z w_REQUESTS w_VALUE w_FLAG h0 n0 v U'.heap L ∧ FrameEnd U o U' L ({ frames := 0, cells := 0, slots := 0, locals := 0 } : Room).cells ({ frames := 0, cells := 0, slots := 0, locals := 0 } : Room).slots) := by
  refine MetFree.of_bodySF (plainFor_of_name pn_0) hisR ?_
  intro p e s m args below meth c s₁ Bd hml0 hP hK
  obtain ⟨rfl, hZ, hh⟩ := hP
  have hx := Bd.exec
  have hby := Bd.bytes
  have hml : c.maxLocals = 1 := hml0
  have hown : s.vm.findClass "com/example/garm/garm/command/Option" = some m.cls := findClass_of_methodNamed Bd.named
  have hnm := (name_of_methodNamed Bd.named Bd.method).1
  have X0 : Stand p l e ({ frames := 0, cells := 0, slots := 0, locals := 0 } : Room) s m #[(.ref w_REQUESTS)] below meth c s₁ [] 0 0 := Stand.of_body Bd
  have e0 : s₁.heap = h0 := by rw [← hh, Bd.state]; rfl
  have N0 := Fr.nil n0
  have pre0 : ∀ t, Steps p.tables e below (s₁.setTop (mkF m 0 #[.val (.ref w_REQUESTS)] [])) t → Steps p.tables e below (s₁.setTop (entryFrame m #[(.ref w_REQUESTS)] 1)) t := fun t k => castTop (ef_rm1_9 m w_REQUESTS) k
  obtain ⟨T1, X1, e1, st1⟩ := getF X0 hx hZ hown (host := "") (Or.inl (hw _ (List.mem_of_getElem? (i := 44) rfl))) Via.refl e0 F_form_REQUESTS (g := (mkF m 1 #[.val (.ref w_REQUESTS)] [(.ref w_REQUESTS)])) rfl rfl (hb hby d1_1)
  obtain ⟨T2, X2, e2, st2⟩ := getS2 X1 hx hZ hown (host := "") (Or.inl (hw _ (List.mem_of_getElem? (i := 48) rfl))) Via.refl e1 S_FLAG (g := (mkF m 4 #[.val (.ref w_REQUESTS)] [(.ref w_VALUE)])) rfl (hb hby d1_4)
  obtain ⟨fs, hr, hrun, hended, hW, hsame⟩ := X2.leave (v := some (.int (1 : Int32))) (fun h => by rw [Bd.returns] at h; cases h)
  refine ⟨_, _, pre0 _ ?_, hrun, hended, _, _, rfl, ?_, ⟨_, rfl⟩, hW, hsame.mono (by decide) (by decide)⟩
  ·
    show Steps p.tables e below (s₁.setTop (mkF m 0 #[.val (.ref w_REQUESTS)] [])) _
    refine XS.aloadN X0.here hx rfl (hb hby d1_0) rfl rfl ?_
    show Steps p.tables e below (s₁.setTop (mkF m 1 #[.val (.ref w_REQUESTS)] [(.ref w_REQUESTS)])) _
    refine st1 _ ?_
    show Steps p.tables e below (T1.setTop (mkF m 4 #[.val (.ref w_REQUESTS)] [(.ref w_VALUE)])) _
    refine st2 _ ?_
    show Steps p.tables e below (T2.setTop (mkF m 7 #[.val (.ref w_REQUESTS)] [(.ref w_FLAG), (.ref w_VALUE)])) _
    refine Jvm.RoadKit.acmp (g := (mkF m 7 #[.val (.ref w_REQUESTS)] [(.ref w_FLAG), (.ref w_VALUE)])) X2 hx rfl rfl rfl (pc0 := 7) (pc' := 10) (same := false) rfl (hb hby d1_7) rfl (decide_eq_false fun q => (Ne.symm ne_FLAG_VALUE) (Value.ref.inj q)) (by decide) (by decide) ?_
    show Steps p.tables e below (T2.setTop (mkF m 10 #[.val (.ref w_REQUESTS)] [])) _
    refine XS.iconst X2.here hx rfl (hb hby d1_10) ?_
    show Steps p.tables e below (T2.setTop (mkF m 11 #[.val (.ref w_REQUESTS)] [(.int (1 : Int32))])) _
    refine XS.goto X2.here hx rfl (pc0 := 11) (pc' := 15) rfl (hb hby d1_11) (by decide) (by decide) ?_
    show Steps p.tables e below (T2.setTop (mkF m 15 #[.val (.ref w_REQUESTS)] [(.int (1 : Int32))])) _
    exact retN X2 hx (t := .boolean) Bd.returns (by simp) (hb hby d1_15) hr
  · show Q1_9 Z w_REQUESTS w_VALUE w_FLAG h0 n0 _ T2.heap _
    rw [e2]
    exact ⟨rfl, N0, rfl⟩
theorem ef_rm2_9 (m : MethodId) (x0 : Addr) : entryFrame m #[(.ref x0)] 1 = mkF m 0 #[.val (.ref x0)] [] := by first | (simp [entryFrame, mkF, argsToLocals, Value.category]; done) | rfl
def Q2_9 (Z : State) (w_REQUESTS : Addr) (w_VALUE : Addr) (w_REPEATED_VALUE : Addr) (h0 : Heap) (n0 : Nat) (v : Option Value) (h : Heap) (L : List Loc) : Prop := v = some (.int (0 : Int32)) ∧ Fr n0 L ∧ h = h0
set_option maxRecDepth 65536 in
set_option maxHeartbeats 40000000 in
theorem rm2_9 (l : Launch) (Z : State) (a0 : Array Value) (hw : ∀ d ∈ tables_1, d.before a0 Z = true) (ws : List Jvm.Cond) (w_REQUESTS : Addr) (w_VALUE : Addr) (w_REPEATED_VALUE : Addr) (h0 : Heap) (n0 : Nat) (Z0 : n0 ≤ h0.size) (F_form_REQUESTS : Fld Z h0 w_REQUESTS "com/example/garm/garm/command/Option" "form" "Lcom/example/garm/garm/command/Option$Form;" (.ref w_VALUE)) (S_REPEATED_VALUE : Sta Z h0 "com/example/garm/garm/command/Option$Form" "REPEATED_VALUE" "Lcom/example/garm/garm/command/Option$Form;" (.ref w_REPEATED_VALUE)) (ne_REPEATED_VALUE_VALUE : w_REPEATED_VALUE ≠ w_VALUE) :
    MetFree l (⟨"com/example/garm/garm/command/Option", "isRepeatable", "()Z"⟩ : MethodName) (head1 (Jvm.Cond.code (⟨"com/example/garm/garm/command/Option", "isRepeatable", "()Z"⟩ : MethodName) prog_4_method_6_code 1 (some .boolean) :: ws) ({ frames := 0, cells := 0, slots := 0, locals := 0 } : Room)) (fun a U => a = #[(.ref w_REQUESTS)] ∧ Z.Warmed39 U.vm ∧ U.heap = h0) (fun _ _ _ _ _ => True) (fun _ U o U' => ∃ v L, o = .returned v ∧ Q2_9 Z w_REQUESTS w_VALUE w_REPEATED_VALUE h0 n0 v U'.heap L ∧ FrameEnd U o U' L ({ frames := 0, cells := 0, slots := 0, locals := 0 } : Room).cells ({ frames := 0, cells := 0, slots := 0, locals := 0 } : Room).slots) := by
  refine MetFree.of_bodySF (plainFor_of_name pn_0) hisR ?_
  intro p e s m args below meth c s₁ Bd hml0 hP hK
  obtain ⟨rfl, hZ, hh⟩ := hP
  have hx := Bd.exec
  have hby := Bd.bytes
  have hml : c.maxLocals = 1 := hml0
  have hown : s.vm.findClass "com/example/garm/garm/command/Option" = some m.cls := findClass_of_methodNamed Bd.named
  have hnm := (name_of_methodNamed Bd.named Bd.method).1
  have X0 : Stand p l e ({ frames := 0, cells := 0, slots := 0, locals := 0 } : Room) s m #[(.ref w_REQUESTS)] below meth c s₁ [] 0 0 := Stand.of_body Bd
  have e0 : s₁.heap = h0 := by rw [← hh, Bd.state]; rfl
  have N0 := Fr.nil n0
  have pre0 : ∀ t, Steps p.tables e below (s₁.setTop (mkF m 0 #[.val (.ref w_REQUESTS)] [])) t → Steps p.tables e below (s₁.setTop (entryFrame m #[(.ref w_REQUESTS)] 1)) t := fun t k => castTop (ef_rm2_9 m w_REQUESTS) k
  obtain ⟨T1, X1, e1, st1⟩ := getF X0 hx hZ hown (host := "") (Or.inl (hw _ (List.mem_of_getElem? (i := 44) rfl))) Via.refl e0 F_form_REQUESTS (g := (mkF m 1 #[.val (.ref w_REQUESTS)] [(.ref w_REQUESTS)])) rfl rfl (hb hby d2_1)
  obtain ⟨T2, X2, e2, st2⟩ := getS2 X1 hx hZ hown (host := "") (Or.inl (hw _ (List.mem_of_getElem? (i := 55) rfl))) Via.refl e1 S_REPEATED_VALUE (g := (mkF m 4 #[.val (.ref w_REQUESTS)] [(.ref w_VALUE)])) rfl (hb hby d2_4)
  obtain ⟨fs, hr, hrun, hended, hW, hsame⟩ := X2.leave (v := some (.int (0 : Int32))) (fun h => by rw [Bd.returns] at h; cases h)
  refine ⟨_, _, pre0 _ ?_, hrun, hended, _, _, rfl, ?_, ⟨_, rfl⟩, hW, hsame.mono (by decide) (by decide)⟩
  ·
    show Steps p.tables e below (s₁.setTop (mkF m 0 #[.val (.ref w_REQUESTS)] [])) _
    refine XS.aloadN X0.here hx rfl (hb hby d2_0) rfl rfl ?_
    show Steps p.tables e below (s₁.setTop (mkF m 1 #[.val (.ref w_REQUESTS)] [(.ref w_REQUESTS)])) _
    refine st1 _ ?_
    show Steps p.tables e below (T1.setTop (mkF m 4 #[.val (.ref w_REQUESTS)] [(.ref w_VALUE)])) _
    refine st2 _ ?_
    show Steps p.tables e below (T2.setTop (mkF m 7 #[.val (.ref w_REQUESTS)] [(.ref w_REPEATED_VALUE), (.ref w_VALUE)])) _
    refine Jvm.RoadKit.acmp (g := (mkF m 7 #[.val (.ref w_REQUESTS)] [(.ref w_REPEATED_VALUE), (.ref w_VALUE)])) X2 hx rfl rfl rfl (pc0 := 7) (pc' := 14) (same := false) rfl (hb hby d2_7) rfl (decide_eq_false fun q => (Ne.symm ne_REPEATED_VALUE_VALUE) (Value.ref.inj q)) (by decide) (by decide) ?_
    show Steps p.tables e below (T2.setTop (mkF m 14 #[.val (.ref w_REQUESTS)] [])) _
    refine XS.iconst X2.here hx rfl (hb hby d2_14) ?_
    show Steps p.tables e below (T2.setTop (mkF m 15 #[.val (.ref w_REQUESTS)] [(.int (0 : Int32))])) _
    exact retN X2 hx (t := .boolean) Bd.returns (by simp) (hb hby d2_15) hr
  · show Q2_9 Z w_REQUESTS w_VALUE w_REPEATED_VALUE h0 n0 _ T2.heap _
    rw [e2]
    exact ⟨rfl, N0, rfl⟩
theorem ef_rm1_10 (m : MethodId) (x0 : Addr) : entryFrame m #[(.ref x0)] 1 = mkF m 0 #[.val (.ref x0)] [] := by first | (simp [entryFrame, mkF, argsToLocals, Value.category]; done) | rfl
def Q1_10 (Z : State) (w_AGENTS : Addr) (w_VALUE : Addr) (w_FLAG : Addr) (h0 : Heap) (n0 : Nat) (v : Option Value) (h : Heap) (L : List Loc) : Prop := v = some (.int (1 : Int32)) ∧ Fr n0 L ∧ h = h0
set_option maxRecDepth 65536 in
set_option maxHeartbeats 40000000 in
theorem rm1_10 (l : Launch) (Z : State) (a0 : Array Value) (hw : ∀ d ∈ tables_1, d.before a0 Z = true) (ws : List Jvm.Cond) (w_AGENTS : Addr) (w_VALUE : Addr) (w_FLAG : Addr) (h0 : Heap) (n0 : Nat) (Z0 : n0 ≤ h0.size) (F_form_AGENTS : Fld Z h0 w_AGENTS "com/example/garm/garm/command/Option" "form" "Lcom/example/garm/garm/command/Option$Form;" (.ref w_VALUE)) (S_FLAG : Sta Z h0 "com/example/garm/garm/command/Option$Form" "FLAG" "Lcom/example/garm/garm/command/Option$Form;" (.ref w_FLAG)) (ne_FLAG_VALUE : w_FLAG ≠ w_VALUE) :
    MetFree l (⟨"com/example/garm/garm/command/Option", "takesValue", "()Z"⟩ : MethodName) (head1 (Jvm.Cond.code (⟨"com/example/garm/garm/command/Option", "takesValue", "()Z"⟩ : MethodName) prog_4_method_5_code 1 (some .boolean) :: ws) ({ frames := 0, cells := 0, slots := 0, locals := 0 } : Room)) (fun a U => a = #[(.ref w_AGENTS)] ∧ Z.Warmed39 U.vm ∧ U.heap = h0) (fun _ _ _ _ _ => True) (fun _ U o U' => ∃ v L, o = .returned v ∧ Q1_10 Z w_AGENTS w_VALUE w_FLAG h0 n0 v U'.heap L ∧ FrameEnd U o U' L ({ frames := 0, cells := 0, slots := 0, locals := 0 } : Room).cells ({ frames := 0, cells := 0, slots := 0, locals := 0 } : Room).slots) := by
  refine MetFree.of_bodySF (plainFor_of_name pn_0) hisR ?_
  intro p e s m args below meth c s₁ Bd hml0 hP hK
  obtain ⟨rfl, hZ, hh⟩ := hP
  have hx := Bd.exec
  have hby := Bd.bytes
  have hml : c.maxLocals = 1 := hml0
  have hown : s.vm.findClass "com/example/garm/garm/command/Option" = some m.cls := findClass_of_methodNamed Bd.named
  have hnm := (name_of_methodNamed Bd.named Bd.method).1
  have X0 : Stand p l e ({ frames := 0, cells := 0, slots := 0, locals := 0 } : Room) s m #[(.ref w_AGENTS)] below meth c s₁ [] 0 0 := Stand.of_body Bd
  have e0 : s₁.heap = h0 := by rw [← hh, Bd.state]; rfl
  have N0 := Fr.nil n0
  have pre0 : ∀ t, Steps p.tables e below (s₁.setTop (mkF m 0 #[.val (.ref w_AGENTS)] [])) t → Steps p.tables e below (s₁.setTop (entryFrame m #[(.ref w_AGENTS)] 1)) t := fun t k => castTop (ef_rm1_10 m w_AGENTS) k
  obtain ⟨T1, X1, e1, st1⟩ := getF X0 hx hZ hown (host := "") (Or.inl (hw _ (List.mem_of_getElem? (i := 44) rfl))) Via.refl e0 F_form_AGENTS (g := (mkF m 1 #[.val (.ref w_AGENTS)] [(.ref w_AGENTS)])) rfl rfl (hb hby d1_1)
  obtain ⟨T2, X2, e2, st2⟩ := getS2 X1 hx hZ hown (host := "") (Or.inl (hw _ (List.mem_of_getElem? (i := 48) rfl))) Via.refl e1 S_FLAG (g := (mkF m 4 #[.val (.ref w_AGENTS)] [(.ref w_VALUE)])) rfl (hb hby d1_4)
  obtain ⟨fs, hr, hrun, hended, hW, hsame⟩ := X2.leave (v := some (.int (1 : Int32))) (fun h => by rw [Bd.returns] at h; cases h)
  refine ⟨_, _, pre0 _ ?_, hrun, hended, _, _, rfl, ?_, ⟨_, rfl⟩, hW, hsame.mono (by decide) (by decide)⟩
  ·
    show Steps p.tables e below (s₁.setTop (mkF m 0 #[.val (.ref w_AGENTS)] [])) _
    refine XS.aloadN X0.here hx rfl (hb hby d1_0) rfl rfl ?_
    show Steps p.tables e below (s₁.setTop (mkF m 1 #[.val (.ref w_AGENTS)] [(.ref w_AGENTS)])) _
    refine st1 _ ?_
    show Steps p.tables e below (T1.setTop (mkF m 4 #[.val (.ref w_AGENTS)] [(.ref w_VALUE)])) _
    refine st2 _ ?_
    show Steps p.tables e below (T2.setTop (mkF m 7 #[.val (.ref w_AGENTS)] [(.ref w_FLAG), (.ref w_VALUE)])) _
    refine Jvm.RoadKit.acmp (g := (mkF m 7 #[.val (.ref w_AGENTS)] [(.ref w_FLAG), (.ref w_VALUE)])) X2 hx rfl rfl rfl (pc0 := 7) (pc' := 10) (same := false) rfl (hb hby d1_7) rfl (decide_eq_false fun q => (Ne.symm ne_FLAG_VALUE) (Value.ref.inj q)) (by decide) (by decide) ?_
    show Steps p.tables e below (T2.setTop (mkF m 10 #[.val (.ref w_AGENTS)] [])) _
    refine XS.iconst X2.here hx rfl (hb hby d1_10) ?_
    show Steps p.tables e below (T2.setTop (mkF m 11 #[.val (.ref w_AGENTS)] [(.int (1 : Int32))])) _
    refine XS.goto X2.here hx rfl (pc0 := 11) (pc' := 15) rfl (hb hby d1_11) (by decide) (by decide) ?_
    show Steps p.tables e below (T2.setTop (mkF m 15 #[.val (.ref w_AGENTS)] [(.int (1 : Int32))])) _
    exact retN X2 hx (t := .boolean) Bd.returns (by simp) (hb hby d1_15) hr
  · show Q1_10 Z w_AGENTS w_VALUE w_FLAG h0 n0 _ T2.heap _
    rw [e2]
    exact ⟨rfl, N0, rfl⟩
theorem ef_rm2_10 (m : MethodId) (x0 : Addr) : entryFrame m #[(.ref x0)] 1 = mkF m 0 #[.val (.ref x0)] [] := by first | (simp [entryFrame, mkF, argsToLocals, Value.category]; done) | rfl
def Q2_10 (Z : State) (w_AGENTS : Addr) (w_VALUE : Addr) (w_REPEATED_VALUE : Addr) (h0 : Heap) (n0 : Nat) (v : Option Value) (h : Heap) (L : List Loc) : Prop := v = some (.int (0 : Int32)) ∧ Fr n0 L ∧ h = h0
set_option maxRecDepth 65536 in
set_option maxHeartbeats 40000000 in
theorem rm2_10 (l : Launch) (Z : State) (a0 : Array Value) (hw : ∀ d ∈ tables_1, d.before a0 Z = true) (ws : List Jvm.Cond) (w_AGENTS : Addr) (w_VALUE : Addr) (w_REPEATED_VALUE : Addr) (h0 : Heap) (n0 : Nat) (Z0 : n0 ≤ h0.size) (F_form_AGENTS : Fld Z h0 w_AGENTS "com/example/garm/garm/command/Option" "form" "Lcom/example/garm/garm/command/Option$Form;" (.ref w_VALUE)) (S_REPEATED_VALUE : Sta Z h0 "com/example/garm/garm/command/Option$Form" "REPEATED_VALUE" "Lcom/example/garm/garm/command/Option$Form;" (.ref w_REPEATED_VALUE)) (ne_REPEATED_VALUE_VALUE : w_REPEATED_VALUE ≠ w_VALUE) :
    MetFree l (⟨"com/example/garm/garm/command/Option", "isRepeatable", "()Z"⟩ : MethodName) (head1 (Jvm.Cond.code (⟨"com/example/garm/garm/command/Option", "isRepeatable", "()Z"⟩ : MethodName) prog_4_method_6_code 1 (some .boolean) :: ws) ({ frames := 0, cells := 0, slots := 0, locals := 0 } : Room)) (fun a U => a = #[(.ref w_AGENTS)] ∧ Z.Warmed39 U.vm ∧ U.heap = h0) (fun _ _ _ _ _ => True) (fun _ U o U' => ∃ v L, o = .returned v ∧ Q2_10 Z w_AGENTS w_VALUE w_REPEATED_VALUE h0 n0 v U'.heap L ∧ FrameEnd U o U' L ({ frames := 0, cells := 0, slots := 0, locals := 0 } : Room).cells ({ frames := 0, cells := 0, slots := 0, locals := 0 } : Room).slots) := by
  refine MetFree.of_bodySF (plainFor_of_name pn_0) hisR ?_
  intro p e s m args below meth c s₁ Bd hml0 hP hK
  obtain ⟨rfl, hZ, hh⟩ := hP
  have hx := Bd.exec
  have hby := Bd.bytes
  have hml : c.maxLocals = 1 := hml0
  have hown : s.vm.findClass "com/example/garm/garm/command/Option" = some m.cls := findClass_of_methodNamed Bd.named
  have hnm := (name_of_methodNamed Bd.named Bd.method).1
  have X0 : Stand p l e ({ frames := 0, cells := 0, slots := 0, locals := 0 } : Room) s m #[(.ref w_AGENTS)] below meth c s₁ [] 0 0 := Stand.of_body Bd
  have e0 : s₁.heap = h0 := by rw [← hh, Bd.state]; rfl
  have N0 := Fr.nil n0
  have pre0 : ∀ t, Steps p.tables e below (s₁.setTop (mkF m 0 #[.val (.ref w_AGENTS)] [])) t → Steps p.tables e below (s₁.setTop (entryFrame m #[(.ref w_AGENTS)] 1)) t := fun t k => castTop (ef_rm2_10 m w_AGENTS) k
  obtain ⟨T1, X1, e1, st1⟩ := getF X0 hx hZ hown (host := "") (Or.inl (hw _ (List.mem_of_getElem? (i := 44) rfl))) Via.refl e0 F_form_AGENTS (g := (mkF m 1 #[.val (.ref w_AGENTS)] [(.ref w_AGENTS)])) rfl rfl (hb hby d2_1)
  obtain ⟨T2, X2, e2, st2⟩ := getS2 X1 hx hZ hown (host := "") (Or.inl (hw _ (List.mem_of_getElem? (i := 55) rfl))) Via.refl e1 S_REPEATED_VALUE (g := (mkF m 4 #[.val (.ref w_AGENTS)] [(.ref w_VALUE)])) rfl (hb hby d2_4)
  obtain ⟨fs, hr, hrun, hended, hW, hsame⟩ := X2.leave (v := some (.int (0 : Int32))) (fun h => by rw [Bd.returns] at h; cases h)
  refine ⟨_, _, pre0 _ ?_, hrun, hended, _, _, rfl, ?_, ⟨_, rfl⟩, hW, hsame.mono (by decide) (by decide)⟩
  ·
    show Steps p.tables e below (s₁.setTop (mkF m 0 #[.val (.ref w_AGENTS)] [])) _
    refine XS.aloadN X0.here hx rfl (hb hby d2_0) rfl rfl ?_
    show Steps p.tables e below (s₁.setTop (mkF m 1 #[.val (.ref w_AGENTS)] [(.ref w_AGENTS)])) _
    refine st1 _ ?_
    show Steps p.tables e below (T1.setTop (mkF m 4 #[.val (.ref w_AGENTS)] [(.ref w_VALUE)])) _
    refine st2 _ ?_
    show Steps p.tables e below (T2.setTop (mkF m 7 #[.val (.ref w_AGENTS)] [(.ref w_REPEATED_VALUE), (.ref w_VALUE)])) _
    refine Jvm.RoadKit.acmp (g := (mkF m 7 #[.val (.ref w_AGENTS)] [(.ref w_REPEATED_VALUE), (.ref w_VALUE)])) X2 hx rfl rfl rfl (pc0 := 7) (pc' := 14) (same := false) rfl (hb hby d2_7) rfl (decide_eq_false fun q => (Ne.symm ne_REPEATED_VALUE_VALUE) (Value.ref.inj q)) (by decide) (by decide) ?_
    show Steps p.tables e below (T2.setTop (mkF m 14 #[.val (.ref w_AGENTS)] [])) _
    refine XS.iconst X2.here hx rfl (hb hby d2_14) ?_
    show Steps p.tables e below (T2.setTop (mkF m 15 #[.val (.ref w_AGENTS)] [(.int (0 : Int32))])) _
    exact retN X2 hx (t := .boolean) Bd.returns (by simp) (hb hby d2_15) hr
  · show Q2_10 Z w_AGENTS w_VALUE w_REPEATED_VALUE h0 n0 _ T2.heap _
    rw [e2]
    exact ⟨rfl, N0, rfl⟩
theorem d1_14 : decode prog_4_method_5_code 14 = .ok (.iconst 0, 1) := by decide +kernel
theorem ef_rm1_11 (m : MethodId) (x0 : Addr) : entryFrame m #[(.ref x0)] 1 = mkF m 0 #[.val (.ref x0)] [] := by first | (simp [entryFrame, mkF, argsToLocals, Value.category]; done) | rfl
def Q1_11 (Z : State) (w_STATS : Addr) (w_FLAG : Addr) (h0 : Heap) (n0 : Nat) (v : Option Value) (h : Heap) (L : List Loc) : Prop := v = some (.int (0 : Int32)) ∧ Fr n0 L ∧ h = h0
set_option maxRecDepth 65536 in
set_option maxHeartbeats 40000000 in
theorem rm1_11 (l : Launch) (Z : State) (a0 : Array Value) (hw : ∀ d ∈ tables_1, d.before a0 Z = true) (ws : List Jvm.Cond) (w_STATS : Addr) (w_FLAG : Addr) (h0 : Heap) (n0 : Nat) (Z0 : n0 ≤ h0.size) (F_form_STATS : Fld Z h0 w_STATS "com/example/garm/garm/command/Option" "form" "Lcom/example/garm/garm/command/Option$Form;" (.ref w_FLAG)) (S_FLAG : Sta Z h0 "com/example/garm/garm/command/Option$Form" "FLAG" "Lcom/example/garm/garm/command/Option$Form;" (.ref w_FLAG)) :
    MetFree l (⟨"com/example/garm/garm/command/Option", "takesValue", "()Z"⟩ : MethodName) (head1 (Jvm.Cond.code (⟨"com/example/garm/garm/command/Option", "takesValue", "()Z"⟩ : MethodName) prog_4_method_5_code 1 (some .boolean) :: ws) ({ frames := 0, cells := 0, slots := 0, locals := 0 } : Room)) (fun a U => a = #[(.ref w_STATS)] ∧ Z.Warmed39 U.vm ∧ U.heap = h0) (fun _ _ _ _ _ => True) (fun _ U o U' => ∃ v L, o = .returned v ∧ Q1_11 Z w_STATS w_FLAG h0 n0 v U'.heap L ∧ FrameEnd U o U' L ({ frames := 0, cells := 0, slots := 0, locals := 0 } : Room).cells ({ frames := 0, cells := 0, slots := 0, locals := 0 } : Room).slots) := by
  refine MetFree.of_bodySF (plainFor_of_name pn_0) hisR ?_
  intro p e s m args below meth c s₁ Bd hml0 hP hK
  obtain ⟨rfl, hZ, hh⟩ := hP
  have hx := Bd.exec
  have hby := Bd.bytes
  have hml : c.maxLocals = 1 := hml0
  have hown : s.vm.findClass "com/example/garm/garm/command/Option" = some m.cls := findClass_of_methodNamed Bd.named
  have hnm := (name_of_methodNamed Bd.named Bd.method).1
  have X0 : Stand p l e ({ frames := 0, cells := 0, slots := 0, locals := 0 } : Room) s m #[(.ref w_STATS)] below meth c s₁ [] 0 0 := Stand.of_body Bd
  have e0 : s₁.heap = h0 := by rw [← hh, Bd.state]; rfl
  have N0 := Fr.nil n0
  have pre0 : ∀ t, Steps p.tables e below (s₁.setTop (mkF m 0 #[.val (.ref w_STATS)] [])) t → Steps p.tables e below (s₁.setTop (entryFrame m #[(.ref w_STATS)] 1)) t := fun t k => castTop (ef_rm1_11 m w_STATS) k
  obtain ⟨T1, X1, e1, st1⟩ := getF X0 hx hZ hown (host := "") (Or.inl (hw _ (List.mem_of_getElem? (i := 44) rfl))) Via.refl e0 F_form_STATS (g := (mkF m 1 #[.val (.ref w_STATS)] [(.ref w_STATS)])) rfl rfl (hb hby d1_1)
  obtain ⟨T2, X2, e2, st2⟩ := getS2 X1 hx hZ hown (host := "") (Or.inl (hw _ (List.mem_of_getElem? (i := 48) rfl))) Via.refl e1 S_FLAG (g := (mkF m 4 #[.val (.ref w_STATS)] [(.ref w_FLAG)])) rfl (hb hby d1_4)
  obtain ⟨fs, hr, hrun, hended, hW, hsame⟩ := X2.leave (v := some (.int (0 : Int32))) (fun h => by rw [Bd.returns] at h; cases h)
  refine ⟨_, _, pre0 _ ?_, hrun, hended, _, _, rfl, ?_, ⟨_, rfl⟩, hW, hsame.mono (by decide) (by decide)⟩
  ·
    show Steps p.tables e below (s₁.setTop (mkF m 0 #[.val (.ref w_STATS)] [])) _
    refine XS.aloadN X0.here hx rfl (hb hby d1_0) rfl rfl ?_
    show Steps p.tables e below (s₁.setTop (mkF m 1 #[.val (.ref w_STATS)] [(.ref w_STATS)])) _
    refine st1 _ ?_
    show Steps p.tables e below (T1.setTop (mkF m 4 #[.val (.ref w_STATS)] [(.ref w_FLAG)])) _
    refine st2 _ ?_
    show Steps p.tables e below (T2.setTop (mkF m 7 #[.val (.ref w_STATS)] [(.ref w_FLAG), (.ref w_FLAG)])) _
    refine Jvm.RoadKit.acmp (g := (mkF m 7 #[.val (.ref w_STATS)] [(.ref w_FLAG), (.ref w_FLAG)])) X2 hx rfl rfl rfl (pc0 := 7) (pc' := 14) (same := true) rfl (hb hby d1_7) rfl (decide_eq_true rfl) (by decide) (by decide) ?_
    show Steps p.tables e below (T2.setTop (mkF m 14 #[.val (.ref w_STATS)] [])) _
    refine XS.iconst X2.here hx rfl (hb hby d1_14) ?_
    show Steps p.tables e below (T2.setTop (mkF m 15 #[.val (.ref w_STATS)] [(.int (0 : Int32))])) _
    exact retN X2 hx (t := .boolean) Bd.returns (by simp) (hb hby d1_15) hr
  · show Q1_11 Z w_STATS w_FLAG h0 n0 _ T2.heap _
    rw [e2]
    exact ⟨rfl, N0, rfl⟩
theorem ef_rm2_11 (m : MethodId) (x0 : Addr) : entryFrame m #[(.ref x0)] 1 = mkF m 0 #[.val (.ref x0)] [] := by first | (simp [entryFrame, mkF, argsToLocals, Value.category]; done) | rfl
def Q2_11 (Z : State) (w_STATS : Addr) (w_FLAG : Addr) (w_REPEATED_VALUE : Addr) (h0 : Heap) (n0 : Nat) (v : Option Value) (h : Heap) (L : List Loc) : Prop := v = some (.int (0 : Int32)) ∧ Fr n0 L ∧ h = h0
set_option maxRecDepth 65536 in
set_option maxHeartbeats 40000000 in
theorem rm2_11 (l : Launch) (Z : State) (a0 : Array Value) (hw : ∀ d ∈ tables_1, d.before a0 Z = true) (ws : List Jvm.Cond) (w_STATS : Addr) (w_FLAG : Addr) (w_REPEATED_VALUE : Addr) (h0 : Heap) (n0 : Nat) (Z0 : n0 ≤ h0.size) (F_form_STATS : Fld Z h0 w_STATS "com/example/garm/garm/command/Option" "form" "Lcom/example/garm/garm/command/Option$Form;" (.ref w_FLAG)) (S_REPEATED_VALUE : Sta Z h0 "com/example/garm/garm/command/Option$Form" "REPEATED_VALUE" "Lcom/example/garm/garm/command/Option$Form;" (.ref w_REPEATED_VALUE)) (ne_FLAG_REPEATED_VALUE : w_FLAG ≠ w_REPEATED_VALUE) :
    MetFree l (⟨"com/example/garm/garm/command/Option", "isRepeatable", "()Z"⟩ : MethodName) (head1 (Jvm.Cond.code (⟨"com/example/garm/garm/command/Option", "isRepeatable", "()Z"⟩ : MethodName) prog_4_method_6_code 1 (some .boolean) :: ws) ({ frames := 0, cells := 0, slots := 0, locals := 0 } : Room)) (fun a U => a = #[(.ref w_STATS)] ∧ Z.Warmed39 U.vm ∧ U.heap = h0) (fun _ _ _ _ _ => True) (fun _ U o U' => ∃ v L, o = .returned v ∧ Q2_11 Z w_STATS w_FLAG w_REPEATED_VALUE h0 n0 v U'.heap L ∧ FrameEnd U o U' L ({ frames := 0, cells := 0, slots := 0, locals := 0 } : Room).cells ({ frames := 0, cells := 0, slots := 0, locals := 0 } : Room).slots) := by
  refine MetFree.of_bodySF (plainFor_of_name pn_0) hisR ?_
  intro p e s m args below meth c s₁ Bd hml0 hP hK
  obtain ⟨rfl, hZ, hh⟩ := hP
  have hx := Bd.exec
  have hby := Bd.bytes
  have hml : c.maxLocals = 1 := hml0
  have hown : s.vm.findClass "com/example/garm/garm/command/Option" = some m.cls := findClass_of_methodNamed Bd.named
  have hnm := (name_of_methodNamed Bd.named Bd.method).1
  have X0 : Stand p l e ({ frames := 0, cells := 0, slots := 0, locals := 0 } : Room) s m #[(.ref w_STATS)] below meth c s₁ [] 0 0 := Stand.of_body Bd
  have e0 : s₁.heap = h0 := by rw [← hh, Bd.state]; rfl
  have N0 := Fr.nil n0
  have pre0 : ∀ t, Steps p.tables e below (s₁.setTop (mkF m 0 #[.val (.ref w_STATS)] [])) t → Steps p.tables e below (s₁.setTop (entryFrame m #[(.ref w_STATS)] 1)) t := fun t k => castTop (ef_rm2_11 m w_STATS) k
  obtain ⟨T1, X1, e1, st1⟩ := getF X0 hx hZ hown (host := "") (Or.inl (hw _ (List.mem_of_getElem? (i := 44) rfl))) Via.refl e0 F_form_STATS (g := (mkF m 1 #[.val (.ref w_STATS)] [(.ref w_STATS)])) rfl rfl (hb hby d2_1)
  obtain ⟨T2, X2, e2, st2⟩ := getS2 X1 hx hZ hown (host := "") (Or.inl (hw _ (List.mem_of_getElem? (i := 55) rfl))) Via.refl e1 S_REPEATED_VALUE (g := (mkF m 4 #[.val (.ref w_STATS)] [(.ref w_FLAG)])) rfl (hb hby d2_4)
  obtain ⟨fs, hr, hrun, hended, hW, hsame⟩ := X2.leave (v := some (.int (0 : Int32))) (fun h => by rw [Bd.returns] at h; cases h)
  refine ⟨_, _, pre0 _ ?_, hrun, hended, _, _, rfl, ?_, ⟨_, rfl⟩, hW, hsame.mono (by decide) (by decide)⟩
  ·
    show Steps p.tables e below (s₁.setTop (mkF m 0 #[.val (.ref w_STATS)] [])) _
    refine XS.aloadN X0.here hx rfl (hb hby d2_0) rfl rfl ?_
    show Steps p.tables e below (s₁.setTop (mkF m 1 #[.val (.ref w_STATS)] [(.ref w_STATS)])) _
    refine st1 _ ?_
    show Steps p.tables e below (T1.setTop (mkF m 4 #[.val (.ref w_STATS)] [(.ref w_FLAG)])) _
    refine st2 _ ?_
    show Steps p.tables e below (T2.setTop (mkF m 7 #[.val (.ref w_STATS)] [(.ref w_REPEATED_VALUE), (.ref w_FLAG)])) _
    refine Jvm.RoadKit.acmp (g := (mkF m 7 #[.val (.ref w_STATS)] [(.ref w_REPEATED_VALUE), (.ref w_FLAG)])) X2 hx rfl rfl rfl (pc0 := 7) (pc' := 14) (same := false) rfl (hb hby d2_7) rfl (decide_eq_false fun q => ne_FLAG_REPEATED_VALUE (Value.ref.inj q)) (by decide) (by decide) ?_
    show Steps p.tables e below (T2.setTop (mkF m 14 #[.val (.ref w_STATS)] [])) _
    refine XS.iconst X2.here hx rfl (hb hby d2_14) ?_
    show Steps p.tables e below (T2.setTop (mkF m 15 #[.val (.ref w_STATS)] [(.int (0 : Int32))])) _
    exact retN X2 hx (t := .boolean) Bd.returns (by simp) (hb hby d2_15) hr
  · show Q2_11 Z w_STATS w_FLAG w_REPEATED_VALUE h0 n0 _ T2.heap _
    rw [e2]
    exact ⟨rfl, N0, rfl⟩
theorem ef_rm1_12 (m : MethodId) (x0 : Addr) : entryFrame m #[(.ref x0)] 1 = mkF m 0 #[.val (.ref x0)] [] := by first | (simp [entryFrame, mkF, argsToLocals, Value.category]; done) | rfl
def Q1_12 (Z : State) (w_WAC_ALLOW : Addr) (w_FLAG : Addr) (h0 : Heap) (n0 : Nat) (v : Option Value) (h : Heap) (L : List Loc) : Prop := v = some (.int (0 : Int32)) ∧ Fr n0 L ∧ h = h0
set_option maxRecDepth 65536 in
set_option maxHeartbeats 40000000 in
theorem rm1_12 (l : Launch) (Z : State) (a0 : Array Value) (hw : ∀ d ∈ tables_1, d.before a0 Z = true) (ws : List Jvm.Cond) (w_WAC_ALLOW : Addr) (w_FLAG : Addr) (h0 : Heap) (n0 : Nat) (Z0 : n0 ≤ h0.size) (F_form_WAC_ALLOW : Fld Z h0 w_WAC_ALLOW "com/example/garm/garm/command/Option" "form" "Lcom/example/garm/garm/command/Option$Form;" (.ref w_FLAG)) (S_FLAG : Sta Z h0 "com/example/garm/garm/command/Option$Form" "FLAG" "Lcom/example/garm/garm/command/Option$Form;" (.ref w_FLAG)) :
    MetFree l (⟨"com/example/garm/garm/command/Option", "takesValue", "()Z"⟩ : MethodName) (head1 (Jvm.Cond.code (⟨"com/example/garm/garm/command/Option", "takesValue", "()Z"⟩ : MethodName) prog_4_method_5_code 1 (some .boolean) :: ws) ({ frames := 0, cells := 0, slots := 0, locals := 0 } : Room)) (fun a U => a = #[(.ref w_WAC_ALLOW)] ∧ Z.Warmed39 U.vm ∧ U.heap = h0) (fun _ _ _ _ _ => True) (fun _ U o U' => ∃ v L, o = .returned v ∧ Q1_12 Z w_WAC_ALLOW w_FLAG h0 n0 v U'.heap L ∧ FrameEnd U o U' L ({ frames := 0, cells := 0, slots := 0, locals := 0 } : Room).cells ({ frames := 0, cells := 0, slots := 0, locals := 0 } : Room).slots) := by
  refine MetFree.of_bodySF (plainFor_of_name pn_0) hisR ?_
  intro p e s m args below meth c s₁ Bd hml0 hP hK
  obtain ⟨rfl, hZ, hh⟩ := hP
  have hx := Bd.exec
  have hby := Bd.bytes
  have hml : c.maxLocals = 1 := hml0
  have hown : s.vm.findClass "com/example/garm/garm/command/Option" = some m.cls := findClass_of_methodNamed Bd.named
  have hnm := (name_of_methodNamed Bd.named Bd.method).1
  have X0 : Stand p l e ({ frames := 0, cells := 0, slots := 0, locals := 0 } : Room) s m #[(.ref w_WAC_ALLOW)] below meth c s₁ [] 0 0 := Stand.of_body Bd
  have e0 : s₁.heap = h0 := by rw [← hh, Bd.state]; rfl
  have N0 := Fr.nil n0
  have pre0 : ∀ t, Steps p.tables e below (s₁.setTop (mkF m 0 #[.val (.ref w_WAC_ALLOW)] [])) t → Steps p.tables e below (s₁.setTop (entryFrame m #[(.ref w_WAC_ALLOW)] 1)) t := fun t k => castTop (ef_rm1_12 m w_WAC_ALLOW) k
  obtain ⟨T1, X1, e1, st1⟩ := getF X0 hx hZ hown (host := "") (Or.inl (hw _ (List.mem_of_getElem? (i := 44) rfl))) Via.refl e0 F_form_WAC_ALLOW (g := (mkF m 1 #[.val (.ref w_WAC_ALLOW)] [(.ref w_WAC_ALLOW)])) rfl rfl (hb hby d1_1)
  obtain ⟨T2, X2, e2, st2⟩ := getS2 X1 hx hZ hown (host := "") (Or.inl (hw _ (List.mem_of_getElem? (i := 48) rfl))) Via.refl e1 S_FLAG (g := (mkF m 4 #[.val (.ref w_WAC_ALLOW)] [(.ref w_FLAG)])) rfl (hb hby d1_4)
  obtain ⟨fs, hr, hrun, hended, hW, hsame⟩ := X2.leave (v := some (.int (0 : Int32))) (fun h => by rw [Bd.returns] at h; cases h)
  refine ⟨_, _, pre0 _ ?_, hrun, hended, _, _, rfl, ?_, ⟨_, rfl⟩, hW, hsame.mono (by decide) (by decide)⟩
  ·
    show Steps p.tables e below (s₁.setTop (mkF m 0 #[.val (.ref w_WAC_ALLOW)] [])) _
    refine XS.aloadN X0.here hx rfl (hb hby d1_0) rfl rfl ?_
    show Steps p.tables e below (s₁.setTop (mkF m 1 #[.val (.ref w_WAC_ALLOW)] [(.ref w_WAC_ALLOW)])) _
    refine st1 _ ?_
    show Steps p.tables e below (T1.setTop (mkF m 4 #[.val (.ref w_WAC_ALLOW)] [(.ref w_FLAG)])) _
    refine st2 _ ?_
    show Steps p.tables e below (T2.setTop (mkF m 7 #[.val (.ref w_WAC_ALLOW)] [(.ref w_FLAG), (.ref w_FLAG)])) _
    refine Jvm.RoadKit.acmp (g := (mkF m 7 #[.val (.ref w_WAC_ALLOW)] [(.ref w_FLAG), (.ref w_FLAG)])) X2 hx rfl rfl rfl (pc0 := 7) (pc' := 14) (same := true) rfl (hb hby d1_7) rfl (decide_eq_true rfl) (by decide) (by decide) ?_
    show Steps p.tables e below (T2.setTop (mkF m 14 #[.val (.ref w_WAC_ALLOW)] [])) _
    refine XS.iconst X2.here hx rfl (hb hby d1_14) ?_
    show Steps p.tables e below (T2.setTop (mkF m 15 #[.val (.ref w_WAC_ALLOW)] [(.int (0 : Int32))])) _
    exact retN X2 hx (t := .boolean) Bd.returns (by simp) (hb hby d1_15) hr
  · show Q1_12 Z w_WAC_ALLOW w_FLAG h0 n0 _ T2.heap _
    rw [e2]
    exact ⟨rfl, N0, rfl⟩
theorem ef_rm2_12 (m : MethodId) (x0 : Addr) : entryFrame m #[(.ref x0)] 1 = mkF m 0 #[.val (.ref x0)] [] := by first | (simp [entryFrame, mkF, argsToLocals, Value.category]; done) | rfl
def Q2_12 (Z : State) (w_WAC_ALLOW : Addr) (w_FLAG : Addr) (w_REPEATED_VALUE : Addr) (h0 : Heap) (n0 : Nat) (v : Option Value) (h : Heap) (L : List Loc) : Prop := v = some (.int (0 : Int32)) ∧ Fr n0 L ∧ h = h0
set_option maxRecDepth 65536 in
set_option maxHeartbeats 40000000 in
theorem rm2_12 (l : Launch) (Z : State) (a0 : Array Value) (hw : ∀ d ∈ tables_1, d.before a0 Z = true) (ws : List Jvm.Cond) (w_WAC_ALLOW : Addr) (w_FLAG : Addr) (w_REPEATED_VALUE : Addr) (h0 : Heap) (n0 : Nat) (Z0 : n0 ≤ h0.size) (F_form_WAC_ALLOW : Fld Z h0 w_WAC_ALLOW "com/example/garm/garm/command/Option" "form" "Lcom/example/garm/garm/command/Option$Form;" (.ref w_FLAG)) (S_REPEATED_VALUE : Sta Z h0 "com/example/garm/garm/command/Option$Form" "REPEATED_VALUE" "Lcom/example/garm/garm/command/Option$Form;" (.ref w_REPEATED_VALUE)) (ne_FLAG_REPEATED_VALUE : w_FLAG ≠ w_REPEATED_VALUE) :
    MetFree l (⟨"com/example/garm/garm/command/Option", "isRepeatable", "()Z"⟩ : MethodName) (head1 (Jvm.Cond.code (⟨"com/example/garm/garm/command/Option", "isRepeatable", "()Z"⟩ : MethodName) prog_4_method_6_code 1 (some .boolean) :: ws) ({ frames := 0, cells := 0, slots := 0, locals := 0 } : Room)) (fun a U => a = #[(.ref w_WAC_ALLOW)] ∧ Z.Warmed39 U.vm ∧ U.heap = h0) (fun _ _ _ _ _ => True) (fun _ U o U' => ∃ v L, o = .returned v ∧ Q2_12 Z w_WAC_ALLOW w_FLAG w_REPEATED_VALUE h0 n0 v U'.heap L ∧ FrameEnd U o U' L ({ frames := 0, cells := 0, slots := 0, locals := 0 } : Room).cells ({ frames := 0, cells := 0, slots := 0, locals := 0 } : Room).slots) := by
  refine MetFree.of_bodySF (plainFor_of_name pn_0) hisR ?_
  intro p e s m args below meth c s₁ Bd hml0 hP hK
  obtain ⟨rfl, hZ, hh⟩ := hP
  have hx := Bd.exec
  have hby := Bd.bytes
  have hml : c.maxLocals = 1 := hml0
  have hown : s.vm.findClass "com/example/garm/garm/command/Option" = some m.cls := findClass_of_methodNamed Bd.named
  have hnm := (name_of_methodNamed Bd.named Bd.method).1
  have X0 : Stand p l e ({ frames := 0, cells := 0, slots := 0, locals := 0 } : Room) s m #[(.ref w_WAC_ALLOW)] below meth c s₁ [] 0 0 := Stand.of_body Bd
  have e0 : s₁.heap = h0 := by rw [← hh, Bd.state]; rfl
  have N0 := Fr.nil n0
  have pre0 : ∀ t, Steps p.tables e below (s₁.setTop (mkF m 0 #[.val (.ref w_WAC_ALLOW)] [])) t → Steps p.tables e below (s₁.setTop (entryFrame m #[(.ref w_WAC_ALLOW)] 1)) t := fun t k => castTop (ef_rm2_12 m w_WAC_ALLOW) k
  obtain ⟨T1, X1, e1, st1⟩ := getF X0 hx hZ hown (host := "") (Or.inl (hw _ (List.mem_of_getElem? (i := 44) rfl))) Via.refl e0 F_form_WAC_ALLOW (g := (mkF m 1 #[.val (.ref w_WAC_ALLOW)] [(.ref w_WAC_ALLOW)])) rfl rfl (hb hby d2_1)
  obtain ⟨T2, X2, e2, st2⟩ := getS2 X1 hx hZ hown (host := "") (Or.inl (hw _ (List.mem_of_getElem? (i := 55) rfl))) Via.refl e1 S_REPEATED_VALUE (g := (mkF m 4 #[.val (.ref w_WAC_ALLOW)] [(.ref w_FLAG)])) rfl (hb hby d2_4)
  obtain ⟨fs, hr, hrun, hended, hW, hsame⟩ := X2.leave (v := some (.int (0 : Int32))) (fun h => by rw [Bd.returns] at h; cases h)
  refine ⟨_, _, pre0 _ ?_, hrun, hended, _, _, rfl, ?_, ⟨_, rfl⟩, hW, hsame.mono (by decide) (by decide)⟩
  ·
    show Steps p.tables e below (s₁.setTop (mkF m 0 #[.val (.ref w_WAC_ALLOW)] [])) _
    refine XS.aloadN X0.here hx rfl (hb hby d2_0) rfl rfl ?_
    show Steps p.tables e below (s₁.setTop (mkF m 1 #[.val (.ref w_WAC_ALLOW)] [(.ref w_WAC_ALLOW)])) _
    refine st1 _ ?_
    show Steps p.tables e below (T1.setTop (mkF m 4 #[.val (.ref w_WAC_ALLOW)] [(.ref w_FLAG)])) _
    refine st2 _ ?_
    show Steps p.tables e below (T2.setTop (mkF m 7 #[.val (.ref w_WAC_ALLOW)] [(.ref w_REPEATED_VALUE), (.ref w_FLAG)])) _
    refine Jvm.RoadKit.acmp (g := (mkF m 7 #[.val (.ref w_WAC_ALLOW)] [(.ref w_REPEATED_VALUE), (.ref w_FLAG)])) X2 hx rfl rfl rfl (pc0 := 7) (pc' := 14) (same := false) rfl (hb hby d2_7) rfl (decide_eq_false fun q => ne_FLAG_REPEATED_VALUE (Value.ref.inj q)) (by decide) (by decide) ?_
    show Steps p.tables e below (T2.setTop (mkF m 14 #[.val (.ref w_WAC_ALLOW)] [])) _
    refine XS.iconst X2.here hx rfl (hb hby d2_14) ?_
    show Steps p.tables e below (T2.setTop (mkF m 15 #[.val (.ref w_WAC_ALLOW)] [(.int (0 : Int32))])) _
    exact retN X2 hx (t := .boolean) Bd.returns (by simp) (hb hby d2_15) hr
  · show Q2_12 Z w_WAC_ALLOW w_FLAG w_REPEATED_VALUE h0 n0 _ T2.heap _
    rw [e2]
    exact ⟨rfl, N0, rfl⟩
theorem ef_rm1_13 (m : MethodId) (x0 : Addr) : entryFrame m #[(.ref x0)] 1 = mkF m 0 #[.val (.ref x0)] [] := by first | (simp [entryFrame, mkF, argsToLocals, Value.category]; done) | rfl
def Q1_13 (Z : State) (w_METHOD : Addr) (w_VALUE : Addr) (w_FLAG : Addr) (h0 : Heap) (n0 : Nat) (v : Option Value) (h : Heap) (L : List Loc) : Prop := v = some (.int (1 : Int32)) ∧ Fr n0 L ∧ h = h0
set_option maxRecDepth 65536 in
set_option maxHeartbeats 40000000 in
theorem rm1_13 (l : Launch) (Z : State) (a0 : Array Value) (hw : ∀ d ∈ tables_1, d.before a0 Z = true) (ws : List Jvm.Cond) (w_METHOD : Addr) (w_VALUE : Addr) (w_FLAG : Addr) (h0 : Heap) (n0 : Nat) (Z0 : n0 ≤ h0.size) (F_form_METHOD : Fld Z h0 w_METHOD "com/example/garm/garm/command/Option" "form" "Lcom/example/garm/garm/command/Option$Form;" (.ref w_VALUE)) (S_FLAG : Sta Z h0 "com/example/garm/garm/command/Option$Form" "FLAG" "Lcom/example/garm/garm/command/Option$Form;" (.ref w_FLAG)) (ne_FLAG_VALUE : w_FLAG ≠ w_VALUE) :
    MetFree l (⟨"com/example/garm/garm/command/Option", "takesValue", "()Z"⟩ : MethodName) (head1 (Jvm.Cond.code (⟨"com/example/garm/garm/command/Option", "takesValue", "()Z"⟩ : MethodName) prog_4_method_5_code 1 (some .boolean) :: ws) ({ frames := 0, cells := 0, slots := 0, locals := 0 } : Room)) (fun a U => a = #[(.ref w_METHOD)] ∧ Z.Warmed39 U.vm ∧ U.heap = h0) (fun _ _ _ _ _ => True) (fun _ U o U' => ∃ v L, o = .returned v ∧ Q1_13 Z w_METHOD w_VALUE w_FLAG h0 n0 v U'.heap L ∧ FrameEnd U o U' L ({ frames := 0, cells := 0, slots := 0, locals := 0 } : Room).cells ({ frames := 0, cells := 0, slots := 0, locals := 0 } : Room).slots) := by
  refine MetFree.of_bodySF (plainFor_of_name pn_0) hisR ?_
  intro p e s m args below meth c s₁ Bd hml0 hP hK
  obtain ⟨rfl, hZ, hh⟩ := hP
  have hx := Bd.exec
  have hby := Bd.bytes
  have hml : c.maxLocals = 1 := hml0
  have hown : s.vm.findClass "com/example/garm/garm/command/Option" = some m.cls := findClass_of_methodNamed Bd.named
  have hnm := (name_of_methodNamed Bd.named Bd.method).1
  have X0 : Stand p l e ({ frames := 0, cells := 0, slots := 0, locals := 0 } : Room) s m #[(.ref w_METHOD)] below meth c s₁ [] 0 0 := Stand.of_body Bd
  have e0 : s₁.heap = h0 := by rw [← hh, Bd.state]; rfl
  have N0 := Fr.nil n0
  have pre0 : ∀ t, Steps p.tables e below (s₁.setTop (mkF m 0 #[.val (.ref w_METHOD)] [])) t → Steps p.tables e below (s₁.setTop (entryFrame m #[(.ref w_METHOD)] 1)) t := fun t k => castTop (ef_rm1_13 m w_METHOD) k
  obtain ⟨T1, X1, e1, st1⟩ := getF X0 hx hZ hown (host := "") (Or.inl (hw _ (List.mem_of_getElem? (i := 44) rfl))) Via.refl e0 F_form_METHOD (g := (mkF m 1 #[.val (.ref w_METHOD)] [(.ref w_METHOD)])) rfl rfl (hb hby d1_1)
  obtain ⟨T2, X2, e2, st2⟩ := getS2 X1 hx hZ hown (host := "") (Or.inl (hw _ (List.mem_of_getElem? (i := 48) rfl))) Via.refl e1 S_FLAG (g := (mkF m 4 #[.val (.ref w_METHOD)] [(.ref w_VALUE)])) rfl (hb hby d1_4)
  obtain ⟨fs, hr, hrun, hended, hW, hsame⟩ := X2.leave (v := some (.int (1 : Int32))) (fun h => by rw [Bd.returns] at h; cases h)
  refine ⟨_, _, pre0 _ ?_, hrun, hended, _, _, rfl, ?_, ⟨_, rfl⟩, hW, hsame.mono (by decide) (by decide)⟩
  ·
    show Steps p.tables e below (s₁.setTop (mkF m 0 #[.val (.ref w_METHOD)] [])) _
    refine XS.aloadN X0.here hx rfl (hb hby d1_0) rfl rfl ?_
    show Steps p.tables e below (s₁.setTop (mkF m 1 #[.val (.ref w_METHOD)] [(.ref w_METHOD)])) _
    refine st1 _ ?_
    show Steps p.tables e below (T1.setTop (mkF m 4 #[.val (.ref w_METHOD)] [(.ref w_VALUE)])) _
    refine st2 _ ?_
    show Steps p.tables e below (T2.setTop (mkF m 7 #[.val (.ref w_METHOD)] [(.ref w_FLAG), (.ref w_VALUE)])) _
    refine Jvm.RoadKit.acmp (g := (mkF m 7 #[.val (.ref w_METHOD)] [(.ref w_FLAG), (.ref w_VALUE)])) X2 hx rfl rfl rfl (pc0 := 7) (pc' := 10) (same := false) rfl (hb hby d1_7) rfl (decide_eq_false fun q => (Ne.symm ne_FLAG_VALUE) (Value.ref.inj q)) (by decide) (by decide) ?_
    show Steps p.tables e below (T2.setTop (mkF m 10 #[.val (.ref w_METHOD)] [])) _
    refine XS.iconst X2.here hx rfl (hb hby d1_10) ?_
    show Steps p.tables e below (T2.setTop (mkF m 11 #[.val (.ref w_METHOD)] [(.int (1 : Int32))])) _
    refine XS.goto X2.here hx rfl (pc0 := 11) (pc' := 15) rfl (hb hby d1_11) (by decide) (by decide) ?_
    show Steps p.tables e below (T2.setTop (mkF m 15 #[.val (.ref w_METHOD)] [(.int (1 : Int32))])) _
    exact retN X2 hx (t := .boolean) Bd.returns (by simp) (hb hby d1_15) hr
  · show Q1_13 Z w_METHOD w_VALUE w_FLAG h0 n0 _ T2.heap _
    rw [e2]
    exact ⟨rfl, N0, rfl⟩
theorem ef_rm2_13 (m : MethodId) (x0 : Addr) : entryFrame m #[(.ref x0)] 1 = mkF m 0 #[.val (.ref x0)] [] := by first | (simp [entryFrame, mkF, argsToLocals, Value.category]; done) | rfl
def Q2_13 (Z : State) (w_METHOD : Addr) (w_VALUE : Addr) (w_REPEATED_VALUE : Addr) (h0 : Heap) (n0 : Nat) (v : Option Value) (h : Heap) (L : List Loc) : Prop := v = some (.int (0 : Int32)) ∧ Fr n0 L ∧ h = h0
set_option maxRecDepth 65536 in
set_option maxHeartbeats 40000000 in
theorem rm2_13 (l : Launch) (Z : State) (a0 : Array Value) (hw : ∀ d ∈ tables_1, d.before a0 Z = true) (ws : List Jvm.Cond) (w_METHOD : Addr) (w_VALUE : Addr) (w_REPEATED_VALUE : Addr) (h0 : Heap) (n0 : Nat) (Z0 : n0 ≤ h0.size) (F_form_METHOD : Fld Z h0 w_METHOD "com/example/garm/garm/command/Option" "form" "Lcom/example/garm/garm/command/Option$Form;" (.ref w_VALUE)) (S_REPEATED_VALUE : Sta Z h0 "com/example/garm/garm/command/Option$Form" "REPEATED_VALUE" "Lcom/example/garm/garm/command/Option$Form;" (.ref w_REPEATED_VALUE)) (ne_REPEATED_VALUE_VALUE : w_REPEATED_VALUE ≠ w_VALUE) :
    MetFree l (⟨"com/example/garm/garm/command/Option", "isRepeatable", "()Z"⟩ : MethodName) (head1 (Jvm.Cond.code (⟨"com/example/garm/garm/command/Option", "isRepeatable", "()Z"⟩ : MethodName) prog_4_method_6_code 1 (some .boolean) :: ws) ({ frames := 0, cells := 0, slots := 0, locals := 0 } : Room)) (fun a U => a = #[(.ref w_METHOD)] ∧ Z.Warmed39 U.vm ∧ U.heap = h0) (fun _ _ _ _ _ => True) (fun _ U o U' => ∃ v L, o = .returned v ∧ Q2_13 Z w_METHOD w_VALUE w_REPEATED_VALUE h0 n0 v U'.heap L ∧ FrameEnd U o U' L ({ frames := 0, cells := 0, slots := 0, locals := 0 } : Room).cells ({ frames := 0, cells := 0, slots := 0, locals := 0 } : Room).slots) := by
  refine MetFree.of_bodySF (plainFor_of_name pn_0) hisR ?_
  intro p e s m args below meth c s₁ Bd hml0 hP hK
  obtain ⟨rfl, hZ, hh⟩ := hP
  have hx := Bd.exec
  have hby := Bd.bytes
  have hml : c.maxLocals = 1 := hml0
  have hown : s.vm.findClass "com/example/garm/garm/command/Option" = some m.cls := findClass_of_methodNamed Bd.named
  have hnm := (name_of_methodNamed Bd.named Bd.method).1
  have X0 : Stand p l e ({ frames := 0, cells := 0, slots := 0, locals := 0 } : Room) s m #[(.ref w_METHOD)] below meth c s₁ [] 0 0 := Stand.of_body Bd
  have e0 : s₁.heap = h0 := by rw [← hh, Bd.state]; rfl
  have N0 := Fr.nil n0
  have pre0 : ∀ t, Steps p.tables e below (s₁.setTop (mkF m 0 #[.val (.ref w_METHOD)] [])) t → Steps p.tables e below (s₁.setTop (entryFrame m #[(.ref w_METHOD)] 1)) t := fun t k => castTop (ef_rm2_13 m w_METHOD) k
  obtain ⟨T1, X1, e1, st1⟩ := getF X0 hx hZ hown (host := "") (Or.inl (hw _ (List.mem_of_getElem? (i := 44) rfl))) Via.refl e0 F_form_METHOD (g := (mkF m 1 #[.val (.ref w_METHOD)] [(.ref w_METHOD)])) rfl rfl (hb hby d2_1)
  obtain ⟨T2, X2, e2, st2⟩ := getS2 X1 hx hZ hown (host := "") (Or.inl (hw _ (List.mem_of_getElem? (i := 55) rfl))) Via.refl e1 S_REPEATED_VALUE (g := (mkF m 4 #[.val (.ref w_METHOD)] [(.ref w_VALUE)])) rfl (hb hby d2_4)
  obtain ⟨fs, hr, hrun, hended, hW, hsame⟩ := X2.leave (v := some (.int (0 : Int32))) (fun h => by rw [Bd.returns] at h; cases h)
  refine ⟨_, _, pre0 _ ?_, hrun, hended, _, _, rfl, ?_, ⟨_, rfl⟩, hW, hsame.mono (by decide) (by decide)⟩
  ·
    show Steps p.tables e below (s₁.setTop (mkF m 0 #[.val (.ref w_METHOD)] [])) _
    refine XS.aloadN X0.here hx rfl (hb hby d2_0) rfl rfl ?_
    show Steps p.tables e below (s₁.setTop (mkF m 1 #[.val (.ref w_METHOD)] [(.ref w_METHOD)])) _
    refine st1 _ ?_
    show Steps p.tables e below (T1.setTop (mkF m 4 #[.val (.ref w_METHOD)] [(.ref w_VALUE)])) _
    refine st2 _ ?_
    show Steps p.tables e below (T2.setTop (mkF m 7 #[.val (.ref w_METHOD)] [(.ref w_REPEATED_VALUE), (.ref w_VALUE)])) _
    refine Jvm.RoadKit.acmp (g := (mkF m 7 #[.val (.ref w_METHOD)] [(.ref w_REPEATED_VALUE), (.ref w_VALUE)])) X2 hx rfl rfl rfl (pc0 := 7) (pc' := 14) (same := false) rfl (hb hby d2_7) rfl (decide_eq_false fun q => (Ne.symm ne_REPEATED_VALUE_VALUE) (Value.ref.inj q)) (by decide) (by decide) ?_
    show Steps p.tables e below (T2.setTop (mkF m 14 #[.val (.ref w_METHOD)] [])) _
    refine XS.iconst X2.here hx rfl (hb hby d2_14) ?_
    show Steps p.tables e below (T2.setTop (mkF m 15 #[.val (.ref w_METHOD)] [(.int (0 : Int32))])) _
    exact retN X2 hx (t := .boolean) Bd.returns (by simp) (hb hby d2_15) hr
  · show Q2_13 Z w_METHOD w_VALUE w_REPEATED_VALUE h0 n0 _ T2.heap _
    rw [e2]
    exact ⟨rfl, N0, rfl⟩
theorem ef_rm1_14 (m : MethodId) (x0 : Addr) : entryFrame m #[(.ref x0)] 1 = mkF m 0 #[.val (.ref x0)] [] := by first | (simp [entryFrame, mkF, argsToLocals, Value.category]; done) | rfl
def Q1_14 (Z : State) (w_CREATES : Addr) (w_FLAG : Addr) (h0 : Heap) (n0 : Nat) (v : Option Value) (h : Heap) (L : List Loc) : Prop := v = some (.int (0 : Int32)) ∧ Fr n0 L ∧ h = h0
set_option maxRecDepth 65536 in
set_option maxHeartbeats 40000000 in
theorem rm1_14 (l : Launch) (Z : State) (a0 : Array Value) (hw : ∀ d ∈ tables_1, d.before a0 Z = true) (ws : List Jvm.Cond) (w_CREATES : Addr) (w_FLAG : Addr) (h0 : Heap) (n0 : Nat) (Z0 : n0 ≤ h0.size) (F_form_CREATES : Fld Z h0 w_CREATES "com/example/garm/garm/command/Option" "form" "Lcom/example/garm/garm/command/Option$Form;" (.ref w_FLAG)) (S_FLAG : Sta Z h0 "com/example/garm/garm/command/Option$Form" "FLAG" "Lcom/example/garm/garm/command/Option$Form;" (.ref w_FLAG)) :
    MetFree l (⟨"com/example/garm/garm/command/Option", "takesValue", "()Z"⟩ : MethodName) (head1 (Jvm.Cond.code (⟨"com/example/garm/garm/command/Option", "takesValue", "()Z"⟩ : MethodName) prog_4_method_5_code 1 (some .boolean) :: ws) ({ frames := 0, cells := 0, slots := 0, locals := 0 } : Room)) (fun a U => a = #[(.ref w_CREATES)] ∧ Z.Warmed39 U.vm ∧ U.heap = h0) (fun _ _ _ _ _ => True) (fun _ U o U' => ∃ v L, o = .returned v ∧ Q1_14 Z w_CREATES w_FLAG h0 n0 v U'.heap L ∧ FrameEnd U o U' L ({ frames := 0, cells := 0, slots := 0, locals := 0 } : Room).cells ({ frames := 0, cells := 0, slots := 0, locals := 0 } : Room).slots) := by
  refine MetFree.of_bodySF (plainFor_of_name pn_0) hisR ?_
  intro p e s m args below meth c s₁ Bd hml0 hP hK
  obtain ⟨rfl, hZ, hh⟩ := hP
  have hx := Bd.exec
  have hby := Bd.bytes
  have hml : c.maxLocals = 1 := hml0
  have hown : s.vm.findClass "com/example/garm/garm/command/Option" = some m.cls := findClass_of_methodNamed Bd.named
  have hnm := (name_of_methodNamed Bd.named Bd.method).1
  have X0 : Stand p l e ({ frames := 0, cells := 0, slots := 0, locals := 0 } : Room) s m #[(.ref w_CREATES)] below meth c s₁ [] 0 0 := Stand.of_body Bd
  have e0 : s₁.heap = h0 := by rw [← hh, Bd.state]; rfl
  have N0 := Fr.nil n0
  have pre0 : ∀ t, Steps p.tables e below (s₁.setTop (mkF m 0 #[.val (.ref w_CREATES)] [])) t → Steps p.tables e below (s₁.setTop (entryFrame m #[(.ref w_CREATES)] 1)) t := fun t k => castTop (ef_rm1_14 m w_CREATES) k
  obtain ⟨T1, X1, e1, st1⟩ := getF X0 hx hZ hown (host := "") (Or.inl (hw _ (List.mem_of_getElem? (i := 44) rfl))) Via.refl e0 F_form_CREATES (g := (mkF m 1 #[.val (.ref w_CREATES)] [(.ref w_CREATES)])) rfl rfl (hb hby d1_1)
  obtain ⟨T2, X2, e2, st2⟩ := getS2 X1 hx hZ hown (host := "") (Or.inl (hw _ (List.mem_of_getElem? (i := 48) rfl))) Via.refl e1 S_FLAG (g := (mkF m 4 #[.val (.ref w_CREATES)] [(.ref w_FLAG)])) rfl (hb hby d1_4)
  obtain ⟨fs, hr, hrun, hended, hW, hsame⟩ := X2.leave (v := some (.int (0 : Int32))) (fun h => by rw [Bd.returns] at h; cases h)
  refine ⟨_, _, pre0 _ ?_, hrun, hended, _, _, rfl, ?_, ⟨_, rfl⟩, hW, hsame.mono (by decide) (by decide)⟩
  ·
    show Steps p.tables e below (s₁.setTop (mkF m 0 #[.val (.ref w_CREATES)] [])) _
    refine XS.aloadN X0.here hx rfl (hb hby d1_0) rfl rfl ?_
    show Steps p.tables e below (s₁.setTop (mkF m 1 #[.val (.ref w_CREATES)] [(.ref w_CREATES)])) _
    refine st1 _ ?_
    show Steps p.tables e below (T1.setTop (mkF m 4 #[.val (.ref w_CREATES)] [(.ref w_FLAG)])) _
    refine st2 _ ?_
    show Steps p.tables e below (T2.setTop (mkF m 7 #[.val (.ref w_CREATES)] [(.ref w_FLAG), (.ref w_FLAG)])) _
    refine Jvm.RoadKit.acmp (g := (mkF m 7 #[.val (.ref w_CREATES)] [(.ref w_FLAG), (.ref w_FLAG)])) X2 hx rfl rfl rfl (pc0 := 7) (pc' := 14) (same := true) rfl (hb hby d1_7) rfl (decide_eq_true rfl) (by decide) (by decide) ?_
    show Steps p.tables e below (T2.setTop (mkF m 14 #[.val (.ref w_CREATES)] [])) _
    refine XS.iconst X2.here hx rfl (hb hby d1_14) ?_
    show Steps p.tables e below (T2.setTop (mkF m 15 #[.val (.ref w_CREATES)] [(.int (0 : Int32))])) _
    exact retN X2 hx (t := .boolean) Bd.returns (by simp) (hb hby d1_15) hr
  · show Q1_14 Z w_CREATES w_FLAG h0 n0 _ T2.heap _
    rw [e2]
    exact ⟨rfl, N0, rfl⟩
theorem ef_rm2_14 (m : MethodId) (x0 : Addr) : entryFrame m #[(.ref x0)] 1 = mkF m 0 #[.val (.ref x0)] [] := by first | (simp [entryFrame, mkF, argsToLocals, Value.category]; done) | rfl
def Q2_14 (Z : State) (w_CREATES : Addr) (w_FLAG : Addr) (w_REPEATED_VALUE : Addr) (h0 : Heap) (n0 : Nat) (v : Option Value) (h : Heap) (L : List Loc) : Prop := v = some (.int (0 : Int32)) ∧ Fr n0 L ∧ h = h0
set_option maxRecDepth 65536 in
set_option maxHeartbeats 40000000 in
theorem rm2_14 (l : Launch) (Z : State) (a0 : Array Value) (hw : ∀ d ∈ tables_1, d.before a0 Z = true) (ws : List Jvm.Cond) (w_CREATES : Addr) (w_FLAG : Addr) (w_REPEATED_VALUE : Addr) (h0 : Heap) (n0 : Nat) (Z0 : n0 ≤ h0.size) (F_form_CREATES : Fld Z h0 w_CREATES "com/example/garm/garm/command/Option" "form" "Lcom/example/garm/garm/command/Option$Form;" (.ref w_FLAG)) (S_REPEATED_VALUE : Sta Z h0 "com/example/garm/garm/command/Option$Form" "REPEATED_VALUE" "Lcom/example/garm/garm/command/Option$Form;" (.ref w_REPEATED_VALUE)) (ne_FLAG_REPEATED_VALUE : w_FLAG ≠ w_REPEATED_VALUE) :
    MetFree l (⟨"com/example/garm/garm/command/Option", "isRepeatable", "()Z"⟩ : MethodName) (head1 (Jvm.Cond.code (⟨"com/example/garm/garm/command/Option", "isRepeatable", "()Z"⟩ : MethodName) prog_4_method_6_code 1 (some .boolean) :: ws) ({ frames := 0, cells := 0, slots := 0, locals := 0 } : Room)) (fun a U => a = #[(.ref w_CREATES)] ∧ Z.Warmed39 U.vm ∧ U.heap = h0) (fun _ _ _ _ _ => True) (fun _ U o U' => ∃ v L, o = .returned v ∧ Q2_14 Z w_CREATES w_FLAG w_REPEATED_VALUE h0 n0 v U'.heap L ∧ FrameEnd U o U' L ({ frames := 0, cells := 0, slots := 0, locals := 0 } : Room).cells ({ frames := 0, cells := 0, slots := 0, locals := 0 } : Room).slots) := by
  refine MetFree.of_bodySF (plainFor_of_name pn_0) hisR ?_
  intro p e s m args below meth c s₁ Bd hml0 hP hK
  obtain ⟨rfl, hZ, hh⟩ := hP
  have hx := Bd.exec
  have hby := Bd.bytes
  have hml : c.maxLocals = 1 := hml0
  have hown : s.vm.findClass "com/example/garm/garm/command/Option" = some m.cls := findClass_of_methodNamed Bd.named
  have hnm := (name_of_methodNamed Bd.named Bd.method).1
  have X0 : Stand p l e ({ frames := 0, cells := 0, slots := 0, locals := 0 } : Room) s m #[(.ref w_CREATES)] below meth c s₁ [] 0 0 := Stand.of_body Bd
  have e0 : s₁.heap = h0 := by rw [← hh, Bd.state]; rfl
  have N0 := Fr.nil n0
  have pre0 : ∀ t, Steps p.tables e below (s₁.setTop (mkF m 0 #[.val (.ref w_CREATES)] [])) t → Steps p.tables e below (s₁.setTop (entryFrame m #[(.ref w_CREATES)] 1)) t := fun t k => castTop (ef_rm2_14 m w_CREATES) k
  obtain ⟨T1, X1, e1, st1⟩ := getF X0 hx hZ hown (host := "") (Or.inl (hw _ (List.mem_of_getElem? (i := 44) rfl))) Via.refl e0 F_form_CREATES (g := (mkF m 1 #[.val (.ref w_CREATES)] [(.ref w_CREATES)])) rfl rfl (hb hby d2_1)
  obtain ⟨T2, X2, e2, st2⟩ := getS2 X1 hx hZ hown (host := "") (Or.inl (hw _ (List.mem_of_getElem? (i := 55) rfl))) Via.refl e1 S_REPEATED_VALUE (g := (mkF m 4 #[.val (.ref w_CREATES)] [(.ref w_FLAG)])) rfl (hb hby d2_4)
  obtain ⟨fs, hr, hrun, hended, hW, hsame⟩ := X2.leave (v := some (.int (0 : Int32))) (fun h => by rw [Bd.returns] at h; cases h)
  refine ⟨_, _, pre0 _ ?_, hrun, hended, _, _, rfl, ?_, ⟨_, rfl⟩, hW, hsame.mono (by decide) (by decide)⟩
  ·
    show Steps p.tables e below (s₁.setTop (mkF m 0 #[.val (.ref w_CREATES)] [])) _
    refine XS.aloadN X0.here hx rfl (hb hby d2_0) rfl rfl ?_
    show Steps p.tables e below (s₁.setTop (mkF m 1 #[.val (.ref w_CREATES)] [(.ref w_CREATES)])) _
    refine st1 _ ?_
    show Steps p.tables e below (T1.setTop (mkF m 4 #[.val (.ref w_CREATES)] [(.ref w_FLAG)])) _
    refine st2 _ ?_
    show Steps p.tables e below (T2.setTop (mkF m 7 #[.val (.ref w_CREATES)] [(.ref w_REPEATED_VALUE), (.ref w_FLAG)])) _
    refine Jvm.RoadKit.acmp (g := (mkF m 7 #[.val (.ref w_CREATES)] [(.ref w_REPEATED_VALUE), (.ref w_FLAG)])) X2 hx rfl rfl rfl (pc0 := 7) (pc' := 14) (same := false) rfl (hb hby d2_7) rfl (decide_eq_false fun q => ne_FLAG_REPEATED_VALUE (Value.ref.inj q)) (by decide) (by decide) ?_
    show Steps p.tables e below (T2.setTop (mkF m 14 #[.val (.ref w_CREATES)] [])) _
    refine XS.iconst X2.here hx rfl (hb hby d2_14) ?_
    show Steps p.tables e below (T2.setTop (mkF m 15 #[.val (.ref w_CREATES)] [(.int (0 : Int32))])) _
    exact retN X2 hx (t := .boolean) Bd.returns (by simp) (hb hby d2_15) hr
  · show Q2_14 Z w_CREATES w_FLAG w_REPEATED_VALUE h0 n0 _ T2.heap _
    rw [e2]
    exact ⟨rfl, N0, rfl⟩
theorem ef_rm1_15 (m : MethodId) (x0 : Addr) : entryFrame m #[(.ref x0)] 1 = mkF m 0 #[.val (.ref x0)] [] := by first | (simp [entryFrame, mkF, argsToLocals, Value.category]; done) | rfl
def Q1_15 (Z : State) (w_REMOVES : Addr) (w_FLAG : Addr) (h0 : Heap) (n0 : Nat) (v : Option Value) (h : Heap) (L : List Loc) : Prop := v = some (.int (0 : Int32)) ∧ Fr n0 L ∧ h = h0
set_option maxRecDepth 65536 in
set_option maxHeartbeats 40000000 in
theorem rm1_15 (l : Launch) (Z : State) (a0 : Array Value) (hw : ∀ d ∈ tables_1, d.before a0 Z = true) (ws : List Jvm.Cond) (w_REMOVES : Addr) (w_FLAG : Addr) (h0 : Heap) (n0 : Nat) (Z0 : n0 ≤ h0.size) (F_form_REMOVES : Fld Z h0 w_REMOVES "com/example/garm/garm/command/Option" "form" "Lcom/example/garm/garm/command/Option$Form;" (.ref w_FLAG)) (S_FLAG : Sta Z h0 "com/example/garm/garm/command/Option$Form" "FLAG" "Lcom/example/garm/garm/command/Option$Form;" (.ref w_FLAG)) :
    MetFree l (⟨"com/example/garm/garm/command/Option", "takesValue", "()Z"⟩ : MethodName) (head1 (Jvm.Cond.code (⟨"com/example/garm/garm/command/Option", "takesValue", "()Z"⟩ : MethodName) prog_4_method_5_code 1 (some .boolean) :: ws) ({ frames := 0, cells := 0, slots := 0, locals := 0 } : Room)) (fun a U => a = #[(.ref w_REMOVES)] ∧ Z.Warmed39 U.vm ∧ U.heap = h0) (fun _ _ _ _ _ => True) (fun _ U o U' => ∃ v L, o = .returned v ∧ Q1_15 Z w_REMOVES w_FLAG h0 n0 v U'.heap L ∧ FrameEnd U o U' L ({ frames := 0, cells := 0, slots := 0, locals := 0 } : Room).cells ({ frames := 0, cells := 0, slots := 0, locals := 0 } : Room).slots) := by
  refine MetFree.of_bodySF (plainFor_of_name pn_0) hisR ?_
  intro p e s m args below meth c s₁ Bd hml0 hP hK
  obtain ⟨rfl, hZ, hh⟩ := hP
  have hx := Bd.exec
  have hby := Bd.bytes
  have hml : c.maxLocals = 1 := hml0
  have hown : s.vm.findClass "com/example/garm/garm/command/Option" = some m.cls := findClass_of_methodNamed Bd.named
  have hnm := (name_of_methodNamed Bd.named Bd.method).1
  have X0 : Stand p l e ({ frames := 0, cells := 0, slots := 0, locals := 0 } : Room) s m #[(.ref w_REMOVES)] below meth c s₁ [] 0 0 := Stand.of_body Bd
  have e0 : s₁.heap = h0 := by rw [← hh, Bd.state]; rfl
  have N0 := Fr.nil n0
  have pre0 : ∀ t, Steps p.tables e below (s₁.setTop (mkF m 0 #[.val (.ref w_REMOVES)] [])) t → Steps p.tables e below (s₁.setTop (entryFrame m #[(.ref w_REMOVES)] 1)) t := fun t k => castTop (ef_rm1_15 m w_REMOVES) k
  obtain ⟨T1, X1, e1, st1⟩ := getF X0 hx hZ hown (host := "") (Or.inl (hw _ (List.mem_of_getElem? (i := 44) rfl))) Via.refl e0 F_form_REMOVES (g := (mkF m 1 #[.val (.ref w_REMOVES)] [(.ref w_REMOVES)])) rfl rfl (hb hby d1_1)
  obtain ⟨T2, X2, e2, st2⟩ := getS2 X1 hx hZ hown (host := "") (Or.inl (hw _ (List.mem_of_getElem? (i := 48) rfl))) Via.refl e1 S_FLAG (g := (mkF m 4 #[.val (.ref w_REMOVES)] [(.ref w_FLAG)])) rfl (hb hby d1_4)
  obtain ⟨fs, hr, hrun, hended, hW, hsame⟩ := X2.leave (v := some (.int (0 : Int32))) (fun h => by rw [Bd.returns] at h; cases h)
  refine ⟨_, _, pre0 _ ?_, hrun, hended, _, _, rfl, ?_, ⟨_, rfl⟩, hW, hsame.mono (by decide) (by decide)⟩
  ·
    show Steps p.tables e below (s₁.setTop (mkF m 0 #[.val (.ref w_REMOVES)] [])) _
    refine XS.aloadN X0.here hx rfl (hb hby d1_0) rfl rfl ?_
    show Steps p.tables e below (s₁.setTop (mkF m 1 #[.val (.ref w_REMOVES)] [(.ref w_REMOVES)])) _
    refine st1 _ ?_
    show Steps p.tables e below (T1.setTop (mkF m 4 #[.val (.ref w_REMOVES)] [(.ref w_FLAG)])) _
    refine st2 _ ?_
    show Steps p.tables e below (T2.setTop (mkF m 7 #[.val (.ref w_REMOVES)] [(.ref w_FLAG), (.ref w_FLAG)])) _
    refine Jvm.RoadKit.acmp (g := (mkF m 7 #[.val (.ref w_REMOVES)] [(.ref w_FLAG), (.ref w_FLAG)])) X2 hx rfl rfl rfl (pc0 := 7) (pc' := 14) (same := true) rfl (hb hby d1_7) rfl (decide_eq_true rfl) (by decide) (by decide) ?_
    show Steps p.tables e below (T2.setTop (mkF m 14 #[.val (.ref w_REMOVES)] [])) _
    refine XS.iconst X2.here hx rfl (hb hby d1_14) ?_
    show Steps p.tables e below (T2.setTop (mkF m 15 #[.val (.ref w_REMOVES)] [(.int (0 : Int32))])) _
    exact retN X2 hx (t := .boolean) Bd.returns (by simp) (hb hby d1_15) hr
  · show Q1_15 Z w_REMOVES w_FLAG h0 n0 _ T2.heap _
    rw [e2]
    exact ⟨rfl, N0, rfl⟩
theorem ef_rm2_15 (m : MethodId) (x0 : Addr) : entryFrame m #[(.ref x0)] 1 = mkF m 0 #[.val (.ref x0)] [] := by first | (simp [entryFrame, mkF, argsToLocals, Value.category]; done) | rfl
def Q2_15 (Z : State) (w_REMOVES : Addr) (w_FLAG : Addr) (w_REPEATED_VALUE : Addr) (h0 : Heap) (n0 : Nat) (v : Option Value) (h : Heap) (L : List Loc) : Prop := v = some (.int (0 : Int32)) ∧ Fr n0 L ∧ h = h0
set_option maxRecDepth 65536 in
set_option maxHeartbeats 40000000 in
theorem rm2_15 (l : Launch) (Z : State) (a0 : Array Value) (hw : ∀ d ∈ tables_1, d.before a0 Z = true) (ws : List Jvm.Cond) (w_REMOVES : Addr) (w_FLAG : Addr) (w_REPEATED_VALUE : Addr) (h0 : Heap) (n0 : Nat) (Z0 : n0 ≤ h0.size) (F_form_REMOVES : Fld Z h0 w_REMOVES "com/example/garm/garm/command/Option" "form" "Lcom/example/garm/garm/command/Option$Form;" (.ref w_FLAG)) (S_REPEATED_VALUE : Sta Z h0 "com/example/garm/garm/command/Option$Form" "REPEATED_VALUE" "Lcom/example/garm/garm/command/Option$Form;" (.ref w_REPEATED_VALUE)) (ne_FLAG_REPEATED_VALUE : w_FLAG ≠ w_REPEATED_VALUE) :
    MetFree l (⟨"com/example/garm/garm/command/Option", "isRepeatable", "()Z"⟩ : MethodName) (head1 (Jvm.Cond.code (⟨"com/example/garm/garm/command/Option", "isRepeatable", "()Z"⟩ : MethodName) prog_4_method_6_code 1 (some .boolean) :: ws) ({ frames := 0, cells := 0, slots := 0, locals := 0 } : Room)) (fun a U => a = #[(.ref w_REMOVES)] ∧ Z.Warmed39 U.vm ∧ U.heap = h0) (fun _ _ _ _ _ => True) (fun _ U o U' => ∃ v L, o = .returned v ∧ Q2_15 Z w_REMOVES w_FLAG w_REPEATED_VALUE h0 n0 v U'.heap L ∧ FrameEnd U o U' L ({ frames := 0, cells := 0, slots := 0, locals := 0 } : Room).cells ({ frames := 0, cells := 0, slots := 0, locals := 0 } : Room).slots) := by
  refine MetFree.of_bodySF (plainFor_of_name pn_0) hisR ?_
  intro p e s m args below meth c s₁ Bd hml0 hP hK
  obtain ⟨rfl, hZ, hh⟩ := hP
  have hx := Bd.exec
  have hby := Bd.bytes
  have hml : c.maxLocals = 1 := hml0
  have hown : s.vm.findClass "com/example/garm/garm/command/Option" = some m.cls := findClass_of_methodNamed Bd.named
  have hnm := (name_of_methodNamed Bd.named Bd.method).1
  have X0 : Stand p l e ({ frames := 0, cells := 0, slots := 0, locals := 0 } : Room) s m #[(.ref w_REMOVES)] below meth c s₁ [] 0 0 := Stand.of_body Bd
  have e0 : s₁.heap = h0 := by rw [← hh, Bd.state]; rfl
  have N0 := Fr.nil n0
  have pre0 : ∀ t, Steps p.tables e below (s₁.setTop (mkF m 0 #[.val (.ref w_REMOVES)] [])) t → Steps p.tables e below (s₁.setTop (entryFrame m #[(.ref w_REMOVES)] 1)) t := fun t k => castTop (ef_rm2_15 m w_REMOVES) k
  obtain ⟨T1, X1, e1, st1⟩ := getF X0 hx hZ hown (host := "") (Or.inl (hw _ (List.mem_of_getElem? (i := 44) rfl))) Via.refl e0 F_form_REMOVES (g := (mkF m 1 #[.val (.ref w_REMOVES)] [(.ref w_REMOVES)])) rfl rfl (hb hby d2_1)
  obtain ⟨T2, X2, e2, st2⟩ := getS2 X1 hx hZ hown (host := "") (Or.inl (hw _ (List.mem_of_getElem? (i := 55) rfl))) Via.refl e1 S_REPEATED_VALUE (g := (mkF m 4 #[.val (.ref w_REMOVES)] [(.ref w_FLAG)])) rfl (hb hby d2_4)
  obtain ⟨fs, hr, hrun, hended, hW, hsame⟩ := X2.leave (v := some (.int (0 : Int32))) (fun h => by rw [Bd.returns] at h; cases h)
  refine ⟨_, _, pre0 _ ?_, hrun, hended, _, _, rfl, ?_, ⟨_, rfl⟩, hW, hsame.mono (by decide) (by decide)⟩
  ·
    show Steps p.tables e below (s₁.setTop (mkF m 0 #[.val (.ref w_REMOVES)] [])) _
    refine XS.aloadN X0.here hx rfl (hb hby d2_0) rfl rfl ?_
    show Steps p.tables e below (s₁.setTop (mkF m 1 #[.val (.ref w_REMOVES)] [(.ref w_REMOVES)])) _
    refine st1 _ ?_
    show Steps p.tables e below (T1.setTop (mkF m 4 #[.val (.ref w_REMOVES)] [(.ref w_FLAG)])) _
    refine st2 _ ?_
    show Steps p.tables e below (T2.setTop (mkF m 7 #[.val (.ref w_REMOVES)] [(.ref w_REPEATED_VALUE), (.ref w_FLAG)])) _
    refine Jvm.RoadKit.acmp (g := (mkF m 7 #[.val (.ref w_REMOVES)] [(.ref w_REPEATED_VALUE), (.ref w_FLAG)])) X2 hx rfl rfl rfl (pc0 := 7) (pc' := 14) (same := false) rfl (hb hby d2_7) rfl (decide_eq_false fun q => ne_FLAG_REPEATED_VALUE (Value.ref.inj q)) (by decide) (by decide) ?_
    show Steps p.tables e below (T2.setTop (mkF m 14 #[.val (.ref w_REMOVES)] [])) _
    refine XS.iconst X2.here hx rfl (hb hby d2_14) ?_
    show Steps p.tables e below (T2.setTop (mkF m 15 #[.val (.ref w_REMOVES)] [(.int (0 : Int32))])) _
    exact retN X2 hx (t := .boolean) Bd.returns (by simp) (hb hby d2_15) hr
  · show Q2_15 Z w_REMOVES w_FLAG w_REPEATED_VALUE h0 n0 _ T2.heap _
    rw [e2]
    exact ⟨rfl, N0, rfl⟩
theorem ef_rm1_16 (m : MethodId) (x0 : Addr) : entryFrame m #[(.ref x0)] 1 = mkF m 0 #[.val (.ref x0)] [] := by first | (simp [entryFrame, mkF, argsToLocals, Value.category]; done) | rfl
def Q1_16 (Z : State) (w_PORT : Addr) (w_VALUE : Addr) (w_FLAG : Addr) (h0 : Heap) (n0 : Nat) (v : Option Value) (h : Heap) (L : List Loc) : Prop := v = some (.int (1 : Int32)) ∧ Fr n0 L ∧ h = h0
set_option maxRecDepth 65536 in
set_option maxHeartbeats 40000000 in
theorem rm1_16 (l : Launch) (Z : State) (a0 : Array Value) (hw : ∀ d ∈ tables_1, d.before a0 Z = true) (ws : List Jvm.Cond) (w_PORT : Addr) (w_VALUE : Addr) (w_FLAG : Addr) (h0 : Heap) (n0 : Nat) (Z0 : n0 ≤ h0.size) (F_form_PORT : Fld Z h0 w_PORT "com/example/garm/garm/command/Option" "form" "Lcom/example/garm/garm/command/Option$Form;" (.ref w_VALUE)) (S_FLAG : Sta Z h0 "com/example/garm/garm/command/Option$Form" "FLAG" "Lcom/example/garm/garm/command/Option$Form;" (.ref w_FLAG)) (ne_FLAG_VALUE : w_FLAG ≠ w_VALUE) :
    MetFree l (⟨"com/example/garm/garm/command/Option", "takesValue", "()Z"⟩ : MethodName) (head1 (Jvm.Cond.code (⟨"com/example/garm/garm/command/Option", "takesValue", "()Z"⟩ : MethodName) prog_4_method_5_code 1 (some .boolean) :: ws) ({ frames := 0, cells := 0, slots := 0, locals := 0 } : Room)) (fun a U => a = #[(.ref w_PORT)] ∧ Z.Warmed39 U.vm ∧ U.heap = h0) (fun _ _ _ _ _ => True) (fun _ U o U' => ∃ v L, o = .returned v ∧ Q1_16 Z w_PORT w_VALUE w_FLAG h0 n0 v U'.heap L ∧ FrameEnd U o U' L ({ frames := 0, cells := 0, slots := 0, locals := 0 } : Room).cells ({ frames := 0, cells := 0, slots := 0, locals := 0 } : Room).slots) := by
  refine MetFree.of_bodySF (plainFor_of_name pn_0) hisR ?_
  intro p e s m args below meth c s₁ Bd hml0 hP hK
  obtain ⟨rfl, hZ, hh⟩ := hP
  have hx := Bd.exec
  have hby := Bd.bytes
  have hml : c.maxLocals = 1 := hml0
  have hown : s.vm.findClass "com/example/garm/garm/command/Option" = some m.cls := findClass_of_methodNamed Bd.named
  have hnm := (name_of_methodNamed Bd.named Bd.method).1
  have X0 : Stand p l e ({ frames := 0, cells := 0, slots := 0, locals := 0 } : Room) s m #[(.ref w_PORT)] below meth c s₁ [] 0 0 := Stand.of_body Bd
  have e0 : s₁.heap = h0 := by rw [← hh, Bd.state]; rfl
  have N0 := Fr.nil n0
  have pre0 : ∀ t, Steps p.tables e below (s₁.setTop (mkF m 0 #[.val (.ref w_PORT)] [])) t → Steps p.tables e below (s₁.setTop (entryFrame m #[(.ref w_PORT)] 1)) t := fun t k => castTop (ef_rm1_16 m w_PORT) k
  obtain ⟨T1, X1, e1, st1⟩ := getF X0 hx hZ hown (host := "") (Or.inl (hw _ (List.mem_of_getElem? (i := 44) rfl))) Via.refl e0 F_form_PORT (g := (mkF m 1 #[.val (.ref w_PORT)] [(.ref w_PORT)])) rfl rfl (hb hby d1_1)
  obtain ⟨T2, X2, e2, st2⟩ := getS2 X1 hx hZ hown (host := "") (Or.inl (hw _ (List.mem_of_getElem? (i := 48) rfl))) Via.refl e1 S_FLAG (g := (mkF m 4 #[.val (.ref w_PORT)] [(.ref w_VALUE)])) rfl (hb hby d1_4)
  obtain ⟨fs, hr, hrun, hended, hW, hsame⟩ := X2.leave (v := some (.int (1 : Int32))) (fun h => by rw [Bd.returns] at h; cases h)
  refine ⟨_, _, pre0 _ ?_, hrun, hended, _, _, rfl, ?_, ⟨_, rfl⟩, hW, hsame.mono (by decide) (by decide)⟩
  ·
    show Steps p.tables e below (s₁.setTop (mkF m 0 #[.val (.ref w_PORT)] [])) _
    refine XS.aloadN X0.here hx rfl (hb hby d1_0) rfl rfl ?_
    show Steps p.tables e below (s₁.setTop (mkF m 1 #[.val (.ref w_PORT)] [(.ref w_PORT)])) _
    refine st1 _ ?_
    show Steps p.tables e below (T1.setTop (mkF m 4 #[.val (.ref w_PORT)] [(.ref w_VALUE)])) _
    refine st2 _ ?_
    show Steps p.tables e below (T2.setTop (mkF m 7 #[.val (.ref w_PORT)] [(.ref w_FLAG), (.ref w_VALUE)])) _
    refine Jvm.RoadKit.acmp (g := (mkF m 7 #[.val (.ref w_PORT)] [(.ref w_FLAG), (.ref w_VALUE)])) X2 hx rfl rfl rfl (pc0 := 7) (pc' := 10) (same := false) rfl (hb hby d1_7) rfl (decide_eq_false fun q => (Ne.symm ne_FLAG_VALUE) (Value.ref.inj q)) (by decide) (by decide) ?_
    show Steps p.tables e below (T2.setTop (mkF m 10 #[.val (.ref w_PORT)] [])) _
    refine XS.iconst X2.here hx rfl (hb hby d1_10) ?_
    show Steps p.tables e below (T2.setTop (mkF m 11 #[.val (.ref w_PORT)] [(.int (1 : Int32))])) _
    refine XS.goto X2.here hx rfl (pc0 := 11) (pc' := 15) rfl (hb hby d1_11) (by decide) (by decide) ?_
    show Steps p.tables e below (T2.setTop (mkF m 15 #[.val (.ref w_PORT)] [(.int (1 : Int32))])) _
    exact retN X2 hx (t := .boolean) Bd.returns (by simp) (hb hby d1_15) hr
  · show Q1_16 Z w_PORT w_VALUE w_FLAG h0 n0 _ T2.heap _
    rw [e2]
    exact ⟨rfl, N0, rfl⟩
theorem ef_rm2_16 (m : MethodId) (x0 : Addr) : entryFrame m #[(.ref x0)] 1 = mkF m 0 #[.val (.ref x0)] [] := by first | (simp [entryFrame, mkF, argsToLocals, Value.category]; done) | rfl
def Q2_16 (Z : State) (w_PORT : Addr) (w_VALUE : Addr) (w_REPEATED_VALUE : Addr) (h0 : Heap) (n0 : Nat) (v : Option Value) (h : Heap) (L : List Loc) : Prop := v = some (.int (0 : Int32)) ∧ Fr n0 L ∧ h = h0
set_option maxRecDepth 65536 in
set_option maxHeartbeats 40000000 in
theorem rm2_16 (l : Launch) (Z : State) (a0 : Array Value) (hw : ∀ d ∈ tables_1, d.before a0 Z = true) (ws : List Jvm.Cond) (w_PORT : Addr) (w_VALUE : Addr) (w_REPEATED_VALUE : Addr) (h0 : Heap) (n0 : Nat) (Z0 : n0 ≤ h0.size) (F_form_PORT : Fld Z h0 w_PORT "com/example/garm/garm/command/Option" "form" "Lcom/example/garm/garm/command/Option$Form;" (.ref w_VALUE)) (S_REPEATED_VALUE : Sta Z h0 "com/example/garm/garm/command/Option$Form" "REPEATED_VALUE" "Lcom/example/garm/garm/command/Option$Form;" (.ref w_REPEATED_VALUE)) (ne_REPEATED_VALUE_VALUE : w_REPEATED_VALUE ≠ w_VALUE) :
    MetFree l (⟨"com/example/garm/garm/command/Option", "isRepeatable", "()Z"⟩ : MethodName) (head1 (Jvm.Cond.code (⟨"com/example/garm/garm/command/Option", "isRepeatable", "()Z"⟩ : MethodName) prog_4_method_6_code 1 (some .boolean) :: ws) ({ frames := 0, cells := 0, slots := 0, locals := 0 } : Room)) (fun a U => a = #[(.ref w_PORT)] ∧ Z.Warmed39 U.vm ∧ U.heap = h0) (fun _ _ _ _ _ => True) (fun _ U o U' => ∃ v L, o = .returned v ∧ Q2_16 Z w_PORT w_VALUE w_REPEATED_VALUE h0 n0 v U'.heap L ∧ FrameEnd U o U' L ({ frames := 0, cells := 0, slots := 0, locals := 0 } : Room).cells ({ frames := 0, cells := 0, slots := 0, locals := 0 } : Room).slots) := by
  refine MetFree.of_bodySF (plainFor_of_name pn_0) hisR ?_
  intro p e s m args below meth c s₁ Bd hml0 hP hK
  obtain ⟨rfl, hZ, hh⟩ := hP
  have hx := Bd.exec
  have hby := Bd.bytes
  have hml : c.maxLocals = 1 := hml0
  have hown : s.vm.findClass "com/example/garm/garm/command/Option" = some m.cls := findClass_of_methodNamed Bd.named
  have hnm := (name_of_methodNamed Bd.named Bd.method).1
  have X0 : Stand p l e ({ frames := 0, cells := 0, slots := 0, locals := 0 } : Room) s m #[(.ref w_PORT)] below meth c s₁ [] 0 0 := Stand.of_body Bd
  have e0 : s₁.heap = h0 := by rw [← hh, Bd.state]; rfl
  have N0 := Fr.nil n0
  have pre0 : ∀ t, Steps p.tables e below (s₁.setTop (mkF m 0 #[.val (.ref w_PORT)] [])) t → Steps p.tables e below (s₁.setTop (entryFrame m #[(.ref w_PORT)] 1)) t := fun t k => castTop (ef_rm2_16 m w_PORT) k
  obtain ⟨T1, X1, e1, st1⟩ := getF X0 hx hZ hown (host := "") (Or.inl (hw _ (List.mem_of_getElem? (i := 44) rfl))) Via.refl e0 F_form_PORT (g := (mkF m 1 #[.val (.ref w_PORT)] [(.ref w_PORT)])) rfl rfl (hb hby d2_1)
  obtain ⟨T2, X2, e2, st2⟩ := getS2 X1 hx hZ hown (host := "") (Or.inl (hw _ (List.mem_of_getElem? (i := 55) rfl))) Via.refl e1 S_REPEATED_VALUE (g := (mkF m 4 #[.val (.ref w_PORT)] [(.ref w_VALUE)])) rfl (hb hby d2_4)
  obtain ⟨fs, hr, hrun, hended, hW, hsame⟩ := X2.leave (v := some (.int (0 : Int32))) (fun h => by rw [Bd.returns] at h; cases h)
  refine ⟨_, _, pre0 _ ?_, hrun, hended, _, _, rfl, ?_, ⟨_, rfl⟩, hW, hsame.mono (by decide) (by decide)⟩
  ·
    show Steps p.tables e below (s₁.setTop (mkF m 0 #[.val (.ref w_PORT)] [])) _
    refine XS.aloadN X0.here hx rfl (hb hby d2_0) rfl rfl ?_
    show Steps p.tables e below (s₁.setTop (mkF m 1 #[.val (.ref w_PORT)] [(.ref w_PORT)])) _
    refine st1 _ ?_
    show Steps p.tables e below (T1.setTop (mkF m 4 #[.val (.ref w_PORT)] [(.ref w_VALUE)])) _
    refine st2 _ ?_
    show Steps p.tables e below (T2.setTop (mkF m 7 #[.val (.ref w_PORT)] [(.ref w_REPEATED_VALUE), (.ref w_VALUE)])) _
    refine Jvm.RoadKit.acmp (g := (mkF m 7 #[.val (.ref w_PORT)] [(.ref w_REPEATED_VALUE), (.ref w_VALUE)])) X2 hx rfl rfl rfl (pc0 := 7) (pc' := 14) (same := false) rfl (hb hby d2_7) rfl (decide_eq_false fun q => (Ne.symm ne_REPEATED_VALUE_VALUE) (Value.ref.inj q)) (by decide) (by decide) ?_
    show Steps p.tables e below (T2.setTop (mkF m 14 #[.val (.ref w_PORT)] [])) _
    refine XS.iconst X2.here hx rfl (hb hby d2_14) ?_
    show Steps p.tables e below (T2.setTop (mkF m 15 #[.val (.ref w_PORT)] [(.int (0 : Int32))])) _
    exact retN X2 hx (t := .boolean) Bd.returns (by simp) (hb hby d2_15) hr
  · show Q2_16 Z w_PORT w_VALUE w_REPEATED_VALUE h0 n0 _ T2.heap _
    rw [e2]
    exact ⟨rfl, N0, rfl⟩
theorem pn_1 : plainName "com/example/garm/garm/command/OptionTakesValuePinLaw" = true := by first | (simp [plainName, overriddenIn]; done) | decide +kernel
theorem ef_rm0_0 (m : MethodId) (x0 : Int32) : entryFrame m #[(.int x0)] maxLocals = mkF m 0 #[.val (.int x0), .unset, .unset, .unset, .unset, .unset, .unset, .unset] [] := by first | (simp [entryFrame, mkF, argsToLocals, Value.category, maxLocals]; done) | rfl
def Q0_0 (Z : State) (p1 : Int32) (w_POD : Addr) (w_BASE : Addr) (w_RESOURCE : Addr) (w_AGENT : Addr) (w_CLIENT : Addr) (w_ISSUER : Addr) (w_OWNER : Addr) (w_CREATOR : Addr) (w_CREDENTIAL : Addr) (w_REQUESTS : Addr) (w_AGENTS : Addr) (w_STATS : Addr) (w_WAC_ALLOW : Addr) (w_METHOD : Addr) (w_CREATES : Addr) (w_REMOVES : Addr) (w_PORT : Addr) (w_VALUE : Addr) (w_FLAG : Addr) (w_REPEATED_VALUE : Addr) (h0 : Heap) (n0 : Nat) (v : Option Value) (h : Heap) (L : List Loc) : Prop := v = some (.int (1 : Int32)) ∧ Fr n0 L
set_option maxRecDepth 65536 in
set_option maxHeartbeats 40000000 in
theorem rm0_0 (l : Launch) (Z : State) (a0 : Array Value) (hw : ∀ d ∈ tables_1, d.before a0 Z = true) (ws : List Jvm.Cond) (p1 : Int32) (w_POD : Addr) (w_BASE : Addr) (w_RESOURCE : Addr) (w_AGENT : Addr) (w_CLIENT : Addr) (w_ISSUER : Addr) (w_OWNER : Addr) (w_CREATOR : Addr) (w_CREDENTIAL : Addr) (w_REQUESTS : Addr) (w_AGENTS : Addr) (w_STATS : Addr) (w_WAC_ALLOW : Addr) (w_METHOD : Addr) (w_CREATES : Addr) (w_REMOVES : Addr) (w_PORT : Addr) (w_VALUE : Addr) (w_FLAG : Addr) (w_REPEATED_VALUE : Addr) (h0 : Heap) (n0 : Nat) (Z0 : n0 ≤ h0.size) (S_POD : Sta Z h0 "com/example/garm/garm/command/Option" "POD" "Lcom/example/garm/garm/command/Option;" (.ref w_POD)) (E_POD : Exa Z h0 w_POD "com/example/garm/garm/command/Option") (S_BASE : Sta Z h0 "com/example/garm/garm/command/Option" "BASE" "Lcom/example/garm/garm/command/Option;" (.ref w_BASE)) (E_BASE : Exa Z h0 w_BASE "com/example/garm/garm/command/Option") (S_RESOURCE : Sta Z h0 "com/example/garm/garm/command/Option" "RESOURCE" "Lcom/example/garm/garm/command/Option;" (.ref w_RESOURCE)) (E_RESOURCE : Exa Z h0 w_RESOURCE "com/example/garm/garm/command/Option") (S_AGENT : Sta Z h0 "com/example/garm/garm/command/Option" "AGENT" "Lcom/example/garm/garm/command/Option;" (.ref w_AGENT)) (E_AGENT : Exa Z h0 w_AGENT "com/example/garm/garm/command/Option") (S_CLIENT : Sta Z h0 "com/example/garm/garm/command/Option" "CLIENT" "Lcom/example/garm/garm/command/Option;" (.ref w_CLIENT)) (E_CLIENT : Exa Z h0 w_CLIENT "com/example/garm/garm/command/Option") (S_ISSUER : Sta Z h0 "com/example/garm/garm/command/Option" "ISSUER" "Lcom/example/garm/garm/command/Option;" (.ref w_ISSUER)) (E_ISSUER : Exa Z h0 w_ISSUER "com/example/garm/garm/command/Option") (S_OWNER : Sta Z h0 "com/example/garm/garm/command/Option" "OWNER" "Lcom/example/garm/garm/command/Option;" (.ref w_OWNER)) (E_OWNER : Exa Z h0 w_OWNER "com/example/garm/garm/command/Option") (S_CREATOR : Sta Z h0 "com/example/garm/garm/command/Option" "CREATOR" "Lcom/example/garm/garm/command/Option;" (.ref w_CREATOR)) (E_CREATOR : Exa Z h0 w_CREATOR "com/example/garm/garm/command/Option") (S_CREDENTIAL : Sta Z h0 "com/example/garm/garm/command/Option" "CREDENTIAL" "Lcom/example/garm/garm/command/Option;" (.ref w_CREDENTIAL)) (E_CREDENTIAL : Exa Z h0 w_CREDENTIAL "com/example/garm/garm/command/Option") (S_REQUESTS : Sta Z h0 "com/example/garm/garm/command/Option" "REQUESTS" "Lcom/example/garm/garm/command/Option;" (.ref w_REQUESTS)) (E_REQUESTS : Exa Z h0 w_REQUESTS "com/example/garm/garm/command/Option") (S_AGENTS : Sta Z h0 "com/example/garm/garm/command/Option" "AGENTS" "Lcom/example/garm/garm/command/Option;" (.ref w_AGENTS)) (E_AGENTS : Exa Z h0 w_AGENTS "com/example/garm/garm/command/Option") (S_STATS : Sta Z h0 "com/example/garm/garm/command/Option" "STATS" "Lcom/example/garm/garm/command/Option;" (.ref w_STATS)) (E_STATS : Exa Z h0 w_STATS "com/example/garm/garm/command/Option") (S_WAC_ALLOW : Sta Z h0 "com/example/garm/garm/command/Option" "WAC_ALLOW" "Lcom/example/garm/garm/command/Option;" (.ref w_WAC_ALLOW)) (E_WAC_ALLOW : Exa Z h0 w_WAC_ALLOW "com/example/garm/garm/command/Option") (S_METHOD : Sta Z h0 "com/example/garm/garm/command/Option" "METHOD" "Lcom/example/garm/garm/command/Option;" (.ref w_METHOD)) (E_METHOD : Exa Z h0 w_METHOD "com/example/garm/garm/command/Option") (S_CREATES : Sta Z h0 "com/example/garm/garm/command/Option" "CREATES" "Lcom/example/garm/garm/command/Option;" (.ref w_CREATES)) (E_CREATES : Exa Z h0 w_CREATES "com/example/garm/garm/command/Option") (S_REMOVES : Sta Z h0 "com/example/garm/garm/command/Option" "REMOVES" "Lcom/example/garm/garm/command/Option;" (.ref w_REMOVES)) (E_REMOVES : Exa Z h0 w_REMOVES "com/example/garm/garm/command/Option") (S_PORT : Sta Z h0 "com/example/garm/garm/command/Option" "PORT" "Lcom/example/garm/garm/command/Option;" (.ref w_PORT)) (E_PORT : Exa Z h0 w_PORT "com/example/garm/garm/command/Option") (F_form_POD : Fld Z h0 w_POD "com/example/garm/garm/command/Option" "form" "Lcom/example/garm/garm/command/Option$Form;" (.ref w_VALUE)) (S_FLAG : Sta Z h0 "com/example/garm/garm/command/Option$Form" "FLAG" "Lcom/example/garm/garm/command/Option$Form;" (.ref w_FLAG)) (ne_FLAG_VALUE : w_FLAG ≠ w_VALUE) (S_REPEATED_VALUE : Sta Z h0 "com/example/garm/garm/command/Option$Form" "REPEATED_VALUE" "Lcom/example/garm/garm/command/Option$Form;" (.ref w_REPEATED_VALUE)) (ne_REPEATED_VALUE_VALUE : w_REPEATED_VALUE ≠ w_VALUE) (F_form_BASE : Fld Z h0 w_BASE "com/example/garm/garm/command/Option" "form" "Lcom/example/garm/garm/command/Option$Form;" (.ref w_VALUE)) (F_form_RESOURCE : Fld Z h0 w_RESOURCE "com/example/garm/garm/command/Option" "form" "Lcom/example/garm/garm/command/Option$Form;" (.ref w_VALUE)) (F_form_AGENT : Fld Z h0 w_AGENT "com/example/garm/garm/command/Option" "form" "Lcom/example/garm/garm/command/Option$Form;" (.ref w_VALUE)) (F_form_CLIENT : Fld Z h0 w_CLIENT "com/example/garm/garm/command/Option" "form" "Lcom/example/garm/garm/command/Option$Form;" (.ref w_VALUE)) (F_form_ISSUER : Fld Z h0 w_ISSUER "com/example/garm/garm/command/Option" "form" "Lcom/example/garm/garm/command/Option$Form;" (.ref w_VALUE)) (F_form_OWNER : Fld Z h0 w_OWNER "com/example/garm/garm/command/Option" "form" "Lcom/example/garm/garm/command/Option$Form;" (.ref w_REPEATED_VALUE)) (ne_FLAG_REPEATED_VALUE : w_FLAG ≠ w_REPEATED_VALUE) (F_form_CREATOR : Fld Z h0 w_CREATOR "com/example/garm/garm/command/Option" "form" "Lcom/example/garm/garm/command/Option$Form;" (.ref w_VALUE)) (F_form_CREDENTIAL : Fld Z h0 w_CREDENTIAL "com/example/garm/garm/command/Option" "form" "Lcom/example/garm/garm/command/Option$Form;" (.ref w_REPEATED_VALUE)) (F_form_REQUESTS : Fld Z h0 w_REQUESTS "com/example/garm/garm/command/Option" "form" "Lcom/example/garm/garm/command/Option$Form;" (.ref w_VALUE)) (F_form_AGENTS : Fld Z h0 w_AGENTS "com/example/garm/garm/command/Option" "form" "Lcom/example/garm/garm/command/Option$Form;" (.ref w_VALUE)) (F_form_STATS : Fld Z h0 w_STATS "com/example/garm/garm/command/Option" "form" "Lcom/example/garm/garm/command/Option$Form;" (.ref w_FLAG)) (F_form_WAC_ALLOW : Fld Z h0 w_WAC_ALLOW "com/example/garm/garm/command/Option" "form" "Lcom/example/garm/garm/command/Option$Form;" (.ref w_FLAG)) (F_form_METHOD : Fld Z h0 w_METHOD "com/example/garm/garm/command/Option" "form" "Lcom/example/garm/garm/command/Option$Form;" (.ref w_VALUE)) (F_form_CREATES : Fld Z h0 w_CREATES "com/example/garm/garm/command/Option" "form" "Lcom/example/garm/garm/command/Option$Form;" (.ref w_FLAG)) (F_form_REMOVES : Fld Z h0 w_REMOVES "com/example/garm/garm/command/Option" "form" "Lcom/example/garm/garm/command/Option$Form;" (.ref w_FLAG)) (F_form_PORT : Fld Z h0 w_PORT "com/example/garm/garm/command/Option" "form" "Lcom/example/garm/garm/command/Option$Form;" (.ref w_VALUE)) :
    MetFree l x (head1 (Jvm.Cond.code x code maxLocals ret :: ws) room_1) (fun a U => a = #[(.int p1)] ∧ Z.Warmed39 U.vm ∧ U.heap = h0) (fun _ _ _ _ _ => True) (fun _ U o U' => ∃ v L, o = .returned v ∧ Q0_0 Z p1 w_POD w_BASE w_RESOURCE w_AGENT w_CLIENT w_ISSUER w_OWNER w_CREATOR w_CREDENTIAL w_REQUESTS w_AGENTS w_STATS w_WAC_ALLOW w_METHOD w_CREATES w_REMOVES w_PORT w_VALUE w_FLAG w_REPEATED_VALUE h0 n0 v U'.heap L ∧ FrameEnd U o U' L room_1.cells room_1.slots) := by
  refine MetFree.of_bodySF (plainFor_of_name pn_1) hisR ?_
  intro p e s m args below meth c s₁ Bd hml0 hP hK
  obtain ⟨rfl, hZ, hh⟩ := hP
  have hx := Bd.exec
  have hby := Bd.bytes
  have hml : c.maxLocals = 8 := hml0
  have hown : s.vm.findClass "com/example/garm/garm/command/OptionTakesValuePinLaw" = some m.cls := findClass_of_methodNamed Bd.named
  have hnm := (name_of_methodNamed Bd.named Bd.method).1
  have X0 : Stand p l e room_1 s m #[(.int p1)] below meth c s₁ [] 0 0 := Stand.of_body Bd
  have e0 : s₁.heap = h0 := by rw [← hh, Bd.state]; rfl
  have N0 := Fr.nil n0
  have pre0 : ∀ t, Steps p.tables e below (s₁.setTop (mkF m 0 #[.val (.int p1), .unset, .unset, .unset, .unset, .unset, .unset, .unset] [])) t → Steps p.tables e below (s₁.setTop (entryFrame m #[(.int p1)] maxLocals)) t := fun t k => castTop (ef_rm0_0 m p1) k
  obtain ⟨b2, k2, h1, T1, L1, X1, e1, N1, K1, ⟨g_b2, sz_b2⟩, O2, pf1_0, k1⟩ : ∃ (b2 : Addr) (k2 : ClassId) (h1 : Heap) (T' : State) (L' : List Loc), Stand p l e room_1 s m #[(.int p1)] below meth c T' L' 1 17 ∧ T'.heap = h1 ∧ Fr n0 L' ∧ Keep h0 h1 [] ∧ (n0 ≤ b2 ∧ h0.size ≤ b2) ∧ Ovr Z k2 "com/example/garm/garm/command/Option" ∧ Arv Z h1 b2 k2 (.object "com/example/garm/garm/command/Option") (17 : Int32) [(.ref w_POD), (.ref w_BASE), (.ref w_RESOURCE), (.ref w_AGENT), (.ref w_CLIENT), (.ref w_ISSUER), (.ref w_OWNER), (.ref w_CREATOR), (.ref w_CREDENTIAL), (.ref w_REQUESTS), (.ref w_AGENTS), (.ref w_STATS), (.ref w_WAC_ALLOW), (.ref w_METHOD), (.ref w_CREATES), (.ref w_REMOVES), (.ref w_PORT)] .null ∧ ∀ t, Steps p.tables e below (T'.setTop (mkF m 119 #[.val (.int p1), .val (.ref b2), .unset, .unset, .unset, .unset, .unset, .unset] [])) t → Steps p.tables e below (s₁.setTop (entryFrame m #[(.int p1)] maxLocals)) t := by
    obtain ⟨T2, h2, k2, X2, e2, E2, A2, O2, st2⟩ := newR X0 hx hZ hown (hw _ (List.mem_of_getElem? (i := 0) rfl)) (hw _ (List.mem_of_getElem? (i := 1) rfl)) e0 (g := (mkF m 2 #[.val (.int p1), .unset, .unset, .unset, .unset, .unset, .unset, .unset] [(.int (17 : Int32))])) rfl (hb hby at_2) rfl (by decide) (cap := 17) (by decide) (by decide) (by decide) (by decide)
    obtain ⟨b2, g2⟩ : ∃ z, z = h0.size := ⟨_, rfl⟩
    rw [← g2] at A2 st2
    have g_b2 : n0 ≤ b2 := Nat.le_trans Z0 (Nat.le_of_eq g2.symm)
    have sz_b2 : h0.size ≤ b2 := Nat.le_of_eq g2.symm
    have K2 : Keep h0 h2 [] := (Keep.refl h0 []).ext E2
    have V_b2 : Arv Z h2 b2 k2 (.object "com/example/garm/garm/command/Option") (17 : Int32) [.null, .null, .null, .null, .null, .null, .null, .null, .null, .null, .null, .null, .null, .null, .null, .null, .null] .null := (Arv.new A2 (by decide)).pad (pad_rep [] .null 17)
    obtain ⟨T3, X3, e3, st3⟩ := getS2 X2 hx hZ hown (host := "") (Or.inl (hw _ (List.mem_of_getElem? (i := 2) rfl))) Via.refl e2 (own_staK S_POD K2 all0) (g := (mkF m 7 #[.val (.int p1), .unset, .unset, .unset, .unset, .unset, .unset, .unset] [(.int (0 : Int32)), (.ref b2), (.ref b2)])) rfl (hb hby at_7)
    obtain ⟨cl4, Ar4, qq4, Sz4, Nn4, Hs4, Gs4⟩ := id V_b2
    have hin4 : ¬ ((0 : Int32) < 0 ∨ cl4.slots.size ≤ ((0 : Int32)).toNatClampNeg) := inb_of Sz4 ⟨by decide, by decide⟩
    obtain ⟨T5, h5, X5, e5, W5, st5⟩ := stR X3 hx hZ e3 Ar4 (j := (0 : Int32)) hin4 rfl (Sto.ofV Ar4 qq4 O2 (Ins.self (E_POD.keep K2))) (g := (mkF m 10 #[.val (.int p1), .unset, .unset, .unset, .unset, .unset, .unset, .unset] [(.ref w_POD), (.int (0 : Int32)), (.ref b2), (.ref b2)])) rfl rfl (hb hby at_10)
    have K5 : Keep h0 h5 [] := K2.wr W5 (Or.inr sz_b2)
    have N5 := Fr.snoc X5 N0 g_b2
    have V_b2_5 : Arv Z h5 b2 k2 (.object "com/example/garm/garm/command/Option") (17 : Int32) [(.ref w_POD), .null, .null, .null, .null, .null, .null, .null, .null, .null, .null, .null, .null, .null, .null, .null, .null] .null := Arv.set Ar4 qq4 Sz4 Nn4 Hs4 Gs4 rfl W5 0 rfl (Nat.le_of_ble_eq_true rfl)
    obtain ⟨T6, X6, e6, st6⟩ := getS2 X5 hx hZ hown (host := "") (Or.inl (hw _ (List.mem_of_getElem? (i := 6) rfl))) Via.refl e5 (own_staK S_BASE K5 all0) (g := (mkF m 13 #[.val (.int p1), .unset, .unset, .unset, .unset, .unset, .unset, .unset] [(.int (1 : Int32)), (.ref b2), (.ref b2)])) rfl (hb hby at_13)
    obtain ⟨cl7, Ar7, qq7, Sz7, Nn7, Hs7, Gs7⟩ := id V_b2_5
    have hin7 : ¬ ((1 : Int32) < 0 ∨ cl7.slots.size ≤ ((1 : Int32)).toNatClampNeg) := inb_of Sz7 ⟨by decide, by decide⟩
    obtain ⟨T8, h8, X8, e8, W8, st8⟩ := stR X6 hx hZ e6 Ar7 (j := (1 : Int32)) hin7 rfl (Sto.ofV Ar7 qq7 O2 (Ins.self (E_BASE.keep K5))) (g := (mkF m 16 #[.val (.int p1), .unset, .unset, .unset, .unset, .unset, .unset, .unset] [(.ref w_BASE), (.int (1 : Int32)), (.ref b2), (.ref b2)])) rfl rfl (hb hby at_16)
    have K8 : Keep h0 h8 [] := K5.wr W8 (Or.inr sz_b2)
    have N8 := Fr.snoc X8 N5 g_b2
    have V_b2_8 : Arv Z h8 b2 k2 (.object "com/example/garm/garm/command/Option") (17 : Int32) [(.ref w_POD), (.ref w_BASE), .null, .null, .null, .null, .null, .null, .null, .null, .null, .null, .null, .null, .null, .null, .null] .null := Arv.set Ar7 qq7 Sz7 Nn7 Hs7 Gs7 rfl W8 1 rfl (Nat.le_of_ble_eq_true rfl)
    obtain ⟨T9, X9, e9, st9⟩ := getS2 X8 hx hZ hown (host := "") (Or.inl (hw _ (List.mem_of_getElem? (i := 8) rfl))) Via.refl e8 (own_staK S_RESOURCE K8 all0) (g := (mkF m 19 #[.val (.int p1), .unset, .unset, .unset, .unset, .unset, .unset, .unset] [(.int (2 : Int32)), (.ref b2), (.ref b2)])) rfl (hb hby at_19)
    obtain ⟨cl10, Ar10, qq10, Sz10, Nn10, Hs10, Gs10⟩ := id V_b2_8
    have hin10 : ¬ ((2 : Int32) < 0 ∨ cl10.slots.size ≤ ((2 : Int32)).toNatClampNeg) := inb_of Sz10 ⟨by decide, by decide⟩
    obtain ⟨T11, h11, X11, e11, W11, st11⟩ := stR X9 hx hZ e9 Ar10 (j := (2 : Int32)) hin10 rfl (Sto.ofV Ar10 qq10 O2 (Ins.self (E_RESOURCE.keep K8))) (g := (mkF m 22 #[.val (.int p1), .unset, .unset, .unset, .unset, .unset, .unset, .unset] [(.ref w_RESOURCE), (.int (2 : Int32)), (.ref b2), (.ref b2)])) rfl rfl (hb hby at_22)
    have K11 : Keep h0 h11 [] := K8.wr W11 (Or.inr sz_b2)
    have N11 := Fr.snoc X11 N8 g_b2
    have V_b2_11 : Arv Z h11 b2 k2 (.object "com/example/garm/garm/command/Option") (17 : Int32) [(.ref w_POD), (.ref w_BASE), (.ref w_RESOURCE), .null, .null, .null, .null, .null, .null, .null, .null, .null, .null, .null, .null, .null, .null] .null := Arv.set Ar10 qq10 Sz10 Nn10 Hs10 Gs10 rfl W11 2 rfl (Nat.le_of_ble_eq_true rfl)
    obtain ⟨T12, X12, e12, st12⟩ := getS2 X11 hx hZ hown (host := "") (Or.inl (hw _ (List.mem_of_getElem? (i := 10) rfl))) Via.refl e11 (own_staK S_AGENT K11 all0) (g := (mkF m 25 #[.val (.int p1), .unset, .unset, .unset, .unset, .unset, .unset, .unset] [(.int (3 : Int32)), (.ref b2), (.ref b2)])) rfl (hb hby at_25)
    obtain ⟨cl13, Ar13, qq13, Sz13, Nn13, Hs13, Gs13⟩ := id V_b2_11
    have hin13 : ¬ ((3 : Int32) < 0 ∨ cl13.slots.size ≤ ((3 : Int32)).toNatClampNeg) := inb_of Sz13 ⟨by decide, by decide⟩
    obtain ⟨T14, h14, X14, e14, W14, st14⟩ := stR X12 hx hZ e12 Ar13 (j := (3 : Int32)) hin13 rfl (Sto.ofV Ar13 qq13 O2 (Ins.self (E_AGENT.keep K11))) (g := (mkF m 28 #[.val (.int p1), .unset, .unset, .unset, .unset, .unset, .unset, .unset] [(.ref w_AGENT), (.int (3 : Int32)), (.ref b2), (.ref b2)])) rfl rfl (hb hby at_28)
    have K14 : Keep h0 h14 [] := K11.wr W14 (Or.inr sz_b2)
    have N14 := Fr.snoc X14 N11 g_b2
    have V_b2_14 : Arv Z h14 b2 k2 (.object "com/example/garm/garm/command/Option") (17 : Int32) [(.ref w_POD), (.ref w_BASE), (.ref w_RESOURCE), (.ref w_AGENT), .null, .null, .null, .null, .null, .null, .null, .null, .null, .null, .null, .null, .null] .null := Arv.set Ar13 qq13 Sz13 Nn13 Hs13 Gs13 rfl W14 3 rfl (Nat.le_of_ble_eq_true rfl)
    obtain ⟨T15, X15, e15, st15⟩ := getS2 X14 hx hZ hown (host := "") (Or.inl (hw _ (List.mem_of_getElem? (i := 12) rfl))) Via.refl e14 (own_staK S_CLIENT K14 all0) (g := (mkF m 31 #[.val (.int p1), .unset, .unset, .unset, .unset, .unset, .unset, .unset] [(.int (4 : Int32)), (.ref b2), (.ref b2)])) rfl (hb hby at_31)
    obtain ⟨cl16, Ar16, qq16, Sz16, Nn16, Hs16, Gs16⟩ := id V_b2_14
    have hin16 : ¬ ((4 : Int32) < 0 ∨ cl16.slots.size ≤ ((4 : Int32)).toNatClampNeg) := inb_of Sz16 ⟨by decide, by decide⟩
    obtain ⟨T17, h17, X17, e17, W17, st17⟩ := stR X15 hx hZ e15 Ar16 (j := (4 : Int32)) hin16 rfl (Sto.ofV Ar16 qq16 O2 (Ins.self (E_CLIENT.keep K14))) (g := (mkF m 34 #[.val (.int p1), .unset, .unset, .unset, .unset, .unset, .unset, .unset] [(.ref w_CLIENT), (.int (4 : Int32)), (.ref b2), (.ref b2)])) rfl rfl (hb hby at_34)
    have K17 : Keep h0 h17 [] := K14.wr W17 (Or.inr sz_b2)
    have N17 := Fr.snoc X17 N14 g_b2
    have V_b2_17 : Arv Z h17 b2 k2 (.object "com/example/garm/garm/command/Option") (17 : Int32) [(.ref w_POD), (.ref w_BASE), (.ref w_RESOURCE), (.ref w_AGENT), (.ref w_CLIENT), .null, .null, .null, .null, .null, .null, .null, .null, .null, .null, .null, .null] .null := Arv.set Ar16 qq16 Sz16 Nn16 Hs16 Gs16 rfl W17 4 rfl (Nat.le_of_ble_eq_true rfl)
    obtain ⟨T18, X18, e18, st18⟩ := getS2 X17 hx hZ hown (host := "") (Or.inl (hw _ (List.mem_of_getElem? (i := 14) rfl))) Via.refl e17 (own_staK S_ISSUER K17 all0) (g := (mkF m 37 #[.val (.int p1), .unset, .unset, .unset, .unset, .unset, .unset, .unset] [(.int (5 : Int32)), (.ref b2), (.ref b2)])) rfl (hb hby at_37)
    obtain ⟨cl19, Ar19, qq19, Sz19, Nn19, Hs19, Gs19⟩ := id V_b2_17
    have hin19 : ¬ ((5 : Int32) < 0 ∨ cl19.slots.size ≤ ((5 : Int32)).toNatClampNeg) := inb_of Sz19 ⟨by decide, by decide⟩
    obtain ⟨T20, h20, X20, e20, W20, st20⟩ := stR X18 hx hZ e18 Ar19 (j := (5 : Int32)) hin19 rfl (Sto.ofV Ar19 qq19 O2 (Ins.self (E_ISSUER.keep K17))) (g := (mkF m 40 #[.val (.int p1), .unset, .unset, .unset, .unset, .unset, .unset, .unset] [(.ref w_ISSUER), (.int (5 : Int32)), (.ref b2), (.ref b2)])) rfl rfl (hb hby at_40)
    have K20 : Keep h0 h20 [] := K17.wr W20 (Or.inr sz_b2)
    have N20 := Fr.snoc X20 N17 g_b2
    have V_b2_20 : Arv Z h20 b2 k2 (.object "com/example/garm/garm/command/Option") (17 : Int32) [(.ref w_POD), (.ref w_BASE), (.ref w_RESOURCE), (.ref w_AGENT), (.ref w_CLIENT), (.ref w_ISSUER), .null, .null, .null, .null, .null, .null, .null, .null, .null, .null, .null] .null := Arv.set Ar19 qq19 Sz19 Nn19 Hs19 Gs19 rfl W20 5 rfl (Nat.le_of_ble_eq_true rfl)
    obtain ⟨T21, X21, e21, st21⟩ := getS2 X20 hx hZ hown (host := "") (Or.inl (hw _ (List.mem_of_getElem? (i := 16) rfl))) Via.refl e20 (own_staK S_OWNER K20 all0) (g := (mkF m 44 #[.val (.int p1), .unset, .unset, .unset, .unset, .unset, .unset, .unset] [(.int (6 : Int32)), (.ref b2), (.ref b2)])) rfl (hb hby at_44)
    obtain ⟨cl22, Ar22, qq22, Sz22, Nn22, Hs22, Gs22⟩ := id V_b2_20
    have hin22 : ¬ ((6 : Int32) < 0 ∨ cl22.slots.size ≤ ((6 : Int32)).toNatClampNeg) := inb_of Sz22 ⟨by decide, by decide⟩
    obtain ⟨T23, h23, X23, e23, W23, st23⟩ := stR X21 hx hZ e21 Ar22 (j := (6 : Int32)) hin22 rfl (Sto.ofV Ar22 qq22 O2 (Ins.self (E_OWNER.keep K20))) (g := (mkF m 47 #[.val (.int p1), .unset, .unset, .unset, .unset, .unset, .unset, .unset] [(.ref w_OWNER), (.int (6 : Int32)), (.ref b2), (.ref b2)])) rfl rfl (hb hby at_47)
    have K23 : Keep h0 h23 [] := K20.wr W23 (Or.inr sz_b2)
    have N23 := Fr.snoc X23 N20 g_b2
    have V_b2_23 : Arv Z h23 b2 k2 (.object "com/example/garm/garm/command/Option") (17 : Int32) [(.ref w_POD), (.ref w_BASE), (.ref w_RESOURCE), (.ref w_AGENT), (.ref w_CLIENT), (.ref w_ISSUER), (.ref w_OWNER), .null, .null, .null, .null, .null, .null, .null, .null, .null, .null] .null := Arv.set Ar22 qq22 Sz22 Nn22 Hs22 Gs22 rfl W23 6 rfl (Nat.le_of_ble_eq_true rfl)
    obtain ⟨T24, X24, e24, st24⟩ := getS2 X23 hx hZ hown (host := "") (Or.inl (hw _ (List.mem_of_getElem? (i := 18) rfl))) Via.refl e23 (own_staK S_CREATOR K23 all0) (g := (mkF m 51 #[.val (.int p1), .unset, .unset, .unset, .unset, .unset, .unset, .unset] [(.int (7 : Int32)), (.ref b2), (.ref b2)])) rfl (hb hby at_51)
    obtain ⟨cl25, Ar25, qq25, Sz25, Nn25, Hs25, Gs25⟩ := id V_b2_23
    have hin25 : ¬ ((7 : Int32) < 0 ∨ cl25.slots.size ≤ ((7 : Int32)).toNatClampNeg) := inb_of Sz25 ⟨by decide, by decide⟩
    obtain ⟨T26, h26, X26, e26, W26, st26⟩ := stR X24 hx hZ e24 Ar25 (j := (7 : Int32)) hin25 rfl (Sto.ofV Ar25 qq25 O2 (Ins.self (E_CREATOR.keep K23))) (g := (mkF m 54 #[.val (.int p1), .unset, .unset, .unset, .unset, .unset, .unset, .unset] [(.ref w_CREATOR), (.int (7 : Int32)), (.ref b2), (.ref b2)])) rfl rfl (hb hby at_54)
    have K26 : Keep h0 h26 [] := K23.wr W26 (Or.inr sz_b2)
    have N26 := Fr.snoc X26 N23 g_b2
    have V_b2_26 : Arv Z h26 b2 k2 (.object "com/example/garm/garm/command/Option") (17 : Int32) [(.ref w_POD), (.ref w_BASE), (.ref w_RESOURCE), (.ref w_AGENT), (.ref w_CLIENT), (.ref w_ISSUER), (.ref w_OWNER), (.ref w_CREATOR), .null, .null, .null, .null, .null, .null, .null, .null, .null] .null := Arv.set Ar25 qq25 Sz25 Nn25 Hs25 Gs25 rfl W26 7 rfl (Nat.le_of_ble_eq_true rfl)
    obtain ⟨T27, X27, e27, st27⟩ := getS2 X26 hx hZ hown (host := "") (Or.inl (hw _ (List.mem_of_getElem? (i := 20) rfl))) Via.refl e26 (own_staK S_CREDENTIAL K26 all0) (g := (mkF m 58 #[.val (.int p1), .unset, .unset, .unset, .unset, .unset, .unset, .unset] [(.int (8 : Int32)), (.ref b2), (.ref b2)])) rfl (hb hby at_58)
    obtain ⟨cl28, Ar28, qq28, Sz28, Nn28, Hs28, Gs28⟩ := id V_b2_26
    have hin28 : ¬ ((8 : Int32) < 0 ∨ cl28.slots.size ≤ ((8 : Int32)).toNatClampNeg) := inb_of Sz28 ⟨by decide, by decide⟩
    obtain ⟨T29, h29, X29, e29, W29, st29⟩ := stR X27 hx hZ e27 Ar28 (j := (8 : Int32)) hin28 rfl (Sto.ofV Ar28 qq28 O2 (Ins.self (E_CREDENTIAL.keep K26))) (g := (mkF m 61 #[.val (.int p1), .unset, .unset, .unset, .unset, .unset, .unset, .unset] [(.ref w_CREDENTIAL), (.int (8 : Int32)), (.ref b2), (.ref b2)])) rfl rfl (hb hby at_61)
    have K29 : Keep h0 h29 [] := K26.wr W29 (Or.inr sz_b2)
    have N29 := Fr.snoc X29 N26 g_b2
    have V_b2_29 : Arv Z h29 b2 k2 (.object "com/example/garm/garm/command/Option") (17 : Int32) [(.ref w_POD), (.ref w_BASE), (.ref w_RESOURCE), (.ref w_AGENT), (.ref w_CLIENT), (.ref w_ISSUER), (.ref w_OWNER), (.ref w_CREATOR), (.ref w_CREDENTIAL), .null, .null, .null, .null, .null, .null, .null, .null] .null := Arv.set Ar28 qq28 Sz28 Nn28 Hs28 Gs28 rfl W29 8 rfl (Nat.le_of_ble_eq_true rfl)
    obtain ⟨T30, X30, e30, st30⟩ := getS2 X29 hx hZ hown (host := "") (Or.inl (hw _ (List.mem_of_getElem? (i := 22) rfl))) Via.refl e29 (own_staK S_REQUESTS K29 all0) (g := (mkF m 65 #[.val (.int p1), .unset, .unset, .unset, .unset, .unset, .unset, .unset] [(.int (9 : Int32)), (.ref b2), (.ref b2)])) rfl (hb hby at_65)
    obtain ⟨cl31, Ar31, qq31, Sz31, Nn31, Hs31, Gs31⟩ := id V_b2_29
    have hin31 : ¬ ((9 : Int32) < 0 ∨ cl31.slots.size ≤ ((9 : Int32)).toNatClampNeg) := inb_of Sz31 ⟨by decide, by decide⟩
    obtain ⟨T32, h32, X32, e32, W32, st32⟩ := stR X30 hx hZ e30 Ar31 (j := (9 : Int32)) hin31 rfl (Sto.ofV Ar31 qq31 O2 (Ins.self (E_REQUESTS.keep K29))) (g := (mkF m 68 #[.val (.int p1), .unset, .unset, .unset, .unset, .unset, .unset, .unset] [(.ref w_REQUESTS), (.int (9 : Int32)), (.ref b2), (.ref b2)])) rfl rfl (hb hby at_68)
    have K32 : Keep h0 h32 [] := K29.wr W32 (Or.inr sz_b2)
    have N32 := Fr.snoc X32 N29 g_b2
    have V_b2_32 : Arv Z h32 b2 k2 (.object "com/example/garm/garm/command/Option") (17 : Int32) [(.ref w_POD), (.ref w_BASE), (.ref w_RESOURCE), (.ref w_AGENT), (.ref w_CLIENT), (.ref w_ISSUER), (.ref w_OWNER), (.ref w_CREATOR), (.ref w_CREDENTIAL), (.ref w_REQUESTS), .null, .null, .null, .null, .null, .null, .null] .null := Arv.set Ar31 qq31 Sz31 Nn31 Hs31 Gs31 rfl W32 9 rfl (Nat.le_of_ble_eq_true rfl)
    obtain ⟨T33, X33, e33, st33⟩ := getS2 X32 hx hZ hown (host := "") (Or.inl (hw _ (List.mem_of_getElem? (i := 24) rfl))) Via.refl e32 (own_staK S_AGENTS K32 all0) (g := (mkF m 72 #[.val (.int p1), .unset, .unset, .unset, .unset, .unset, .unset, .unset] [(.int (10 : Int32)), (.ref b2), (.ref b2)])) rfl (hb hby at_72)
    obtain ⟨cl34, Ar34, qq34, Sz34, Nn34, Hs34, Gs34⟩ := id V_b2_32
    have hin34 : ¬ ((10 : Int32) < 0 ∨ cl34.slots.size ≤ ((10 : Int32)).toNatClampNeg) := inb_of Sz34 ⟨by decide, by decide⟩
    obtain ⟨T35, h35, X35, e35, W35, st35⟩ := stR X33 hx hZ e33 Ar34 (j := (10 : Int32)) hin34 rfl (Sto.ofV Ar34 qq34 O2 (Ins.self (E_AGENTS.keep K32))) (g := (mkF m 75 #[.val (.int p1), .unset, .unset, .unset, .unset, .unset, .unset, .unset] [(.ref w_AGENTS), (.int (10 : Int32)), (.ref b2), (.ref b2)])) rfl rfl (hb hby at_75)
    have K35 : Keep h0 h35 [] := K32.wr W35 (Or.inr sz_b2)
    have N35 := Fr.snoc X35 N32 g_b2
    have V_b2_35 : Arv Z h35 b2 k2 (.object "com/example/garm/garm/command/Option") (17 : Int32) [(.ref w_POD), (.ref w_BASE), (.ref w_RESOURCE), (.ref w_AGENT), (.ref w_CLIENT), (.ref w_ISSUER), (.ref w_OWNER), (.ref w_CREATOR), (.ref w_CREDENTIAL), (.ref w_REQUESTS), (.ref w_AGENTS), .null, .null, .null, .null, .null, .null] .null := Arv.set Ar34 qq34 Sz34 Nn34 Hs34 Gs34 rfl W35 10 rfl (Nat.le_of_ble_eq_true rfl)
    obtain ⟨T36, X36, e36, st36⟩ := getS2 X35 hx hZ hown (host := "") (Or.inl (hw _ (List.mem_of_getElem? (i := 26) rfl))) Via.refl e35 (own_staK S_STATS K35 all0) (g := (mkF m 79 #[.val (.int p1), .unset, .unset, .unset, .unset, .unset, .unset, .unset] [(.int (11 : Int32)), (.ref b2), (.ref b2)])) rfl (hb hby at_79)
    obtain ⟨cl37, Ar37, qq37, Sz37, Nn37, Hs37, Gs37⟩ := id V_b2_35
    have hin37 : ¬ ((11 : Int32) < 0 ∨ cl37.slots.size ≤ ((11 : Int32)).toNatClampNeg) := inb_of Sz37 ⟨by decide, by decide⟩
    obtain ⟨T38, h38, X38, e38, W38, st38⟩ := stR X36 hx hZ e36 Ar37 (j := (11 : Int32)) hin37 rfl (Sto.ofV Ar37 qq37 O2 (Ins.self (E_STATS.keep K35))) (g := (mkF m 82 #[.val (.int p1), .unset, .unset, .unset, .unset, .unset, .unset, .unset] [(.ref w_STATS), (.int (11 : Int32)), (.ref b2), (.ref b2)])) rfl rfl (hb hby at_82)
    have K38 : Keep h0 h38 [] := K35.wr W38 (Or.inr sz_b2)
    have N38 := Fr.snoc X38 N35 g_b2
    have V_b2_38 : Arv Z h38 b2 k2 (.object "com/example/garm/garm/command/Option") (17 : Int32) [(.ref w_POD), (.ref w_BASE), (.ref w_RESOURCE), (.ref w_AGENT), (.ref w_CLIENT), (.ref w_ISSUER), (.ref w_OWNER), (.ref w_CREATOR), (.ref w_CREDENTIAL), (.ref w_REQUESTS), (.ref w_AGENTS), (.ref w_STATS), .null, .null, .null, .null, .null] .null := Arv.set Ar37 qq37 Sz37 Nn37 Hs37 Gs37 rfl W38 11 rfl (Nat.le_of_ble_eq_true rfl)
    obtain ⟨T39, X39, e39, st39⟩ := getS2 X38 hx hZ hown (host := "") (Or.inl (hw _ (List.mem_of_getElem? (i := 28) rfl))) Via.refl e38 (own_staK S_WAC_ALLOW K38 all0) (g := (mkF m 86 #[.val (.int p1), .unset, .unset, .unset, .unset, .unset, .unset, .unset] [(.int (12 : Int32)), (.ref b2), (.ref b2)])) rfl (hb hby at_86)
    obtain ⟨cl40, Ar40, qq40, Sz40, Nn40, Hs40, Gs40⟩ := id V_b2_38
    have hin40 : ¬ ((12 : Int32) < 0 ∨ cl40.slots.size ≤ ((12 : Int32)).toNatClampNeg) := inb_of Sz40 ⟨by decide, by decide⟩
    obtain ⟨T41, h41, X41, e41, W41, st41⟩ := stR X39 hx hZ e39 Ar40 (j := (12 : Int32)) hin40 rfl (Sto.ofV Ar40 qq40 O2 (Ins.self (E_WAC_ALLOW.keep K38))) (g := (mkF m 89 #[.val (.int p1), .unset, .unset, .unset, .unset, .unset, .unset, .unset] [(.ref w_WAC_ALLOW), (.int (12 : Int32)), (.ref b2), (.ref b2)])) rfl rfl (hb hby at_89)
    have K41 : Keep h0 h41 [] := K38.wr W41 (Or.inr sz_b2)
    have N41 := Fr.snoc X41 N38 g_b2
    have V_b2_41 : Arv Z h41 b2 k2 (.object "com/example/garm/garm/command/Option") (17 : Int32) [(.ref w_POD), (.ref w_BASE), (.ref w_RESOURCE), (.ref w_AGENT), (.ref w_CLIENT), (.ref w_ISSUER), (.ref w_OWNER), (.ref w_CREATOR), (.ref w_CREDENTIAL), (.ref w_REQUESTS), (.ref w_AGENTS), (.ref w_STATS), (.ref w_WAC_ALLOW), .null, .null, .null, .null] .null := Arv.set Ar40 qq40 Sz40 Nn40 Hs40 Gs40 rfl W41 12 rfl (Nat.le_of_ble_eq_true rfl)
    obtain ⟨T42, X42, e42, st42⟩ := getS2 X41 hx hZ hown (host := "") (Or.inl (hw _ (List.mem_of_getElem? (i := 30) rfl))) Via.refl e41 (own_staK S_METHOD K41 all0) (g := (mkF m 93 #[.val (.int p1), .unset, .unset, .unset, .unset, .unset, .unset, .unset] [(.int (13 : Int32)), (.ref b2), (.ref b2)])) rfl (hb hby at_93)
    obtain ⟨cl43, Ar43, qq43, Sz43, Nn43, Hs43, Gs43⟩ := id V_b2_41
    have hin43 : ¬ ((13 : Int32) < 0 ∨ cl43.slots.size ≤ ((13 : Int32)).toNatClampNeg) := inb_of Sz43 ⟨by decide, by decide⟩
    obtain ⟨T44, h44, X44, e44, W44, st44⟩ := stR X42 hx hZ e42 Ar43 (j := (13 : Int32)) hin43 rfl (Sto.ofV Ar43 qq43 O2 (Ins.self (E_METHOD.keep K41))) (g := (mkF m 96 #[.val (.int p1), .unset, .unset, .unset, .unset, .unset, .unset, .unset] [(.ref w_METHOD), (.int (13 : Int32)), (.ref b2), (.ref b2)])) rfl rfl (hb hby at_96)
    have K44 : Keep h0 h44 [] := K41.wr W44 (Or.inr sz_b2)
    have N44 := Fr.snoc X44 N41 g_b2
    have V_b2_44 : Arv Z h44 b2 k2 (.object "com/example/garm/garm/command/Option") (17 : Int32) [(.ref w_POD), (.ref w_BASE), (.ref w_RESOURCE), (.ref w_AGENT), (.ref w_CLIENT), (.ref w_ISSUER), (.ref w_OWNER), (.ref w_CREATOR), (.ref w_CREDENTIAL), (.ref w_REQUESTS), (.ref w_AGENTS), (.ref w_STATS), (.ref w_WAC_ALLOW), (.ref w_METHOD), .null, .null, .null] .null := Arv.set Ar43 qq43 Sz43 Nn43 Hs43 Gs43 rfl W44 13 rfl (Nat.le_of_ble_eq_true rfl)
    obtain ⟨T45, X45, e45, st45⟩ := getS2 X44 hx hZ hown (host := "") (Or.inl (hw _ (List.mem_of_getElem? (i := 32) rfl))) Via.refl e44 (own_staK S_CREATES K44 all0) (g := (mkF m 100 #[.val (.int p1), .unset, .unset, .unset, .unset, .unset, .unset, .unset] [(.int (14 : Int32)), (.ref b2), (.ref b2)])) rfl (hb hby at_100)
    obtain ⟨cl46, Ar46, qq46, Sz46, Nn46, Hs46, Gs46⟩ := id V_b2_44
    have hin46 : ¬ ((14 : Int32) < 0 ∨ cl46.slots.size ≤ ((14 : Int32)).toNatClampNeg) := inb_of Sz46 ⟨by decide, by decide⟩
    obtain ⟨T47, h47, X47, e47, W47, st47⟩ := stR X45 hx hZ e45 Ar46 (j := (14 : Int32)) hin46 rfl (Sto.ofV Ar46 qq46 O2 (Ins.self (E_CREATES.keep K44))) (g := (mkF m 103 #[.val (.int p1), .unset, .unset, .unset, .unset, .unset, .unset, .unset] [(.ref w_CREATES), (.int (14 : Int32)), (.ref b2), (.ref b2)])) rfl rfl (hb hby at_103)
    have K47 : Keep h0 h47 [] := K44.wr W47 (Or.inr sz_b2)
    have N47 := Fr.snoc X47 N44 g_b2
    have V_b2_47 : Arv Z h47 b2 k2 (.object "com/example/garm/garm/command/Option") (17 : Int32) [(.ref w_POD), (.ref w_BASE), (.ref w_RESOURCE), (.ref w_AGENT), (.ref w_CLIENT), (.ref w_ISSUER), (.ref w_OWNER), (.ref w_CREATOR), (.ref w_CREDENTIAL), (.ref w_REQUESTS), (.ref w_AGENTS), (.ref w_STATS), (.ref w_WAC_ALLOW), (.ref w_METHOD), (.ref w_CREATES), .null, .null] .null := Arv.set Ar46 qq46 Sz46 Nn46 Hs46 Gs46 rfl W47 14 rfl (Nat.le_of_ble_eq_true rfl)
    obtain ⟨T48, X48, e48, st48⟩ := getS2 X47 hx hZ hown (host := "") (Or.inl (hw _ (List.mem_of_getElem? (i := 34) rfl))) Via.refl e47 (own_staK S_REMOVES K47 all0) (g := (mkF m 107 #[.val (.int p1), .unset, .unset, .unset, .unset, .unset, .unset, .unset] [(.int (15 : Int32)), (.ref b2), (.ref b2)])) rfl (hb hby at_107)
    obtain ⟨cl49, Ar49, qq49, Sz49, Nn49, Hs49, Gs49⟩ := id V_b2_47
    have hin49 : ¬ ((15 : Int32) < 0 ∨ cl49.slots.size ≤ ((15 : Int32)).toNatClampNeg) := inb_of Sz49 ⟨by decide, by decide⟩
    obtain ⟨T50, h50, X50, e50, W50, st50⟩ := stR X48 hx hZ e48 Ar49 (j := (15 : Int32)) hin49 rfl (Sto.ofV Ar49 qq49 O2 (Ins.self (E_REMOVES.keep K47))) (g := (mkF m 110 #[.val (.int p1), .unset, .unset, .unset, .unset, .unset, .unset, .unset] [(.ref w_REMOVES), (.int (15 : Int32)), (.ref b2), (.ref b2)])) rfl rfl (hb hby at_110)
    have K50 : Keep h0 h50 [] := K47.wr W50 (Or.inr sz_b2)
    have N50 := Fr.snoc X50 N47 g_b2
    have V_b2_50 : Arv Z h50 b2 k2 (.object "com/example/garm/garm/command/Option") (17 : Int32) [(.ref w_POD), (.ref w_BASE), (.ref w_RESOURCE), (.ref w_AGENT), (.ref w_CLIENT), (.ref w_ISSUER), (.ref w_OWNER), (.ref w_CREATOR), (.ref w_CREDENTIAL), (.ref w_REQUESTS), (.ref w_AGENTS), (.ref w_STATS), (.ref w_WAC_ALLOW), (.ref w_METHOD), (.ref w_CREATES), (.ref w_REMOVES), .null] .null := Arv.set Ar49 qq49 Sz49 Nn49 Hs49 Gs49 rfl W50 15 rfl (Nat.le_of_ble_eq_true rfl)
    obtain ⟨T51, X51, e51, st51⟩ := getS2 X50 hx hZ hown (host := "") (Or.inl (hw _ (List.mem_of_getElem? (i := 36) rfl))) Via.refl e50 (own_staK S_PORT K50 all0) (g := (mkF m 114 #[.val (.int p1), .unset, .unset, .unset, .unset, .unset, .unset, .unset] [(.int (16 : Int32)), (.ref b2), (.ref b2)])) rfl (hb hby at_114)
    obtain ⟨cl52, Ar52, qq52, Sz52, Nn52, Hs52, Gs52⟩ := id V_b2_50
    have hin52 : ¬ ((16 : Int32) < 0 ∨ cl52.slots.size ≤ ((16 : Int32)).toNatClampNeg) := inb_of Sz52 ⟨by decide, by decide⟩
    obtain ⟨T53, h53, X53, e53, W53, st53⟩ := stR X51 hx hZ e51 Ar52 (j := (16 : Int32)) hin52 rfl (Sto.ofV Ar52 qq52 O2 (Ins.self (E_PORT.keep K50))) (g := (mkF m 117 #[.val (.int p1), .unset, .unset, .unset, .unset, .unset, .unset, .unset] [(.ref w_PORT), (.int (16 : Int32)), (.ref b2), (.ref b2)])) rfl rfl (hb hby at_117)
    have K53 : Keep h0 h53 [] := K50.wr W53 (Or.inr sz_b2)
    have N53 := Fr.snoc X53 N50 g_b2
    have V_b2_53 : Arv Z h53 b2 k2 (.object "com/example/garm/garm/command/Option") (17 : Int32) [(.ref w_POD), (.ref w_BASE), (.ref w_RESOURCE), (.ref w_AGENT), (.ref w_CLIENT), (.ref w_ISSUER), (.ref w_OWNER), (.ref w_CREATOR), (.ref w_CREDENTIAL), (.ref w_REQUESTS), (.ref w_AGENTS), (.ref w_STATS), (.ref w_WAC_ALLOW), (.ref w_METHOD), (.ref w_CREATES), (.ref w_REMOVES), (.ref w_PORT)] .null := Arv.set Ar52 qq52 Sz52 Nn52 Hs52 Gs52 rfl W53 16 rfl (Nat.le_of_ble_eq_true rfl)
    have k54 : ∀ t, Steps p.tables e below (T53.setTop (mkF m 119 #[.val (.int p1), .val (.ref b2), .unset, .unset, .unset, .unset, .unset, .unset] [])) t → Steps p.tables e below (s₁.setTop (entryFrame m #[(.int p1)] maxLocals)) t := by
      intro t k
      refine pre0 t ?_
      show Steps p.tables e below (s₁.setTop (mkF m 0 #[.val (.int p1), .unset, .unset, .unset, .unset, .unset, .unset, .unset] [])) _
      refine XS.bipush X0.here hx rfl (hb hby at_0) ?_
      show Steps p.tables e below (s₁.setTop (mkF m 2 #[.val (.int p1), .unset, .unset, .unset, .unset, .unset, .unset, .unset] [(.int (17 : Int32))])) _
      refine st2 _ ?_
      show Steps p.tables e below (T2.setTop (mkF m 5 #[.val (.int p1), .unset, .unset, .unset, .unset, .unset, .unset, .unset] [(.ref b2)])) _
      refine XS.dup X2.here hx rfl (hb hby at_5) rfl rfl ?_
      show Steps p.tables e below (T2.setTop (mkF m 6 #[.val (.int p1), .unset, .unset, .unset, .unset, .unset, .unset, .unset] [(.ref b2), (.ref b2)])) _
      refine XS.iconst X2.here hx rfl (hb hby at_6) ?_
      show Steps p.tables e below (T2.setTop (mkF m 7 #[.val (.int p1), .unset, .unset, .unset, .unset, .unset, .unset, .unset] [(.int (0 : Int32)), (.ref b2), (.ref b2)])) _
      refine st3 _ ?_
      show Steps p.tables e below (T3.setTop (mkF m 10 #[.val (.int p1), .unset, .unset, .unset, .unset, .unset, .unset, .unset] [(.ref w_POD), (.int (0 : Int32)), (.ref b2), (.ref b2)])) _
      refine st5 _ ?_
      show Steps p.tables e below (T5.setTop (mkF m 11 #[.val (.int p1), .unset, .unset, .unset, .unset, .unset, .unset, .unset] [(.ref b2)])) _
      refine XS.dup X5.here hx rfl (hb hby at_11) rfl rfl ?_
      show Steps p.tables e below (T5.setTop (mkF m 12 #[.val (.int p1), .unset, .unset, .unset, .unset, .unset, .unset, .unset] [(.ref b2), (.ref b2)])) _
      refine XS.iconst X5.here hx rfl (hb hby at_12) ?_
      show Steps p.tables e below (T5.setTop (mkF m 13 #[.val (.int p1), .unset, .unset, .unset, .unset, .unset, .unset, .unset] [(.int (1 : Int32)), (.ref b2), (.ref b2)])) _
      refine st6 _ ?_
      show Steps p.tables e below (T6.setTop (mkF m 16 #[.val (.int p1), .unset, .unset, .unset, .unset, .unset, .unset, .unset] [(.ref w_BASE), (.int (1 : Int32)), (.ref b2), (.ref b2)])) _
      refine st8 _ ?_
      show Steps p.tables e below (T8.setTop (mkF m 17 #[.val (.int p1), .unset, .unset, .unset, .unset, .unset, .unset, .unset] [(.ref b2)])) _
      refine XS.dup X8.here hx rfl (hb hby at_17) rfl rfl ?_
      show Steps p.tables e below (T8.setTop (mkF m 18 #[.val (.int p1), .unset, .unset, .unset, .unset, .unset, .unset, .unset] [(.ref b2), (.ref b2)])) _
      refine XS.iconst X8.here hx rfl (hb hby at_18) ?_
      show Steps p.tables e below (T8.setTop (mkF m 19 #[.val (.int p1), .unset, .unset, .unset, .unset, .unset, .unset, .unset] [(.int (2 : Int32)), (.ref b2), (.ref b2)])) _
      refine st9 _ ?_
      show Steps p.tables e below (T9.setTop (mkF m 22 #[.val (.int p1), .unset, .unset, .unset, .unset, .unset, .unset, .unset] [(.ref w_RESOURCE), (.int (2 : Int32)), (.ref b2), (.ref b2)])) _
      refine st11 _ ?_
      show Steps p.tables e below (T11.setTop (mkF m 23 #[.val (.int p1), .unset, .unset, .unset, .unset, .unset, .unset, .unset] [(.ref b2)])) _
      refine XS.dup X11.here hx rfl (hb hby at_23) rfl rfl ?_
      show Steps p.tables e below (T11.setTop (mkF m 24 #[.val (.int p1), .unset, .unset, .unset, .unset, .unset, .unset, .unset] [(.ref b2), (.ref b2)])) _
      refine XS.iconst X11.here hx rfl (hb hby at_24) ?_
      show Steps p.tables e below (T11.setTop (mkF m 25 #[.val (.int p1), .unset, .unset, .unset, .unset, .unset, .unset, .unset] [(.int (3 : Int32)), (.ref b2), (.ref b2)])) _
      refine st12 _ ?_
      show Steps p.tables e below (T12.setTop (mkF m 28 #[.val (.int p1), .unset, .unset, .unset, .unset, .unset, .unset, .unset] [(.ref w_AGENT), (.int (3 : Int32)), (.ref b2), (.ref b2)])) _
      refine st14 _ ?_
      show Steps p.tables e below (T14.setTop (mkF m 29 #[.val (.int p1), .unset, .unset, .unset, .unset, .unset, .unset, .unset] [(.ref b2)])) _
      refine XS.dup X14.here hx rfl (hb hby at_29) rfl rfl ?_
      show Steps p.tables e below (T14.setTop (mkF m 30 #[.val (.int p1), .unset, .unset, .unset, .unset, .unset, .unset, .unset] [(.ref b2), (.ref b2)])) _
      refine XS.iconst X14.here hx rfl (hb hby at_30) ?_
      show Steps p.tables e below (T14.setTop (mkF m 31 #[.val (.int p1), .unset, .unset, .unset, .unset, .unset, .unset, .unset] [(.int (4 : Int32)), (.ref b2), (.ref b2)])) _
      refine st15 _ ?_
      show Steps p.tables e below (T15.setTop (mkF m 34 #[.val (.int p1), .unset, .unset, .unset, .unset, .unset, .unset, .unset] [(.ref w_CLIENT), (.int (4 : Int32)), (.ref b2), (.ref b2)])) _
      refine st17 _ ?_
      show Steps p.tables e below (T17.setTop (mkF m 35 #[.val (.int p1), .unset, .unset, .unset, .unset, .unset, .unset, .unset] [(.ref b2)])) _
      refine XS.dup X17.here hx rfl (hb hby at_35) rfl rfl ?_
      show Steps p.tables e below (T17.setTop (mkF m 36 #[.val (.int p1), .unset, .unset, .unset, .unset, .unset, .unset, .unset] [(.ref b2), (.ref b2)])) _
      refine XS.iconst X17.here hx rfl (hb hby at_36) ?_
      show Steps p.tables e below (T17.setTop (mkF m 37 #[.val (.int p1), .unset, .unset, .unset, .unset, .unset, .unset, .unset] [(.int (5 : Int32)), (.ref b2), (.ref b2)])) _
      refine st18 _ ?_
      show Steps p.tables e below (T18.setTop (mkF m 40 #[.val (.int p1), .unset, .unset, .unset, .unset, .unset, .unset, .unset] [(.ref w_ISSUER), (.int (5 : Int32)), (.ref b2), (.ref b2)])) _
      refine st20 _ ?_
      show Steps p.tables e below (T20.setTop (mkF m 41 #[.val (.int p1), .unset, .unset, .unset, .unset, .unset, .unset, .unset] [(.ref b2)])) _
      refine XS.dup X20.here hx rfl (hb hby at_41) rfl rfl ?_
      show Steps p.tables e below (T20.setTop (mkF m 42 #[.val (.int p1), .unset, .unset, .unset, .unset, .unset, .unset, .unset] [(.ref b2), (.ref b2)])) _
      refine XS.bipush X20.here hx rfl (hb hby at_42) ?_
      show Steps p.tables e below (T20.setTop (mkF m 44 #[.val (.int p1), .unset, .unset, .unset, .unset, .unset, .unset, .unset] [(.int (6 : Int32)), (.ref b2), (.ref b2)])) _
      refine st21 _ ?_
      show Steps p.tables e below (T21.setTop (mkF m 47 #[.val (.int p1), .unset, .unset, .unset, .unset, .unset, .unset, .unset] [(.ref w_OWNER), (.int (6 : Int32)), (.ref b2), (.ref b2)])) _
      refine st23 _ ?_
      show Steps p.tables e below (T23.setTop (mkF m 48 #[.val (.int p1), .unset, .unset, .unset, .unset, .unset, .unset, .unset] [(.ref b2)])) _
      refine XS.dup X23.here hx rfl (hb hby at_48) rfl rfl ?_
      show Steps p.tables e below (T23.setTop (mkF m 49 #[.val (.int p1), .unset, .unset, .unset, .unset, .unset, .unset, .unset] [(.ref b2), (.ref b2)])) _
      refine XS.bipush X23.here hx rfl (hb hby at_49) ?_
      show Steps p.tables e below (T23.setTop (mkF m 51 #[.val (.int p1), .unset, .unset, .unset, .unset, .unset, .unset, .unset] [(.int (7 : Int32)), (.ref b2), (.ref b2)])) _
      refine st24 _ ?_
      show Steps p.tables e below (T24.setTop (mkF m 54 #[.val (.int p1), .unset, .unset, .unset, .unset, .unset, .unset, .unset] [(.ref w_CREATOR), (.int (7 : Int32)), (.ref b2), (.ref b2)])) _
      refine st26 _ ?_
      show Steps p.tables e below (T26.setTop (mkF m 55 #[.val (.int p1), .unset, .unset, .unset, .unset, .unset, .unset, .unset] [(.ref b2)])) _
      refine XS.dup X26.here hx rfl (hb hby at_55) rfl rfl ?_
      show Steps p.tables e below (T26.setTop (mkF m 56 #[.val (.int p1), .unset, .unset, .unset, .unset, .unset, .unset, .unset] [(.ref b2), (.ref b2)])) _
      refine XS.bipush X26.here hx rfl (hb hby at_56) ?_
      show Steps p.tables e below (T26.setTop (mkF m 58 #[.val (.int p1), .unset, .unset, .unset, .unset, .unset, .unset, .unset] [(.int (8 : Int32)), (.ref b2), (.ref b2)])) _
      refine st27 _ ?_
      show Steps p.tables e below (T27.setTop (mkF m 61 #[.val (.int p1), .unset, .unset, .unset, .unset, .unset, .unset, .unset] [(.ref w_CREDENTIAL), (.int (8 : Int32)), (.ref b2), (.ref b2)])) _
      refine st29 _ ?_
      show Steps p.tables e below (T29.setTop (mkF m 62 #[.val (.int p1), .unset, .unset, .unset, .unset, .unset, .unset, .unset] [(.ref b2)])) _
      refine XS.dup X29.here hx rfl (hb hby at_62) rfl rfl ?_
      show Steps p.tables e below (T29.setTop (mkF m 63 #[.val (.int p1), .unset, .unset, .unset, .unset, .unset, .unset, .unset] [(.ref b2), (.ref b2)])) _
      refine XS.bipush X29.here hx rfl (hb hby at_63) ?_
      show Steps p.tables e below (T29.setTop (mkF m 65 #[.val (.int p1), .unset, .unset, .unset, .unset, .unset, .unset, .unset] [(.int (9 : Int32)), (.ref b2), (.ref b2)])) _
      refine st30 _ ?_
      show Steps p.tables e below (T30.setTop (mkF m 68 #[.val (.int p1), .unset, .unset, .unset, .unset, .unset, .unset, .unset] [(.ref w_REQUESTS), (.int (9 : Int32)), (.ref b2), (.ref b2)])) _
      refine st32 _ ?_
      show Steps p.tables e below (T32.setTop (mkF m 69 #[.val (.int p1), .unset, .unset, .unset, .unset, .unset, .unset, .unset] [(.ref b2)])) _
      refine XS.dup X32.here hx rfl (hb hby at_69) rfl rfl ?_
      show Steps p.tables e below (T32.setTop (mkF m 70 #[.val (.int p1), .unset, .unset, .unset, .unset, .unset, .unset, .unset] [(.ref b2), (.ref b2)])) _
      refine XS.bipush X32.here hx rfl (hb hby at_70) ?_
      show Steps p.tables e below (T32.setTop (mkF m 72 #[.val (.int p1), .unset, .unset, .unset, .unset, .unset, .unset, .unset] [(.int (10 : Int32)), (.ref b2), (.ref b2)])) _
      refine st33 _ ?_
      show Steps p.tables e below (T33.setTop (mkF m 75 #[.val (.int p1), .unset, .unset, .unset, .unset, .unset, .unset, .unset] [(.ref w_AGENTS), (.int (10 : Int32)), (.ref b2), (.ref b2)])) _
      refine st35 _ ?_
      show Steps p.tables e below (T35.setTop (mkF m 76 #[.val (.int p1), .unset, .unset, .unset, .unset, .unset, .unset, .unset] [(.ref b2)])) _
      refine XS.dup X35.here hx rfl (hb hby at_76) rfl rfl ?_
      show Steps p.tables e below (T35.setTop (mkF m 77 #[.val (.int p1), .unset, .unset, .unset, .unset, .unset, .unset, .unset] [(.ref b2), (.ref b2)])) _
      refine XS.bipush X35.here hx rfl (hb hby at_77) ?_
      show Steps p.tables e below (T35.setTop (mkF m 79 #[.val (.int p1), .unset, .unset, .unset, .unset, .unset, .unset, .unset] [(.int (11 : Int32)), (.ref b2), (.ref b2)])) _
      refine st36 _ ?_
      show Steps p.tables e below (T36.setTop (mkF m 82 #[.val (.int p1), .unset, .unset, .unset, .unset, .unset, .unset, .unset] [(.ref w_STATS), (.int (11 : Int32)), (.ref b2), (.ref b2)])) _
      refine st38 _ ?_
      show Steps p.tables e below (T38.setTop (mkF m 83 #[.val (.int p1), .unset, .unset, .unset, .unset, .unset, .unset, .unset] [(.ref b2)])) _
      refine XS.dup X38.here hx rfl (hb hby at_83) rfl rfl ?_
      show Steps p.tables e below (T38.setTop (mkF m 84 #[.val (.int p1), .unset, .unset, .unset, .unset, .unset, .unset, .unset] [(.ref b2), (.ref b2)])) _
      refine XS.bipush X38.here hx rfl (hb hby at_84) ?_
      show Steps p.tables e below (T38.setTop (mkF m 86 #[.val (.int p1), .unset, .unset, .unset, .unset, .unset, .unset, .unset] [(.int (12 : Int32)), (.ref b2), (.ref b2)])) _
      refine st39 _ ?_
      show Steps p.tables e below (T39.setTop (mkF m 89 #[.val (.int p1), .unset, .unset, .unset, .unset, .unset, .unset, .unset] [(.ref w_WAC_ALLOW), (.int (12 : Int32)), (.ref b2), (.ref b2)])) _
      refine st41 _ ?_
      show Steps p.tables e below (T41.setTop (mkF m 90 #[.val (.int p1), .unset, .unset, .unset, .unset, .unset, .unset, .unset] [(.ref b2)])) _
      refine XS.dup X41.here hx rfl (hb hby at_90) rfl rfl ?_
      show Steps p.tables e below (T41.setTop (mkF m 91 #[.val (.int p1), .unset, .unset, .unset, .unset, .unset, .unset, .unset] [(.ref b2), (.ref b2)])) _
      refine XS.bipush X41.here hx rfl (hb hby at_91) ?_
      show Steps p.tables e below (T41.setTop (mkF m 93 #[.val (.int p1), .unset, .unset, .unset, .unset, .unset, .unset, .unset] [(.int (13 : Int32)), (.ref b2), (.ref b2)])) _
      refine st42 _ ?_
      show Steps p.tables e below (T42.setTop (mkF m 96 #[.val (.int p1), .unset, .unset, .unset, .unset, .unset, .unset, .unset] [(.ref w_METHOD), (.int (13 : Int32)), (.ref b2), (.ref b2)])) _
      refine st44 _ ?_
      show Steps p.tables e below (T44.setTop (mkF m 97 #[.val (.int p1), .unset, .unset, .unset, .unset, .unset, .unset, .unset] [(.ref b2)])) _
      refine XS.dup X44.here hx rfl (hb hby at_97) rfl rfl ?_
      show Steps p.tables e below (T44.setTop (mkF m 98 #[.val (.int p1), .unset, .unset, .unset, .unset, .unset, .unset, .unset] [(.ref b2), (.ref b2)])) _
      refine XS.bipush X44.here hx rfl (hb hby at_98) ?_
      show Steps p.tables e below (T44.setTop (mkF m 100 #[.val (.int p1), .unset, .unset, .unset, .unset, .unset, .unset, .unset] [(.int (14 : Int32)), (.ref b2), (.ref b2)])) _
      refine st45 _ ?_
      show Steps p.tables e below (T45.setTop (mkF m 103 #[.val (.int p1), .unset, .unset, .unset, .unset, .unset, .unset, .unset] [(.ref w_CREATES), (.int (14 : Int32)), (.ref b2), (.ref b2)])) _
      refine st47 _ ?_
      show Steps p.tables e below (T47.setTop (mkF m 104 #[.val (.int p1), .unset, .unset, .unset, .unset, .unset, .unset, .unset] [(.ref b2)])) _
      refine XS.dup X47.here hx rfl (hb hby at_104) rfl rfl ?_
      show Steps p.tables e below (T47.setTop (mkF m 105 #[.val (.int p1), .unset, .unset, .unset, .unset, .unset, .unset, .unset] [(.ref b2), (.ref b2)])) _
      refine XS.bipush X47.here hx rfl (hb hby at_105) ?_
      show Steps p.tables e below (T47.setTop (mkF m 107 #[.val (.int p1), .unset, .unset, .unset, .unset, .unset, .unset, .unset] [(.int (15 : Int32)), (.ref b2), (.ref b2)])) _
      refine st48 _ ?_
      show Steps p.tables e below (T48.setTop (mkF m 110 #[.val (.int p1), .unset, .unset, .unset, .unset, .unset, .unset, .unset] [(.ref w_REMOVES), (.int (15 : Int32)), (.ref b2), (.ref b2)])) _
      refine st50 _ ?_
      show Steps p.tables e below (T50.setTop (mkF m 111 #[.val (.int p1), .unset, .unset, .unset, .unset, .unset, .unset, .unset] [(.ref b2)])) _
      refine XS.dup X50.here hx rfl (hb hby at_111) rfl rfl ?_
      show Steps p.tables e below (T50.setTop (mkF m 112 #[.val (.int p1), .unset, .unset, .unset, .unset, .unset, .unset, .unset] [(.ref b2), (.ref b2)])) _
      refine XS.bipush X50.here hx rfl (hb hby at_112) ?_
      show Steps p.tables e below (T50.setTop (mkF m 114 #[.val (.int p1), .unset, .unset, .unset, .unset, .unset, .unset, .unset] [(.int (16 : Int32)), (.ref b2), (.ref b2)])) _
      refine st51 _ ?_
      show Steps p.tables e below (T51.setTop (mkF m 117 #[.val (.int p1), .unset, .unset, .unset, .unset, .unset, .unset, .unset] [(.ref w_PORT), (.int (16 : Int32)), (.ref b2), (.ref b2)])) _
      refine st53 _ ?_
      show Steps p.tables e below (T53.setTop (mkF m 118 #[.val (.int p1), .unset, .unset, .unset, .unset, .unset, .unset, .unset] [(.ref b2)])) _
      refine XS.astoreN X53.here hx rfl (hb hby at_118) rfl rfl (l' := #[.val (.int p1), .val (.ref b2), .unset, .unset, .unset, .unset, .unset, .unset]) rfl ?_
      exact k
    exact ⟨b2, k2, _, T53, _, X53, e53, N53, K53, ⟨g_b2, sz_b2⟩, O2, V_b2_53, k54⟩
  have k55 : ∀ t, Steps p.tables e below (T1.setTop (mkF m 126 #[.val (.int p1), .val (.ref b2), .unset, .unset, .unset, .unset, .unset, .unset] [(.int ((p1 &&& (2147483647 : Int32)) % (17 : Int32)))])) t → Steps p.tables e below (s₁.setTop (entryFrame m #[(.int p1)] maxLocals)) t := by
    intro t k
    refine k1 t ?_
    show Steps p.tables e below (T1.setTop (mkF m 119 #[.val (.int p1), .val (.ref b2), .unset, .unset, .unset, .unset, .unset, .unset] [])) _
    refine XS.iloadN X1.here hx rfl (hb hby at_119) rfl ?_
    show Steps p.tables e below (T1.setTop (mkF m 120 #[.val (.int p1), .val (.ref b2), .unset, .unset, .unset, .unset, .unset, .unset] [(.int p1)])) _
    refine X1.ldcInt hx hown (mvT hZ (hw _ (List.mem_of_getElem? (i := 38) rfl))) (g := (mkF m 120 #[.val (.int p1), .val (.ref b2), .unset, .unset, .unset, .unset, .unset, .unset] [(.int p1)])) rfl (hb hby at_120) _ ?_
    show Steps p.tables e below (T1.setTop (mkF m 122 #[.val (.int p1), .val (.ref b2), .unset, .unset, .unset, .unset, .unset, .unset] [(.int (2147483647 : Int32)), (.int p1)])) _
    refine XS.iand X1.here hx rfl (hb hby at_122) rfl ?_
    show Steps p.tables e below (T1.setTop (mkF m 123 #[.val (.int p1), .val (.ref b2), .unset, .unset, .unset, .unset, .unset, .unset] [(.int (p1 &&& (2147483647 : Int32)))])) _
    refine XS.bipush X1.here hx rfl (hb hby at_123) ?_
    show Steps p.tables e below (T1.setTop (mkF m 125 #[.val (.int p1), .val (.ref b2), .unset, .unset, .unset, .unset, .unset, .unset] [(.int (17 : Int32)), (.int (p1 &&& (2147483647 : Int32)))])) _
    refine iremM X1 hx rfl (hb hby at_125) rfl (by decide) ?_
    show Steps p.tables e below (T1.setTop (mkF m 126 #[.val (.int p1), .val (.ref b2), .unset, .unset, .unset, .unset, .unset, .unset] [(.int ((p1 &&& (2147483647 : Int32)) % (17 : Int32)))])) _
    exact k
  rcases (own_c0 p1) with hk56_0 | hk57_1 | hk58_2 | hk59_3 | hk60_4 | hk61_5 | hk62_6 | hk63_7 | hk64_8 | hk65_9 | hk66_10 | hk67_11 | hk68_12 | hk69_13 | hk70_14 | hk71_15 | hk72_16
  ·
    obtain ⟨cl73, Ar73, qq73, Sz73, Nn73, Hs73, Gs73⟩ := id pf1_0
    have hin73 : ¬ ((0 : Int32) < 0 ∨ cl73.slots.size ≤ ((0 : Int32)).toNatClampNeg) := inb_of Sz73 ⟨by decide, by decide⟩
    have hat73 : cl73.slots[((0 : Int32)).toNatClampNeg]? = some (.ref w_POD) := Has.at Hs73 hin73 rfl
    obtain ⟨cq74, kq74, q74a, q74b, q74c⟩ := isOf hZ e1 (E_POD.keep K1)
    obtain ⟨_, _, ⟨T74, L74, k74, n74⟩, -, X74, ⟨Lc74, hQ74, l74, y74, z74⟩, st74⟩ := X1.virtualBack hx (y := (⟨"com/example/garm/garm/command/Option", "takesValue", "()Z"⟩ : MethodName)) (z := (⟨"com/example/garm/garm/command/Option", "takesValue", "()Z"⟩ : MethodName)) hown (mvT hZ (hw _ (List.mem_of_getElem? (i := 39) rfl))) (mvT hZ (hw _ (List.mem_of_getElem? (i := 40) rfl))) (notFace_of_selects (args := #[]) (mvT hZ (hw _ (List.mem_of_getElem? (i := 42) rfl)))) (mvT hZ (hw _ (List.mem_of_getElem? (i := 42) rfl))) (mvT hZ (hw _ (List.mem_of_getElem? (i := 41) rfl))) (by decide) (backOf (W := 0) (rm1_0 l Z a0 hw [] w_POD w_VALUE w_FLAG h1 n0 (Nat.le_trans Z0 K1.1) (F_form_POD.keep K1 nin0) (own_staK S_FLAG K1 all0) ne_FLAG_VALUE) hZ (hw _ (List.mem_of_getElem? (i := 43) rfl)) (hw _ (List.mem_of_getElem? (i := 3) rfl)) (by decide) (by decide)) q74a q74c (g := (mkF m 175 #[.val (.int p1), .val (.ref b2), .val (.int (0 : Int32)), .val (.ref w_POD), .val (.int (0 : Int32)), .val (.int (1 : Int32)), .unset, .unset] [(.ref w_POD)])) rfl (by rw [hml]; rfl) (Steps.refl _) (argsL := []) (rest := []) (lenOf pd_0 rfl) rfl (by show 2 * 0 + _ ≤ _; exact Nat.le_of_eq rfl) (hb hby at_175) (fun _ _ => ⟨rfl, e1, (by decide : 1 + 0 ≤ _), (by decide : 17 + 0 ≤ _)⟩)
    dsimp only [Pt.U, Pt.locs, Pt.cells, Pt.slots] at X74 l74 y74 z74 st74 hQ74
    subst l74 y74 z74
    obtain ⟨rfl, N74q, e74⟩ := hQ74
    have N74 := Fr.app N1 N74q
    obtain ⟨cq75, kq75, q75a, q75b, q75c⟩ := isOf hZ e74 (E_POD.keep K1)
    obtain ⟨_, _, ⟨T75, L75, k75, n75⟩, -, X75, ⟨Lc75, hQ75, l75, y75, z75⟩, st75⟩ := X74.virtualBack hx (y := (⟨"com/example/garm/garm/command/Option", "isRepeatable", "()Z"⟩ : MethodName)) (z := (⟨"com/example/garm/garm/command/Option", "isRepeatable", "()Z"⟩ : MethodName)) hown (mvT hZ (hw _ (List.mem_of_getElem? (i := 50) rfl))) (mvT hZ (hw _ (List.mem_of_getElem? (i := 51) rfl))) (notFace_of_selects (args := #[]) (mvT hZ (hw _ (List.mem_of_getElem? (i := 53) rfl)))) (mvT hZ (hw _ (List.mem_of_getElem? (i := 53) rfl))) (mvT hZ (hw _ (List.mem_of_getElem? (i := 52) rfl))) (by decide) (backOf (W := 0) (rm2_0 l Z a0 hw [] w_POD w_VALUE w_REPEATED_VALUE h1 n0 (Nat.le_trans Z0 K1.1) (F_form_POD.keep K1 nin0) (own_staK S_REPEATED_VALUE K1 all0) ne_REPEATED_VALUE_VALUE) hZ (hw _ (List.mem_of_getElem? (i := 54) rfl)) (hw _ (List.mem_of_getElem? (i := 3) rfl)) (by decide) (by decide)) q75a q75c (g := (mkF m 181 #[.val (.int p1), .val (.ref b2), .val (.int (0 : Int32)), .val (.ref w_POD), .val (.int (0 : Int32)), .val (.int (1 : Int32)), .val (.int (1 : Int32)), .unset] [(.ref w_POD)])) rfl (by rw [hml]; rfl) (Steps.refl _) (argsL := []) (rest := []) (lenOf pd_0 rfl) rfl (by show 2 * 0 + _ ≤ _; exact Nat.le_of_eq rfl) (hb hby at_181) (fun _ _ => ⟨rfl, e74, (by decide : 1 + 0 ≤ _), (by decide : 17 + 0 ≤ _)⟩)
    dsimp only [Pt.U, Pt.locs, Pt.cells, Pt.slots] at X75 l75 y75 z75 st75 hQ75
    subst l75 y75 z75
    obtain ⟨rfl, N75q, e75⟩ := hQ75
    have N75 := Fr.app N74 N75q
    obtain ⟨fs, hr, hrun, hended, hW, hsame⟩ := X75.leave (v := some (.int (1 : Int32))) (fun h => by rw [Bd.returns] at h; cases h)
    refine ⟨_, _, k55 _ ?_, hrun, hended, _, _, rfl, ?_, ⟨_, rfl⟩, hW, hsame.mono (by decide) (by decide)⟩
    ·
      show Steps p.tables e below (T1.setTop (mkF m 126 #[.val (.int p1), .val (.ref b2), .unset, .unset, .unset, .unset, .unset, .unset] [(.int ((p1 &&& (2147483647 : Int32)) % (17 : Int32)))])) _
      rewrite [hk56_0]
      show Steps p.tables e below (T1.setTop (mkF m 126 #[.val (.int p1), .val (.ref b2), .unset, .unset, .unset, .unset, .unset, .unset] [(.int (0 : Int32))])) _
      refine XS.istoreN X1.here hx rfl (hb hby at_126) rfl (l' := #[.val (.int p1), .val (.ref b2), .val (.int (0 : Int32)), .unset, .unset, .unset, .unset, .unset]) rfl ?_
      show Steps p.tables e below (T1.setTop (mkF m 127 #[.val (.int p1), .val (.ref b2), .val (.int (0 : Int32)), .unset, .unset, .unset, .unset, .unset] [])) _
      refine XS.aloadN X1.here hx rfl (hb hby at_127) rfl rfl ?_
      show Steps p.tables e below (T1.setTop (mkF m 128 #[.val (.int p1), .val (.ref b2), .val (.int (0 : Int32)), .unset, .unset, .unset, .unset, .unset] [(.ref b2)])) _
      refine XS.iloadN X1.here hx rfl (hb hby at_128) rfl ?_
      show Steps p.tables e below (T1.setTop (mkF m 129 #[.val (.int p1), .val (.ref b2), .val (.int (0 : Int32)), .unset, .unset, .unset, .unset, .unset] [(.int (0 : Int32)), (.ref b2)])) _
      refine X1.aaload hx (j := (0 : Int32)) (v := (.ref w_POD)) (by rw [e1]; exact Ar73.1) (State.isArrayOf_alike hZ.alike Ar73.2.1) rfl Ar73.2.2 hin73 hat73 (g := (mkF m 129 #[.val (.int p1), .val (.ref b2), .val (.int (0 : Int32)), .unset, .unset, .unset, .unset, .unset] [(.int (0 : Int32)), (.ref b2)])) rfl rfl (hb hby at_129) _ ?_
      show Steps p.tables e below (T1.setTop (mkF m 130 #[.val (.int p1), .val (.ref b2), .val (.int (0 : Int32)), .unset, .unset, .unset, .unset, .unset] [(.ref w_POD)])) _
      refine XS.astoreN X1.here hx rfl (hb hby at_130) rfl rfl (l' := #[.val (.int p1), .val (.ref b2), .val (.int (0 : Int32)), .val (.ref w_POD), .unset, .unset, .unset, .unset]) rfl ?_
      show Steps p.tables e below (T1.setTop (mkF m 131 #[.val (.int p1), .val (.ref b2), .val (.int (0 : Int32)), .val (.ref w_POD), .unset, .unset, .unset, .unset] [])) _
      refine XS.iloadN X1.here hx rfl (hb hby at_131) rfl ?_
      show Steps p.tables e below (T1.setTop (mkF m 132 #[.val (.int p1), .val (.ref b2), .val (.int (0 : Int32)), .val (.ref w_POD), .unset, .unset, .unset, .unset] [(.int (0 : Int32))])) _
      refine XS.bipush X1.here hx rfl (hb hby at_132) ?_
      show Steps p.tables e below (T1.setTop (mkF m 134 #[.val (.int p1), .val (.ref b2), .val (.int (0 : Int32)), .val (.ref w_POD), .unset, .unset, .unset, .unset] [(.int (11 : Int32)), (.int (0 : Int32))])) _
      refine XS.icmpNo X1.here hx rfl (hb hby at_134) rfl (feq (by decide : ¬ ((0 : Int32) = (11 : Int32)))).1 ?_
      show Steps p.tables e below (T1.setTop (mkF m 137 #[.val (.int p1), .val (.ref b2), .val (.int (0 : Int32)), .val (.ref w_POD), .unset, .unset, .unset, .unset] [])) _
      refine XS.iloadN X1.here hx rfl (hb hby at_137) rfl ?_
      show Steps p.tables e below (T1.setTop (mkF m 138 #[.val (.int p1), .val (.ref b2), .val (.int (0 : Int32)), .val (.ref w_POD), .unset, .unset, .unset, .unset] [(.int (0 : Int32))])) _
      refine XS.bipush X1.here hx rfl (hb hby at_138) ?_
      show Steps p.tables e below (T1.setTop (mkF m 140 #[.val (.int p1), .val (.ref b2), .val (.int (0 : Int32)), .val (.ref w_POD), .unset, .unset, .unset, .unset] [(.int (12 : Int32)), (.int (0 : Int32))])) _
      refine XS.icmpNo X1.here hx rfl (hb hby at_140) rfl (feq (by decide : ¬ ((0 : Int32) = (12 : Int32)))).1 ?_
      show Steps p.tables e below (T1.setTop (mkF m 143 #[.val (.int p1), .val (.ref b2), .val (.int (0 : Int32)), .val (.ref w_POD), .unset, .unset, .unset, .unset] [])) _
      refine XS.iloadN X1.here hx rfl (hb hby at_143) rfl ?_
      show Steps p.tables e below (T1.setTop (mkF m 144 #[.val (.int p1), .val (.ref b2), .val (.int (0 : Int32)), .val (.ref w_POD), .unset, .unset, .unset, .unset] [(.int (0 : Int32))])) _
      refine XS.bipush X1.here hx rfl (hb hby at_144) ?_
      show Steps p.tables e below (T1.setTop (mkF m 146 #[.val (.int p1), .val (.ref b2), .val (.int (0 : Int32)), .val (.ref w_POD), .unset, .unset, .unset, .unset] [(.int (14 : Int32)), (.int (0 : Int32))])) _
      refine XS.icmpNo X1.here hx rfl (hb hby at_146) rfl (feq (by decide : ¬ ((0 : Int32) = (14 : Int32)))).1 ?_
      show Steps p.tables e below (T1.setTop (mkF m 149 #[.val (.int p1), .val (.ref b2), .val (.int (0 : Int32)), .val (.ref w_POD), .unset, .unset, .unset, .unset] [])) _
      refine XS.iloadN X1.here hx rfl (hb hby at_149) rfl ?_
      show Steps p.tables e below (T1.setTop (mkF m 150 #[.val (.int p1), .val (.ref b2), .val (.int (0 : Int32)), .val (.ref w_POD), .unset, .unset, .unset, .unset] [(.int (0 : Int32))])) _
      refine XS.bipush X1.here hx rfl (hb hby at_150) ?_
      show Steps p.tables e below (T1.setTop (mkF m 152 #[.val (.int p1), .val (.ref b2), .val (.int (0 : Int32)), .val (.ref w_POD), .unset, .unset, .unset, .unset] [(.int (15 : Int32)), (.int (0 : Int32))])) _
      refine XS.icmpYes X1.here hx rfl (pc0 := 152) (pc' := 159) rfl (hb hby at_152) rfl (feq (by decide : ¬ ((0 : Int32) = (15 : Int32)))).2 (by decide) (by decide) ?_
      show Steps p.tables e below (T1.setTop (mkF m 159 #[.val (.int p1), .val (.ref b2), .val (.int (0 : Int32)), .val (.ref w_POD), .unset, .unset, .unset, .unset] [])) _
      refine XS.iconst X1.here hx rfl (hb hby at_159) ?_
      show Steps p.tables e below (T1.setTop (mkF m 160 #[.val (.int p1), .val (.ref b2), .val (.int (0 : Int32)), .val (.ref w_POD), .unset, .unset, .unset, .unset] [(.int (0 : Int32))])) _
      refine XS.istore X1.here hx rfl (hb hby at_160) rfl (l' := #[.val (.int p1), .val (.ref b2), .val (.int (0 : Int32)), .val (.ref w_POD), .val (.int (0 : Int32)), .unset, .unset, .unset]) rfl ?_
      show Steps p.tables e below (T1.setTop (mkF m 162 #[.val (.int p1), .val (.ref b2), .val (.int (0 : Int32)), .val (.ref w_POD), .val (.int (0 : Int32)), .unset, .unset, .unset] [])) _
      refine XS.iload X1.here hx rfl (hb hby at_162) rfl ?_
      show Steps p.tables e below (T1.setTop (mkF m 164 #[.val (.int p1), .val (.ref b2), .val (.int (0 : Int32)), .val (.ref w_POD), .val (.int (0 : Int32)), .unset, .unset, .unset] [(.int (0 : Int32))])) _
      refine XS.ifNo X1.here hx rfl (hb hby at_164) rfl ((if0 _ _).trans (teq (by decide : (0 : Int32) = (0 : Int32))).2) ?_
      show Steps p.tables e below (T1.setTop (mkF m 167 #[.val (.int p1), .val (.ref b2), .val (.int (0 : Int32)), .val (.ref w_POD), .val (.int (0 : Int32)), .unset, .unset, .unset] [])) _
      refine XS.iconst X1.here hx rfl (hb hby at_167) ?_
      show Steps p.tables e below (T1.setTop (mkF m 168 #[.val (.int p1), .val (.ref b2), .val (.int (0 : Int32)), .val (.ref w_POD), .val (.int (0 : Int32)), .unset, .unset, .unset] [(.int (1 : Int32))])) _
      refine XS.goto X1.here hx rfl (pc0 := 168) (pc' := 172) rfl (hb hby at_168) (by decide) (by decide) ?_
      show Steps p.tables e below (T1.setTop (mkF m 172 #[.val (.int p1), .val (.ref b2), .val (.int (0 : Int32)), .val (.ref w_POD), .val (.int (0 : Int32)), .unset, .unset, .unset] [(.int (1 : Int32))])) _
      refine XS.istore X1.here hx rfl (hb hby at_172) rfl (l' := #[.val (.int p1), .val (.ref b2), .val (.int (0 : Int32)), .val (.ref w_POD), .val (.int (0 : Int32)), .val (.int (1 : Int32)), .unset, .unset]) rfl ?_
      show Steps p.tables e below (T1.setTop (mkF m 174 #[.val (.int p1), .val (.ref b2), .val (.int (0 : Int32)), .val (.ref w_POD), .val (.int (0 : Int32)), .val (.int (1 : Int32)), .unset, .unset] [])) _
      refine XS.aloadN X1.here hx rfl (hb hby at_174) rfl rfl ?_
      show Steps p.tables e below (T1.setTop (mkF m 175 #[.val (.int p1), .val (.ref b2), .val (.int (0 : Int32)), .val (.ref w_POD), .val (.int (0 : Int32)), .val (.int (1 : Int32)), .unset, .unset] [(.ref w_POD)])) _
      refine st74.trans ?_
      show Steps p.tables e below (T74.setTop (mkF m 178 #[.val (.int p1), .val (.ref b2), .val (.int (0 : Int32)), .val (.ref w_POD), .val (.int (0 : Int32)), .val (.int (1 : Int32)), .unset, .unset] [(.int (1 : Int32))])) _
      refine XS.istore X74.here hx rfl (hb hby at_178) rfl (l' := #[.val (.int p1), .val (.ref b2), .val (.int (0 : Int32)), .val (.ref w_POD), .val (.int (0 : Int32)), .val (.int (1 : Int32)), .val (.int (1 : Int32)), .unset]) rfl ?_
      show Steps p.tables e below (T74.setTop (mkF m 180 #[.val (.int p1), .val (.ref b2), .val (.int (0 : Int32)), .val (.ref w_POD), .val (.int (0 : Int32)), .val (.int (1 : Int32)), .val (.int (1 : Int32)), .unset] [])) _
      refine XS.aloadN X74.here hx rfl (hb hby at_180) rfl rfl ?_
      show Steps p.tables e below (T74.setTop (mkF m 181 #[.val (.int p1), .val (.ref b2), .val (.int (0 : Int32)), .val (.ref w_POD), .val (.int (0 : Int32)), .val (.int (1 : Int32)), .val (.int (1 : Int32)), .unset] [(.ref w_POD)])) _
      refine st75.trans ?_
      show Steps p.tables e below (T75.setTop (mkF m 184 #[.val (.int p1), .val (.ref b2), .val (.int (0 : Int32)), .val (.ref w_POD), .val (.int (0 : Int32)), .val (.int (1 : Int32)), .val (.int (1 : Int32)), .unset] [(.int (0 : Int32))])) _
      refine XS.ifYes X75.here hx rfl (pc0 := 184) (pc' := 192) rfl (hb hby at_184) rfl ((if0 _ _).trans (teq (by decide : (0 : Int32) = (0 : Int32))).1) (by decide) (by decide) ?_
      show Steps p.tables e below (T75.setTop (mkF m 192 #[.val (.int p1), .val (.ref b2), .val (.int (0 : Int32)), .val (.ref w_POD), .val (.int (0 : Int32)), .val (.int (1 : Int32)), .val (.int (1 : Int32)), .unset] [])) _
      refine XS.iconst X75.here hx rfl (hb hby at_192) ?_
      show Steps p.tables e below (T75.setTop (mkF m 193 #[.val (.int p1), .val (.ref b2), .val (.int (0 : Int32)), .val (.ref w_POD), .val (.int (0 : Int32)), .val (.int (1 : Int32)), .val (.int (1 : Int32)), .unset] [(.int (1 : Int32))])) _
      refine XS.goto X75.here hx rfl (pc0 := 193) (pc' := 197) rfl (hb hby at_193) (by decide) (by decide) ?_
      show Steps p.tables e below (T75.setTop (mkF m 197 #[.val (.int p1), .val (.ref b2), .val (.int (0 : Int32)), .val (.ref w_POD), .val (.int (0 : Int32)), .val (.int (1 : Int32)), .val (.int (1 : Int32)), .unset] [(.int (1 : Int32))])) _
      refine XS.istore X75.here hx rfl (hb hby at_197) rfl (l' := #[.val (.int p1), .val (.ref b2), .val (.int (0 : Int32)), .val (.ref w_POD), .val (.int (0 : Int32)), .val (.int (1 : Int32)), .val (.int (1 : Int32)), .val (.int (1 : Int32))]) rfl ?_
      show Steps p.tables e below (T75.setTop (mkF m 199 #[.val (.int p1), .val (.ref b2), .val (.int (0 : Int32)), .val (.ref w_POD), .val (.int (0 : Int32)), .val (.int (1 : Int32)), .val (.int (1 : Int32)), .val (.int (1 : Int32))] [])) _
      refine XS.iload X75.here hx rfl (hb hby at_199) rfl ?_
      show Steps p.tables e below (T75.setTop (mkF m 201 #[.val (.int p1), .val (.ref b2), .val (.int (0 : Int32)), .val (.ref w_POD), .val (.int (0 : Int32)), .val (.int (1 : Int32)), .val (.int (1 : Int32)), .val (.int (1 : Int32))] [(.int (1 : Int32))])) _
      refine XS.iload X75.here hx rfl (hb hby at_201) rfl ?_
      show Steps p.tables e below (T75.setTop (mkF m 203 #[.val (.int p1), .val (.ref b2), .val (.int (0 : Int32)), .val (.ref w_POD), .val (.int (0 : Int32)), .val (.int (1 : Int32)), .val (.int (1 : Int32)), .val (.int (1 : Int32))] [(.int (1 : Int32)), (.int (1 : Int32))])) _
      refine XS.icmpNo X75.here hx rfl (hb hby at_203) rfl (teq (by decide : (1 : Int32) = (1 : Int32))).2 ?_
      show Steps p.tables e below (T75.setTop (mkF m 206 #[.val (.int p1), .val (.ref b2), .val (.int (0 : Int32)), .val (.ref w_POD), .val (.int (0 : Int32)), .val (.int (1 : Int32)), .val (.int (1 : Int32)), .val (.int (1 : Int32))] [])) _
      refine XS.iload X75.here hx rfl (hb hby at_206) rfl ?_
      show Steps p.tables e below (T75.setTop (mkF m 208 #[.val (.int p1), .val (.ref b2), .val (.int (0 : Int32)), .val (.ref w_POD), .val (.int (0 : Int32)), .val (.int (1 : Int32)), .val (.int (1 : Int32)), .val (.int (1 : Int32))] [(.int (1 : Int32))])) _
      refine XS.ifNo X75.here hx rfl (hb hby at_208) rfl ((if0 _ _).trans (feq (by decide : ¬ ((1 : Int32) = (0 : Int32)))).1) ?_
      show Steps p.tables e below (T75.setTop (mkF m 211 #[.val (.int p1), .val (.ref b2), .val (.int (0 : Int32)), .val (.ref w_POD), .val (.int (0 : Int32)), .val (.int (1 : Int32)), .val (.int (1 : Int32)), .val (.int (1 : Int32))] [])) _
      refine XS.iconst X75.here hx rfl (hb hby at_211) ?_
      show Steps p.tables e below (T75.setTop (mkF m 212 #[.val (.int p1), .val (.ref b2), .val (.int (0 : Int32)), .val (.ref w_POD), .val (.int (0 : Int32)), .val (.int (1 : Int32)), .val (.int (1 : Int32)), .val (.int (1 : Int32))] [(.int (1 : Int32))])) _
      refine XS.goto X75.here hx rfl (pc0 := 212) (pc' := 216) rfl (hb hby at_212) (by decide) (by decide) ?_
      show Steps p.tables e below (T75.setTop (mkF m 216 #[.val (.int p1), .val (.ref b2), .val (.int (0 : Int32)), .val (.ref w_POD), .val (.int (0 : Int32)), .val (.int (1 : Int32)), .val (.int (1 : Int32)), .val (.int (1 : Int32))] [(.int (1 : Int32))])) _
      exact retN X75 hx (t := .boolean) Bd.returns (by simp) (hb hby at_216) hr
    · show Q0_0 Z p1 w_POD w_BASE w_RESOURCE w_AGENT w_CLIENT w_ISSUER w_OWNER w_CREATOR w_CREDENTIAL w_REQUESTS w_AGENTS w_STATS w_WAC_ALLOW w_METHOD w_CREATES w_REMOVES w_PORT w_VALUE w_FLAG w_REPEATED_VALUE h0 n0 _ T75.heap _
      rw [e75]
      exact ⟨rfl, N75⟩
  ·
    obtain ⟨cl76, Ar76, qq76, Sz76, Nn76, Hs76, Gs76⟩ := id pf1_0
    have hin76 : ¬ ((1 : Int32) < 0 ∨ cl76.slots.size ≤ ((1 : Int32)).toNatClampNeg) := inb_of Sz76 ⟨by decide, by decide⟩
    have hat76 : cl76.slots[((1 : Int32)).toNatClampNeg]? = some (.ref w_BASE) := Has.at Hs76 hin76 rfl
    obtain ⟨cq77, kq77, q77a, q77b, q77c⟩ := isOf hZ e1 (E_BASE.keep K1)
    obtain ⟨_, _, ⟨T77, L77, k77, n77⟩, -, X77, ⟨Lc77, hQ77, l77, y77, z77⟩, st77⟩ := X1.virtualBack hx (y := (⟨"com/example/garm/garm/command/Option", "takesValue", "()Z"⟩ : MethodName)) (z := (⟨"com/example/garm/garm/command/Option", "takesValue", "()Z"⟩ : MethodName)) hown (mvT hZ (hw _ (List.mem_of_getElem? (i := 39) rfl))) (mvT hZ (hw _ (List.mem_of_getElem? (i := 40) rfl))) (notFace_of_selects (args := #[]) (mvT hZ (hw _ (List.mem_of_getElem? (i := 42) rfl)))) (mvT hZ (hw _ (List.mem_of_getElem? (i := 42) rfl))) (mvT hZ (hw _ (List.mem_of_getElem? (i := 41) rfl))) (by decide) (backOf (W := 0) (rm1_1 l Z a0 hw [] w_BASE w_VALUE w_FLAG h1 n0 (Nat.le_trans Z0 K1.1) (F_form_BASE.keep K1 nin0) (own_staK S_FLAG K1 all0) ne_FLAG_VALUE) hZ (hw _ (List.mem_of_getElem? (i := 43) rfl)) (hw _ (List.mem_of_getElem? (i := 3) rfl)) (by decide) (by decide)) q77a q77c (g := (mkF m 175 #[.val (.int p1), .val (.ref b2), .val (.int (1 : Int32)), .val (.ref w_BASE), .val (.int (0 : Int32)), .val (.int (1 : Int32)), .unset, .unset] [(.ref w_BASE)])) rfl (by rw [hml]; rfl) (Steps.refl _) (argsL := []) (rest := []) (lenOf pd_0 rfl) rfl (by show 2 * 0 + _ ≤ _; exact Nat.le_of_eq rfl) (hb hby at_175) (fun _ _ => ⟨rfl, e1, (by decide : 1 + 0 ≤ _), (by decide : 17 + 0 ≤ _)⟩)
    dsimp only [Pt.U, Pt.locs, Pt.cells, Pt.slots] at X77 l77 y77 z77 st77 hQ77
    subst l77 y77 z77
    obtain ⟨rfl, N77q, e77⟩ := hQ77
    have N77 := Fr.app N1 N77q
    obtain ⟨cq78, kq78, q78a, q78b, q78c⟩ := isOf hZ e77 (E_BASE.keep K1)
    obtain ⟨_, _, ⟨T78, L78, k78, n78⟩, -, X78, ⟨Lc78, hQ78, l78, y78, z78⟩, st78⟩ := X77.virtualBack hx (y := (⟨"com/example/garm/garm/command/Option", "isRepeatable", "()Z"⟩ : MethodName)) (z := (⟨"com/example/garm/garm/command/Option", "isRepeatable", "()Z"⟩ : MethodName)) hown (mvT hZ (hw _ (List.mem_of_getElem? (i := 50) rfl))) (mvT hZ (hw _ (List.mem_of_getElem? (i := 51) rfl))) (notFace_of_selects (args := #[]) (mvT hZ (hw _ (List.mem_of_getElem? (i := 53) rfl)))) (mvT hZ (hw _ (List.mem_of_getElem? (i := 53) rfl))) (mvT hZ (hw _ (List.mem_of_getElem? (i := 52) rfl))) (by decide) (backOf (W := 0) (rm2_1 l Z a0 hw [] w_BASE w_VALUE w_REPEATED_VALUE h1 n0 (Nat.le_trans Z0 K1.1) (F_form_BASE.keep K1 nin0) (own_staK S_REPEATED_VALUE K1 all0) ne_REPEATED_VALUE_VALUE) hZ (hw _ (List.mem_of_getElem? (i := 54) rfl)) (hw _ (List.mem_of_getElem? (i := 3) rfl)) (by decide) (by decide)) q78a q78c (g := (mkF m 181 #[.val (.int p1), .val (.ref b2), .val (.int (1 : Int32)), .val (.ref w_BASE), .val (.int (0 : Int32)), .val (.int (1 : Int32)), .val (.int (1 : Int32)), .unset] [(.ref w_BASE)])) rfl (by rw [hml]; rfl) (Steps.refl _) (argsL := []) (rest := []) (lenOf pd_0 rfl) rfl (by show 2 * 0 + _ ≤ _; exact Nat.le_of_eq rfl) (hb hby at_181) (fun _ _ => ⟨rfl, e77, (by decide : 1 + 0 ≤ _), (by decide : 17 + 0 ≤ _)⟩)
    dsimp only [Pt.U, Pt.locs, Pt.cells, Pt.slots] at X78 l78 y78 z78 st78 hQ78
    subst l78 y78 z78
    obtain ⟨rfl, N78q, e78⟩ := hQ78
    have N78 := Fr.app N77 N78q
    obtain ⟨fs, hr, hrun, hended, hW, hsame⟩ := X78.leave (v := some (.int (1 : Int32))) (fun h => by rw [Bd.returns] at h; cases h)
    refine ⟨_, _, k55 _ ?_, hrun, hended, _, _, rfl, ?_, ⟨_, rfl⟩, hW, hsame.mono (by decide) (by decide)⟩
    ·
      show Steps p.tables e below (T1.setTop (mkF m 126 #[.val (.int p1), .val (.ref b2), .unset, .unset, .unset, .unset, .unset, .unset] [(.int ((p1 &&& (2147483647 : Int32)) % (17 : Int32)))])) _
      rewrite [hk57_1]
      show Steps p.tables e below (T1.setTop (mkF m 126 #[.val (.int p1), .val (.ref b2), .unset, .unset, .unset, .unset, .unset, .unset] [(.int (1 : Int32))])) _
      refine XS.istoreN X1.here hx rfl (hb hby at_126) rfl (l' := #[.val (.int p1), .val (.ref b2), .val (.int (1 : Int32)), .unset, .unset, .unset, .unset, .unset]) rfl ?_
      show Steps p.tables e below (T1.setTop (mkF m 127 #[.val (.int p1), .val (.ref b2), .val (.int (1 : Int32)), .unset, .unset, .unset, .unset, .unset] [])) _
      refine XS.aloadN X1.here hx rfl (hb hby at_127) rfl rfl ?_
      show Steps p.tables e below (T1.setTop (mkF m 128 #[.val (.int p1), .val (.ref b2), .val (.int (1 : Int32)), .unset, .unset, .unset, .unset, .unset] [(.ref b2)])) _
      refine XS.iloadN X1.here hx rfl (hb hby at_128) rfl ?_
      show Steps p.tables e below (T1.setTop (mkF m 129 #[.val (.int p1), .val (.ref b2), .val (.int (1 : Int32)), .unset, .unset, .unset, .unset, .unset] [(.int (1 : Int32)), (.ref b2)])) _
      refine X1.aaload hx (j := (1 : Int32)) (v := (.ref w_BASE)) (by rw [e1]; exact Ar76.1) (State.isArrayOf_alike hZ.alike Ar76.2.1) rfl Ar76.2.2 hin76 hat76 (g := (mkF m 129 #[.val (.int p1), .val (.ref b2), .val (.int (1 : Int32)), .unset, .unset, .unset, .unset, .unset] [(.int (1 : Int32)), (.ref b2)])) rfl rfl (hb hby at_129) _ ?_
      show Steps p.tables e below (T1.setTop (mkF m 130 #[.val (.int p1), .val (.ref b2), .val (.int (1 : Int32)), .unset, .unset, .unset, .unset, .unset] [(.ref w_BASE)])) _
      refine XS.astoreN X1.here hx rfl (hb hby at_130) rfl rfl (l' := #[.val (.int p1), .val (.ref b2), .val (.int (1 : Int32)), .val (.ref w_BASE), .unset, .unset, .unset, .unset]) rfl ?_
      show Steps p.tables e below (T1.setTop (mkF m 131 #[.val (.int p1), .val (.ref b2), .val (.int (1 : Int32)), .val (.ref w_BASE), .unset, .unset, .unset, .unset] [])) _
      refine XS.iloadN X1.here hx rfl (hb hby at_131) rfl ?_
      show Steps p.tables e below (T1.setTop (mkF m 132 #[.val (.int p1), .val (.ref b2), .val (.int (1 : Int32)), .val (.ref w_BASE), .unset, .unset, .unset, .unset] [(.int (1 : Int32))])) _
      refine XS.bipush X1.here hx rfl (hb hby at_132) ?_
      show Steps p.tables e below (T1.setTop (mkF m 134 #[.val (.int p1), .val (.ref b2), .val (.int (1 : Int32)), .val (.ref w_BASE), .unset, .unset, .unset, .unset] [(.int (11 : Int32)), (.int (1 : Int32))])) _
      refine XS.icmpNo X1.here hx rfl (hb hby at_134) rfl (feq (by decide : ¬ ((1 : Int32) = (11 : Int32)))).1 ?_
      show Steps p.tables e below (T1.setTop (mkF m 137 #[.val (.int p1), .val (.ref b2), .val (.int (1 : Int32)), .val (.ref w_BASE), .unset, .unset, .unset, .unset] [])) _
      refine XS.iloadN X1.here hx rfl (hb hby at_137) rfl ?_
      show Steps p.tables e below (T1.setTop (mkF m 138 #[.val (.int p1), .val (.ref b2), .val (.int (1 : Int32)), .val (.ref w_BASE), .unset, .unset, .unset, .unset] [(.int (1 : Int32))])) _
      refine XS.bipush X1.here hx rfl (hb hby at_138) ?_
      show Steps p.tables e below (T1.setTop (mkF m 140 #[.val (.int p1), .val (.ref b2), .val (.int (1 : Int32)), .val (.ref w_BASE), .unset, .unset, .unset, .unset] [(.int (12 : Int32)), (.int (1 : Int32))])) _
      refine XS.icmpNo X1.here hx rfl (hb hby at_140) rfl (feq (by decide : ¬ ((1 : Int32) = (12 : Int32)))).1 ?_
      show Steps p.tables e below (T1.setTop (mkF m 143 #[.val (.int p1), .val (.ref b2), .val (.int (1 : Int32)), .val (.ref w_BASE), .unset, .unset, .unset, .unset] [])) _
      refine XS.iloadN X1.here hx rfl (hb hby at_143) rfl ?_
      show Steps p.tables e below (T1.setTop (mkF m 144 #[.val (.int p1), .val (.ref b2), .val (.int (1 : Int32)), .val (.ref w_BASE), .unset, .unset, .unset, .unset] [(.int (1 : Int32))])) _
      refine XS.bipush X1.here hx rfl (hb hby at_144) ?_
      show Steps p.tables e below (T1.setTop (mkF m 146 #[.val (.int p1), .val (.ref b2), .val (.int (1 : Int32)), .val (.ref w_BASE), .unset, .unset, .unset, .unset] [(.int (14 : Int32)), (.int (1 : Int32))])) _
      refine XS.icmpNo X1.here hx rfl (hb hby at_146) rfl (feq (by decide : ¬ ((1 : Int32) = (14 : Int32)))).1 ?_
      show Steps p.tables e below (T1.setTop (mkF m 149 #[.val (.int p1), .val (.ref b2), .val (.int (1 : Int32)), .val (.ref w_BASE), .unset, .unset, .unset, .unset] [])) _
      refine XS.iloadN X1.here hx rfl (hb hby at_149) rfl ?_
      show Steps p.tables e below (T1.setTop (mkF m 150 #[.val (.int p1), .val (.ref b2), .val (.int (1 : Int32)), .val (.ref w_BASE), .unset, .unset, .unset, .unset] [(.int (1 : Int32))])) _
      refine XS.bipush X1.here hx rfl (hb hby at_150) ?_
      show Steps p.tables e below (T1.setTop (mkF m 152 #[.val (.int p1), .val (.ref b2), .val (.int (1 : Int32)), .val (.ref w_BASE), .unset, .unset, .unset, .unset] [(.int (15 : Int32)), (.int (1 : Int32))])) _
      refine XS.icmpYes X1.here hx rfl (pc0 := 152) (pc' := 159) rfl (hb hby at_152) rfl (feq (by decide : ¬ ((1 : Int32) = (15 : Int32)))).2 (by decide) (by decide) ?_
      show Steps p.tables e below (T1.setTop (mkF m 159 #[.val (.int p1), .val (.ref b2), .val (.int (1 : Int32)), .val (.ref w_BASE), .unset, .unset, .unset, .unset] [])) _
      refine XS.iconst X1.here hx rfl (hb hby at_159) ?_
      show Steps p.tables e below (T1.setTop (mkF m 160 #[.val (.int p1), .val (.ref b2), .val (.int (1 : Int32)), .val (.ref w_BASE), .unset, .unset, .unset, .unset] [(.int (0 : Int32))])) _
      refine XS.istore X1.here hx rfl (hb hby at_160) rfl (l' := #[.val (.int p1), .val (.ref b2), .val (.int (1 : Int32)), .val (.ref w_BASE), .val (.int (0 : Int32)), .unset, .unset, .unset]) rfl ?_
      show Steps p.tables e below (T1.setTop (mkF m 162 #[.val (.int p1), .val (.ref b2), .val (.int (1 : Int32)), .val (.ref w_BASE), .val (.int (0 : Int32)), .unset, .unset, .unset] [])) _
      refine XS.iload X1.here hx rfl (hb hby at_162) rfl ?_
      show Steps p.tables e below (T1.setTop (mkF m 164 #[.val (.int p1), .val (.ref b2), .val (.int (1 : Int32)), .val (.ref w_BASE), .val (.int (0 : Int32)), .unset, .unset, .unset] [(.int (0 : Int32))])) _
      refine XS.ifNo X1.here hx rfl (hb hby at_164) rfl ((if0 _ _).trans (teq (by decide : (0 : Int32) = (0 : Int32))).2) ?_
      show Steps p.tables e below (T1.setTop (mkF m 167 #[.val (.int p1), .val (.ref b2), .val (.int (1 : Int32)), .val (.ref w_BASE), .val (.int (0 : Int32)), .unset, .unset, .unset] [])) _
      refine XS.iconst X1.here hx rfl (hb hby at_167) ?_
      show Steps p.tables e below (T1.setTop (mkF m 168 #[.val (.int p1), .val (.ref b2), .val (.int (1 : Int32)), .val (.ref w_BASE), .val (.int (0 : Int32)), .unset, .unset, .unset] [(.int (1 : Int32))])) _
      refine XS.goto X1.here hx rfl (pc0 := 168) (pc' := 172) rfl (hb hby at_168) (by decide) (by decide) ?_
      show Steps p.tables e below (T1.setTop (mkF m 172 #[.val (.int p1), .val (.ref b2), .val (.int (1 : Int32)), .val (.ref w_BASE), .val (.int (0 : Int32)), .unset, .unset, .unset] [(.int (1 : Int32))])) _
      refine XS.istore X1.here hx rfl (hb hby at_172) rfl (l' := #[.val (.int p1), .val (.ref b2), .val (.int (1 : Int32)), .val (.ref w_BASE), .val (.int (0 : Int32)), .val (.int (1 : Int32)), .unset, .unset]) rfl ?_
      show Steps p.tables e below (T1.setTop (mkF m 174 #[.val (.int p1), .val (.ref b2), .val (.int (1 : Int32)), .val (.ref w_BASE), .val (.int (0 : Int32)), .val (.int (1 : Int32)), .unset, .unset] [])) _
      refine XS.aloadN X1.here hx rfl (hb hby at_174) rfl rfl ?_
      show Steps p.tables e below (T1.setTop (mkF m 175 #[.val (.int p1), .val (.ref b2), .val (.int (1 : Int32)), .val (.ref w_BASE), .val (.int (0 : Int32)), .val (.int (1 : Int32)), .unset, .unset] [(.ref w_BASE)])) _
      refine st77.trans ?_
      show Steps p.tables e below (T77.setTop (mkF m 178 #[.val (.int p1), .val (.ref b2), .val (.int (1 : Int32)), .val (.ref w_BASE), .val (.int (0 : Int32)), .val (.int (1 : Int32)), .unset, .unset] [(.int (1 : Int32))])) _
      refine XS.istore X77.here hx rfl (hb hby at_178) rfl (l' := #[.val (.int p1), .val (.ref b2), .val (.int (1 : Int32)), .val (.ref w_BASE), .val (.int (0 : Int32)), .val (.int (1 : Int32)), .val (.int (1 : Int32)), .unset]) rfl ?_
      show Steps p.tables e below (T77.setTop (mkF m 180 #[.val (.int p1), .val (.ref b2), .val (.int (1 : Int32)), .val (.ref w_BASE), .val (.int (0 : Int32)), .val (.int (1 : Int32)), .val (.int (1 : Int32)), .unset] [])) _
      refine XS.aloadN X77.here hx rfl (hb hby at_180) rfl rfl ?_
      show Steps p.tables e below (T77.setTop (mkF m 181 #[.val (.int p1), .val (.ref b2), .val (.int (1 : Int32)), .val (.ref w_BASE), .val (.int (0 : Int32)), .val (.int (1 : Int32)), .val (.int (1 : Int32)), .unset] [(.ref w_BASE)])) _
      refine st78.trans ?_
      show Steps p.tables e below (T78.setTop (mkF m 184 #[.val (.int p1), .val (.ref b2), .val (.int (1 : Int32)), .val (.ref w_BASE), .val (.int (0 : Int32)), .val (.int (1 : Int32)), .val (.int (1 : Int32)), .unset] [(.int (0 : Int32))])) _
      refine XS.ifYes X78.here hx rfl (pc0 := 184) (pc' := 192) rfl (hb hby at_184) rfl ((if0 _ _).trans (teq (by decide : (0 : Int32) = (0 : Int32))).1) (by decide) (by decide) ?_
      show Steps p.tables e below (T78.setTop (mkF m 192 #[.val (.int p1), .val (.ref b2), .val (.int (1 : Int32)), .val (.ref w_BASE), .val (.int (0 : Int32)), .val (.int (1 : Int32)), .val (.int (1 : Int32)), .unset] [])) _
      refine XS.iconst X78.here hx rfl (hb hby at_192) ?_
      show Steps p.tables e below (T78.setTop (mkF m 193 #[.val (.int p1), .val (.ref b2), .val (.int (1 : Int32)), .val (.ref w_BASE), .val (.int (0 : Int32)), .val (.int (1 : Int32)), .val (.int (1 : Int32)), .unset] [(.int (1 : Int32))])) _
      refine XS.goto X78.here hx rfl (pc0 := 193) (pc' := 197) rfl (hb hby at_193) (by decide) (by decide) ?_
      show Steps p.tables e below (T78.setTop (mkF m 197 #[.val (.int p1), .val (.ref b2), .val (.int (1 : Int32)), .val (.ref w_BASE), .val (.int (0 : Int32)), .val (.int (1 : Int32)), .val (.int (1 : Int32)), .unset] [(.int (1 : Int32))])) _
      refine XS.istore X78.here hx rfl (hb hby at_197) rfl (l' := #[.val (.int p1), .val (.ref b2), .val (.int (1 : Int32)), .val (.ref w_BASE), .val (.int (0 : Int32)), .val (.int (1 : Int32)), .val (.int (1 : Int32)), .val (.int (1 : Int32))]) rfl ?_
      show Steps p.tables e below (T78.setTop (mkF m 199 #[.val (.int p1), .val (.ref b2), .val (.int (1 : Int32)), .val (.ref w_BASE), .val (.int (0 : Int32)), .val (.int (1 : Int32)), .val (.int (1 : Int32)), .val (.int (1 : Int32))] [])) _
      refine XS.iload X78.here hx rfl (hb hby at_199) rfl ?_
      show Steps p.tables e below (T78.setTop (mkF m 201 #[.val (.int p1), .val (.ref b2), .val (.int (1 : Int32)), .val (.ref w_BASE), .val (.int (0 : Int32)), .val (.int (1 : Int32)), .val (.int (1 : Int32)), .val (.int (1 : Int32))] [(.int (1 : Int32))])) _
      refine XS.iload X78.here hx rfl (hb hby at_201) rfl ?_
      show Steps p.tables e below (T78.setTop (mkF m 203 #[.val (.int p1), .val (.ref b2), .val (.int (1 : Int32)), .val (.ref w_BASE), .val (.int (0 : Int32)), .val (.int (1 : Int32)), .val (.int (1 : Int32)), .val (.int (1 : Int32))] [(.int (1 : Int32)), (.int (1 : Int32))])) _
      refine XS.icmpNo X78.here hx rfl (hb hby at_203) rfl (teq (by decide : (1 : Int32) = (1 : Int32))).2 ?_
      show Steps p.tables e below (T78.setTop (mkF m 206 #[.val (.int p1), .val (.ref b2), .val (.int (1 : Int32)), .val (.ref w_BASE), .val (.int (0 : Int32)), .val (.int (1 : Int32)), .val (.int (1 : Int32)), .val (.int (1 : Int32))] [])) _
      refine XS.iload X78.here hx rfl (hb hby at_206) rfl ?_
      show Steps p.tables e below (T78.setTop (mkF m 208 #[.val (.int p1), .val (.ref b2), .val (.int (1 : Int32)), .val (.ref w_BASE), .val (.int (0 : Int32)), .val (.int (1 : Int32)), .val (.int (1 : Int32)), .val (.int (1 : Int32))] [(.int (1 : Int32))])) _
      refine XS.ifNo X78.here hx rfl (hb hby at_208) rfl ((if0 _ _).trans (feq (by decide : ¬ ((1 : Int32) = (0 : Int32)))).1) ?_
      show Steps p.tables e below (T78.setTop (mkF m 211 #[.val (.int p1), .val (.ref b2), .val (.int (1 : Int32)), .val (.ref w_BASE), .val (.int (0 : Int32)), .val (.int (1 : Int32)), .val (.int (1 : Int32)), .val (.int (1 : Int32))] [])) _
      refine XS.iconst X78.here hx rfl (hb hby at_211) ?_
      show Steps p.tables e below (T78.setTop (mkF m 212 #[.val (.int p1), .val (.ref b2), .val (.int (1 : Int32)), .val (.ref w_BASE), .val (.int (0 : Int32)), .val (.int (1 : Int32)), .val (.int (1 : Int32)), .val (.int (1 : Int32))] [(.int (1 : Int32))])) _
      refine XS.goto X78.here hx rfl (pc0 := 212) (pc' := 216) rfl (hb hby at_212) (by decide) (by decide) ?_
      show Steps p.tables e below (T78.setTop (mkF m 216 #[.val (.int p1), .val (.ref b2), .val (.int (1 : Int32)), .val (.ref w_BASE), .val (.int (0 : Int32)), .val (.int (1 : Int32)), .val (.int (1 : Int32)), .val (.int (1 : Int32))] [(.int (1 : Int32))])) _
      exact retN X78 hx (t := .boolean) Bd.returns (by simp) (hb hby at_216) hr
    · show Q0_0 Z p1 w_POD w_BASE w_RESOURCE w_AGENT w_CLIENT w_ISSUER w_OWNER w_CREATOR w_CREDENTIAL w_REQUESTS w_AGENTS w_STATS w_WAC_ALLOW w_METHOD w_CREATES w_REMOVES w_PORT w_VALUE w_FLAG w_REPEATED_VALUE h0 n0 _ T78.heap _
      rw [e78]
      exact ⟨rfl, N78⟩
  ·
    obtain ⟨cl79, Ar79, qq79, Sz79, Nn79, Hs79, Gs79⟩ := id pf1_0
    have hin79 : ¬ ((2 : Int32) < 0 ∨ cl79.slots.size ≤ ((2 : Int32)).toNatClampNeg) := inb_of Sz79 ⟨by decide, by decide⟩
    have hat79 : cl79.slots[((2 : Int32)).toNatClampNeg]? = some (.ref w_RESOURCE) := Has.at Hs79 hin79 rfl
    obtain ⟨cq80, kq80, q80a, q80b, q80c⟩ := isOf hZ e1 (E_RESOURCE.keep K1)
    obtain ⟨_, _, ⟨T80, L80, k80, n80⟩, -, X80, ⟨Lc80, hQ80, l80, y80, z80⟩, st80⟩ := X1.virtualBack hx (y := (⟨"com/example/garm/garm/command/Option", "takesValue", "()Z"⟩ : MethodName)) (z := (⟨"com/example/garm/garm/command/Option", "takesValue", "()Z"⟩ : MethodName)) hown (mvT hZ (hw _ (List.mem_of_getElem? (i := 39) rfl))) (mvT hZ (hw _ (List.mem_of_getElem? (i := 40) rfl))) (notFace_of_selects (args := #[]) (mvT hZ (hw _ (List.mem_of_getElem? (i := 42) rfl)))) (mvT hZ (hw _ (List.mem_of_getElem? (i := 42) rfl))) (mvT hZ (hw _ (List.mem_of_getElem? (i := 41) rfl))) (by decide) (backOf (W := 0) (rm1_2 l Z a0 hw [] w_RESOURCE w_VALUE w_FLAG h1 n0 (Nat.le_trans Z0 K1.1) (F_form_RESOURCE.keep K1 nin0) (own_staK S_FLAG K1 all0) ne_FLAG_VALUE) hZ (hw _ (List.mem_of_getElem? (i := 43) rfl)) (hw _ (List.mem_of_getElem? (i := 3) rfl)) (by decide) (by decide)) q80a q80c (g := (mkF m 175 #[.val (.int p1), .val (.ref b2), .val (.int (2 : Int32)), .val (.ref w_RESOURCE), .val (.int (0 : Int32)), .val (.int (1 : Int32)), .unset, .unset] [(.ref w_RESOURCE)])) rfl (by rw [hml]; rfl) (Steps.refl _) (argsL := []) (rest := []) (lenOf pd_0 rfl) rfl (by show 2 * 0 + _ ≤ _; exact Nat.le_of_eq rfl) (hb hby at_175) (fun _ _ => ⟨rfl, e1, (by decide : 1 + 0 ≤ _), (by decide : 17 + 0 ≤ _)⟩)
    dsimp only [Pt.U, Pt.locs, Pt.cells, Pt.slots] at X80 l80 y80 z80 st80 hQ80
    subst l80 y80 z80
    obtain ⟨rfl, N80q, e80⟩ := hQ80
    have N80 := Fr.app N1 N80q
    obtain ⟨cq81, kq81, q81a, q81b, q81c⟩ := isOf hZ e80 (E_RESOURCE.keep K1)
    obtain ⟨_, _, ⟨T81, L81, k81, n81⟩, -, X81, ⟨Lc81, hQ81, l81, y81, z81⟩, st81⟩ := X80.virtualBack hx (y := (⟨"com/example/garm/garm/command/Option", "isRepeatable", "()Z"⟩ : MethodName)) (z := (⟨"com/example/garm/garm/command/Option", "isRepeatable", "()Z"⟩ : MethodName)) hown (mvT hZ (hw _ (List.mem_of_getElem? (i := 50) rfl))) (mvT hZ (hw _ (List.mem_of_getElem? (i := 51) rfl))) (notFace_of_selects (args := #[]) (mvT hZ (hw _ (List.mem_of_getElem? (i := 53) rfl)))) (mvT hZ (hw _ (List.mem_of_getElem? (i := 53) rfl))) (mvT hZ (hw _ (List.mem_of_getElem? (i := 52) rfl))) (by decide) (backOf (W := 0) (rm2_2 l Z a0 hw [] w_RESOURCE w_VALUE w_REPEATED_VALUE h1 n0 (Nat.le_trans Z0 K1.1) (F_form_RESOURCE.keep K1 nin0) (own_staK S_REPEATED_VALUE K1 all0) ne_REPEATED_VALUE_VALUE) hZ (hw _ (List.mem_of_getElem? (i := 54) rfl)) (hw _ (List.mem_of_getElem? (i := 3) rfl)) (by decide) (by decide)) q81a q81c (g := (mkF m 181 #[.val (.int p1), .val (.ref b2), .val (.int (2 : Int32)), .val (.ref w_RESOURCE), .val (.int (0 : Int32)), .val (.int (1 : Int32)), .val (.int (1 : Int32)), .unset] [(.ref w_RESOURCE)])) rfl (by rw [hml]; rfl) (Steps.refl _) (argsL := []) (rest := []) (lenOf pd_0 rfl) rfl (by show 2 * 0 + _ ≤ _; exact Nat.le_of_eq rfl) (hb hby at_181) (fun _ _ => ⟨rfl, e80, (by decide : 1 + 0 ≤ _), (by decide : 17 + 0 ≤ _)⟩)
    dsimp only [Pt.U, Pt.locs, Pt.cells, Pt.slots] at X81 l81 y81 z81 st81 hQ81
    subst l81 y81 z81
    obtain ⟨rfl, N81q, e81⟩ := hQ81
    have N81 := Fr.app N80 N81q
    obtain ⟨fs, hr, hrun, hended, hW, hsame⟩ := X81.leave (v := some (.int (1 : Int32))) (fun h => by rw [Bd.returns] at h; cases h)
    refine ⟨_, _, k55 _ ?_, hrun, hended, _, _, rfl, ?_, ⟨_, rfl⟩, hW, hsame.mono (by decide) (by decide)⟩
    ·
      show Steps p.tables e below (T1.setTop (mkF m 126 #[.val (.int p1), .val (.ref b2), .unset, .unset, .unset, .unset, .unset, .unset] [(.int ((p1 &&& (2147483647 : Int32)) % (17 : Int32)))])) _
      rewrite [hk58_2]
      show Steps p.tables e below (T1.setTop (mkF m 126 #[.val (.int p1), .val (.ref b2), .unset, .unset, .unset, .unset, .unset, .unset] [(.int (2 : Int32))])) _
      refine XS.istoreN X1.here hx rfl (hb hby at_126) rfl (l' := #[.val (.int p1), .val (.ref b2), .val (.int (2 : Int32)), .unset, .unset, .unset, .unset, .unset]) rfl ?_
      show Steps p.tables e below (T1.setTop (mkF m 127 #[.val (.int p1), .val (.ref b2), .val (.int (2 : Int32)), .unset, .unset, .unset, .unset, .unset] [])) _
      refine XS.aloadN X1.here hx rfl (hb hby at_127) rfl rfl ?_
      show Steps p.tables e below (T1.setTop (mkF m 128 #[.val (.int p1), .val (.ref b2), .val (.int (2 : Int32)), .unset, .unset, .unset, .unset, .unset] [(.ref b2)])) _
      refine XS.iloadN X1.here hx rfl (hb hby at_128) rfl ?_
      show Steps p.tables e below (T1.setTop (mkF m 129 #[.val (.int p1), .val (.ref b2), .val (.int (2 : Int32)), .unset, .unset, .unset, .unset, .unset] [(.int (2 : Int32)), (.ref b2)])) _
      refine X1.aaload hx (j := (2 : Int32)) (v := (.ref w_RESOURCE)) (by rw [e1]; exact Ar79.1) (State.isArrayOf_alike hZ.alike Ar79.2.1) rfl Ar79.2.2 hin79 hat79 (g := (mkF m 129 #[.val (.int p1), .val (.ref b2), .val (.int (2 : Int32)), .unset, .unset, .unset, .unset, .unset] [(.int (2 : Int32)), (.ref b2)])) rfl rfl (hb hby at_129) _ ?_
      show Steps p.tables e below (T1.setTop (mkF m 130 #[.val (.int p1), .val (.ref b2), .val (.int (2 : Int32)), .unset, .unset, .unset, .unset, .unset] [(.ref w_RESOURCE)])) _
      refine XS.astoreN X1.here hx rfl (hb hby at_130) rfl rfl (l' := #[.val (.int p1), .val (.ref b2), .val (.int (2 : Int32)), .val (.ref w_RESOURCE), .unset, .unset, .unset, .unset]) rfl ?_
      show Steps p.tables e below (T1.setTop (mkF m 131 #[.val (.int p1), .val (.ref b2), .val (.int (2 : Int32)), .val (.ref w_RESOURCE), .unset, .unset, .unset, .unset] [])) _
      refine XS.iloadN X1.here hx rfl (hb hby at_131) rfl ?_
      show Steps p.tables e below (T1.setTop (mkF m 132 #[.val (.int p1), .val (.ref b2), .val (.int (2 : Int32)), .val (.ref w_RESOURCE), .unset, .unset, .unset, .unset] [(.int (2 : Int32))])) _
      refine XS.bipush X1.here hx rfl (hb hby at_132) ?_
      show Steps p.tables e below (T1.setTop (mkF m 134 #[.val (.int p1), .val (.ref b2), .val (.int (2 : Int32)), .val (.ref w_RESOURCE), .unset, .unset, .unset, .unset] [(.int (11 : Int32)), (.int (2 : Int32))])) _
      refine XS.icmpNo X1.here hx rfl (hb hby at_134) rfl (feq (by decide : ¬ ((2 : Int32) = (11 : Int32)))).1 ?_
      show Steps p.tables e below (T1.setTop (mkF m 137 #[.val (.int p1), .val (.ref b2), .val (.int (2 : Int32)), .val (.ref w_RESOURCE), .unset, .unset, .unset, .unset] [])) _
      refine XS.iloadN X1.here hx rfl (hb hby at_137) rfl ?_
      show Steps p.tables e below (T1.setTop (mkF m 138 #[.val (.int p1), .val (.ref b2), .val (.int (2 : Int32)), .val (.ref w_RESOURCE), .unset, .unset, .unset, .unset] [(.int (2 : Int32))])) _
      refine XS.bipush X1.here hx rfl (hb hby at_138) ?_
      show Steps p.tables e below (T1.setTop (mkF m 140 #[.val (.int p1), .val (.ref b2), .val (.int (2 : Int32)), .val (.ref w_RESOURCE), .unset, .unset, .unset, .unset] [(.int (12 : Int32)), (.int (2 : Int32))])) _
      refine XS.icmpNo X1.here hx rfl (hb hby at_140) rfl (feq (by decide : ¬ ((2 : Int32) = (12 : Int32)))).1 ?_
      show Steps p.tables e below (T1.setTop (mkF m 143 #[.val (.int p1), .val (.ref b2), .val (.int (2 : Int32)), .val (.ref w_RESOURCE), .unset, .unset, .unset, .unset] [])) _
      refine XS.iloadN X1.here hx rfl (hb hby at_143) rfl ?_
      show Steps p.tables e below (T1.setTop (mkF m 144 #[.val (.int p1), .val (.ref b2), .val (.int (2 : Int32)), .val (.ref w_RESOURCE), .unset, .unset, .unset, .unset] [(.int (2 : Int32))])) _
      refine XS.bipush X1.here hx rfl (hb hby at_144) ?_
      show Steps p.tables e below (T1.setTop (mkF m 146 #[.val (.int p1), .val (.ref b2), .val (.int (2 : Int32)), .val (.ref w_RESOURCE), .unset, .unset, .unset, .unset] [(.int (14 : Int32)), (.int (2 : Int32))])) _
      refine XS.icmpNo X1.here hx rfl (hb hby at_146) rfl (feq (by decide : ¬ ((2 : Int32) = (14 : Int32)))).1 ?_
      show Steps p.tables e below (T1.setTop (mkF m 149 #[.val (.int p1), .val (.ref b2), .val (.int (2 : Int32)), .val (.ref w_RESOURCE), .unset, .unset, .unset, .unset] [])) _
      refine XS.iloadN X1.here hx rfl (hb hby at_149) rfl ?_
      show Steps p.tables e below (T1.setTop (mkF m 150 #[.val (.int p1), .val (.ref b2), .val (.int (2 : Int32)), .val (.ref w_RESOURCE), .unset, .unset, .unset, .unset] [(.int (2 : Int32))])) _
      refine XS.bipush X1.here hx rfl (hb hby at_150) ?_
      show Steps p.tables e below (T1.setTop (mkF m 152 #[.val (.int p1), .val (.ref b2), .val (.int (2 : Int32)), .val (.ref w_RESOURCE), .unset, .unset, .unset, .unset] [(.int (15 : Int32)), (.int (2 : Int32))])) _
      refine XS.icmpYes X1.here hx rfl (pc0 := 152) (pc' := 159) rfl (hb hby at_152) rfl (feq (by decide : ¬ ((2 : Int32) = (15 : Int32)))).2 (by decide) (by decide) ?_
      show Steps p.tables e below (T1.setTop (mkF m 159 #[.val (.int p1), .val (.ref b2), .val (.int (2 : Int32)), .val (.ref w_RESOURCE), .unset, .unset, .unset, .unset] [])) _
      refine XS.iconst X1.here hx rfl (hb hby at_159) ?_
      show Steps p.tables e below (T1.setTop (mkF m 160 #[.val (.int p1), .val (.ref b2), .val (.int (2 : Int32)), .val (.ref w_RESOURCE), .unset, .unset, .unset, .unset] [(.int (0 : Int32))])) _
      refine XS.istore X1.here hx rfl (hb hby at_160) rfl (l' := #[.val (.int p1), .val (.ref b2), .val (.int (2 : Int32)), .val (.ref w_RESOURCE), .val (.int (0 : Int32)), .unset, .unset, .unset]) rfl ?_
      show Steps p.tables e below (T1.setTop (mkF m 162 #[.val (.int p1), .val (.ref b2), .val (.int (2 : Int32)), .val (.ref w_RESOURCE), .val (.int (0 : Int32)), .unset, .unset, .unset] [])) _
      refine XS.iload X1.here hx rfl (hb hby at_162) rfl ?_
      show Steps p.tables e below (T1.setTop (mkF m 164 #[.val (.int p1), .val (.ref b2), .val (.int (2 : Int32)), .val (.ref w_RESOURCE), .val (.int (0 : Int32)), .unset, .unset, .unset] [(.int (0 : Int32))])) _
      refine XS.ifNo X1.here hx rfl (hb hby at_164) rfl ((if0 _ _).trans (teq (by decide : (0 : Int32) = (0 : Int32))).2) ?_
      show Steps p.tables e below (T1.setTop (mkF m 167 #[.val (.int p1), .val (.ref b2), .val (.int (2 : Int32)), .val (.ref w_RESOURCE), .val (.int (0 : Int32)), .unset, .unset, .unset] [])) _
      refine XS.iconst X1.here hx rfl (hb hby at_167) ?_
      show Steps p.tables e below (T1.setTop (mkF m 168 #[.val (.int p1), .val (.ref b2), .val (.int (2 : Int32)), .val (.ref w_RESOURCE), .val (.int (0 : Int32)), .unset, .unset, .unset] [(.int (1 : Int32))])) _
      refine XS.goto X1.here hx rfl (pc0 := 168) (pc' := 172) rfl (hb hby at_168) (by decide) (by decide) ?_
      show Steps p.tables e below (T1.setTop (mkF m 172 #[.val (.int p1), .val (.ref b2), .val (.int (2 : Int32)), .val (.ref w_RESOURCE), .val (.int (0 : Int32)), .unset, .unset, .unset] [(.int (1 : Int32))])) _
      refine XS.istore X1.here hx rfl (hb hby at_172) rfl (l' := #[.val (.int p1), .val (.ref b2), .val (.int (2 : Int32)), .val (.ref w_RESOURCE), .val (.int (0 : Int32)), .val (.int (1 : Int32)), .unset, .unset]) rfl ?_
      show Steps p.tables e below (T1.setTop (mkF m 174 #[.val (.int p1), .val (.ref b2), .val (.int (2 : Int32)), .val (.ref w_RESOURCE), .val (.int (0 : Int32)), .val (.int (1 : Int32)), .unset, .unset] [])) _
      refine XS.aloadN X1.here hx rfl (hb hby at_174) rfl rfl ?_
      show Steps p.tables e below (T1.setTop (mkF m 175 #[.val (.int p1), .val (.ref b2), .val (.int (2 : Int32)), .val (.ref w_RESOURCE), .val (.int (0 : Int32)), .val (.int (1 : Int32)), .unset, .unset] [(.ref w_RESOURCE)])) _
      refine st80.trans ?_
      show Steps p.tables e below (T80.setTop (mkF m 178 #[.val (.int p1), .val (.ref b2), .val (.int (2 : Int32)), .val (.ref w_RESOURCE), .val (.int (0 : Int32)), .val (.int (1 : Int32)), .unset, .unset] [(.int (1 : Int32))])) _
      refine XS.istore X80.here hx rfl (hb hby at_178) rfl (l' := #[.val (.int p1), .val (.ref b2), .val (.int (2 : Int32)), .val (.ref w_RESOURCE), .val (.int (0 : Int32)), .val (.int (1 : Int32)), .val (.int (1 : Int32)), .unset]) rfl ?_
      show Steps p.tables e below (T80.setTop (mkF m 180 #[.val (.int p1), .val (.ref b2), .val (.int (2 : Int32)), .val (.ref w_RESOURCE), .val (.int (0 : Int32)), .val (.int (1 : Int32)), .val (.int (1 : Int32)), .unset] [])) _
      refine XS.aloadN X80.here hx rfl (hb hby at_180) rfl rfl ?_
      show Steps p.tables e below (T80.setTop (mkF m 181 #[.val (.int p1), .val (.ref b2), .val (.int (2 : Int32)), .val (.ref w_RESOURCE), .val (.int (0 : Int32)), .val (.int (1 : Int32)), .val (.int (1 : Int32)), .unset] [(.ref w_RESOURCE)])) _
      refine st81.trans ?_
      show Steps p.tables e below (T81.setTop (mkF m 184 #[.val (.int p1), .val (.ref b2), .val (.int (2 : Int32)), .val (.ref w_RESOURCE), .val (.int (0 : Int32)), .val (.int (1 : Int32)), .val (.int (1 : Int32)), .unset] [(.int (0 : Int32))])) _
      refine XS.ifYes X81.here hx rfl (pc0 := 184) (pc' := 192) rfl (hb hby at_184) rfl ((if0 _ _).trans (teq (by decide : (0 : Int32) = (0 : Int32))).1) (by decide) (by decide) ?_
      show Steps p.tables e below (T81.setTop (mkF m 192 #[.val (.int p1), .val (.ref b2), .val (.int (2 : Int32)), .val (.ref w_RESOURCE), .val (.int (0 : Int32)), .val (.int (1 : Int32)), .val (.int (1 : Int32)), .unset] [])) _
      refine XS.iconst X81.here hx rfl (hb hby at_192) ?_
      show Steps p.tables e below (T81.setTop (mkF m 193 #[.val (.int p1), .val (.ref b2), .val (.int (2 : Int32)), .val (.ref w_RESOURCE), .val (.int (0 : Int32)), .val (.int (1 : Int32)), .val (.int (1 : Int32)), .unset] [(.int (1 : Int32))])) _
      refine XS.goto X81.here hx rfl (pc0 := 193) (pc' := 197) rfl (hb hby at_193) (by decide) (by decide) ?_
      show Steps p.tables e below (T81.setTop (mkF m 197 #[.val (.int p1), .val (.ref b2), .val (.int (2 : Int32)), .val (.ref w_RESOURCE), .val (.int (0 : Int32)), .val (.int (1 : Int32)), .val (.int (1 : Int32)), .unset] [(.int (1 : Int32))])) _
      refine XS.istore X81.here hx rfl (hb hby at_197) rfl (l' := #[.val (.int p1), .val (.ref b2), .val (.int (2 : Int32)), .val (.ref w_RESOURCE), .val (.int (0 : Int32)), .val (.int (1 : Int32)), .val (.int (1 : Int32)), .val (.int (1 : Int32))]) rfl ?_
      show Steps p.tables e below (T81.setTop (mkF m 199 #[.val (.int p1), .val (.ref b2), .val (.int (2 : Int32)), .val (.ref w_RESOURCE), .val (.int (0 : Int32)), .val (.int (1 : Int32)), .val (.int (1 : Int32)), .val (.int (1 : Int32))] [])) _
      refine XS.iload X81.here hx rfl (hb hby at_199) rfl ?_
      show Steps p.tables e below (T81.setTop (mkF m 201 #[.val (.int p1), .val (.ref b2), .val (.int (2 : Int32)), .val (.ref w_RESOURCE), .val (.int (0 : Int32)), .val (.int (1 : Int32)), .val (.int (1 : Int32)), .val (.int (1 : Int32))] [(.int (1 : Int32))])) _
      refine XS.iload X81.here hx rfl (hb hby at_201) rfl ?_
      show Steps p.tables e below (T81.setTop (mkF m 203 #[.val (.int p1), .val (.ref b2), .val (.int (2 : Int32)), .val (.ref w_RESOURCE), .val (.int (0 : Int32)), .val (.int (1 : Int32)), .val (.int (1 : Int32)), .val (.int (1 : Int32))] [(.int (1 : Int32)), (.int (1 : Int32))])) _
      refine XS.icmpNo X81.here hx rfl (hb hby at_203) rfl (teq (by decide : (1 : Int32) = (1 : Int32))).2 ?_
      show Steps p.tables e below (T81.setTop (mkF m 206 #[.val (.int p1), .val (.ref b2), .val (.int (2 : Int32)), .val (.ref w_RESOURCE), .val (.int (0 : Int32)), .val (.int (1 : Int32)), .val (.int (1 : Int32)), .val (.int (1 : Int32))] [])) _
      refine XS.iload X81.here hx rfl (hb hby at_206) rfl ?_
      show Steps p.tables e below (T81.setTop (mkF m 208 #[.val (.int p1), .val (.ref b2), .val (.int (2 : Int32)), .val (.ref w_RESOURCE), .val (.int (0 : Int32)), .val (.int (1 : Int32)), .val (.int (1 : Int32)), .val (.int (1 : Int32))] [(.int (1 : Int32))])) _
      refine XS.ifNo X81.here hx rfl (hb hby at_208) rfl ((if0 _ _).trans (feq (by decide : ¬ ((1 : Int32) = (0 : Int32)))).1) ?_
      show Steps p.tables e below (T81.setTop (mkF m 211 #[.val (.int p1), .val (.ref b2), .val (.int (2 : Int32)), .val (.ref w_RESOURCE), .val (.int (0 : Int32)), .val (.int (1 : Int32)), .val (.int (1 : Int32)), .val (.int (1 : Int32))] [])) _
      refine XS.iconst X81.here hx rfl (hb hby at_211) ?_
      show Steps p.tables e below (T81.setTop (mkF m 212 #[.val (.int p1), .val (.ref b2), .val (.int (2 : Int32)), .val (.ref w_RESOURCE), .val (.int (0 : Int32)), .val (.int (1 : Int32)), .val (.int (1 : Int32)), .val (.int (1 : Int32))] [(.int (1 : Int32))])) _
      refine XS.goto X81.here hx rfl (pc0 := 212) (pc' := 216) rfl (hb hby at_212) (by decide) (by decide) ?_
      show Steps p.tables e below (T81.setTop (mkF m 216 #[.val (.int p1), .val (.ref b2), .val (.int (2 : Int32)), .val (.ref w_RESOURCE), .val (.int (0 : Int32)), .val (.int (1 : Int32)), .val (.int (1 : Int32)), .val (.int (1 : Int32))] [(.int (1 : Int32))])) _
      exact retN X81 hx (t := .boolean) Bd.returns (by simp) (hb hby at_216) hr
    · show Q0_0 Z p1 w_POD w_BASE w_RESOURCE w_AGENT w_CLIENT w_ISSUER w_OWNER w_CREATOR w_CREDENTIAL w_REQUESTS w_AGENTS w_STATS w_WAC_ALLOW w_METHOD w_CREATES w_REMOVES w_PORT w_VALUE w_FLAG w_REPEATED_VALUE h0 n0 _ T81.heap _
      rw [e81]
      exact ⟨rfl, N81⟩
  ·
    obtain ⟨cl82, Ar82, qq82, Sz82, Nn82, Hs82, Gs82⟩ := id pf1_0
    have hin82 : ¬ ((3 : Int32) < 0 ∨ cl82.slots.size ≤ ((3 : Int32)).toNatClampNeg) := inb_of Sz82 ⟨by decide, by decide⟩
    have hat82 : cl82.slots[((3 : Int32)).toNatClampNeg]? = some (.ref w_AGENT) := Has.at Hs82 hin82 rfl
    obtain ⟨cq83, kq83, q83a, q83b, q83c⟩ := isOf hZ e1 (E_AGENT.keep K1)
    obtain ⟨_, _, ⟨T83, L83, k83, n83⟩, -, X83, ⟨Lc83, hQ83, l83, y83, z83⟩, st83⟩ := X1.virtualBack hx (y := (⟨"com/example/garm/garm/command/Option", "takesValue", "()Z"⟩ : MethodName)) (z := (⟨"com/example/garm/garm/command/Option", "takesValue", "()Z"⟩ : MethodName)) hown (mvT hZ (hw _ (List.mem_of_getElem? (i := 39) rfl))) (mvT hZ (hw _ (List.mem_of_getElem? (i := 40) rfl))) (notFace_of_selects (args := #[]) (mvT hZ (hw _ (List.mem_of_getElem? (i := 42) rfl)))) (mvT hZ (hw _ (List.mem_of_getElem? (i := 42) rfl))) (mvT hZ (hw _ (List.mem_of_getElem? (i := 41) rfl))) (by decide) (backOf (W := 0) (rm1_3 l Z a0 hw [] w_AGENT w_VALUE w_FLAG h1 n0 (Nat.le_trans Z0 K1.1) (F_form_AGENT.keep K1 nin0) (own_staK S_FLAG K1 all0) ne_FLAG_VALUE) hZ (hw _ (List.mem_of_getElem? (i := 43) rfl)) (hw _ (List.mem_of_getElem? (i := 3) rfl)) (by decide) (by decide)) q83a q83c (g := (mkF m 175 #[.val (.int p1), .val (.ref b2), .val (.int (3 : Int32)), .val (.ref w_AGENT), .val (.int (0 : Int32)), .val (.int (1 : Int32)), .unset, .unset] [(.ref w_AGENT)])) rfl (by rw [hml]; rfl) (Steps.refl _) (argsL := []) (rest := []) (lenOf pd_0 rfl) rfl (by show 2 * 0 + _ ≤ _; exact Nat.le_of_eq rfl) (hb hby at_175) (fun _ _ => ⟨rfl, e1, (by decide : 1 + 0 ≤ _), (by decide : 17 + 0 ≤ _)⟩)
    dsimp only [Pt.U, Pt.locs, Pt.cells, Pt.slots] at X83 l83 y83 z83 st83 hQ83
    subst l83 y83 z83
    obtain ⟨rfl, N83q, e83⟩ := hQ83
    have N83 := Fr.app N1 N83q
    obtain ⟨cq84, kq84, q84a, q84b, q84c⟩ := isOf hZ e83 (E_AGENT.keep K1)
    obtain ⟨_, _, ⟨T84, L84, k84, n84⟩, -, X84, ⟨Lc84, hQ84, l84, y84, z84⟩, st84⟩ := X83.virtualBack hx (y := (⟨"com/example/garm/garm/command/Option", "isRepeatable", "()Z"⟩ : MethodName)) (z := (⟨"com/example/garm/garm/command/Option", "isRepeatable", "()Z"⟩ : MethodName)) hown (mvT hZ (hw _ (List.mem_of_getElem? (i := 50) rfl))) (mvT hZ (hw _ (List.mem_of_getElem? (i := 51) rfl))) (notFace_of_selects (args := #[]) (mvT hZ (hw _ (List.mem_of_getElem? (i := 53) rfl)))) (mvT hZ (hw _ (List.mem_of_getElem? (i := 53) rfl))) (mvT hZ (hw _ (List.mem_of_getElem? (i := 52) rfl))) (by decide) (backOf (W := 0) (rm2_3 l Z a0 hw [] w_AGENT w_VALUE w_REPEATED_VALUE h1 n0 (Nat.le_trans Z0 K1.1) (F_form_AGENT.keep K1 nin0) (own_staK S_REPEATED_VALUE K1 all0) ne_REPEATED_VALUE_VALUE) hZ (hw _ (List.mem_of_getElem? (i := 54) rfl)) (hw _ (List.mem_of_getElem? (i := 3) rfl)) (by decide) (by decide)) q84a q84c (g := (mkF m 181 #[.val (.int p1), .val (.ref b2), .val (.int (3 : Int32)), .val (.ref w_AGENT), .val (.int (0 : Int32)), .val (.int (1 : Int32)), .val (.int (1 : Int32)), .unset] [(.ref w_AGENT)])) rfl (by rw [hml]; rfl) (Steps.refl _) (argsL := []) (rest := []) (lenOf pd_0 rfl) rfl (by show 2 * 0 + _ ≤ _; exact Nat.le_of_eq rfl) (hb hby at_181) (fun _ _ => ⟨rfl, e83, (by decide : 1 + 0 ≤ _), (by decide : 17 + 0 ≤ _)⟩)
    dsimp only [Pt.U, Pt.locs, Pt.cells, Pt.slots] at X84 l84 y84 z84 st84 hQ84
    subst l84 y84 z84
    obtain ⟨rfl, N84q, e84⟩ := hQ84
    have N84 := Fr.app N83 N84q
    obtain ⟨fs, hr, hrun, hended, hW, hsame⟩ := X84.leave (v := some (.int (1 : Int32))) (fun h => by rw [Bd.returns] at h; cases h)
    refine ⟨_, _, k55 _ ?_, hrun, hended, _, _, rfl, ?_, ⟨_, rfl⟩, hW, hsame.mono (by decide) (by decide)⟩
    ·
      show Steps p.tables e below (T1.setTop (mkF m 126 #[.val (.int p1), .val (.ref b2), .unset, .unset, .unset, .unset, .unset, .unset] [(.int ((p1 &&& (2147483647 : Int32)) % (17 : Int32)))])) _
      rewrite [hk59_3]
      show Steps p.tables e below (T1.setTop (mkF m 126 #[.val (.int p1), .val (.ref b2), .unset, .unset, .unset, .unset, .unset, .unset] [(.int (3 : Int32))])) _
      refine XS.istoreN X1.here hx rfl (hb hby at_126) rfl (l' := #[.val (.int p1), .val (.ref b2), .val (.int (3 : Int32)), .unset, .unset, .unset, .unset, .unset]) rfl ?_
      show Steps p.tables e below (T1.setTop (mkF m 127 #[.val (.int p1), .val (.ref b2), .val (.int (3 : Int32)), .unset, .unset, .unset, .unset, .unset] [])) _
      refine XS.aloadN X1.here hx rfl (hb hby at_127) rfl rfl ?_
      show Steps p.tables e below (T1.setTop (mkF m 128 #[.val (.int p1), .val (.ref b2), .val (.int (3 : Int32)), .unset, .unset, .unset, .unset, .unset] [(.ref b2)])) _
      refine XS.iloadN X1.here hx rfl (hb hby at_128) rfl ?_
      show Steps p.tables e below (T1.setTop (mkF m 129 #[.val (.int p1), .val (.ref b2), .val (.int (3 : Int32)), .unset, .unset, .unset, .unset, .unset] [(.int (3 : Int32)), (.ref b2)])) _
      refine X1.aaload hx (j := (3 : Int32)) (v := (.ref w_AGENT)) (by rw [e1]; exact Ar82.1) (State.isArrayOf_alike hZ.alike Ar82.2.1) rfl Ar82.2.2 hin82 hat82 (g := (mkF m 129 #[.val (.int p1), .val (.ref b2), .val (.int (3 : Int32)), .unset, .unset, .unset, .unset, .unset] [(.int (3 : Int32)), (.ref b2)])) rfl rfl (hb hby at_129) _ ?_
      show Steps p.tables e below (T1.setTop (mkF m 130 #[.val (.int p1), .val (.ref b2), .val (.int (3 : Int32)), .unset, .unset, .unset, .unset, .unset] [(.ref w_AGENT)])) _
      refine XS.astoreN X1.here hx rfl (hb hby at_130) rfl rfl (l' := #[.val (.int p1), .val (.ref b2), .val (.int (3 : Int32)), .val (.ref w_AGENT), .unset, .unset, .unset, .unset]) rfl ?_
      show Steps p.tables e below (T1.setTop (mkF m 131 #[.val (.int p1), .val (.ref b2), .val (.int (3 : Int32)), .val (.ref w_AGENT), .unset, .unset, .unset, .unset] [])) _
      refine XS.iloadN X1.here hx rfl (hb hby at_131) rfl ?_
      show Steps p.tables e below (T1.setTop (mkF m 132 #[.val (.int p1), .val (.ref b2), .val (.int (3 : Int32)), .val (.ref w_AGENT), .unset, .unset, .unset, .unset] [(.int (3 : Int32))])) _
      refine XS.bipush X1.here hx rfl (hb hby at_132) ?_
      show Steps p.tables e below (T1.setTop (mkF m 134 #[.val (.int p1), .val (.ref b2), .val (.int (3 : Int32)), .val (.ref w_AGENT), .unset, .unset, .unset, .unset] [(.int (11 : Int32)), (.int (3 : Int32))])) _
      refine XS.icmpNo X1.here hx rfl (hb hby at_134) rfl (feq (by decide : ¬ ((3 : Int32) = (11 : Int32)))).1 ?_
      show Steps p.tables e below (T1.setTop (mkF m 137 #[.val (.int p1), .val (.ref b2), .val (.int (3 : Int32)), .val (.ref w_AGENT), .unset, .unset, .unset, .unset] [])) _
      refine XS.iloadN X1.here hx rfl (hb hby at_137) rfl ?_
      show Steps p.tables e below (T1.setTop (mkF m 138 #[.val (.int p1), .val (.ref b2), .val (.int (3 : Int32)), .val (.ref w_AGENT), .unset, .unset, .unset, .unset] [(.int (3 : Int32))])) _
      refine XS.bipush X1.here hx rfl (hb hby at_138) ?_
      show Steps p.tables e below (T1.setTop (mkF m 140 #[.val (.int p1), .val (.ref b2), .val (.int (3 : Int32)), .val (.ref w_AGENT), .unset, .unset, .unset, .unset] [(.int (12 : Int32)), (.int (3 : Int32))])) _
      refine XS.icmpNo X1.here hx rfl (hb hby at_140) rfl (feq (by decide : ¬ ((3 : Int32) = (12 : Int32)))).1 ?_
      show Steps p.tables e below (T1.setTop (mkF m 143 #[.val (.int p1), .val (.ref b2), .val (.int (3 : Int32)), .val (.ref w_AGENT), .unset, .unset, .unset, .unset] [])) _
      refine XS.iloadN X1.here hx rfl (hb hby at_143) rfl ?_
      show Steps p.tables e below (T1.setTop (mkF m 144 #[.val (.int p1), .val (.ref b2), .val (.int (3 : Int32)), .val (.ref w_AGENT), .unset, .unset, .unset, .unset] [(.int (3 : Int32))])) _
      refine XS.bipush X1.here hx rfl (hb hby at_144) ?_
      show Steps p.tables e below (T1.setTop (mkF m 146 #[.val (.int p1), .val (.ref b2), .val (.int (3 : Int32)), .val (.ref w_AGENT), .unset, .unset, .unset, .unset] [(.int (14 : Int32)), (.int (3 : Int32))])) _
      refine XS.icmpNo X1.here hx rfl (hb hby at_146) rfl (feq (by decide : ¬ ((3 : Int32) = (14 : Int32)))).1 ?_
      show Steps p.tables e below (T1.setTop (mkF m 149 #[.val (.int p1), .val (.ref b2), .val (.int (3 : Int32)), .val (.ref w_AGENT), .unset, .unset, .unset, .unset] [])) _
      refine XS.iloadN X1.here hx rfl (hb hby at_149) rfl ?_
      show Steps p.tables e below (T1.setTop (mkF m 150 #[.val (.int p1), .val (.ref b2), .val (.int (3 : Int32)), .val (.ref w_AGENT), .unset, .unset, .unset, .unset] [(.int (3 : Int32))])) _
      refine XS.bipush X1.here hx rfl (hb hby at_150) ?_
      show Steps p.tables e below (T1.setTop (mkF m 152 #[.val (.int p1), .val (.ref b2), .val (.int (3 : Int32)), .val (.ref w_AGENT), .unset, .unset, .unset, .unset] [(.int (15 : Int32)), (.int (3 : Int32))])) _
      refine XS.icmpYes X1.here hx rfl (pc0 := 152) (pc' := 159) rfl (hb hby at_152) rfl (feq (by decide : ¬ ((3 : Int32) = (15 : Int32)))).2 (by decide) (by decide) ?_
      show Steps p.tables e below (T1.setTop (mkF m 159 #[.val (.int p1), .val (.ref b2), .val (.int (3 : Int32)), .val (.ref w_AGENT), .unset, .unset, .unset, .unset] [])) _
      refine XS.iconst X1.here hx rfl (hb hby at_159) ?_
      show Steps p.tables e below (T1.setTop (mkF m 160 #[.val (.int p1), .val (.ref b2), .val (.int (3 : Int32)), .val (.ref w_AGENT), .unset, .unset, .unset, .unset] [(.int (0 : Int32))])) _
      refine XS.istore X1.here hx rfl (hb hby at_160) rfl (l' := #[.val (.int p1), .val (.ref b2), .val (.int (3 : Int32)), .val (.ref w_AGENT), .val (.int (0 : Int32)), .unset, .unset, .unset]) rfl ?_
      show Steps p.tables e below (T1.setTop (mkF m 162 #[.val (.int p1), .val (.ref b2), .val (.int (3 : Int32)), .val (.ref w_AGENT), .val (.int (0 : Int32)), .unset, .unset, .unset] [])) _
      refine XS.iload X1.here hx rfl (hb hby at_162) rfl ?_
      show Steps p.tables e below (T1.setTop (mkF m 164 #[.val (.int p1), .val (.ref b2), .val (.int (3 : Int32)), .val (.ref w_AGENT), .val (.int (0 : Int32)), .unset, .unset, .unset] [(.int (0 : Int32))])) _
      refine XS.ifNo X1.here hx rfl (hb hby at_164) rfl ((if0 _ _).trans (teq (by decide : (0 : Int32) = (0 : Int32))).2) ?_
      show Steps p.tables e below (T1.setTop (mkF m 167 #[.val (.int p1), .val (.ref b2), .val (.int (3 : Int32)), .val (.ref w_AGENT), .val (.int (0 : Int32)), .unset, .unset, .unset] [])) _
      refine XS.iconst X1.here hx rfl (hb hby at_167) ?_
      show Steps p.tables e below (T1.setTop (mkF m 168 #[.val (.int p1), .val (.ref b2), .val (.int (3 : Int32)), .val (.ref w_AGENT), .val (.int (0 : Int32)), .unset, .unset, .unset] [(.int (1 : Int32))])) _
      refine XS.goto X1.here hx rfl (pc0 := 168) (pc' := 172) rfl (hb hby at_168) (by decide) (by decide) ?_
      show Steps p.tables e below (T1.setTop (mkF m 172 #[.val (.int p1), .val (.ref b2), .val (.int (3 : Int32)), .val (.ref w_AGENT), .val (.int (0 : Int32)), .unset, .unset, .unset] [(.int (1 : Int32))])) _
      refine XS.istore X1.here hx rfl (hb hby at_172) rfl (l' := #[.val (.int p1), .val (.ref b2), .val (.int (3 : Int32)), .val (.ref w_AGENT), .val (.int (0 : Int32)), .val (.int (1 : Int32)), .unset, .unset]) rfl ?_
      show Steps p.tables e below (T1.setTop (mkF m 174 #[.val (.int p1), .val (.ref b2), .val (.int (3 : Int32)), .val (.ref w_AGENT), .val (.int (0 : Int32)), .val (.int (1 : Int32)), .unset, .unset] [])) _
      refine XS.aloadN X1.here hx rfl (hb hby at_174) rfl rfl ?_
      show Steps p.tables e below (T1.setTop (mkF m 175 #[.val (.int p1), .val (.ref b2), .val (.int (3 : Int32)), .val (.ref w_AGENT), .val (.int (0 : Int32)), .val (.int (1 : Int32)), .unset, .unset] [(.ref w_AGENT)])) _
      refine st83.trans ?_
      show Steps p.tables e below (T83.setTop (mkF m 178 #[.val (.int p1), .val (.ref b2), .val (.int (3 : Int32)), .val (.ref w_AGENT), .val (.int (0 : Int32)), .val (.int (1 : Int32)), .unset, .unset] [(.int (1 : Int32))])) _
      refine XS.istore X83.here hx rfl (hb hby at_178) rfl (l' := #[.val (.int p1), .val (.ref b2), .val (.int (3 : Int32)), .val (.ref w_AGENT), .val (.int (0 : Int32)), .val (.int (1 : Int32)), .val (.int (1 : Int32)), .unset]) rfl ?_
      show Steps p.tables e below (T83.setTop (mkF m 180 #[.val (.int p1), .val (.ref b2), .val (.int (3 : Int32)), .val (.ref w_AGENT), .val (.int (0 : Int32)), .val (.int (1 : Int32)), .val (.int (1 : Int32)), .unset] [])) _
      refine XS.aloadN X83.here hx rfl (hb hby at_180) rfl rfl ?_
      show Steps p.tables e below (T83.setTop (mkF m 181 #[.val (.int p1), .val (.ref b2), .val (.int (3 : Int32)), .val (.ref w_AGENT), .val (.int (0 : Int32)), .val (.int (1 : Int32)), .val (.int (1 : Int32)), .unset] [(.ref w_AGENT)])) _
      refine st84.trans ?_
      show Steps p.tables e below (T84.setTop (mkF m 184 #[.val (.int p1), .val (.ref b2), .val (.int (3 : Int32)), .val (.ref w_AGENT), .val (.int (0 : Int32)), .val (.int (1 : Int32)), .val (.int (1 : Int32)), .unset] [(.int (0 : Int32))])) _
      refine XS.ifYes X84.here hx rfl (pc0 := 184) (pc' := 192) rfl (hb hby at_184) rfl ((if0 _ _).trans (teq (by decide : (0 : Int32) = (0 : Int32))).1) (by decide) (by decide) ?_
      show Steps p.tables e below (T84.setTop (mkF m 192 #[.val (.int p1), .val (.ref b2), .val (.int (3 : Int32)), .val (.ref w_AGENT), .val (.int (0 : Int32)), .val (.int (1 : Int32)), .val (.int (1 : Int32)), .unset] [])) _
      refine XS.iconst X84.here hx rfl (hb hby at_192) ?_
      show Steps p.tables e below (T84.setTop (mkF m 193 #[.val (.int p1), .val (.ref b2), .val (.int (3 : Int32)), .val (.ref w_AGENT), .val (.int (0 : Int32)), .val (.int (1 : Int32)), .val (.int (1 : Int32)), .unset] [(.int (1 : Int32))])) _
      refine XS.goto X84.here hx rfl (pc0 := 193) (pc' := 197) rfl (hb hby at_193) (by decide) (by decide) ?_
      show Steps p.tables e below (T84.setTop (mkF m 197 #[.val (.int p1), .val (.ref b2), .val (.int (3 : Int32)), .val (.ref w_AGENT), .val (.int (0 : Int32)), .val (.int (1 : Int32)), .val (.int (1 : Int32)), .unset] [(.int (1 : Int32))])) _
      refine XS.istore X84.here hx rfl (hb hby at_197) rfl (l' := #[.val (.int p1), .val (.ref b2), .val (.int (3 : Int32)), .val (.ref w_AGENT), .val (.int (0 : Int32)), .val (.int (1 : Int32)), .val (.int (1 : Int32)), .val (.int (1 : Int32))]) rfl ?_
      show Steps p.tables e below (T84.setTop (mkF m 199 #[.val (.int p1), .val (.ref b2), .val (.int (3 : Int32)), .val (.ref w_AGENT), .val (.int (0 : Int32)), .val (.int (1 : Int32)), .val (.int (1 : Int32)), .val (.int (1 : Int32))] [])) _
      refine XS.iload X84.here hx rfl (hb hby at_199) rfl ?_
      show Steps p.tables e below (T84.setTop (mkF m 201 #[.val (.int p1), .val (.ref b2), .val (.int (3 : Int32)), .val (.ref w_AGENT), .val (.int (0 : Int32)), .val (.int (1 : Int32)), .val (.int (1 : Int32)), .val (.int (1 : Int32))] [(.int (1 : Int32))])) _
      refine XS.iload X84.here hx rfl (hb hby at_201) rfl ?_
      show Steps p.tables e below (T84.setTop (mkF m 203 #[.val (.int p1), .val (.ref b2), .val (.int (3 : Int32)), .val (.ref w_AGENT), .val (.int (0 : Int32)), .val (.int (1 : Int32)), .val (.int (1 : Int32)), .val (.int (1 : Int32))] [(.int (1 : Int32)), (.int (1 : Int32))])) _
      refine XS.icmpNo X84.here hx rfl (hb hby at_203) rfl (teq (by decide : (1 : Int32) = (1 : Int32))).2 ?_
      show Steps p.tables e below (T84.setTop (mkF m 206 #[.val (.int p1), .val (.ref b2), .val (.int (3 : Int32)), .val (.ref w_AGENT), .val (.int (0 : Int32)), .val (.int (1 : Int32)), .val (.int (1 : Int32)), .val (.int (1 : Int32))] [])) _
      refine XS.iload X84.here hx rfl (hb hby at_206) rfl ?_
      show Steps p.tables e below (T84.setTop (mkF m 208 #[.val (.int p1), .val (.ref b2), .val (.int (3 : Int32)), .val (.ref w_AGENT), .val (.int (0 : Int32)), .val (.int (1 : Int32)), .val (.int (1 : Int32)), .val (.int (1 : Int32))] [(.int (1 : Int32))])) _
      refine XS.ifNo X84.here hx rfl (hb hby at_208) rfl ((if0 _ _).trans (feq (by decide : ¬ ((1 : Int32) = (0 : Int32)))).1) ?_
      show Steps p.tables e below (T84.setTop (mkF m 211 #[.val (.int p1), .val (.ref b2), .val (.int (3 : Int32)), .val (.ref w_AGENT), .val (.int (0 : Int32)), .val (.int (1 : Int32)), .val (.int (1 : Int32)), .val (.int (1 : Int32))] [])) _
      refine XS.iconst X84.here hx rfl (hb hby at_211) ?_
      show Steps p.tables e below (T84.setTop (mkF m 212 #[.val (.int p1), .val (.ref b2), .val (.int (3 : Int32)), .val (.ref w_AGENT), .val (.int (0 : Int32)), .val (.int (1 : Int32)), .val (.int (1 : Int32)), .val (.int (1 : Int32))] [(.int (1 : Int32))])) _
      refine XS.goto X84.here hx rfl (pc0 := 212) (pc' := 216) rfl (hb hby at_212) (by decide) (by decide) ?_
      show Steps p.tables e below (T84.setTop (mkF m 216 #[.val (.int p1), .val (.ref b2), .val (.int (3 : Int32)), .val (.ref w_AGENT), .val (.int (0 : Int32)), .val (.int (1 : Int32)), .val (.int (1 : Int32)), .val (.int (1 : Int32))] [(.int (1 : Int32))])) _
      exact retN X84 hx (t := .boolean) Bd.returns (by simp) (hb hby at_216) hr
    · show Q0_0 Z p1 w_POD w_BASE w_RESOURCE w_AGENT w_CLIENT w_ISSUER w_OWNER w_CREATOR w_CREDENTIAL w_REQUESTS w_AGENTS w_STATS w_WAC_ALLOW w_METHOD w_CREATES w_REMOVES w_PORT w_VALUE w_FLAG w_REPEATED_VALUE h0 n0 _ T84.heap _
      rw [e84]
      exact ⟨rfl, N84⟩
  ·
    obtain ⟨cl85, Ar85, qq85, Sz85, Nn85, Hs85, Gs85⟩ := id pf1_0
    have hin85 : ¬ ((4 : Int32) < 0 ∨ cl85.slots.size ≤ ((4 : Int32)).toNatClampNeg) := inb_of Sz85 ⟨by decide, by decide⟩
    have hat85 : cl85.slots[((4 : Int32)).toNatClampNeg]? = some (.ref w_CLIENT) := Has.at Hs85 hin85 rfl
    obtain ⟨cq86, kq86, q86a, q86b, q86c⟩ := isOf hZ e1 (E_CLIENT.keep K1)
    obtain ⟨_, _, ⟨T86, L86, k86, n86⟩, -, X86, ⟨Lc86, hQ86, l86, y86, z86⟩, st86⟩ := X1.virtualBack hx (y := (⟨"com/example/garm/garm/command/Option", "takesValue", "()Z"⟩ : MethodName)) (z := (⟨"com/example/garm/garm/command/Option", "takesValue", "()Z"⟩ : MethodName)) hown (mvT hZ (hw _ (List.mem_of_getElem? (i := 39) rfl))) (mvT hZ (hw _ (List.mem_of_getElem? (i := 40) rfl))) (notFace_of_selects (args := #[]) (mvT hZ (hw _ (List.mem_of_getElem? (i := 42) rfl)))) (mvT hZ (hw _ (List.mem_of_getElem? (i := 42) rfl))) (mvT hZ (hw _ (List.mem_of_getElem? (i := 41) rfl))) (by decide) (backOf (W := 0) (rm1_4 l Z a0 hw [] w_CLIENT w_VALUE w_FLAG h1 n0 (Nat.le_trans Z0 K1.1) (F_form_CLIENT.keep K1 nin0) (own_staK S_FLAG K1 all0) ne_FLAG_VALUE) hZ (hw _ (List.mem_of_getElem? (i := 43) rfl)) (hw _ (List.mem_of_getElem? (i := 3) rfl)) (by decide) (by decide)) q86a q86c (g := (mkF m 175 #[.val (.int p1), .val (.ref b2), .val (.int (4 : Int32)), .val (.ref w_CLIENT), .val (.int (0 : Int32)), .val (.int (1 : Int32)), .unset, .unset] [(.ref w_CLIENT)])) rfl (by rw [hml]; rfl) (Steps.refl _) (argsL := []) (rest := []) (lenOf pd_0 rfl) rfl (by show 2 * 0 + _ ≤ _; exact Nat.le_of_eq rfl) (hb hby at_175) (fun _ _ => ⟨rfl, e1, (by decide : 1 + 0 ≤ _), (by decide : 17 + 0 ≤ _)⟩)
    dsimp only [Pt.U, Pt.locs, Pt.cells, Pt.slots] at X86 l86 y86 z86 st86 hQ86
    subst l86 y86 z86
    obtain ⟨rfl, N86q, e86⟩ := hQ86
    have N86 := Fr.app N1 N86q
    obtain ⟨cq87, kq87, q87a, q87b, q87c⟩ := isOf hZ e86 (E_CLIENT.keep K1)
    obtain ⟨_, _, ⟨T87, L87, k87, n87⟩, -, X87, ⟨Lc87, hQ87, l87, y87, z87⟩, st87⟩ := X86.virtualBack hx (y := (⟨"com/example/garm/garm/command/Option", "isRepeatable", "()Z"⟩ : MethodName)) (z := (⟨"com/example/garm/garm/command/Option", "isRepeatable", "()Z"⟩ : MethodName)) hown (mvT hZ (hw _ (List.mem_of_getElem? (i := 50) rfl))) (mvT hZ (hw _ (List.mem_of_getElem? (i := 51) rfl))) (notFace_of_selects (args := #[]) (mvT hZ (hw _ (List.mem_of_getElem? (i := 53) rfl)))) (mvT hZ (hw _ (List.mem_of_getElem? (i := 53) rfl))) (mvT hZ (hw _ (List.mem_of_getElem? (i := 52) rfl))) (by decide) (backOf (W := 0) (rm2_4 l Z a0 hw [] w_CLIENT w_VALUE w_REPEATED_VALUE h1 n0 (Nat.le_trans Z0 K1.1) (F_form_CLIENT.keep K1 nin0) (own_staK S_REPEATED_VALUE K1 all0) ne_REPEATED_VALUE_VALUE) hZ (hw _ (List.mem_of_getElem? (i := 54) rfl)) (hw _ (List.mem_of_getElem? (i := 3) rfl)) (by decide) (by decide)) q87a q87c (g := (mkF m 181 #[.val (.int p1), .val (.ref b2), .val (.int (4 : Int32)), .val (.ref w_CLIENT), .val (.int (0 : Int32)), .val (.int (1 : Int32)), .val (.int (1 : Int32)), .unset] [(.ref w_CLIENT)])) rfl (by rw [hml]; rfl) (Steps.refl _) (argsL := []) (rest := []) (lenOf pd_0 rfl) rfl (by show 2 * 0 + _ ≤ _; exact Nat.le_of_eq rfl) (hb hby at_181) (fun _ _ => ⟨rfl, e86, (by decide : 1 + 0 ≤ _), (by decide : 17 + 0 ≤ _)⟩)
    dsimp only [Pt.U, Pt.locs, Pt.cells, Pt.slots] at X87 l87 y87 z87 st87 hQ87
    subst l87 y87 z87
    obtain ⟨rfl, N87q, e87⟩ := hQ87
    have N87 := Fr.app N86 N87q
    obtain ⟨fs, hr, hrun, hended, hW, hsame⟩ := X87.leave (v := some (.int (1 : Int32))) (fun h => by rw [Bd.returns] at h; cases h)
    refine ⟨_, _, k55 _ ?_, hrun, hended, _, _, rfl, ?_, ⟨_, rfl⟩, hW, hsame.mono (by decide) (by decide)⟩
    ·
      show Steps p.tables e below (T1.setTop (mkF m 126 #[.val (.int p1), .val (.ref b2), .unset, .unset, .unset, .unset, .unset, .unset] [(.int ((p1 &&& (2147483647 : Int32)) % (17 : Int32)))])) _
      rewrite [hk60_4]
      show Steps p.tables e below (T1.setTop (mkF m 126 #[.val (.int p1), .val (.ref b2), .unset, .unset, .unset, .unset, .unset, .unset] [(.int (4 : Int32))])) _
      refine XS.istoreN X1.here hx rfl (hb hby at_126) rfl (l' := #[.val (.int p1), .val (.ref b2), .val (.int (4 : Int32)), .unset, .unset, .unset, .unset, .unset]) rfl ?_
      show Steps p.tables e below (T1.setTop (mkF m 127 #[.val (.int p1), .val (.ref b2), .val (.int (4 : Int32)), .unset, .unset, .unset, .unset, .unset] [])) _
      refine XS.aloadN X1.here hx rfl (hb hby at_127) rfl rfl ?_
      show Steps p.tables e below (T1.setTop (mkF m 128 #[.val (.int p1), .val (.ref b2), .val (.int (4 : Int32)), .unset, .unset, .unset, .unset, .unset] [(.ref b2)])) _
      refine XS.iloadN X1.here hx rfl (hb hby at_128) rfl ?_
      show Steps p.tables e below (T1.setTop (mkF m 129 #[.val (.int p1), .val (.ref b2), .val (.int (4 : Int32)), .unset, .unset, .unset, .unset, .unset] [(.int (4 : Int32)), (.ref b2)])) _
      refine X1.aaload hx (j := (4 : Int32)) (v := (.ref w_CLIENT)) (by rw [e1]; exact Ar85.1) (State.isArrayOf_alike hZ.alike Ar85.2.1) rfl Ar85.2.2 hin85 hat85 (g := (mkF m 129 #[.val (.int p1), .val (.ref b2), .val (.int (4 : Int32)), .unset, .unset, .unset, .unset, .unset] [(.int (4 : Int32)), (.ref b2)])) rfl rfl (hb hby at_129) _ ?_
      show Steps p.tables e below (T1.setTop (mkF m 130 #[.val (.int p1), .val (.ref b2), .val (.int (4 : Int32)), .unset, .unset, .unset, .unset, .unset] [(.ref w_CLIENT)])) _
      refine XS.astoreN X1.here hx rfl (hb hby at_130) rfl rfl (l' := #[.val (.int p1), .val (.ref b2), .val (.int (4 : Int32)), .val (.ref w_CLIENT), .unset, .unset, .unset, .unset]) rfl ?_
      show Steps p.tables e below (T1.setTop (mkF m 131 #[.val (.int p1), .val (.ref b2), .val (.int (4 : Int32)), .val (.ref w_CLIENT), .unset, .unset, .unset, .unset] [])) _
      refine XS.iloadN X1.here hx rfl (hb hby at_131) rfl ?_
      show Steps p.tables e below (T1.setTop (mkF m 132 #[.val (.int p1), .val (.ref b2), .val (.int (4 : Int32)), .val (.ref w_CLIENT), .unset, .unset, .unset, .unset] [(.int (4 : Int32))])) _
      refine XS.bipush X1.here hx rfl (hb hby at_132) ?_
      show Steps p.tables e below (T1.setTop (mkF m 134 #[.val (.int p1), .val (.ref b2), .val (.int (4 : Int32)), .val (.ref w_CLIENT), .unset, .unset, .unset, .unset] [(.int (11 : Int32)), (.int (4 : Int32))])) _
      refine XS.icmpNo X1.here hx rfl (hb hby at_134) rfl (feq (by decide : ¬ ((4 : Int32) = (11 : Int32)))).1 ?_
      show Steps p.tables e below (T1.setTop (mkF m 137 #[.val (.int p1), .val (.ref b2), .val (.int (4 : Int32)), .val (.ref w_CLIENT), .unset, .unset, .unset, .unset] [])) _
      refine XS.iloadN X1.here hx rfl (hb hby at_137) rfl ?_
      show Steps p.tables e below (T1.setTop (mkF m 138 #[.val (.int p1), .val (.ref b2), .val (.int (4 : Int32)), .val (.ref w_CLIENT), .unset, .unset, .unset, .unset] [(.int (4 : Int32))])) _
      refine XS.bipush X1.here hx rfl (hb hby at_138) ?_
      show Steps p.tables e below (T1.setTop (mkF m 140 #[.val (.int p1), .val (.ref b2), .val (.int (4 : Int32)), .val (.ref w_CLIENT), .unset, .unset, .unset, .unset] [(.int (12 : Int32)), (.int (4 : Int32))])) _
      refine XS.icmpNo X1.here hx rfl (hb hby at_140) rfl (feq (by decide : ¬ ((4 : Int32) = (12 : Int32)))).1 ?_
      show Steps p.tables e below (T1.setTop (mkF m 143 #[.val (.int p1), .val (.ref b2), .val (.int (4 : Int32)), .val (.ref w_CLIENT), .unset, .unset, .unset, .unset] [])) _
      refine XS.iloadN X1.here hx rfl (hb hby at_143) rfl ?_
      show Steps p.tables e below (T1.setTop (mkF m 144 #[.val (.int p1), .val (.ref b2), .val (.int (4 : Int32)), .val (.ref w_CLIENT), .unset, .unset, .unset, .unset] [(.int (4 : Int32))])) _
      refine XS.bipush X1.here hx rfl (hb hby at_144) ?_
      show Steps p.tables e below (T1.setTop (mkF m 146 #[.val (.int p1), .val (.ref b2), .val (.int (4 : Int32)), .val (.ref w_CLIENT), .unset, .unset, .unset, .unset] [(.int (14 : Int32)), (.int (4 : Int32))])) _
      refine XS.icmpNo X1.here hx rfl (hb hby at_146) rfl (feq (by decide : ¬ ((4 : Int32) = (14 : Int32)))).1 ?_
      show Steps p.tables e below (T1.setTop (mkF m 149 #[.val (.int p1), .val (.ref b2), .val (.int (4 : Int32)), .val (.ref w_CLIENT), .unset, .unset, .unset, .unset] [])) _
      refine XS.iloadN X1.here hx rfl (hb hby at_149) rfl ?_
      show Steps p.tables e below (T1.setTop (mkF m 150 #[.val (.int p1), .val (.ref b2), .val (.int (4 : Int32)), .val (.ref w_CLIENT), .unset, .unset, .unset, .unset] [(.int (4 : Int32))])) _
      refine XS.bipush X1.here hx rfl (hb hby at_150) ?_
      show Steps p.tables e below (T1.setTop (mkF m 152 #[.val (.int p1), .val (.ref b2), .val (.int (4 : Int32)), .val (.ref w_CLIENT), .unset, .unset, .unset, .unset] [(.int (15 : Int32)), (.int (4 : Int32))])) _
      refine XS.icmpYes X1.here hx rfl (pc0 := 152) (pc' := 159) rfl (hb hby at_152) rfl (feq (by decide : ¬ ((4 : Int32) = (15 : Int32)))).2 (by decide) (by decide) ?_
      show Steps p.tables e below (T1.setTop (mkF m 159 #[.val (.int p1), .val (.ref b2), .val (.int (4 : Int32)), .val (.ref w_CLIENT), .unset, .unset, .unset, .unset] [])) _
      refine XS.iconst X1.here hx rfl (hb hby at_159) ?_
      show Steps p.tables e below (T1.setTop (mkF m 160 #[.val (.int p1), .val (.ref b2), .val (.int (4 : Int32)), .val (.ref w_CLIENT), .unset, .unset, .unset, .unset] [(.int (0 : Int32))])) _
      refine XS.istore X1.here hx rfl (hb hby at_160) rfl (l' := #[.val (.int p1), .val (.ref b2), .val (.int (4 : Int32)), .val (.ref w_CLIENT), .val (.int (0 : Int32)), .unset, .unset, .unset]) rfl ?_
      show Steps p.tables e below (T1.setTop (mkF m 162 #[.val (.int p1), .val (.ref b2), .val (.int (4 : Int32)), .val (.ref w_CLIENT), .val (.int (0 : Int32)), .unset, .unset, .unset] [])) _
      refine XS.iload X1.here hx rfl (hb hby at_162) rfl ?_
      show Steps p.tables e below (T1.setTop (mkF m 164 #[.val (.int p1), .val (.ref b2), .val (.int (4 : Int32)), .val (.ref w_CLIENT), .val (.int (0 : Int32)), .unset, .unset, .unset] [(.int (0 : Int32))])) _
      refine XS.ifNo X1.here hx rfl (hb hby at_164) rfl ((if0 _ _).trans (teq (by decide : (0 : Int32) = (0 : Int32))).2) ?_
      show Steps p.tables e below (T1.setTop (mkF m 167 #[.val (.int p1), .val (.ref b2), .val (.int (4 : Int32)), .val (.ref w_CLIENT), .val (.int (0 : Int32)), .unset, .unset, .unset] [])) _
      refine XS.iconst X1.here hx rfl (hb hby at_167) ?_
      show Steps p.tables e below (T1.setTop (mkF m 168 #[.val (.int p1), .val (.ref b2), .val (.int (4 : Int32)), .val (.ref w_CLIENT), .val (.int (0 : Int32)), .unset, .unset, .unset] [(.int (1 : Int32))])) _
      refine XS.goto X1.here hx rfl (pc0 := 168) (pc' := 172) rfl (hb hby at_168) (by decide) (by decide) ?_
      show Steps p.tables e below (T1.setTop (mkF m 172 #[.val (.int p1), .val (.ref b2), .val (.int (4 : Int32)), .val (.ref w_CLIENT), .val (.int (0 : Int32)), .unset, .unset, .unset] [(.int (1 : Int32))])) _
      refine XS.istore X1.here hx rfl (hb hby at_172) rfl (l' := #[.val (.int p1), .val (.ref b2), .val (.int (4 : Int32)), .val (.ref w_CLIENT), .val (.int (0 : Int32)), .val (.int (1 : Int32)), .unset, .unset]) rfl ?_
      show Steps p.tables e below (T1.setTop (mkF m 174 #[.val (.int p1), .val (.ref b2), .val (.int (4 : Int32)), .val (.ref w_CLIENT), .val (.int (0 : Int32)), .val (.int (1 : Int32)), .unset, .unset] [])) _
      refine XS.aloadN X1.here hx rfl (hb hby at_174) rfl rfl ?_
      show Steps p.tables e below (T1.setTop (mkF m 175 #[.val (.int p1), .val (.ref b2), .val (.int (4 : Int32)), .val (.ref w_CLIENT), .val (.int (0 : Int32)), .val (.int (1 : Int32)), .unset, .unset] [(.ref w_CLIENT)])) _
      refine st86.trans ?_
      show Steps p.tables e below (T86.setTop (mkF m 178 #[.val (.int p1), .val (.ref b2), .val (.int (4 : Int32)), .val (.ref w_CLIENT), .val (.int (0 : Int32)), .val (.int (1 : Int32)), .unset, .unset] [(.int (1 : Int32))])) _
      refine XS.istore X86.here hx rfl (hb hby at_178) rfl (l' := #[.val (.int p1), .val (.ref b2), .val (.int (4 : Int32)), .val (.ref w_CLIENT), .val (.int (0 : Int32)), .val (.int (1 : Int32)), .val (.int (1 : Int32)), .unset]) rfl ?_
      show Steps p.tables e below (T86.setTop (mkF m 180 #[.val (.int p1), .val (.ref b2), .val (.int (4 : Int32)), .val (.ref w_CLIENT), .val (.int (0 : Int32)), .val (.int (1 : Int32)), .val (.int (1 : Int32)), .unset] [])) _
      refine XS.aloadN X86.here hx rfl (hb hby at_180) rfl rfl ?_
      show Steps p.tables e below (T86.setTop (mkF m 181 #[.val (.int p1), .val (.ref b2), .val (.int (4 : Int32)), .val (.ref w_CLIENT), .val (.int (0 : Int32)), .val (.int (1 : Int32)), .val (.int (1 : Int32)), .unset] [(.ref w_CLIENT)])) _
      refine st87.trans ?_
      show Steps p.tables e below (T87.setTop (mkF m 184 #[.val (.int p1), .val (.ref b2), .val (.int (4 : Int32)), .val (.ref w_CLIENT), .val (.int (0 : Int32)), .val (.int (1 : Int32)), .val (.int (1 : Int32)), .unset] [(.int (0 : Int32))])) _
      refine XS.ifYes X87.here hx rfl (pc0 := 184) (pc' := 192) rfl (hb hby at_184) rfl ((if0 _ _).trans (teq (by decide : (0 : Int32) = (0 : Int32))).1) (by decide) (by decide) ?_
      show Steps p.tables e below (T87.setTop (mkF m 192 #[.val (.int p1), .val (.ref b2), .val (.int (4 : Int32)), .val (.ref w_CLIENT), .val (.int (0 : Int32)), .val (.int (1 : Int32)), .val (.int (1 : Int32)), .unset] [])) _
      refine XS.iconst X87.here hx rfl (hb hby at_192) ?_
      show Steps p.tables e below (T87.setTop (mkF m 193 #[.val (.int p1), .val (.ref b2), .val (.int (4 : Int32)), .val (.ref w_CLIENT), .val (.int (0 : Int32)), .val (.int (1 : Int32)), .val (.int (1 : Int32)), .unset] [(.int (1 : Int32))])) _
      refine XS.goto X87.here hx rfl (pc0 := 193) (pc' := 197) rfl (hb hby at_193) (by decide) (by decide) ?_
      show Steps p.tables e below (T87.setTop (mkF m 197 #[.val (.int p1), .val (.ref b2), .val (.int (4 : Int32)), .val (.ref w_CLIENT), .val (.int (0 : Int32)), .val (.int (1 : Int32)), .val (.int (1 : Int32)), .unset] [(.int (1 : Int32))])) _
      refine XS.istore X87.here hx rfl (hb hby at_197) rfl (l' := #[.val (.int p1), .val (.ref b2), .val (.int (4 : Int32)), .val (.ref w_CLIENT), .val (.int (0 : Int32)), .val (.int (1 : Int32)), .val (.int (1 : Int32)), .val (.int (1 : Int32))]) rfl ?_
      show Steps p.tables e below (T87.setTop (mkF m 199 #[.val (.int p1), .val (.ref b2), .val (.int (4 : Int32)), .val (.ref w_CLIENT), .val (.int (0 : Int32)), .val (.int (1 : Int32)), .val (.int (1 : Int32)), .val (.int (1 : Int32))] [])) _
      refine XS.iload X87.here hx rfl (hb hby at_199) rfl ?_
      show Steps p.tables e below (T87.setTop (mkF m 201 #[.val (.int p1), .val (.ref b2), .val (.int (4 : Int32)), .val (.ref w_CLIENT), .val (.int (0 : Int32)), .val (.int (1 : Int32)), .val (.int (1 : Int32)), .val (.int (1 : Int32))] [(.int (1 : Int32))])) _
      refine XS.iload X87.here hx rfl (hb hby at_201) rfl ?_
      show Steps p.tables e below (T87.setTop (mkF m 203 #[.val (.int p1), .val (.ref b2), .val (.int (4 : Int32)), .val (.ref w_CLIENT), .val (.int (0 : Int32)), .val (.int (1 : Int32)), .val (.int (1 : Int32)), .val (.int (1 : Int32))] [(.int (1 : Int32)), (.int (1 : Int32))])) _
      refine XS.icmpNo X87.here hx rfl (hb hby at_203) rfl (teq (by decide : (1 : Int32) = (1 : Int32))).2 ?_
      show Steps p.tables e below (T87.setTop (mkF m 206 #[.val (.int p1), .val (.ref b2), .val (.int (4 : Int32)), .val (.ref w_CLIENT), .val (.int (0 : Int32)), .val (.int (1 : Int32)), .val (.int (1 : Int32)), .val (.int (1 : Int32))] [])) _
      refine XS.iload X87.here hx rfl (hb hby at_206) rfl ?_
      show Steps p.tables e below (T87.setTop (mkF m 208 #[.val (.int p1), .val (.ref b2), .val (.int (4 : Int32)), .val (.ref w_CLIENT), .val (.int (0 : Int32)), .val (.int (1 : Int32)), .val (.int (1 : Int32)), .val (.int (1 : Int32))] [(.int (1 : Int32))])) _
      refine XS.ifNo X87.here hx rfl (hb hby at_208) rfl ((if0 _ _).trans (feq (by decide : ¬ ((1 : Int32) = (0 : Int32)))).1) ?_
      show Steps p.tables e below (T87.setTop (mkF m 211 #[.val (.int p1), .val (.ref b2), .val (.int (4 : Int32)), .val (.ref w_CLIENT), .val (.int (0 : Int32)), .val (.int (1 : Int32)), .val (.int (1 : Int32)), .val (.int (1 : Int32))] [])) _
      refine XS.iconst X87.here hx rfl (hb hby at_211) ?_
      show Steps p.tables e below (T87.setTop (mkF m 212 #[.val (.int p1), .val (.ref b2), .val (.int (4 : Int32)), .val (.ref w_CLIENT), .val (.int (0 : Int32)), .val (.int (1 : Int32)), .val (.int (1 : Int32)), .val (.int (1 : Int32))] [(.int (1 : Int32))])) _
      refine XS.goto X87.here hx rfl (pc0 := 212) (pc' := 216) rfl (hb hby at_212) (by decide) (by decide) ?_
      show Steps p.tables e below (T87.setTop (mkF m 216 #[.val (.int p1), .val (.ref b2), .val (.int (4 : Int32)), .val (.ref w_CLIENT), .val (.int (0 : Int32)), .val (.int (1 : Int32)), .val (.int (1 : Int32)), .val (.int (1 : Int32))] [(.int (1 : Int32))])) _
      exact retN X87 hx (t := .boolean) Bd.returns (by simp) (hb hby at_216) hr
    · show Q0_0 Z p1 w_POD w_BASE w_RESOURCE w_AGENT w_CLIENT w_ISSUER w_OWNER w_CREATOR w_CREDENTIAL w_REQUESTS w_AGENTS w_STATS w_WAC_ALLOW w_METHOD w_CREATES w_REMOVES w_PORT w_VALUE w_FLAG w_REPEATED_VALUE h0 n0 _ T87.heap _
      rw [e87]
      exact ⟨rfl, N87⟩
  ·
    obtain ⟨cl88, Ar88, qq88, Sz88, Nn88, Hs88, Gs88⟩ := id pf1_0
    have hin88 : ¬ ((5 : Int32) < 0 ∨ cl88.slots.size ≤ ((5 : Int32)).toNatClampNeg) := inb_of Sz88 ⟨by decide, by decide⟩
    have hat88 : cl88.slots[((5 : Int32)).toNatClampNeg]? = some (.ref w_ISSUER) := Has.at Hs88 hin88 rfl
    obtain ⟨cq89, kq89, q89a, q89b, q89c⟩ := isOf hZ e1 (E_ISSUER.keep K1)
    obtain ⟨_, _, ⟨T89, L89, k89, n89⟩, -, X89, ⟨Lc89, hQ89, l89, y89, z89⟩, st89⟩ := X1.virtualBack hx (y := (⟨"com/example/garm/garm/command/Option", "takesValue", "()Z"⟩ : MethodName)) (z := (⟨"com/example/garm/garm/command/Option", "takesValue", "()Z"⟩ : MethodName)) hown (mvT hZ (hw _ (List.mem_of_getElem? (i := 39) rfl))) (mvT hZ (hw _ (List.mem_of_getElem? (i := 40) rfl))) (notFace_of_selects (args := #[]) (mvT hZ (hw _ (List.mem_of_getElem? (i := 42) rfl)))) (mvT hZ (hw _ (List.mem_of_getElem? (i := 42) rfl))) (mvT hZ (hw _ (List.mem_of_getElem? (i := 41) rfl))) (by decide) (backOf (W := 0) (rm1_5 l Z a0 hw [] w_ISSUER w_VALUE w_FLAG h1 n0 (Nat.le_trans Z0 K1.1) (F_form_ISSUER.keep K1 nin0) (own_staK S_FLAG K1 all0) ne_FLAG_VALUE) hZ (hw _ (List.mem_of_getElem? (i := 43) rfl)) (hw _ (List.mem_of_getElem? (i := 3) rfl)) (by decide) (by decide)) q89a q89c (g := (mkF m 175 #[.val (.int p1), .val (.ref b2), .val (.int (5 : Int32)), .val (.ref w_ISSUER), .val (.int (0 : Int32)), .val (.int (1 : Int32)), .unset, .unset] [(.ref w_ISSUER)])) rfl (by rw [hml]; rfl) (Steps.refl _) (argsL := []) (rest := []) (lenOf pd_0 rfl) rfl (by show 2 * 0 + _ ≤ _; exact Nat.le_of_eq rfl) (hb hby at_175) (fun _ _ => ⟨rfl, e1, (by decide : 1 + 0 ≤ _), (by decide : 17 + 0 ≤ _)⟩)
    dsimp only [Pt.U, Pt.locs, Pt.cells, Pt.slots] at X89 l89 y89 z89 st89 hQ89
    subst l89 y89 z89
    obtain ⟨rfl, N89q, e89⟩ := hQ89
    have N89 := Fr.app N1 N89q
    obtain ⟨cq90, kq90, q90a, q90b, q90c⟩ := isOf hZ e89 (E_ISSUER.keep K1)
    obtain ⟨_, _, ⟨T90, L90, k90, n90⟩, -, X90, ⟨Lc90, hQ90, l90, y90, z90⟩, st90⟩ := X89.virtualBack hx (y := (⟨"com/example/garm/garm/command/Option", "isRepeatable", "()Z"⟩ : MethodName)) (z := (⟨"com/example/garm/garm/command/Option", "isRepeatable", "()Z"⟩ : MethodName)) hown (mvT hZ (hw _ (List.mem_of_getElem? (i := 50) rfl))) (mvT hZ (hw _ (List.mem_of_getElem? (i := 51) rfl))) (notFace_of_selects (args := #[]) (mvT hZ (hw _ (List.mem_of_getElem? (i := 53) rfl)))) (mvT hZ (hw _ (List.mem_of_getElem? (i := 53) rfl))) (mvT hZ (hw _ (List.mem_of_getElem? (i := 52) rfl))) (by decide) (backOf (W := 0) (rm2_5 l Z a0 hw [] w_ISSUER w_VALUE w_REPEATED_VALUE h1 n0 (Nat.le_trans Z0 K1.1) (F_form_ISSUER.keep K1 nin0) (own_staK S_REPEATED_VALUE K1 all0) ne_REPEATED_VALUE_VALUE) hZ (hw _ (List.mem_of_getElem? (i := 54) rfl)) (hw _ (List.mem_of_getElem? (i := 3) rfl)) (by decide) (by decide)) q90a q90c (g := (mkF m 181 #[.val (.int p1), .val (.ref b2), .val (.int (5 : Int32)), .val (.ref w_ISSUER), .val (.int (0 : Int32)), .val (.int (1 : Int32)), .val (.int (1 : Int32)), .unset] [(.ref w_ISSUER)])) rfl (by rw [hml]; rfl) (Steps.refl _) (argsL := []) (rest := []) (lenOf pd_0 rfl) rfl (by show 2 * 0 + _ ≤ _; exact Nat.le_of_eq rfl) (hb hby at_181) (fun _ _ => ⟨rfl, e89, (by decide : 1 + 0 ≤ _), (by decide : 17 + 0 ≤ _)⟩)
    dsimp only [Pt.U, Pt.locs, Pt.cells, Pt.slots] at X90 l90 y90 z90 st90 hQ90
    subst l90 y90 z90
    obtain ⟨rfl, N90q, e90⟩ := hQ90
    have N90 := Fr.app N89 N90q
    obtain ⟨fs, hr, hrun, hended, hW, hsame⟩ := X90.leave (v := some (.int (1 : Int32))) (fun h => by rw [Bd.returns] at h; cases h)
    refine ⟨_, _, k55 _ ?_, hrun, hended, _, _, rfl, ?_, ⟨_, rfl⟩, hW, hsame.mono (by decide) (by decide)⟩
    ·
      show Steps p.tables e below (T1.setTop (mkF m 126 #[.val (.int p1), .val (.ref b2), .unset, .unset, .unset, .unset, .unset, .unset] [(.int ((p1 &&& (2147483647 : Int32)) % (17 : Int32)))])) _
      rewrite [hk61_5]
      show Steps p.tables e below (T1.setTop (mkF m 126 #[.val (.int p1), .val (.ref b2), .unset, .unset, .unset, .unset, .unset, .unset] [(.int (5 : Int32))])) _
      refine XS.istoreN X1.here hx rfl (hb hby at_126) rfl (l' := #[.val (.int p1), .val (.ref b2), .val (.int (5 : Int32)), .unset, .unset, .unset, .unset, .unset]) rfl ?_
      show Steps p.tables e below (T1.setTop (mkF m 127 #[.val (.int p1), .val (.ref b2), .val (.int (5 : Int32)), .unset, .unset, .unset, .unset, .unset] [])) _
      refine XS.aloadN X1.here hx rfl (hb hby at_127) rfl rfl ?_
      show Steps p.tables e below (T1.setTop (mkF m 128 #[.val (.int p1), .val (.ref b2), .val (.int (5 : Int32)), .unset, .unset, .unset, .unset, .unset] [(.ref b2)])) _
      refine XS.iloadN X1.here hx rfl (hb hby at_128) rfl ?_
      show Steps p.tables e below (T1.setTop (mkF m 129 #[.val (.int p1), .val (.ref b2), .val (.int (5 : Int32)), .unset, .unset, .unset, .unset, .unset] [(.int (5 : Int32)), (.ref b2)])) _
      refine X1.aaload hx (j := (5 : Int32)) (v := (.ref w_ISSUER)) (by rw [e1]; exact Ar88.1) (State.isArrayOf_alike hZ.alike Ar88.2.1) rfl Ar88.2.2 hin88 hat88 (g := (mkF m 129 #[.val (.int p1), .val (.ref b2), .val (.int (5 : Int32)), .unset, .unset, .unset, .unset, .unset] [(.int (5 : Int32)), (.ref b2)])) rfl rfl (hb hby at_129) _ ?_
      show Steps p.tables e below (T1.setTop (mkF m 130 #[.val (.int p1), .val (.ref b2), .val (.int (5 : Int32)), .unset, .unset, .unset, .unset, .unset] [(.ref w_ISSUER)])) _
      refine XS.astoreN X1.here hx rfl (hb hby at_130) rfl rfl (l' := #[.val (.int p1), .val (.ref b2), .val (.int (5 : Int32)), .val (.ref w_ISSUER), .unset, .unset, .unset, .unset]) rfl ?_
      show Steps p.tables e below (T1.setTop (mkF m 131 #[.val (.int p1), .val (.ref b2), .val (.int (5 : Int32)), .val (.ref w_ISSUER), .unset, .unset, .unset, .unset] [])) _
      refine XS.iloadN X1.here hx rfl (hb hby at_131) rfl ?_
      show Steps p.tables e below (T1.setTop (mkF m 132 #[.val (.int p1), .val (.ref b2), .val (.int (5 : Int32)), .val (.ref w_ISSUER), .unset, .unset, .unset, .unset] [(.int (5 : Int32))])) _
      refine XS.bipush X1.here hx rfl (hb hby at_132) ?_
      show Steps p.tables e below (T1.setTop (mkF m 134 #[.val (.int p1), .val (.ref b2), .val (.int (5 : Int32)), .val (.ref w_ISSUER), .unset, .unset, .unset, .unset] [(.int (11 : Int32)), (.int (5 : Int32))])) _
      refine XS.icmpNo X1.here hx rfl (hb hby at_134) rfl (feq (by decide : ¬ ((5 : Int32) = (11 : Int32)))).1 ?_
      show Steps p.tables e below (T1.setTop (mkF m 137 #[.val (.int p1), .val (.ref b2), .val (.int (5 : Int32)), .val (.ref w_ISSUER), .unset, .unset, .unset, .unset] [])) _
      refine XS.iloadN X1.here hx rfl (hb hby at_137) rfl ?_
      show Steps p.tables e below (T1.setTop (mkF m 138 #[.val (.int p1), .val (.ref b2), .val (.int (5 : Int32)), .val (.ref w_ISSUER), .unset, .unset, .unset, .unset] [(.int (5 : Int32))])) _
      refine XS.bipush X1.here hx rfl (hb hby at_138) ?_
      show Steps p.tables e below (T1.setTop (mkF m 140 #[.val (.int p1), .val (.ref b2), .val (.int (5 : Int32)), .val (.ref w_ISSUER), .unset, .unset, .unset, .unset] [(.int (12 : Int32)), (.int (5 : Int32))])) _
      refine XS.icmpNo X1.here hx rfl (hb hby at_140) rfl (feq (by decide : ¬ ((5 : Int32) = (12 : Int32)))).1 ?_
      show Steps p.tables e below (T1.setTop (mkF m 143 #[.val (.int p1), .val (.ref b2), .val (.int (5 : Int32)), .val (.ref w_ISSUER), .unset, .unset, .unset, .unset] [])) _
      refine XS.iloadN X1.here hx rfl (hb hby at_143) rfl ?_
      show Steps p.tables e below (T1.setTop (mkF m 144 #[.val (.int p1), .val (.ref b2), .val (.int (5 : Int32)), .val (.ref w_ISSUER), .unset, .unset, .unset, .unset] [(.int (5 : Int32))])) _
      refine XS.bipush X1.here hx rfl (hb hby at_144) ?_
      show Steps p.tables e below (T1.setTop (mkF m 146 #[.val (.int p1), .val (.ref b2), .val (.int (5 : Int32)), .val (.ref w_ISSUER), .unset, .unset, .unset, .unset] [(.int (14 : Int32)), (.int (5 : Int32))])) _
      refine XS.icmpNo X1.here hx rfl (hb hby at_146) rfl (feq (by decide : ¬ ((5 : Int32) = (14 : Int32)))).1 ?_
      show Steps p.tables e below (T1.setTop (mkF m 149 #[.val (.int p1), .val (.ref b2), .val (.int (5 : Int32)), .val (.ref w_ISSUER), .unset, .unset, .unset, .unset] [])) _
      refine XS.iloadN X1.here hx rfl (hb hby at_149) rfl ?_
      show Steps p.tables e below (T1.setTop (mkF m 150 #[.val (.int p1), .val (.ref b2), .val (.int (5 : Int32)), .val (.ref w_ISSUER), .unset, .unset, .unset, .unset] [(.int (5 : Int32))])) _
      refine XS.bipush X1.here hx rfl (hb hby at_150) ?_
      show Steps p.tables e below (T1.setTop (mkF m 152 #[.val (.int p1), .val (.ref b2), .val (.int (5 : Int32)), .val (.ref w_ISSUER), .unset, .unset, .unset, .unset] [(.int (15 : Int32)), (.int (5 : Int32))])) _
      refine XS.icmpYes X1.here hx rfl (pc0 := 152) (pc' := 159) rfl (hb hby at_152) rfl (feq (by decide : ¬ ((5 : Int32) = (15 : Int32)))).2 (by decide) (by decide) ?_
      show Steps p.tables e below (T1.setTop (mkF m 159 #[.val (.int p1), .val (.ref b2), .val (.int (5 : Int32)), .val (.ref w_ISSUER), .unset, .unset, .unset, .unset] [])) _
      refine XS.iconst X1.here hx rfl (hb hby at_159) ?_
      show Steps p.tables e below (T1.setTop (mkF m 160 #[.val (.int p1), .val (.ref b2), .val (.int (5 : Int32)), .val (.ref w_ISSUER), .unset, .unset, .unset, .unset] [(.int (0 : Int32))])) _
      refine XS.istore X1.here hx rfl (hb hby at_160) rfl (l' := #[.val (.int p1), .val (.ref b2), .val (.int (5 : Int32)), .val (.ref w_ISSUER), .val (.int (0 : Int32)), .unset, .unset, .unset]) rfl ?_
      show Steps p.tables e below (T1.setTop (mkF m 162 #[.val (.int p1), .val (.ref b2), .val (.int (5 : Int32)), .val (.ref w_ISSUER), .val (.int (0 : Int32)), .unset, .unset, .unset] [])) _
      refine XS.iload X1.here hx rfl (hb hby at_162) rfl ?_
      show Steps p.tables e below (T1.setTop (mkF m 164 #[.val (.int p1), .val (.ref b2), .val (.int (5 : Int32)), .val (.ref w_ISSUER), .val (.int (0 : Int32)), .unset, .unset, .unset] [(.int (0 : Int32))])) _
      refine XS.ifNo X1.here hx rfl (hb hby at_164) rfl ((if0 _ _).trans (teq (by decide : (0 : Int32) = (0 : Int32))).2) ?_
      show Steps p.tables e below (T1.setTop (mkF m 167 #[.val (.int p1), .val (.ref b2), .val (.int (5 : Int32)), .val (.ref w_ISSUER), .val (.int (0 : Int32)), .unset, .unset, .unset] [])) _
      refine XS.iconst X1.here hx rfl (hb hby at_167) ?_
      show Steps p.tables e below (T1.setTop (mkF m 168 #[.val (.int p1), .val (.ref b2), .val (.int (5 : Int32)), .val (.ref w_ISSUER), .val (.int (0 : Int32)), .unset, .unset, .unset] [(.int (1 : Int32))])) _
      refine XS.goto X1.here hx rfl (pc0 := 168) (pc' := 172) rfl (hb hby at_168) (by decide) (by decide) ?_
      show Steps p.tables e below (T1.setTop (mkF m 172 #[.val (.int p1), .val (.ref b2), .val (.int (5 : Int32)), .val (.ref w_ISSUER), .val (.int (0 : Int32)), .unset, .unset, .unset] [(.int (1 : Int32))])) _
      refine XS.istore X1.here hx rfl (hb hby at_172) rfl (l' := #[.val (.int p1), .val (.ref b2), .val (.int (5 : Int32)), .val (.ref w_ISSUER), .val (.int (0 : Int32)), .val (.int (1 : Int32)), .unset, .unset]) rfl ?_
      show Steps p.tables e below (T1.setTop (mkF m 174 #[.val (.int p1), .val (.ref b2), .val (.int (5 : Int32)), .val (.ref w_ISSUER), .val (.int (0 : Int32)), .val (.int (1 : Int32)), .unset, .unset] [])) _
      refine XS.aloadN X1.here hx rfl (hb hby at_174) rfl rfl ?_
      show Steps p.tables e below (T1.setTop (mkF m 175 #[.val (.int p1), .val (.ref b2), .val (.int (5 : Int32)), .val (.ref w_ISSUER), .val (.int (0 : Int32)), .val (.int (1 : Int32)), .unset, .unset] [(.ref w_ISSUER)])) _
      refine st89.trans ?_
      show Steps p.tables e below (T89.setTop (mkF m 178 #[.val (.int p1), .val (.ref b2), .val (.int (5 : Int32)), .val (.ref w_ISSUER), .val (.int (0 : Int32)), .val (.int (1 : Int32)), .unset, .unset] [(.int (1 : Int32))])) _
      refine XS.istore X89.here hx rfl (hb hby at_178) rfl (l' := #[.val (.int p1), .val (.ref b2), .val (.int (5 : Int32)), .val (.ref w_ISSUER), .val (.int (0 : Int32)), .val (.int (1 : Int32)), .val (.int (1 : Int32)), .unset]) rfl ?_
      show Steps p.tables e below (T89.setTop (mkF m 180 #[.val (.int p1), .val (.ref b2), .val (.int (5 : Int32)), .val (.ref w_ISSUER), .val (.int (0 : Int32)), .val (.int (1 : Int32)), .val (.int (1 : Int32)), .unset] [])) _
      refine XS.aloadN X89.here hx rfl (hb hby at_180) rfl rfl ?_
      show Steps p.tables e below (T89.setTop (mkF m 181 #[.val (.int p1), .val (.ref b2), .val (.int (5 : Int32)), .val (.ref w_ISSUER), .val (.int (0 : Int32)), .val (.int (1 : Int32)), .val (.int (1 : Int32)), .unset] [(.ref w_ISSUER)])) _
      refine st90.trans ?_
      show Steps p.tables e below (T90.setTop (mkF m 184 #[.val (.int p1), .val (.ref b2), .val (.int (5 : Int32)), .val (.ref w_ISSUER), .val (.int (0 : Int32)), .val (.int (1 : Int32)), .val (.int (1 : Int32)), .unset] [(.int (0 : Int32))])) _
      refine XS.ifYes X90.here hx rfl (pc0 := 184) (pc' := 192) rfl (hb hby at_184) rfl ((if0 _ _).trans (teq (by decide : (0 : Int32) = (0 : Int32))).1) (by decide) (by decide) ?_
      show Steps p.tables e below (T90.setTop (mkF m 192 #[.val (.int p1), .val (.ref b2), .val (.int (5 : Int32)), .val (.ref w_ISSUER), .val (.int (0 : Int32)), .val (.int (1 : Int32)), .val (.int (1 : Int32)), .unset] [])) _
      refine XS.iconst X90.here hx rfl (hb hby at_192) ?_
      show Steps p.tables e below (T90.setTop (mkF m 193 #[.val (.int p1), .val (.ref b2), .val (.int (5 : Int32)), .val (.ref w_ISSUER), .val (.int (0 : Int32)), .val (.int (1 : Int32)), .val (.int (1 : Int32)), .unset] [(.int (1 : Int32))])) _
      refine XS.goto X90.here hx rfl (pc0 := 193) (pc' := 197) rfl (hb hby at_193) (by decide) (by decide) ?_
      show Steps p.tables e below (T90.setTop (mkF m 197 #[.val (.int p1), .val (.ref b2), .val (.int (5 : Int32)), .val (.ref w_ISSUER), .val (.int (0 : Int32)), .val (.int (1 : Int32)), .val (.int (1 : Int32)), .unset] [(.int (1 : Int32))])) _
      refine XS.istore X90.here hx rfl (hb hby at_197) rfl (l' := #[.val (.int p1), .val (.ref b2), .val (.int (5 : Int32)), .val (.ref w_ISSUER), .val (.int (0 : Int32)), .val (.int (1 : Int32)), .val (.int (1 : Int32)), .val (.int (1 : Int32))]) rfl ?_
      show Steps p.tables e below (T90.setTop (mkF m 199 #[.val (.int p1), .val (.ref b2), .val (.int (5 : Int32)), .val (.ref w_ISSUER), .val (.int (0 : Int32)), .val (.int (1 : Int32)), .val (.int (1 : Int32)), .val (.int (1 : Int32))] [])) _
      refine XS.iload X90.here hx rfl (hb hby at_199) rfl ?_
      show Steps p.tables e below (T90.setTop (mkF m 201 #[.val (.int p1), .val (.ref b2), .val (.int (5 : Int32)), .val (.ref w_ISSUER), .val (.int (0 : Int32)), .val (.int (1 : Int32)), .val (.int (1 : Int32)), .val (.int (1 : Int32))] [(.int (1 : Int32))])) _
      refine XS.iload X90.here hx rfl (hb hby at_201) rfl ?_
      show Steps p.tables e below (T90.setTop (mkF m 203 #[.val (.int p1), .val (.ref b2), .val (.int (5 : Int32)), .val (.ref w_ISSUER), .val (.int (0 : Int32)), .val (.int (1 : Int32)), .val (.int (1 : Int32)), .val (.int (1 : Int32))] [(.int (1 : Int32)), (.int (1 : Int32))])) _
      refine XS.icmpNo X90.here hx rfl (hb hby at_203) rfl (teq (by decide : (1 : Int32) = (1 : Int32))).2 ?_
      show Steps p.tables e below (T90.setTop (mkF m 206 #[.val (.int p1), .val (.ref b2), .val (.int (5 : Int32)), .val (.ref w_ISSUER), .val (.int (0 : Int32)), .val (.int (1 : Int32)), .val (.int (1 : Int32)), .val (.int (1 : Int32))] [])) _
      refine XS.iload X90.here hx rfl (hb hby at_206) rfl ?_
      show Steps p.tables e below (T90.setTop (mkF m 208 #[.val (.int p1), .val (.ref b2), .val (.int (5 : Int32)), .val (.ref w_ISSUER), .val (.int (0 : Int32)), .val (.int (1 : Int32)), .val (.int (1 : Int32)), .val (.int (1 : Int32))] [(.int (1 : Int32))])) _
      refine XS.ifNo X90.here hx rfl (hb hby at_208) rfl ((if0 _ _).trans (feq (by decide : ¬ ((1 : Int32) = (0 : Int32)))).1) ?_
      show Steps p.tables e below (T90.setTop (mkF m 211 #[.val (.int p1), .val (.ref b2), .val (.int (5 : Int32)), .val (.ref w_ISSUER), .val (.int (0 : Int32)), .val (.int (1 : Int32)), .val (.int (1 : Int32)), .val (.int (1 : Int32))] [])) _
      refine XS.iconst X90.here hx rfl (hb hby at_211) ?_
      show Steps p.tables e below (T90.setTop (mkF m 212 #[.val (.int p1), .val (.ref b2), .val (.int (5 : Int32)), .val (.ref w_ISSUER), .val (.int (0 : Int32)), .val (.int (1 : Int32)), .val (.int (1 : Int32)), .val (.int (1 : Int32))] [(.int (1 : Int32))])) _
      refine XS.goto X90.here hx rfl (pc0 := 212) (pc' := 216) rfl (hb hby at_212) (by decide) (by decide) ?_
      show Steps p.tables e below (T90.setTop (mkF m 216 #[.val (.int p1), .val (.ref b2), .val (.int (5 : Int32)), .val (.ref w_ISSUER), .val (.int (0 : Int32)), .val (.int (1 : Int32)), .val (.int (1 : Int32)), .val (.int (1 : Int32))] [(.int (1 : Int32))])) _
      exact retN X90 hx (t := .boolean) Bd.returns (by simp) (hb hby at_216) hr
    · show Q0_0 Z p1 w_POD w_BASE w_RESOURCE w_AGENT w_CLIENT w_ISSUER w_OWNER w_CREATOR w_CREDENTIAL w_REQUESTS w_AGENTS w_STATS w_WAC_ALLOW w_METHOD w_CREATES w_REMOVES w_PORT w_VALUE w_FLAG w_REPEATED_VALUE h0 n0 _ T90.heap _
      rw [e90]
      exact ⟨rfl, N90⟩
  ·
    obtain ⟨cl91, Ar91, qq91, Sz91, Nn91, Hs91, Gs91⟩ := id pf1_0
    have hin91 : ¬ ((6 : Int32) < 0 ∨ cl91.slots.size ≤ ((6 : Int32)).toNatClampNeg) := inb_of Sz91 ⟨by decide, by decide⟩
    have hat91 : cl91.slots[((6 : Int32)).toNatClampNeg]? = some (.ref w_OWNER) := Has.at Hs91 hin91 rfl
    obtain ⟨cq92, kq92, q92a, q92b, q92c⟩ := isOf hZ e1 (E_OWNER.keep K1)
    obtain ⟨_, _, ⟨T92, L92, k92, n92⟩, -, X92, ⟨Lc92, hQ92, l92, y92, z92⟩, st92⟩ := X1.virtualBack hx (y := (⟨"com/example/garm/garm/command/Option", "takesValue", "()Z"⟩ : MethodName)) (z := (⟨"com/example/garm/garm/command/Option", "takesValue", "()Z"⟩ : MethodName)) hown (mvT hZ (hw _ (List.mem_of_getElem? (i := 39) rfl))) (mvT hZ (hw _ (List.mem_of_getElem? (i := 40) rfl))) (notFace_of_selects (args := #[]) (mvT hZ (hw _ (List.mem_of_getElem? (i := 42) rfl)))) (mvT hZ (hw _ (List.mem_of_getElem? (i := 42) rfl))) (mvT hZ (hw _ (List.mem_of_getElem? (i := 41) rfl))) (by decide) (backOf (W := 0) (rm1_6 l Z a0 hw [] w_OWNER w_FLAG w_REPEATED_VALUE h1 n0 (Nat.le_trans Z0 K1.1) (F_form_OWNER.keep K1 nin0) (own_staK S_FLAG K1 all0) ne_FLAG_REPEATED_VALUE) hZ (hw _ (List.mem_of_getElem? (i := 43) rfl)) (hw _ (List.mem_of_getElem? (i := 3) rfl)) (by decide) (by decide)) q92a q92c (g := (mkF m 175 #[.val (.int p1), .val (.ref b2), .val (.int (6 : Int32)), .val (.ref w_OWNER), .val (.int (0 : Int32)), .val (.int (1 : Int32)), .unset, .unset] [(.ref w_OWNER)])) rfl (by rw [hml]; rfl) (Steps.refl _) (argsL := []) (rest := []) (lenOf pd_0 rfl) rfl (by show 2 * 0 + _ ≤ _; exact Nat.le_of_eq rfl) (hb hby at_175) (fun _ _ => ⟨rfl, e1, (by decide : 1 + 0 ≤ _), (by decide : 17 + 0 ≤ _)⟩)
    dsimp only [Pt.U, Pt.locs, Pt.cells, Pt.slots] at X92 l92 y92 z92 st92 hQ92
    subst l92 y92 z92
    obtain ⟨rfl, N92q, e92⟩ := hQ92
    have N92 := Fr.app N1 N92q
    obtain ⟨cq93, kq93, q93a, q93b, q93c⟩ := isOf hZ e92 (E_OWNER.keep K1)
    obtain ⟨_, _, ⟨T93, L93, k93, n93⟩, -, X93, ⟨Lc93, hQ93, l93, y93, z93⟩, st93⟩ := X92.virtualBack hx (y := (⟨"com/example/garm/garm/command/Option", "isRepeatable", "()Z"⟩ : MethodName)) (z := (⟨"com/example/garm/garm/command/Option", "isRepeatable", "()Z"⟩ : MethodName)) hown (mvT hZ (hw _ (List.mem_of_getElem? (i := 50) rfl))) (mvT hZ (hw _ (List.mem_of_getElem? (i := 51) rfl))) (notFace_of_selects (args := #[]) (mvT hZ (hw _ (List.mem_of_getElem? (i := 53) rfl)))) (mvT hZ (hw _ (List.mem_of_getElem? (i := 53) rfl))) (mvT hZ (hw _ (List.mem_of_getElem? (i := 52) rfl))) (by decide) (backOf (W := 0) (rm2_6 l Z a0 hw [] w_OWNER w_REPEATED_VALUE h1 n0 (Nat.le_trans Z0 K1.1) (F_form_OWNER.keep K1 nin0) (own_staK S_REPEATED_VALUE K1 all0)) hZ (hw _ (List.mem_of_getElem? (i := 54) rfl)) (hw _ (List.mem_of_getElem? (i := 3) rfl)) (by decide) (by decide)) q93a q93c (g := (mkF m 181 #[.val (.int p1), .val (.ref b2), .val (.int (6 : Int32)), .val (.ref w_OWNER), .val (.int (0 : Int32)), .val (.int (1 : Int32)), .val (.int (1 : Int32)), .unset] [(.ref w_OWNER)])) rfl (by rw [hml]; rfl) (Steps.refl _) (argsL := []) (rest := []) (lenOf pd_0 rfl) rfl (by show 2 * 0 + _ ≤ _; exact Nat.le_of_eq rfl) (hb hby at_181) (fun _ _ => ⟨rfl, e92, (by decide : 1 + 0 ≤ _), (by decide : 17 + 0 ≤ _)⟩)
    dsimp only [Pt.U, Pt.locs, Pt.cells, Pt.slots] at X93 l93 y93 z93 st93 hQ93
    subst l93 y93 z93
    obtain ⟨rfl, N93q, e93⟩ := hQ93
    have N93 := Fr.app N92 N93q
    obtain ⟨fs, hr, hrun, hended, hW, hsame⟩ := X93.leave (v := some (.int (1 : Int32))) (fun h => by rw [Bd.returns] at h; cases h)
    refine ⟨_, _, k55 _ ?_, hrun, hended, _, _, rfl, ?_, ⟨_, rfl⟩, hW, hsame.mono (by decide) (by decide)⟩
    ·
      show Steps p.tables e below (T1.setTop (mkF m 126 #[.val (.int p1), .val (.ref b2), .unset, .unset, .unset, .unset, .unset, .unset] [(.int ((p1 &&& (2147483647 : Int32)) % (17 : Int32)))])) _
      rewrite [hk62_6]
      show Steps p.tables e below (T1.setTop (mkF m 126 #[.val (.int p1), .val (.ref b2), .unset, .unset, .unset, .unset, .unset, .unset] [(.int (6 : Int32))])) _
      refine XS.istoreN X1.here hx rfl (hb hby at_126) rfl (l' := #[.val (.int p1), .val (.ref b2), .val (.int (6 : Int32)), .unset, .unset, .unset, .unset, .unset]) rfl ?_
      show Steps p.tables e below (T1.setTop (mkF m 127 #[.val (.int p1), .val (.ref b2), .val (.int (6 : Int32)), .unset, .unset, .unset, .unset, .unset] [])) _
      refine XS.aloadN X1.here hx rfl (hb hby at_127) rfl rfl ?_
      show Steps p.tables e below (T1.setTop (mkF m 128 #[.val (.int p1), .val (.ref b2), .val (.int (6 : Int32)), .unset, .unset, .unset, .unset, .unset] [(.ref b2)])) _
      refine XS.iloadN X1.here hx rfl (hb hby at_128) rfl ?_
      show Steps p.tables e below (T1.setTop (mkF m 129 #[.val (.int p1), .val (.ref b2), .val (.int (6 : Int32)), .unset, .unset, .unset, .unset, .unset] [(.int (6 : Int32)), (.ref b2)])) _
      refine X1.aaload hx (j := (6 : Int32)) (v := (.ref w_OWNER)) (by rw [e1]; exact Ar91.1) (State.isArrayOf_alike hZ.alike Ar91.2.1) rfl Ar91.2.2 hin91 hat91 (g := (mkF m 129 #[.val (.int p1), .val (.ref b2), .val (.int (6 : Int32)), .unset, .unset, .unset, .unset, .unset] [(.int (6 : Int32)), (.ref b2)])) rfl rfl (hb hby at_129) _ ?_
      show Steps p.tables e below (T1.setTop (mkF m 130 #[.val (.int p1), .val (.ref b2), .val (.int (6 : Int32)), .unset, .unset, .unset, .unset, .unset] [(.ref w_OWNER)])) _
      refine XS.astoreN X1.here hx rfl (hb hby at_130) rfl rfl (l' := #[.val (.int p1), .val (.ref b2), .val (.int (6 : Int32)), .val (.ref w_OWNER), .unset, .unset, .unset, .unset]) rfl ?_
      show Steps p.tables e below (T1.setTop (mkF m 131 #[.val (.int p1), .val (.ref b2), .val (.int (6 : Int32)), .val (.ref w_OWNER), .unset, .unset, .unset, .unset] [])) _
      refine XS.iloadN X1.here hx rfl (hb hby at_131) rfl ?_
      show Steps p.tables e below (T1.setTop (mkF m 132 #[.val (.int p1), .val (.ref b2), .val (.int (6 : Int32)), .val (.ref w_OWNER), .unset, .unset, .unset, .unset] [(.int (6 : Int32))])) _
      refine XS.bipush X1.here hx rfl (hb hby at_132) ?_
      show Steps p.tables e below (T1.setTop (mkF m 134 #[.val (.int p1), .val (.ref b2), .val (.int (6 : Int32)), .val (.ref w_OWNER), .unset, .unset, .unset, .unset] [(.int (11 : Int32)), (.int (6 : Int32))])) _
      refine XS.icmpNo X1.here hx rfl (hb hby at_134) rfl (feq (by decide : ¬ ((6 : Int32) = (11 : Int32)))).1 ?_
      show Steps p.tables e below (T1.setTop (mkF m 137 #[.val (.int p1), .val (.ref b2), .val (.int (6 : Int32)), .val (.ref w_OWNER), .unset, .unset, .unset, .unset] [])) _
      refine XS.iloadN X1.here hx rfl (hb hby at_137) rfl ?_
      show Steps p.tables e below (T1.setTop (mkF m 138 #[.val (.int p1), .val (.ref b2), .val (.int (6 : Int32)), .val (.ref w_OWNER), .unset, .unset, .unset, .unset] [(.int (6 : Int32))])) _
      refine XS.bipush X1.here hx rfl (hb hby at_138) ?_
      show Steps p.tables e below (T1.setTop (mkF m 140 #[.val (.int p1), .val (.ref b2), .val (.int (6 : Int32)), .val (.ref w_OWNER), .unset, .unset, .unset, .unset] [(.int (12 : Int32)), (.int (6 : Int32))])) _
      refine XS.icmpNo X1.here hx rfl (hb hby at_140) rfl (feq (by decide : ¬ ((6 : Int32) = (12 : Int32)))).1 ?_
      show Steps p.tables e below (T1.setTop (mkF m 143 #[.val (.int p1), .val (.ref b2), .val (.int (6 : Int32)), .val (.ref w_OWNER), .unset, .unset, .unset, .unset] [])) _
      refine XS.iloadN X1.here hx rfl (hb hby at_143) rfl ?_
      show Steps p.tables e below (T1.setTop (mkF m 144 #[.val (.int p1), .val (.ref b2), .val (.int (6 : Int32)), .val (.ref w_OWNER), .unset, .unset, .unset, .unset] [(.int (6 : Int32))])) _
      refine XS.bipush X1.here hx rfl (hb hby at_144) ?_
      show Steps p.tables e below (T1.setTop (mkF m 146 #[.val (.int p1), .val (.ref b2), .val (.int (6 : Int32)), .val (.ref w_OWNER), .unset, .unset, .unset, .unset] [(.int (14 : Int32)), (.int (6 : Int32))])) _
      refine XS.icmpNo X1.here hx rfl (hb hby at_146) rfl (feq (by decide : ¬ ((6 : Int32) = (14 : Int32)))).1 ?_
      show Steps p.tables e below (T1.setTop (mkF m 149 #[.val (.int p1), .val (.ref b2), .val (.int (6 : Int32)), .val (.ref w_OWNER), .unset, .unset, .unset, .unset] [])) _
      refine XS.iloadN X1.here hx rfl (hb hby at_149) rfl ?_
      show Steps p.tables e below (T1.setTop (mkF m 150 #[.val (.int p1), .val (.ref b2), .val (.int (6 : Int32)), .val (.ref w_OWNER), .unset, .unset, .unset, .unset] [(.int (6 : Int32))])) _
      refine XS.bipush X1.here hx rfl (hb hby at_150) ?_
      show Steps p.tables e below (T1.setTop (mkF m 152 #[.val (.int p1), .val (.ref b2), .val (.int (6 : Int32)), .val (.ref w_OWNER), .unset, .unset, .unset, .unset] [(.int (15 : Int32)), (.int (6 : Int32))])) _
      refine XS.icmpYes X1.here hx rfl (pc0 := 152) (pc' := 159) rfl (hb hby at_152) rfl (feq (by decide : ¬ ((6 : Int32) = (15 : Int32)))).2 (by decide) (by decide) ?_
      show Steps p.tables e below (T1.setTop (mkF m 159 #[.val (.int p1), .val (.ref b2), .val (.int (6 : Int32)), .val (.ref w_OWNER), .unset, .unset, .unset, .unset] [])) _
      refine XS.iconst X1.here hx rfl (hb hby at_159) ?_
      show Steps p.tables e below (T1.setTop (mkF m 160 #[.val (.int p1), .val (.ref b2), .val (.int (6 : Int32)), .val (.ref w_OWNER), .unset, .unset, .unset, .unset] [(.int (0 : Int32))])) _
      refine XS.istore X1.here hx rfl (hb hby at_160) rfl (l' := #[.val (.int p1), .val (.ref b2), .val (.int (6 : Int32)), .val (.ref w_OWNER), .val (.int (0 : Int32)), .unset, .unset, .unset]) rfl ?_
      show Steps p.tables e below (T1.setTop (mkF m 162 #[.val (.int p1), .val (.ref b2), .val (.int (6 : Int32)), .val (.ref w_OWNER), .val (.int (0 : Int32)), .unset, .unset, .unset] [])) _
      refine XS.iload X1.here hx rfl (hb hby at_162) rfl ?_
      show Steps p.tables e below (T1.setTop (mkF m 164 #[.val (.int p1), .val (.ref b2), .val (.int (6 : Int32)), .val (.ref w_OWNER), .val (.int (0 : Int32)), .unset, .unset, .unset] [(.int (0 : Int32))])) _
      refine XS.ifNo X1.here hx rfl (hb hby at_164) rfl ((if0 _ _).trans (teq (by decide : (0 : Int32) = (0 : Int32))).2) ?_
      show Steps p.tables e below (T1.setTop (mkF m 167 #[.val (.int p1), .val (.ref b2), .val (.int (6 : Int32)), .val (.ref w_OWNER), .val (.int (0 : Int32)), .unset, .unset, .unset] [])) _
      refine XS.iconst X1.here hx rfl (hb hby at_167) ?_
      show Steps p.tables e below (T1.setTop (mkF m 168 #[.val (.int p1), .val (.ref b2), .val (.int (6 : Int32)), .val (.ref w_OWNER), .val (.int (0 : Int32)), .unset, .unset, .unset] [(.int (1 : Int32))])) _
      refine XS.goto X1.here hx rfl (pc0 := 168) (pc' := 172) rfl (hb hby at_168) (by decide) (by decide) ?_
      show Steps p.tables e below (T1.setTop (mkF m 172 #[.val (.int p1), .val (.ref b2), .val (.int (6 : Int32)), .val (.ref w_OWNER), .val (.int (0 : Int32)), .unset, .unset, .unset] [(.int (1 : Int32))])) _
      refine XS.istore X1.here hx rfl (hb hby at_172) rfl (l' := #[.val (.int p1), .val (.ref b2), .val (.int (6 : Int32)), .val (.ref w_OWNER), .val (.int (0 : Int32)), .val (.int (1 : Int32)), .unset, .unset]) rfl ?_
      show Steps p.tables e below (T1.setTop (mkF m 174 #[.val (.int p1), .val (.ref b2), .val (.int (6 : Int32)), .val (.ref w_OWNER), .val (.int (0 : Int32)), .val (.int (1 : Int32)), .unset, .unset] [])) _
      refine XS.aloadN X1.here hx rfl (hb hby at_174) rfl rfl ?_
      show Steps p.tables e below (T1.setTop (mkF m 175 #[.val (.int p1), .val (.ref b2), .val (.int (6 : Int32)), .val (.ref w_OWNER), .val (.int (0 : Int32)), .val (.int (1 : Int32)), .unset, .unset] [(.ref w_OWNER)])) _
      refine st92.trans ?_
      show Steps p.tables e below (T92.setTop (mkF m 178 #[.val (.int p1), .val (.ref b2), .val (.int (6 : Int32)), .val (.ref w_OWNER), .val (.int (0 : Int32)), .val (.int (1 : Int32)), .unset, .unset] [(.int (1 : Int32))])) _
      refine XS.istore X92.here hx rfl (hb hby at_178) rfl (l' := #[.val (.int p1), .val (.ref b2), .val (.int (6 : Int32)), .val (.ref w_OWNER), .val (.int (0 : Int32)), .val (.int (1 : Int32)), .val (.int (1 : Int32)), .unset]) rfl ?_
      show Steps p.tables e below (T92.setTop (mkF m 180 #[.val (.int p1), .val (.ref b2), .val (.int (6 : Int32)), .val (.ref w_OWNER), .val (.int (0 : Int32)), .val (.int (1 : Int32)), .val (.int (1 : Int32)), .unset] [])) _
      refine XS.aloadN X92.here hx rfl (hb hby at_180) rfl rfl ?_
      show Steps p.tables e below (T92.setTop (mkF m 181 #[.val (.int p1), .val (.ref b2), .val (.int (6 : Int32)), .val (.ref w_OWNER), .val (.int (0 : Int32)), .val (.int (1 : Int32)), .val (.int (1 : Int32)), .unset] [(.ref w_OWNER)])) _
      refine st93.trans ?_
      show Steps p.tables e below (T93.setTop (mkF m 184 #[.val (.int p1), .val (.ref b2), .val (.int (6 : Int32)), .val (.ref w_OWNER), .val (.int (0 : Int32)), .val (.int (1 : Int32)), .val (.int (1 : Int32)), .unset] [(.int (1 : Int32))])) _
      refine XS.ifNo X93.here hx rfl (hb hby at_184) rfl ((if0 _ _).trans (feq (by decide : ¬ ((1 : Int32) = (0 : Int32)))).1) ?_
      show Steps p.tables e below (T93.setTop (mkF m 187 #[.val (.int p1), .val (.ref b2), .val (.int (6 : Int32)), .val (.ref w_OWNER), .val (.int (0 : Int32)), .val (.int (1 : Int32)), .val (.int (1 : Int32)), .unset] [])) _
      refine XS.iload X93.here hx rfl (hb hby at_187) rfl ?_
      show Steps p.tables e below (T93.setTop (mkF m 189 #[.val (.int p1), .val (.ref b2), .val (.int (6 : Int32)), .val (.ref w_OWNER), .val (.int (0 : Int32)), .val (.int (1 : Int32)), .val (.int (1 : Int32)), .unset] [(.int (1 : Int32))])) _
      refine XS.ifNo X93.here hx rfl (hb hby at_189) rfl ((if0 _ _).trans (feq (by decide : ¬ ((1 : Int32) = (0 : Int32)))).1) ?_
      show Steps p.tables e below (T93.setTop (mkF m 192 #[.val (.int p1), .val (.ref b2), .val (.int (6 : Int32)), .val (.ref w_OWNER), .val (.int (0 : Int32)), .val (.int (1 : Int32)), .val (.int (1 : Int32)), .unset] [])) _
      refine XS.iconst X93.here hx rfl (hb hby at_192) ?_
      show Steps p.tables e below (T93.setTop (mkF m 193 #[.val (.int p1), .val (.ref b2), .val (.int (6 : Int32)), .val (.ref w_OWNER), .val (.int (0 : Int32)), .val (.int (1 : Int32)), .val (.int (1 : Int32)), .unset] [(.int (1 : Int32))])) _
      refine XS.goto X93.here hx rfl (pc0 := 193) (pc' := 197) rfl (hb hby at_193) (by decide) (by decide) ?_
      show Steps p.tables e below (T93.setTop (mkF m 197 #[.val (.int p1), .val (.ref b2), .val (.int (6 : Int32)), .val (.ref w_OWNER), .val (.int (0 : Int32)), .val (.int (1 : Int32)), .val (.int (1 : Int32)), .unset] [(.int (1 : Int32))])) _
      refine XS.istore X93.here hx rfl (hb hby at_197) rfl (l' := #[.val (.int p1), .val (.ref b2), .val (.int (6 : Int32)), .val (.ref w_OWNER), .val (.int (0 : Int32)), .val (.int (1 : Int32)), .val (.int (1 : Int32)), .val (.int (1 : Int32))]) rfl ?_
      show Steps p.tables e below (T93.setTop (mkF m 199 #[.val (.int p1), .val (.ref b2), .val (.int (6 : Int32)), .val (.ref w_OWNER), .val (.int (0 : Int32)), .val (.int (1 : Int32)), .val (.int (1 : Int32)), .val (.int (1 : Int32))] [])) _
      refine XS.iload X93.here hx rfl (hb hby at_199) rfl ?_
      show Steps p.tables e below (T93.setTop (mkF m 201 #[.val (.int p1), .val (.ref b2), .val (.int (6 : Int32)), .val (.ref w_OWNER), .val (.int (0 : Int32)), .val (.int (1 : Int32)), .val (.int (1 : Int32)), .val (.int (1 : Int32))] [(.int (1 : Int32))])) _
      refine XS.iload X93.here hx rfl (hb hby at_201) rfl ?_
      show Steps p.tables e below (T93.setTop (mkF m 203 #[.val (.int p1), .val (.ref b2), .val (.int (6 : Int32)), .val (.ref w_OWNER), .val (.int (0 : Int32)), .val (.int (1 : Int32)), .val (.int (1 : Int32)), .val (.int (1 : Int32))] [(.int (1 : Int32)), (.int (1 : Int32))])) _
      refine XS.icmpNo X93.here hx rfl (hb hby at_203) rfl (teq (by decide : (1 : Int32) = (1 : Int32))).2 ?_
      show Steps p.tables e below (T93.setTop (mkF m 206 #[.val (.int p1), .val (.ref b2), .val (.int (6 : Int32)), .val (.ref w_OWNER), .val (.int (0 : Int32)), .val (.int (1 : Int32)), .val (.int (1 : Int32)), .val (.int (1 : Int32))] [])) _
      refine XS.iload X93.here hx rfl (hb hby at_206) rfl ?_
      show Steps p.tables e below (T93.setTop (mkF m 208 #[.val (.int p1), .val (.ref b2), .val (.int (6 : Int32)), .val (.ref w_OWNER), .val (.int (0 : Int32)), .val (.int (1 : Int32)), .val (.int (1 : Int32)), .val (.int (1 : Int32))] [(.int (1 : Int32))])) _
      refine XS.ifNo X93.here hx rfl (hb hby at_208) rfl ((if0 _ _).trans (feq (by decide : ¬ ((1 : Int32) = (0 : Int32)))).1) ?_
      show Steps p.tables e below (T93.setTop (mkF m 211 #[.val (.int p1), .val (.ref b2), .val (.int (6 : Int32)), .val (.ref w_OWNER), .val (.int (0 : Int32)), .val (.int (1 : Int32)), .val (.int (1 : Int32)), .val (.int (1 : Int32))] [])) _
      refine XS.iconst X93.here hx rfl (hb hby at_211) ?_
      show Steps p.tables e below (T93.setTop (mkF m 212 #[.val (.int p1), .val (.ref b2), .val (.int (6 : Int32)), .val (.ref w_OWNER), .val (.int (0 : Int32)), .val (.int (1 : Int32)), .val (.int (1 : Int32)), .val (.int (1 : Int32))] [(.int (1 : Int32))])) _
      refine XS.goto X93.here hx rfl (pc0 := 212) (pc' := 216) rfl (hb hby at_212) (by decide) (by decide) ?_
      show Steps p.tables e below (T93.setTop (mkF m 216 #[.val (.int p1), .val (.ref b2), .val (.int (6 : Int32)), .val (.ref w_OWNER), .val (.int (0 : Int32)), .val (.int (1 : Int32)), .val (.int (1 : Int32)), .val (.int (1 : Int32))] [(.int (1 : Int32))])) _
      exact retN X93 hx (t := .boolean) Bd.returns (by simp) (hb hby at_216) hr
    · show Q0_0 Z p1 w_POD w_BASE w_RESOURCE w_AGENT w_CLIENT w_ISSUER w_OWNER w_CREATOR w_CREDENTIAL w_REQUESTS w_AGENTS w_STATS w_WAC_ALLOW w_METHOD w_CREATES w_REMOVES w_PORT w_VALUE w_FLAG w_REPEATED_VALUE h0 n0 _ T93.heap _
      rw [e93]
      exact ⟨rfl, N93⟩
  ·
    obtain ⟨cl94, Ar94, qq94, Sz94, Nn94, Hs94, Gs94⟩ := id pf1_0
    have hin94 : ¬ ((7 : Int32) < 0 ∨ cl94.slots.size ≤ ((7 : Int32)).toNatClampNeg) := inb_of Sz94 ⟨by decide, by decide⟩
    have hat94 : cl94.slots[((7 : Int32)).toNatClampNeg]? = some (.ref w_CREATOR) := Has.at Hs94 hin94 rfl
    obtain ⟨cq95, kq95, q95a, q95b, q95c⟩ := isOf hZ e1 (E_CREATOR.keep K1)
    obtain ⟨_, _, ⟨T95, L95, k95, n95⟩, -, X95, ⟨Lc95, hQ95, l95, y95, z95⟩, st95⟩ := X1.virtualBack hx (y := (⟨"com/example/garm/garm/command/Option", "takesValue", "()Z"⟩ : MethodName)) (z := (⟨"com/example/garm/garm/command/Option", "takesValue", "()Z"⟩ : MethodName)) hown (mvT hZ (hw _ (List.mem_of_getElem? (i := 39) rfl))) (mvT hZ (hw _ (List.mem_of_getElem? (i := 40) rfl))) (notFace_of_selects (args := #[]) (mvT hZ (hw _ (List.mem_of_getElem? (i := 42) rfl)))) (mvT hZ (hw _ (List.mem_of_getElem? (i := 42) rfl))) (mvT hZ (hw _ (List.mem_of_getElem? (i := 41) rfl))) (by decide) (backOf (W := 0) (rm1_7 l Z a0 hw [] w_CREATOR w_VALUE w_FLAG h1 n0 (Nat.le_trans Z0 K1.1) (F_form_CREATOR.keep K1 nin0) (own_staK S_FLAG K1 all0) ne_FLAG_VALUE) hZ (hw _ (List.mem_of_getElem? (i := 43) rfl)) (hw _ (List.mem_of_getElem? (i := 3) rfl)) (by decide) (by decide)) q95a q95c (g := (mkF m 175 #[.val (.int p1), .val (.ref b2), .val (.int (7 : Int32)), .val (.ref w_CREATOR), .val (.int (0 : Int32)), .val (.int (1 : Int32)), .unset, .unset] [(.ref w_CREATOR)])) rfl (by rw [hml]; rfl) (Steps.refl _) (argsL := []) (rest := []) (lenOf pd_0 rfl) rfl (by show 2 * 0 + _ ≤ _; exact Nat.le_of_eq rfl) (hb hby at_175) (fun _ _ => ⟨rfl, e1, (by decide : 1 + 0 ≤ _), (by decide : 17 + 0 ≤ _)⟩)
    dsimp only [Pt.U, Pt.locs, Pt.cells, Pt.slots] at X95 l95 y95 z95 st95 hQ95
    subst l95 y95 z95
    obtain ⟨rfl, N95q, e95⟩ := hQ95
    have N95 := Fr.app N1 N95q
    obtain ⟨cq96, kq96, q96a, q96b, q96c⟩ := isOf hZ e95 (E_CREATOR.keep K1)
    obtain ⟨_, _, ⟨T96, L96, k96, n96⟩, -, X96, ⟨Lc96, hQ96, l96, y96, z96⟩, st96⟩ := X95.virtualBack hx (y := (⟨"com/example/garm/garm/command/Option", "isRepeatable", "()Z"⟩ : MethodName)) (z := (⟨"com/example/garm/garm/command/Option", "isRepeatable", "()Z"⟩ : MethodName)) hown (mvT hZ (hw _ (List.mem_of_getElem? (i := 50) rfl))) (mvT hZ (hw _ (List.mem_of_getElem? (i := 51) rfl))) (notFace_of_selects (args := #[]) (mvT hZ (hw _ (List.mem_of_getElem? (i := 53) rfl)))) (mvT hZ (hw _ (List.mem_of_getElem? (i := 53) rfl))) (mvT hZ (hw _ (List.mem_of_getElem? (i := 52) rfl))) (by decide) (backOf (W := 0) (rm2_7 l Z a0 hw [] w_CREATOR w_VALUE w_REPEATED_VALUE h1 n0 (Nat.le_trans Z0 K1.1) (F_form_CREATOR.keep K1 nin0) (own_staK S_REPEATED_VALUE K1 all0) ne_REPEATED_VALUE_VALUE) hZ (hw _ (List.mem_of_getElem? (i := 54) rfl)) (hw _ (List.mem_of_getElem? (i := 3) rfl)) (by decide) (by decide)) q96a q96c (g := (mkF m 181 #[.val (.int p1), .val (.ref b2), .val (.int (7 : Int32)), .val (.ref w_CREATOR), .val (.int (0 : Int32)), .val (.int (1 : Int32)), .val (.int (1 : Int32)), .unset] [(.ref w_CREATOR)])) rfl (by rw [hml]; rfl) (Steps.refl _) (argsL := []) (rest := []) (lenOf pd_0 rfl) rfl (by show 2 * 0 + _ ≤ _; exact Nat.le_of_eq rfl) (hb hby at_181) (fun _ _ => ⟨rfl, e95, (by decide : 1 + 0 ≤ _), (by decide : 17 + 0 ≤ _)⟩)
    dsimp only [Pt.U, Pt.locs, Pt.cells, Pt.slots] at X96 l96 y96 z96 st96 hQ96
    subst l96 y96 z96
    obtain ⟨rfl, N96q, e96⟩ := hQ96
    have N96 := Fr.app N95 N96q
    obtain ⟨fs, hr, hrun, hended, hW, hsame⟩ := X96.leave (v := some (.int (1 : Int32))) (fun h => by rw [Bd.returns] at h; cases h)
    refine ⟨_, _, k55 _ ?_, hrun, hended, _, _, rfl, ?_, ⟨_, rfl⟩, hW, hsame.mono (by decide) (by decide)⟩
    ·
      show Steps p.tables e below (T1.setTop (mkF m 126 #[.val (.int p1), .val (.ref b2), .unset, .unset, .unset, .unset, .unset, .unset] [(.int ((p1 &&& (2147483647 : Int32)) % (17 : Int32)))])) _
      rewrite [hk63_7]
      show Steps p.tables e below (T1.setTop (mkF m 126 #[.val (.int p1), .val (.ref b2), .unset, .unset, .unset, .unset, .unset, .unset] [(.int (7 : Int32))])) _
      refine XS.istoreN X1.here hx rfl (hb hby at_126) rfl (l' := #[.val (.int p1), .val (.ref b2), .val (.int (7 : Int32)), .unset, .unset, .unset, .unset, .unset]) rfl ?_
      show Steps p.tables e below (T1.setTop (mkF m 127 #[.val (.int p1), .val (.ref b2), .val (.int (7 : Int32)), .unset, .unset, .unset, .unset, .unset] [])) _
      refine XS.aloadN X1.here hx rfl (hb hby at_127) rfl rfl ?_
      show Steps p.tables e below (T1.setTop (mkF m 128 #[.val (.int p1), .val (.ref b2), .val (.int (7 : Int32)), .unset, .unset, .unset, .unset, .unset] [(.ref b2)])) _
      refine XS.iloadN X1.here hx rfl (hb hby at_128) rfl ?_
      show Steps p.tables e below (T1.setTop (mkF m 129 #[.val (.int p1), .val (.ref b2), .val (.int (7 : Int32)), .unset, .unset, .unset, .unset, .unset] [(.int (7 : Int32)), (.ref b2)])) _
      refine X1.aaload hx (j := (7 : Int32)) (v := (.ref w_CREATOR)) (by rw [e1]; exact Ar94.1) (State.isArrayOf_alike hZ.alike Ar94.2.1) rfl Ar94.2.2 hin94 hat94 (g := (mkF m 129 #[.val (.int p1), .val (.ref b2), .val (.int (7 : Int32)), .unset, .unset, .unset, .unset, .unset] [(.int (7 : Int32)), (.ref b2)])) rfl rfl (hb hby at_129) _ ?_
      show Steps p.tables e below (T1.setTop (mkF m 130 #[.val (.int p1), .val (.ref b2), .val (.int (7 : Int32)), .unset, .unset, .unset, .unset, .unset] [(.ref w_CREATOR)])) _
      refine XS.astoreN X1.here hx rfl (hb hby at_130) rfl rfl (l' := #[.val (.int p1), .val (.ref b2), .val (.int (7 : Int32)), .val (.ref w_CREATOR), .unset, .unset, .unset, .unset]) rfl ?_
      show Steps p.tables e below (T1.setTop (mkF m 131 #[.val (.int p1), .val (.ref b2), .val (.int (7 : Int32)), .val (.ref w_CREATOR), .unset, .unset, .unset, .unset] [])) _
      refine XS.iloadN X1.here hx rfl (hb hby at_131) rfl ?_
      show Steps p.tables e below (T1.setTop (mkF m 132 #[.val (.int p1), .val (.ref b2), .val (.int (7 : Int32)), .val (.ref w_CREATOR), .unset, .unset, .unset, .unset] [(.int (7 : Int32))])) _
      refine XS.bipush X1.here hx rfl (hb hby at_132) ?_
      show Steps p.tables e below (T1.setTop (mkF m 134 #[.val (.int p1), .val (.ref b2), .val (.int (7 : Int32)), .val (.ref w_CREATOR), .unset, .unset, .unset, .unset] [(.int (11 : Int32)), (.int (7 : Int32))])) _
      refine XS.icmpNo X1.here hx rfl (hb hby at_134) rfl (feq (by decide : ¬ ((7 : Int32) = (11 : Int32)))).1 ?_
      show Steps p.tables e below (T1.setTop (mkF m 137 #[.val (.int p1), .val (.ref b2), .val (.int (7 : Int32)), .val (.ref w_CREATOR), .unset, .unset, .unset, .unset] [])) _
      refine XS.iloadN X1.here hx rfl (hb hby at_137) rfl ?_
      show Steps p.tables e below (T1.setTop (mkF m 138 #[.val (.int p1), .val (.ref b2), .val (.int (7 : Int32)), .val (.ref w_CREATOR), .unset, .unset, .unset, .unset] [(.int (7 : Int32))])) _
      refine XS.bipush X1.here hx rfl (hb hby at_138) ?_
      show Steps p.tables e below (T1.setTop (mkF m 140 #[.val (.int p1), .val (.ref b2), .val (.int (7 : Int32)), .val (.ref w_CREATOR), .unset, .unset, .unset, .unset] [(.int (12 : Int32)), (.int (7 : Int32))])) _
      refine XS.icmpNo X1.here hx rfl (hb hby at_140) rfl (feq (by decide : ¬ ((7 : Int32) = (12 : Int32)))).1 ?_
      show Steps p.tables e below (T1.setTop (mkF m 143 #[.val (.int p1), .val (.ref b2), .val (.int (7 : Int32)), .val (.ref w_CREATOR), .unset, .unset, .unset, .unset] [])) _
      refine XS.iloadN X1.here hx rfl (hb hby at_143) rfl ?_
      show Steps p.tables e below (T1.setTop (mkF m 144 #[.val (.int p1), .val (.ref b2), .val (.int (7 : Int32)), .val (.ref w_CREATOR), .unset, .unset, .unset, .unset] [(.int (7 : Int32))])) _
      refine XS.bipush X1.here hx rfl (hb hby at_144) ?_
      show Steps p.tables e below (T1.setTop (mkF m 146 #[.val (.int p1), .val (.ref b2), .val (.int (7 : Int32)), .val (.ref w_CREATOR), .unset, .unset, .unset, .unset] [(.int (14 : Int32)), (.int (7 : Int32))])) _
      refine XS.icmpNo X1.here hx rfl (hb hby at_146) rfl (feq (by decide : ¬ ((7 : Int32) = (14 : Int32)))).1 ?_
      show Steps p.tables e below (T1.setTop (mkF m 149 #[.val (.int p1), .val (.ref b2), .val (.int (7 : Int32)), .val (.ref w_CREATOR), .unset, .unset, .unset, .unset] [])) _
      refine XS.iloadN X1.here hx rfl (hb hby at_149) rfl ?_
      show Steps p.tables e below (T1.setTop (mkF m 150 #[.val (.int p1), .val (.ref b2), .val (.int (7 : Int32)), .val (.ref w_CREATOR), .unset, .unset, .unset, .unset] [(.int (7 : Int32))])) _
      refine XS.bipush X1.here hx rfl (hb hby at_150) ?_
      show Steps p.tables e below (T1.setTop (mkF m 152 #[.val (.int p1), .val (.ref b2), .val (.int (7 : Int32)), .val (.ref w_CREATOR), .unset, .unset, .unset, .unset] [(.int (15 : Int32)), (.int (7 : Int32))])) _
      refine XS.icmpYes X1.here hx rfl (pc0 := 152) (pc' := 159) rfl (hb hby at_152) rfl (feq (by decide : ¬ ((7 : Int32) = (15 : Int32)))).2 (by decide) (by decide) ?_
      show Steps p.tables e below (T1.setTop (mkF m 159 #[.val (.int p1), .val (.ref b2), .val (.int (7 : Int32)), .val (.ref w_CREATOR), .unset, .unset, .unset, .unset] [])) _
      refine XS.iconst X1.here hx rfl (hb hby at_159) ?_
      show Steps p.tables e below (T1.setTop (mkF m 160 #[.val (.int p1), .val (.ref b2), .val (.int (7 : Int32)), .val (.ref w_CREATOR), .unset, .unset, .unset, .unset] [(.int (0 : Int32))])) _
      refine XS.istore X1.here hx rfl (hb hby at_160) rfl (l' := #[.val (.int p1), .val (.ref b2), .val (.int (7 : Int32)), .val (.ref w_CREATOR), .val (.int (0 : Int32)), .unset, .unset, .unset]) rfl ?_
      show Steps p.tables e below (T1.setTop (mkF m 162 #[.val (.int p1), .val (.ref b2), .val (.int (7 : Int32)), .val (.ref w_CREATOR), .val (.int (0 : Int32)), .unset, .unset, .unset] [])) _
      refine XS.iload X1.here hx rfl (hb hby at_162) rfl ?_
      show Steps p.tables e below (T1.setTop (mkF m 164 #[.val (.int p1), .val (.ref b2), .val (.int (7 : Int32)), .val (.ref w_CREATOR), .val (.int (0 : Int32)), .unset, .unset, .unset] [(.int (0 : Int32))])) _
      refine XS.ifNo X1.here hx rfl (hb hby at_164) rfl ((if0 _ _).trans (teq (by decide : (0 : Int32) = (0 : Int32))).2) ?_
      show Steps p.tables e below (T1.setTop (mkF m 167 #[.val (.int p1), .val (.ref b2), .val (.int (7 : Int32)), .val (.ref w_CREATOR), .val (.int (0 : Int32)), .unset, .unset, .unset] [])) _
      refine XS.iconst X1.here hx rfl (hb hby at_167) ?_
      show Steps p.tables e below (T1.setTop (mkF m 168 #[.val (.int p1), .val (.ref b2), .val (.int (7 : Int32)), .val (.ref w_CREATOR), .val (.int (0 : Int32)), .unset, .unset, .unset] [(.int (1 : Int32))])) _
      refine XS.goto X1.here hx rfl (pc0 := 168) (pc' := 172) rfl (hb hby at_168) (by decide) (by decide) ?_
      show Steps p.tables e below (T1.setTop (mkF m 172 #[.val (.int p1), .val (.ref b2), .val (.int (7 : Int32)), .val (.ref w_CREATOR), .val (.int (0 : Int32)), .unset, .unset, .unset] [(.int (1 : Int32))])) _
      refine XS.istore X1.here hx rfl (hb hby at_172) rfl (l' := #[.val (.int p1), .val (.ref b2), .val (.int (7 : Int32)), .val (.ref w_CREATOR), .val (.int (0 : Int32)), .val (.int (1 : Int32)), .unset, .unset]) rfl ?_
      show Steps p.tables e below (T1.setTop (mkF m 174 #[.val (.int p1), .val (.ref b2), .val (.int (7 : Int32)), .val (.ref w_CREATOR), .val (.int (0 : Int32)), .val (.int (1 : Int32)), .unset, .unset] [])) _
      refine XS.aloadN X1.here hx rfl (hb hby at_174) rfl rfl ?_
      show Steps p.tables e below (T1.setTop (mkF m 175 #[.val (.int p1), .val (.ref b2), .val (.int (7 : Int32)), .val (.ref w_CREATOR), .val (.int (0 : Int32)), .val (.int (1 : Int32)), .unset, .unset] [(.ref w_CREATOR)])) _
      refine st95.trans ?_
      show Steps p.tables e below (T95.setTop (mkF m 178 #[.val (.int p1), .val (.ref b2), .val (.int (7 : Int32)), .val (.ref w_CREATOR), .val (.int (0 : Int32)), .val (.int (1 : Int32)), .unset, .unset] [(.int (1 : Int32))])) _
      refine XS.istore X95.here hx rfl (hb hby at_178) rfl (l' := #[.val (.int p1), .val (.ref b2), .val (.int (7 : Int32)), .val (.ref w_CREATOR), .val (.int (0 : Int32)), .val (.int (1 : Int32)), .val (.int (1 : Int32)), .unset]) rfl ?_
      show Steps p.tables e below (T95.setTop (mkF m 180 #[.val (.int p1), .val (.ref b2), .val (.int (7 : Int32)), .val (.ref w_CREATOR), .val (.int (0 : Int32)), .val (.int (1 : Int32)), .val (.int (1 : Int32)), .unset] [])) _
      refine XS.aloadN X95.here hx rfl (hb hby at_180) rfl rfl ?_
      show Steps p.tables e below (T95.setTop (mkF m 181 #[.val (.int p1), .val (.ref b2), .val (.int (7 : Int32)), .val (.ref w_CREATOR), .val (.int (0 : Int32)), .val (.int (1 : Int32)), .val (.int (1 : Int32)), .unset] [(.ref w_CREATOR)])) _
      refine st96.trans ?_
      show Steps p.tables e below (T96.setTop (mkF m 184 #[.val (.int p1), .val (.ref b2), .val (.int (7 : Int32)), .val (.ref w_CREATOR), .val (.int (0 : Int32)), .val (.int (1 : Int32)), .val (.int (1 : Int32)), .unset] [(.int (0 : Int32))])) _
      refine XS.ifYes X96.here hx rfl (pc0 := 184) (pc' := 192) rfl (hb hby at_184) rfl ((if0 _ _).trans (teq (by decide : (0 : Int32) = (0 : Int32))).1) (by decide) (by decide) ?_
      show Steps p.tables e below (T96.setTop (mkF m 192 #[.val (.int p1), .val (.ref b2), .val (.int (7 : Int32)), .val (.ref w_CREATOR), .val (.int (0 : Int32)), .val (.int (1 : Int32)), .val (.int (1 : Int32)), .unset] [])) _
      refine XS.iconst X96.here hx rfl (hb hby at_192) ?_
      show Steps p.tables e below (T96.setTop (mkF m 193 #[.val (.int p1), .val (.ref b2), .val (.int (7 : Int32)), .val (.ref w_CREATOR), .val (.int (0 : Int32)), .val (.int (1 : Int32)), .val (.int (1 : Int32)), .unset] [(.int (1 : Int32))])) _
      refine XS.goto X96.here hx rfl (pc0 := 193) (pc' := 197) rfl (hb hby at_193) (by decide) (by decide) ?_
      show Steps p.tables e below (T96.setTop (mkF m 197 #[.val (.int p1), .val (.ref b2), .val (.int (7 : Int32)), .val (.ref w_CREATOR), .val (.int (0 : Int32)), .val (.int (1 : Int32)), .val (.int (1 : Int32)), .unset] [(.int (1 : Int32))])) _
      refine XS.istore X96.here hx rfl (hb hby at_197) rfl (l' := #[.val (.int p1), .val (.ref b2), .val (.int (7 : Int32)), .val (.ref w_CREATOR), .val (.int (0 : Int32)), .val (.int (1 : Int32)), .val (.int (1 : Int32)), .val (.int (1 : Int32))]) rfl ?_
      show Steps p.tables e below (T96.setTop (mkF m 199 #[.val (.int p1), .val (.ref b2), .val (.int (7 : Int32)), .val (.ref w_CREATOR), .val (.int (0 : Int32)), .val (.int (1 : Int32)), .val (.int (1 : Int32)), .val (.int (1 : Int32))] [])) _
      refine XS.iload X96.here hx rfl (hb hby at_199) rfl ?_
      show Steps p.tables e below (T96.setTop (mkF m 201 #[.val (.int p1), .val (.ref b2), .val (.int (7 : Int32)), .val (.ref w_CREATOR), .val (.int (0 : Int32)), .val (.int (1 : Int32)), .val (.int (1 : Int32)), .val (.int (1 : Int32))] [(.int (1 : Int32))])) _
      refine XS.iload X96.here hx rfl (hb hby at_201) rfl ?_
      show Steps p.tables e below (T96.setTop (mkF m 203 #[.val (.int p1), .val (.ref b2), .val (.int (7 : Int32)), .val (.ref w_CREATOR), .val (.int (0 : Int32)), .val (.int (1 : Int32)), .val (.int (1 : Int32)), .val (.int (1 : Int32))] [(.int (1 : Int32)), (.int (1 : Int32))])) _
      refine XS.icmpNo X96.here hx rfl (hb hby at_203) rfl (teq (by decide : (1 : Int32) = (1 : Int32))).2 ?_
      show Steps p.tables e below (T96.setTop (mkF m 206 #[.val (.int p1), .val (.ref b2), .val (.int (7 : Int32)), .val (.ref w_CREATOR), .val (.int (0 : Int32)), .val (.int (1 : Int32)), .val (.int (1 : Int32)), .val (.int (1 : Int32))] [])) _
      refine XS.iload X96.here hx rfl (hb hby at_206) rfl ?_
      show Steps p.tables e below (T96.setTop (mkF m 208 #[.val (.int p1), .val (.ref b2), .val (.int (7 : Int32)), .val (.ref w_CREATOR), .val (.int (0 : Int32)), .val (.int (1 : Int32)), .val (.int (1 : Int32)), .val (.int (1 : Int32))] [(.int (1 : Int32))])) _
      refine XS.ifNo X96.here hx rfl (hb hby at_208) rfl ((if0 _ _).trans (feq (by decide : ¬ ((1 : Int32) = (0 : Int32)))).1) ?_
      show Steps p.tables e below (T96.setTop (mkF m 211 #[.val (.int p1), .val (.ref b2), .val (.int (7 : Int32)), .val (.ref w_CREATOR), .val (.int (0 : Int32)), .val (.int (1 : Int32)), .val (.int (1 : Int32)), .val (.int (1 : Int32))] [])) _
      refine XS.iconst X96.here hx rfl (hb hby at_211) ?_
      show Steps p.tables e below (T96.setTop (mkF m 212 #[.val (.int p1), .val (.ref b2), .val (.int (7 : Int32)), .val (.ref w_CREATOR), .val (.int (0 : Int32)), .val (.int (1 : Int32)), .val (.int (1 : Int32)), .val (.int (1 : Int32))] [(.int (1 : Int32))])) _
      refine XS.goto X96.here hx rfl (pc0 := 212) (pc' := 216) rfl (hb hby at_212) (by decide) (by decide) ?_
      show Steps p.tables e below (T96.setTop (mkF m 216 #[.val (.int p1), .val (.ref b2), .val (.int (7 : Int32)), .val (.ref w_CREATOR), .val (.int (0 : Int32)), .val (.int (1 : Int32)), .val (.int (1 : Int32)), .val (.int (1 : Int32))] [(.int (1 : Int32))])) _
      exact retN X96 hx (t := .boolean) Bd.returns (by simp) (hb hby at_216) hr
    · show Q0_0 Z p1 w_POD w_BASE w_RESOURCE w_AGENT w_CLIENT w_ISSUER w_OWNER w_CREATOR w_CREDENTIAL w_REQUESTS w_AGENTS w_STATS w_WAC_ALLOW w_METHOD w_CREATES w_REMOVES w_PORT w_VALUE w_FLAG w_REPEATED_VALUE h0 n0 _ T96.heap _
      rw [e96]
      exact ⟨rfl, N96⟩
  ·
    obtain ⟨cl97, Ar97, qq97, Sz97, Nn97, Hs97, Gs97⟩ := id pf1_0
    have hin97 : ¬ ((8 : Int32) < 0 ∨ cl97.slots.size ≤ ((8 : Int32)).toNatClampNeg) := inb_of Sz97 ⟨by decide, by decide⟩
    have hat97 : cl97.slots[((8 : Int32)).toNatClampNeg]? = some (.ref w_CREDENTIAL) := Has.at Hs97 hin97 rfl
    obtain ⟨cq98, kq98, q98a, q98b, q98c⟩ := isOf hZ e1 (E_CREDENTIAL.keep K1)
    obtain ⟨_, _, ⟨T98, L98, k98, n98⟩, -, X98, ⟨Lc98, hQ98, l98, y98, z98⟩, st98⟩ := X1.virtualBack hx (y := (⟨"com/example/garm/garm/command/Option", "takesValue", "()Z"⟩ : MethodName)) (z := (⟨"com/example/garm/garm/command/Option", "takesValue", "()Z"⟩ : MethodName)) hown (mvT hZ (hw _ (List.mem_of_getElem? (i := 39) rfl))) (mvT hZ (hw _ (List.mem_of_getElem? (i := 40) rfl))) (notFace_of_selects (args := #[]) (mvT hZ (hw _ (List.mem_of_getElem? (i := 42) rfl)))) (mvT hZ (hw _ (List.mem_of_getElem? (i := 42) rfl))) (mvT hZ (hw _ (List.mem_of_getElem? (i := 41) rfl))) (by decide) (backOf (W := 0) (rm1_8 l Z a0 hw [] w_CREDENTIAL w_FLAG w_REPEATED_VALUE h1 n0 (Nat.le_trans Z0 K1.1) (F_form_CREDENTIAL.keep K1 nin0) (own_staK S_FLAG K1 all0) ne_FLAG_REPEATED_VALUE) hZ (hw _ (List.mem_of_getElem? (i := 43) rfl)) (hw _ (List.mem_of_getElem? (i := 3) rfl)) (by decide) (by decide)) q98a q98c (g := (mkF m 175 #[.val (.int p1), .val (.ref b2), .val (.int (8 : Int32)), .val (.ref w_CREDENTIAL), .val (.int (0 : Int32)), .val (.int (1 : Int32)), .unset, .unset] [(.ref w_CREDENTIAL)])) rfl (by rw [hml]; rfl) (Steps.refl _) (argsL := []) (rest := []) (lenOf pd_0 rfl) rfl (by show 2 * 0 + _ ≤ _; exact Nat.le_of_eq rfl) (hb hby at_175) (fun _ _ => ⟨rfl, e1, (by decide : 1 + 0 ≤ _), (by decide : 17 + 0 ≤ _)⟩)
    dsimp only [Pt.U, Pt.locs, Pt.cells, Pt.slots] at X98 l98 y98 z98 st98 hQ98
    subst l98 y98 z98
    obtain ⟨rfl, N98q, e98⟩ := hQ98
    have N98 := Fr.app N1 N98q
    obtain ⟨cq99, kq99, q99a, q99b, q99c⟩ := isOf hZ e98 (E_CREDENTIAL.keep K1)
    obtain ⟨_, _, ⟨T99, L99, k99, n99⟩, -, X99, ⟨Lc99, hQ99, l99, y99, z99⟩, st99⟩ := X98.virtualBack hx (y := (⟨"com/example/garm/garm/command/Option", "isRepeatable", "()Z"⟩ : MethodName)) (z := (⟨"com/example/garm/garm/command/Option", "isRepeatable", "()Z"⟩ : MethodName)) hown (mvT hZ (hw _ (List.mem_of_getElem? (i := 50) rfl))) (mvT hZ (hw _ (List.mem_of_getElem? (i := 51) rfl))) (notFace_of_selects (args := #[]) (mvT hZ (hw _ (List.mem_of_getElem? (i := 53) rfl)))) (mvT hZ (hw _ (List.mem_of_getElem? (i := 53) rfl))) (mvT hZ (hw _ (List.mem_of_getElem? (i := 52) rfl))) (by decide) (backOf (W := 0) (rm2_8 l Z a0 hw [] w_CREDENTIAL w_REPEATED_VALUE h1 n0 (Nat.le_trans Z0 K1.1) (F_form_CREDENTIAL.keep K1 nin0) (own_staK S_REPEATED_VALUE K1 all0)) hZ (hw _ (List.mem_of_getElem? (i := 54) rfl)) (hw _ (List.mem_of_getElem? (i := 3) rfl)) (by decide) (by decide)) q99a q99c (g := (mkF m 181 #[.val (.int p1), .val (.ref b2), .val (.int (8 : Int32)), .val (.ref w_CREDENTIAL), .val (.int (0 : Int32)), .val (.int (1 : Int32)), .val (.int (1 : Int32)), .unset] [(.ref w_CREDENTIAL)])) rfl (by rw [hml]; rfl) (Steps.refl _) (argsL := []) (rest := []) (lenOf pd_0 rfl) rfl (by show 2 * 0 + _ ≤ _; exact Nat.le_of_eq rfl) (hb hby at_181) (fun _ _ => ⟨rfl, e98, (by decide : 1 + 0 ≤ _), (by decide : 17 + 0 ≤ _)⟩)
    dsimp only [Pt.U, Pt.locs, Pt.cells, Pt.slots] at X99 l99 y99 z99 st99 hQ99
    subst l99 y99 z99
    obtain ⟨rfl, N99q, e99⟩ := hQ99
    have N99 := Fr.app N98 N99q
    obtain ⟨fs, hr, hrun, hended, hW, hsame⟩ := X99.leave (v := some (.int (1 : Int32))) (fun h => by rw [Bd.returns] at h; cases h)
    refine ⟨_, _, k55 _ ?_, hrun, hended, _, _, rfl, ?_, ⟨_, rfl⟩, hW, hsame.mono (by decide) (by decide)⟩
    ·
      show Steps p.tables e below (T1.setTop (mkF m 126 #[.val (.int p1), .val (.ref b2), .unset, .unset, .unset, .unset, .unset, .unset] [(.int ((p1 &&& (2147483647 : Int32)) % (17 : Int32)))])) _
      rewrite [hk64_8]
      show Steps p.tables e below (T1.setTop (mkF m 126 #[.val (.int p1), .val (.ref b2), .unset, .unset, .unset, .unset, .unset, .unset] [(.int (8 : Int32))])) _
      refine XS.istoreN X1.here hx rfl (hb hby at_126) rfl (l' := #[.val (.int p1), .val (.ref b2), .val (.int (8 : Int32)), .unset, .unset, .unset, .unset, .unset]) rfl ?_
      show Steps p.tables e below (T1.setTop (mkF m 127 #[.val (.int p1), .val (.ref b2), .val (.int (8 : Int32)), .unset, .unset, .unset, .unset, .unset] [])) _
      refine XS.aloadN X1.here hx rfl (hb hby at_127) rfl rfl ?_
      show Steps p.tables e below (T1.setTop (mkF m 128 #[.val (.int p1), .val (.ref b2), .val (.int (8 : Int32)), .unset, .unset, .unset, .unset, .unset] [(.ref b2)])) _
      refine XS.iloadN X1.here hx rfl (hb hby at_128) rfl ?_
      show Steps p.tables e below (T1.setTop (mkF m 129 #[.val (.int p1), .val (.ref b2), .val (.int (8 : Int32)), .unset, .unset, .unset, .unset, .unset] [(.int (8 : Int32)), (.ref b2)])) _
      refine X1.aaload hx (j := (8 : Int32)) (v := (.ref w_CREDENTIAL)) (by rw [e1]; exact Ar97.1) (State.isArrayOf_alike hZ.alike Ar97.2.1) rfl Ar97.2.2 hin97 hat97 (g := (mkF m 129 #[.val (.int p1), .val (.ref b2), .val (.int (8 : Int32)), .unset, .unset, .unset, .unset, .unset] [(.int (8 : Int32)), (.ref b2)])) rfl rfl (hb hby at_129) _ ?_
      show Steps p.tables e below (T1.setTop (mkF m 130 #[.val (.int p1), .val (.ref b2), .val (.int (8 : Int32)), .unset, .unset, .unset, .unset, .unset] [(.ref w_CREDENTIAL)])) _
      refine XS.astoreN X1.here hx rfl (hb hby at_130) rfl rfl (l' := #[.val (.int p1), .val (.ref b2), .val (.int (8 : Int32)), .val (.ref w_CREDENTIAL), .unset, .unset, .unset, .unset]) rfl ?_
      show Steps p.tables e below (T1.setTop (mkF m 131 #[.val (.int p1), .val (.ref b2), .val (.int (8 : Int32)), .val (.ref w_CREDENTIAL), .unset, .unset, .unset, .unset] [])) _
      refine XS.iloadN X1.here hx rfl (hb hby at_131) rfl ?_
      show Steps p.tables e below (T1.setTop (mkF m 132 #[.val (.int p1), .val (.ref b2), .val (.int (8 : Int32)), .val (.ref w_CREDENTIAL), .unset, .unset, .unset, .unset] [(.int (8 : Int32))])) _
      refine XS.bipush X1.here hx rfl (hb hby at_132) ?_
      show Steps p.tables e below (T1.setTop (mkF m 134 #[.val (.int p1), .val (.ref b2), .val (.int (8 : Int32)), .val (.ref w_CREDENTIAL), .unset, .unset, .unset, .unset] [(.int (11 : Int32)), (.int (8 : Int32))])) _
      refine XS.icmpNo X1.here hx rfl (hb hby at_134) rfl (feq (by decide : ¬ ((8 : Int32) = (11 : Int32)))).1 ?_
      show Steps p.tables e below (T1.setTop (mkF m 137 #[.val (.int p1), .val (.ref b2), .val (.int (8 : Int32)), .val (.ref w_CREDENTIAL), .unset, .unset, .unset, .unset] [])) _
      refine XS.iloadN X1.here hx rfl (hb hby at_137) rfl ?_
      show Steps p.tables e below (T1.setTop (mkF m 138 #[.val (.int p1), .val (.ref b2), .val (.int (8 : Int32)), .val (.ref w_CREDENTIAL), .unset, .unset, .unset, .unset] [(.int (8 : Int32))])) _
      refine XS.bipush X1.here hx rfl (hb hby at_138) ?_
      show Steps p.tables e below (T1.setTop (mkF m 140 #[.val (.int p1), .val (.ref b2), .val (.int (8 : Int32)), .val (.ref w_CREDENTIAL), .unset, .unset, .unset, .unset] [(.int (12 : Int32)), (.int (8 : Int32))])) _
      refine XS.icmpNo X1.here hx rfl (hb hby at_140) rfl (feq (by decide : ¬ ((8 : Int32) = (12 : Int32)))).1 ?_
      show Steps p.tables e below (T1.setTop (mkF m 143 #[.val (.int p1), .val (.ref b2), .val (.int (8 : Int32)), .val (.ref w_CREDENTIAL), .unset, .unset, .unset, .unset] [])) _
      refine XS.iloadN X1.here hx rfl (hb hby at_143) rfl ?_
      show Steps p.tables e below (T1.setTop (mkF m 144 #[.val (.int p1), .val (.ref b2), .val (.int (8 : Int32)), .val (.ref w_CREDENTIAL), .unset, .unset, .unset, .unset] [(.int (8 : Int32))])) _
      refine XS.bipush X1.here hx rfl (hb hby at_144) ?_
      show Steps p.tables e below (T1.setTop (mkF m 146 #[.val (.int p1), .val (.ref b2), .val (.int (8 : Int32)), .val (.ref w_CREDENTIAL), .unset, .unset, .unset, .unset] [(.int (14 : Int32)), (.int (8 : Int32))])) _
      refine XS.icmpNo X1.here hx rfl (hb hby at_146) rfl (feq (by decide : ¬ ((8 : Int32) = (14 : Int32)))).1 ?_
      show Steps p.tables e below (T1.setTop (mkF m 149 #[.val (.int p1), .val (.ref b2), .val (.int (8 : Int32)), .val (.ref w_CREDENTIAL), .unset, .unset, .unset, .unset] [])) _
      refine XS.iloadN X1.here hx rfl (hb hby at_149) rfl ?_
      show Steps p.tables e below (T1.setTop (mkF m 150 #[.val (.int p1), .val (.ref b2), .val (.int (8 : Int32)), .val (.ref w_CREDENTIAL), .unset, .unset, .unset, .unset] [(.int (8 : Int32))])) _
      refine XS.bipush X1.here hx rfl (hb hby at_150) ?_
      show Steps p.tables e below (T1.setTop (mkF m 152 #[.val (.int p1), .val (.ref b2), .val (.int (8 : Int32)), .val (.ref w_CREDENTIAL), .unset, .unset, .unset, .unset] [(.int (15 : Int32)), (.int (8 : Int32))])) _
      refine XS.icmpYes X1.here hx rfl (pc0 := 152) (pc' := 159) rfl (hb hby at_152) rfl (feq (by decide : ¬ ((8 : Int32) = (15 : Int32)))).2 (by decide) (by decide) ?_
      show Steps p.tables e below (T1.setTop (mkF m 159 #[.val (.int p1), .val (.ref b2), .val (.int (8 : Int32)), .val (.ref w_CREDENTIAL), .unset, .unset, .unset, .unset] [])) _
      refine XS.iconst X1.here hx rfl (hb hby at_159) ?_
      show Steps p.tables e below (T1.setTop (mkF m 160 #[.val (.int p1), .val (.ref b2), .val (.int (8 : Int32)), .val (.ref w_CREDENTIAL), .unset, .unset, .unset, .unset] [(.int (0 : Int32))])) _
      refine XS.istore X1.here hx rfl (hb hby at_160) rfl (l' := #[.val (.int p1), .val (.ref b2), .val (.int (8 : Int32)), .val (.ref w_CREDENTIAL), .val (.int (0 : Int32)), .unset, .unset, .unset]) rfl ?_
      show Steps p.tables e below (T1.setTop (mkF m 162 #[.val (.int p1), .val (.ref b2), .val (.int (8 : Int32)), .val (.ref w_CREDENTIAL), .val (.int (0 : Int32)), .unset, .unset, .unset] [])) _
      refine XS.iload X1.here hx rfl (hb hby at_162) rfl ?_
      show Steps p.tables e below (T1.setTop (mkF m 164 #[.val (.int p1), .val (.ref b2), .val (.int (8 : Int32)), .val (.ref w_CREDENTIAL), .val (.int (0 : Int32)), .unset, .unset, .unset] [(.int (0 : Int32))])) _
      refine XS.ifNo X1.here hx rfl (hb hby at_164) rfl ((if0 _ _).trans (teq (by decide : (0 : Int32) = (0 : Int32))).2) ?_
      show Steps p.tables e below (T1.setTop (mkF m 167 #[.val (.int p1), .val (.ref b2), .val (.int (8 : Int32)), .val (.ref w_CREDENTIAL), .val (.int (0 : Int32)), .unset, .unset, .unset] [])) _
      refine XS.iconst X1.here hx rfl (hb hby at_167) ?_
      show Steps p.tables e below (T1.setTop (mkF m 168 #[.val (.int p1), .val (.ref b2), .val (.int (8 : Int32)), .val (.ref w_CREDENTIAL), .val (.int (0 : Int32)), .unset, .unset, .unset] [(.int (1 : Int32))])) _
      refine XS.goto X1.here hx rfl (pc0 := 168) (pc' := 172) rfl (hb hby at_168) (by decide) (by decide) ?_
      show Steps p.tables e below (T1.setTop (mkF m 172 #[.val (.int p1), .val (.ref b2), .val (.int (8 : Int32)), .val (.ref w_CREDENTIAL), .val (.int (0 : Int32)), .unset, .unset, .unset] [(.int (1 : Int32))])) _
      refine XS.istore X1.here hx rfl (hb hby at_172) rfl (l' := #[.val (.int p1), .val (.ref b2), .val (.int (8 : Int32)), .val (.ref w_CREDENTIAL), .val (.int (0 : Int32)), .val (.int (1 : Int32)), .unset, .unset]) rfl ?_
      show Steps p.tables e below (T1.setTop (mkF m 174 #[.val (.int p1), .val (.ref b2), .val (.int (8 : Int32)), .val (.ref w_CREDENTIAL), .val (.int (0 : Int32)), .val (.int (1 : Int32)), .unset, .unset] [])) _
      refine XS.aloadN X1.here hx rfl (hb hby at_174) rfl rfl ?_
      show Steps p.tables e below (T1.setTop (mkF m 175 #[.val (.int p1), .val (.ref b2), .val (.int (8 : Int32)), .val (.ref w_CREDENTIAL), .val (.int (0 : Int32)), .val (.int (1 : Int32)), .unset, .unset] [(.ref w_CREDENTIAL)])) _
      refine st98.trans ?_
      show Steps p.tables e below (T98.setTop (mkF m 178 #[.val (.int p1), .val (.ref b2), .val (.int (8 : Int32)), .val (.ref w_CREDENTIAL), .val (.int (0 : Int32)), .val (.int (1 : Int32)), .unset, .unset] [(.int (1 : Int32))])) _
      refine XS.istore X98.here hx rfl (hb hby at_178) rfl (l' := #[.val (.int p1), .val (.ref b2), .val (.int (8 : Int32)), .val (.ref w_CREDENTIAL), .val (.int (0 : Int32)), .val (.int (1 : Int32)), .val (.int (1 : Int32)), .unset]) rfl ?_
      show Steps p.tables e below (T98.setTop (mkF m 180 #[.val (.int p1), .val (.ref b2), .val (.int (8 : Int32)), .val (.ref w_CREDENTIAL), .val (.int (0 : Int32)), .val (.int (1 : Int32)), .val (.int (1 : Int32)), .unset] [])) _
      refine XS.aloadN X98.here hx rfl (hb hby at_180) rfl rfl ?_
      show Steps p.tables e below (T98.setTop (mkF m 181 #[.val (.int p1), .val (.ref b2), .val (.int (8 : Int32)), .val (.ref w_CREDENTIAL), .val (.int (0 : Int32)), .val (.int (1 : Int32)), .val (.int (1 : Int32)), .unset] [(.ref w_CREDENTIAL)])) _
      refine st99.trans ?_
      show Steps p.tables e below (T99.setTop (mkF m 184 #[.val (.int p1), .val (.ref b2), .val (.int (8 : Int32)), .val (.ref w_CREDENTIAL), .val (.int (0 : Int32)), .val (.int (1 : Int32)), .val (.int (1 : Int32)), .unset] [(.int (1 : Int32))])) _
      refine XS.ifNo X99.here hx rfl (hb hby at_184) rfl ((if0 _ _).trans (feq (by decide : ¬ ((1 : Int32) = (0 : Int32)))).1) ?_
      show Steps p.tables e below (T99.setTop (mkF m 187 #[.val (.int p1), .val (.ref b2), .val (.int (8 : Int32)), .val (.ref w_CREDENTIAL), .val (.int (0 : Int32)), .val (.int (1 : Int32)), .val (.int (1 : Int32)), .unset] [])) _
      refine XS.iload X99.here hx rfl (hb hby at_187) rfl ?_
      show Steps p.tables e below (T99.setTop (mkF m 189 #[.val (.int p1), .val (.ref b2), .val (.int (8 : Int32)), .val (.ref w_CREDENTIAL), .val (.int (0 : Int32)), .val (.int (1 : Int32)), .val (.int (1 : Int32)), .unset] [(.int (1 : Int32))])) _
      refine XS.ifNo X99.here hx rfl (hb hby at_189) rfl ((if0 _ _).trans (feq (by decide : ¬ ((1 : Int32) = (0 : Int32)))).1) ?_
      show Steps p.tables e below (T99.setTop (mkF m 192 #[.val (.int p1), .val (.ref b2), .val (.int (8 : Int32)), .val (.ref w_CREDENTIAL), .val (.int (0 : Int32)), .val (.int (1 : Int32)), .val (.int (1 : Int32)), .unset] [])) _
      refine XS.iconst X99.here hx rfl (hb hby at_192) ?_
      show Steps p.tables e below (T99.setTop (mkF m 193 #[.val (.int p1), .val (.ref b2), .val (.int (8 : Int32)), .val (.ref w_CREDENTIAL), .val (.int (0 : Int32)), .val (.int (1 : Int32)), .val (.int (1 : Int32)), .unset] [(.int (1 : Int32))])) _
      refine XS.goto X99.here hx rfl (pc0 := 193) (pc' := 197) rfl (hb hby at_193) (by decide) (by decide) ?_
      show Steps p.tables e below (T99.setTop (mkF m 197 #[.val (.int p1), .val (.ref b2), .val (.int (8 : Int32)), .val (.ref w_CREDENTIAL), .val (.int (0 : Int32)), .val (.int (1 : Int32)), .val (.int (1 : Int32)), .unset] [(.int (1 : Int32))])) _
      refine XS.istore X99.here hx rfl (hb hby at_197) rfl (l' := #[.val (.int p1), .val (.ref b2), .val (.int (8 : Int32)), .val (.ref w_CREDENTIAL), .val (.int (0 : Int32)), .val (.int (1 : Int32)), .val (.int (1 : Int32)), .val (.int (1 : Int32))]) rfl ?_
      show Steps p.tables e below (T99.setTop (mkF m 199 #[.val (.int p1), .val (.ref b2), .val (.int (8 : Int32)), .val (.ref w_CREDENTIAL), .val (.int (0 : Int32)), .val (.int (1 : Int32)), .val (.int (1 : Int32)), .val (.int (1 : Int32))] [])) _
      refine XS.iload X99.here hx rfl (hb hby at_199) rfl ?_
      show Steps p.tables e below (T99.setTop (mkF m 201 #[.val (.int p1), .val (.ref b2), .val (.int (8 : Int32)), .val (.ref w_CREDENTIAL), .val (.int (0 : Int32)), .val (.int (1 : Int32)), .val (.int (1 : Int32)), .val (.int (1 : Int32))] [(.int (1 : Int32))])) _
      refine XS.iload X99.here hx rfl (hb hby at_201) rfl ?_
      show Steps p.tables e below (T99.setTop (mkF m 203 #[.val (.int p1), .val (.ref b2), .val (.int (8 : Int32)), .val (.ref w_CREDENTIAL), .val (.int (0 : Int32)), .val (.int (1 : Int32)), .val (.int (1 : Int32)), .val (.int (1 : Int32))] [(.int (1 : Int32)), (.int (1 : Int32))])) _
      refine XS.icmpNo X99.here hx rfl (hb hby at_203) rfl (teq (by decide : (1 : Int32) = (1 : Int32))).2 ?_
      show Steps p.tables e below (T99.setTop (mkF m 206 #[.val (.int p1), .val (.ref b2), .val (.int (8 : Int32)), .val (.ref w_CREDENTIAL), .val (.int (0 : Int32)), .val (.int (1 : Int32)), .val (.int (1 : Int32)), .val (.int (1 : Int32))] [])) _
      refine XS.iload X99.here hx rfl (hb hby at_206) rfl ?_
      show Steps p.tables e below (T99.setTop (mkF m 208 #[.val (.int p1), .val (.ref b2), .val (.int (8 : Int32)), .val (.ref w_CREDENTIAL), .val (.int (0 : Int32)), .val (.int (1 : Int32)), .val (.int (1 : Int32)), .val (.int (1 : Int32))] [(.int (1 : Int32))])) _
      refine XS.ifNo X99.here hx rfl (hb hby at_208) rfl ((if0 _ _).trans (feq (by decide : ¬ ((1 : Int32) = (0 : Int32)))).1) ?_
      show Steps p.tables e below (T99.setTop (mkF m 211 #[.val (.int p1), .val (.ref b2), .val (.int (8 : Int32)), .val (.ref w_CREDENTIAL), .val (.int (0 : Int32)), .val (.int (1 : Int32)), .val (.int (1 : Int32)), .val (.int (1 : Int32))] [])) _
      refine XS.iconst X99.here hx rfl (hb hby at_211) ?_
      show Steps p.tables e below (T99.setTop (mkF m 212 #[.val (.int p1), .val (.ref b2), .val (.int (8 : Int32)), .val (.ref w_CREDENTIAL), .val (.int (0 : Int32)), .val (.int (1 : Int32)), .val (.int (1 : Int32)), .val (.int (1 : Int32))] [(.int (1 : Int32))])) _
      refine XS.goto X99.here hx rfl (pc0 := 212) (pc' := 216) rfl (hb hby at_212) (by decide) (by decide) ?_
      show Steps p.tables e below (T99.setTop (mkF m 216 #[.val (.int p1), .val (.ref b2), .val (.int (8 : Int32)), .val (.ref w_CREDENTIAL), .val (.int (0 : Int32)), .val (.int (1 : Int32)), .val (.int (1 : Int32)), .val (.int (1 : Int32))] [(.int (1 : Int32))])) _
      exact retN X99 hx (t := .boolean) Bd.returns (by simp) (hb hby at_216) hr
    · show Q0_0 Z p1 w_POD w_BASE w_RESOURCE w_AGENT w_CLIENT w_ISSUER w_OWNER w_CREATOR w_CREDENTIAL w_REQUESTS w_AGENTS w_STATS w_WAC_ALLOW w_METHOD w_CREATES w_REMOVES w_PORT w_VALUE w_FLAG w_REPEATED_VALUE h0 n0 _ T99.heap _
      rw [e99]
      exact ⟨rfl, N99⟩
  ·
    obtain ⟨cl100, Ar100, qq100, Sz100, Nn100, Hs100, Gs100⟩ := id pf1_0
    have hin100 : ¬ ((9 : Int32) < 0 ∨ cl100.slots.size ≤ ((9 : Int32)).toNatClampNeg) := inb_of Sz100 ⟨by decide, by decide⟩
    have hat100 : cl100.slots[((9 : Int32)).toNatClampNeg]? = some (.ref w_REQUESTS) := Has.at Hs100 hin100 rfl
    obtain ⟨cq101, kq101, q101a, q101b, q101c⟩ := isOf hZ e1 (E_REQUESTS.keep K1)
    obtain ⟨_, _, ⟨T101, L101, k101, n101⟩, -, X101, ⟨Lc101, hQ101, l101, y101, z101⟩, st101⟩ := X1.virtualBack hx (y := (⟨"com/example/garm/garm/command/Option", "takesValue", "()Z"⟩ : MethodName)) (z := (⟨"com/example/garm/garm/command/Option", "takesValue", "()Z"⟩ : MethodName)) hown (mvT hZ (hw _ (List.mem_of_getElem? (i := 39) rfl))) (mvT hZ (hw _ (List.mem_of_getElem? (i := 40) rfl))) (notFace_of_selects (args := #[]) (mvT hZ (hw _ (List.mem_of_getElem? (i := 42) rfl)))) (mvT hZ (hw _ (List.mem_of_getElem? (i := 42) rfl))) (mvT hZ (hw _ (List.mem_of_getElem? (i := 41) rfl))) (by decide) (backOf (W := 0) (rm1_9 l Z a0 hw [] w_REQUESTS w_VALUE w_FLAG h1 n0 (Nat.le_trans Z0 K1.1) (F_form_REQUESTS.keep K1 nin0) (own_staK S_FLAG K1 all0) ne_FLAG_VALUE) hZ (hw _ (List.mem_of_getElem? (i := 43) rfl)) (hw _ (List.mem_of_getElem? (i := 3) rfl)) (by decide) (by decide)) q101a q101c (g := (mkF m 175 #[.val (.int p1), .val (.ref b2), .val (.int (9 : Int32)), .val (.ref w_REQUESTS), .val (.int (0 : Int32)), .val (.int (1 : Int32)), .unset, .unset] [(.ref w_REQUESTS)])) rfl (by rw [hml]; rfl) (Steps.refl _) (argsL := []) (rest := []) (lenOf pd_0 rfl) rfl (by show 2 * 0 + _ ≤ _; exact Nat.le_of_eq rfl) (hb hby at_175) (fun _ _ => ⟨rfl, e1, (by decide : 1 + 0 ≤ _), (by decide : 17 + 0 ≤ _)⟩)
    dsimp only [Pt.U, Pt.locs, Pt.cells, Pt.slots] at X101 l101 y101 z101 st101 hQ101
    subst l101 y101 z101
    obtain ⟨rfl, N101q, e101⟩ := hQ101
    have N101 := Fr.app N1 N101q
    obtain ⟨cq102, kq102, q102a, q102b, q102c⟩ := isOf hZ e101 (E_REQUESTS.keep K1)
    obtain ⟨_, _, ⟨T102, L102, k102, n102⟩, -, X102, ⟨Lc102, hQ102, l102, y102, z102⟩, st102⟩ := X101.virtualBack hx (y := (⟨"com/example/garm/garm/command/Option", "isRepeatable", "()Z"⟩ : MethodName)) (z := (⟨"com/example/garm/garm/command/Option", "isRepeatable", "()Z"⟩ : MethodName)) hown (mvT hZ (hw _ (List.mem_of_getElem? (i := 50) rfl))) (mvT hZ (hw _ (List.mem_of_getElem? (i := 51) rfl))) (notFace_of_selects (args := #[]) (mvT hZ (hw _ (List.mem_of_getElem? (i := 53) rfl)))) (mvT hZ (hw _ (List.mem_of_getElem? (i := 53) rfl))) (mvT hZ (hw _ (List.mem_of_getElem? (i := 52) rfl))) (by decide) (backOf (W := 0) (rm2_9 l Z a0 hw [] w_REQUESTS w_VALUE w_REPEATED_VALUE h1 n0 (Nat.le_trans Z0 K1.1) (F_form_REQUESTS.keep K1 nin0) (own_staK S_REPEATED_VALUE K1 all0) ne_REPEATED_VALUE_VALUE) hZ (hw _ (List.mem_of_getElem? (i := 54) rfl)) (hw _ (List.mem_of_getElem? (i := 3) rfl)) (by decide) (by decide)) q102a q102c (g := (mkF m 181 #[.val (.int p1), .val (.ref b2), .val (.int (9 : Int32)), .val (.ref w_REQUESTS), .val (.int (0 : Int32)), .val (.int (1 : Int32)), .val (.int (1 : Int32)), .unset] [(.ref w_REQUESTS)])) rfl (by rw [hml]; rfl) (Steps.refl _) (argsL := []) (rest := []) (lenOf pd_0 rfl) rfl (by show 2 * 0 + _ ≤ _; exact Nat.le_of_eq rfl) (hb hby at_181) (fun _ _ => ⟨rfl, e101, (by decide : 1 + 0 ≤ _), (by decide : 17 + 0 ≤ _)⟩)
    dsimp only [Pt.U, Pt.locs, Pt.cells, Pt.slots] at X102 l102 y102 z102 st102 hQ102
    subst l102 y102 z102
    obtain ⟨rfl, N102q, e102⟩ := hQ102
    have N102 := Fr.app N101 N102q
    obtain ⟨fs, hr, hrun, hended, hW, hsame⟩ := X102.leave (v := some (.int (1 : Int32))) (fun h => by rw [Bd.returns] at h; cases h)
    refine ⟨_, _, k55 _ ?_, hrun, hended, _, _, rfl, ?_, ⟨_, rfl⟩, hW, hsame.mono (by decide) (by decide)⟩
    ·
      show Steps p.tables e below (T1.setTop (mkF m 126 #[.val (.int p1), .val (.ref b2), .unset, .unset, .unset, .unset, .unset, .unset] [(.int ((p1 &&& (2147483647 : Int32)) % (17 : Int32)))])) _
      rewrite [hk65_9]
      show Steps p.tables e below (T1.setTop (mkF m 126 #[.val (.int p1), .val (.ref b2), .unset, .unset, .unset, .unset, .unset, .unset] [(.int (9 : Int32))])) _
      refine XS.istoreN X1.here hx rfl (hb hby at_126) rfl (l' := #[.val (.int p1), .val (.ref b2), .val (.int (9 : Int32)), .unset, .unset, .unset, .unset, .unset]) rfl ?_
      show Steps p.tables e below (T1.setTop (mkF m 127 #[.val (.int p1), .val (.ref b2), .val (.int (9 : Int32)), .unset, .unset, .unset, .unset, .unset] [])) _
      refine XS.aloadN X1.here hx rfl (hb hby at_127) rfl rfl ?_
      show Steps p.tables e below (T1.setTop (mkF m 128 #[.val (.int p1), .val (.ref b2), .val (.int (9 : Int32)), .unset, .unset, .unset, .unset, .unset] [(.ref b2)])) _
      refine XS.iloadN X1.here hx rfl (hb hby at_128) rfl ?_
      show Steps p.tables e below (T1.setTop (mkF m 129 #[.val (.int p1), .val (.ref b2), .val (.int (9 : Int32)), .unset, .unset, .unset, .unset, .unset] [(.int (9 : Int32)), (.ref b2)])) _
      refine X1.aaload hx (j := (9 : Int32)) (v := (.ref w_REQUESTS)) (by rw [e1]; exact Ar100.1) (State.isArrayOf_alike hZ.alike Ar100.2.1) rfl Ar100.2.2 hin100 hat100 (g := (mkF m 129 #[.val (.int p1), .val (.ref b2), .val (.int (9 : Int32)), .unset, .unset, .unset, .unset, .unset] [(.int (9 : Int32)), (.ref b2)])) rfl rfl (hb hby at_129) _ ?_
      show Steps p.tables e below (T1.setTop (mkF m 130 #[.val (.int p1), .val (.ref b2), .val (.int (9 : Int32)), .unset, .unset, .unset, .unset, .unset] [(.ref w_REQUESTS)])) _
      refine XS.astoreN X1.here hx rfl (hb hby at_130) rfl rfl (l' := #[.val (.int p1), .val (.ref b2), .val (.int (9 : Int32)), .val (.ref w_REQUESTS), .unset, .unset, .unset, .unset]) rfl ?_
      show Steps p.tables e below (T1.setTop (mkF m 131 #[.val (.int p1), .val (.ref b2), .val (.int (9 : Int32)), .val (.ref w_REQUESTS), .unset, .unset, .unset, .unset] [])) _
      refine XS.iloadN X1.here hx rfl (hb hby at_131) rfl ?_
      show Steps p.tables e below (T1.setTop (mkF m 132 #[.val (.int p1), .val (.ref b2), .val (.int (9 : Int32)), .val (.ref w_REQUESTS), .unset, .unset, .unset, .unset] [(.int (9 : Int32))])) _
      refine XS.bipush X1.here hx rfl (hb hby at_132) ?_
      show Steps p.tables e below (T1.setTop (mkF m 134 #[.val (.int p1), .val (.ref b2), .val (.int (9 : Int32)), .val (.ref w_REQUESTS), .unset, .unset, .unset, .unset] [(.int (11 : Int32)), (.int (9 : Int32))])) _
      refine XS.icmpNo X1.here hx rfl (hb hby at_134) rfl (feq (by decide : ¬ ((9 : Int32) = (11 : Int32)))).1 ?_
      show Steps p.tables e below (T1.setTop (mkF m 137 #[.val (.int p1), .val (.ref b2), .val (.int (9 : Int32)), .val (.ref w_REQUESTS), .unset, .unset, .unset, .unset] [])) _
      refine XS.iloadN X1.here hx rfl (hb hby at_137) rfl ?_
      show Steps p.tables e below (T1.setTop (mkF m 138 #[.val (.int p1), .val (.ref b2), .val (.int (9 : Int32)), .val (.ref w_REQUESTS), .unset, .unset, .unset, .unset] [(.int (9 : Int32))])) _
      refine XS.bipush X1.here hx rfl (hb hby at_138) ?_
      show Steps p.tables e below (T1.setTop (mkF m 140 #[.val (.int p1), .val (.ref b2), .val (.int (9 : Int32)), .val (.ref w_REQUESTS), .unset, .unset, .unset, .unset] [(.int (12 : Int32)), (.int (9 : Int32))])) _
      refine XS.icmpNo X1.here hx rfl (hb hby at_140) rfl (feq (by decide : ¬ ((9 : Int32) = (12 : Int32)))).1 ?_
      show Steps p.tables e below (T1.setTop (mkF m 143 #[.val (.int p1), .val (.ref b2), .val (.int (9 : Int32)), .val (.ref w_REQUESTS), .unset, .unset, .unset, .unset] [])) _
      refine XS.iloadN X1.here hx rfl (hb hby at_143) rfl ?_
      show Steps p.tables e below (T1.setTop (mkF m 144 #[.val (.int p1), .val (.ref b2), .val (.int (9 : Int32)), .val (.ref w_REQUESTS), .unset, .unset, .unset, .unset] [(.int (9 : Int32))])) _
      refine XS.bipush X1.here hx rfl (hb hby at_144) ?_
      show Steps p.tables e below (T1.setTop (mkF m 146 #[.val (.int p1), .val (.ref b2), .val (.int (9 : Int32)), .val (.ref w_REQUESTS), .unset, .unset, .unset, .unset] [(.int (14 : Int32)), (.int (9 : Int32))])) _
      refine XS.icmpNo X1.here hx rfl (hb hby at_146) rfl (feq (by decide : ¬ ((9 : Int32) = (14 : Int32)))).1 ?_
      show Steps p.tables e below (T1.setTop (mkF m 149 #[.val (.int p1), .val (.ref b2), .val (.int (9 : Int32)), .val (.ref w_REQUESTS), .unset, .unset, .unset, .unset] [])) _
      refine XS.iloadN X1.here hx rfl (hb hby at_149) rfl ?_
      show Steps p.tables e below (T1.setTop (mkF m 150 #[.val (.int p1), .val (.ref b2), .val (.int (9 : Int32)), .val (.ref w_REQUESTS), .unset, .unset, .unset, .unset] [(.int (9 : Int32))])) _
      refine XS.bipush X1.here hx rfl (hb hby at_150) ?_
      show Steps p.tables e below (T1.setTop (mkF m 152 #[.val (.int p1), .val (.ref b2), .val (.int (9 : Int32)), .val (.ref w_REQUESTS), .unset, .unset, .unset, .unset] [(.int (15 : Int32)), (.int (9 : Int32))])) _
      refine XS.icmpYes X1.here hx rfl (pc0 := 152) (pc' := 159) rfl (hb hby at_152) rfl (feq (by decide : ¬ ((9 : Int32) = (15 : Int32)))).2 (by decide) (by decide) ?_
      show Steps p.tables e below (T1.setTop (mkF m 159 #[.val (.int p1), .val (.ref b2), .val (.int (9 : Int32)), .val (.ref w_REQUESTS), .unset, .unset, .unset, .unset] [])) _
      refine XS.iconst X1.here hx rfl (hb hby at_159) ?_
      show Steps p.tables e below (T1.setTop (mkF m 160 #[.val (.int p1), .val (.ref b2), .val (.int (9 : Int32)), .val (.ref w_REQUESTS), .unset, .unset, .unset, .unset] [(.int (0 : Int32))])) _
      refine XS.istore X1.here hx rfl (hb hby at_160) rfl (l' := #[.val (.int p1), .val (.ref b2), .val (.int (9 : Int32)), .val (.ref w_REQUESTS), .val (.int (0 : Int32)), .unset, .unset, .unset]) rfl ?_
      show Steps p.tables e below (T1.setTop (mkF m 162 #[.val (.int p1), .val (.ref b2), .val (.int (9 : Int32)), .val (.ref w_REQUESTS), .val (.int (0 : Int32)), .unset, .unset, .unset] [])) _
      refine XS.iload X1.here hx rfl (hb hby at_162) rfl ?_
      show Steps p.tables e below (T1.setTop (mkF m 164 #[.val (.int p1), .val (.ref b2), .val (.int (9 : Int32)), .val (.ref w_REQUESTS), .val (.int (0 : Int32)), .unset, .unset, .unset] [(.int (0 : Int32))])) _
      refine XS.ifNo X1.here hx rfl (hb hby at_164) rfl ((if0 _ _).trans (teq (by decide : (0 : Int32) = (0 : Int32))).2) ?_
      show Steps p.tables e below (T1.setTop (mkF m 167 #[.val (.int p1), .val (.ref b2), .val (.int (9 : Int32)), .val (.ref w_REQUESTS), .val (.int (0 : Int32)), .unset, .unset, .unset] [])) _
      refine XS.iconst X1.here hx rfl (hb hby at_167) ?_
      show Steps p.tables e below (T1.setTop (mkF m 168 #[.val (.int p1), .val (.ref b2), .val (.int (9 : Int32)), .val (.ref w_REQUESTS), .val (.int (0 : Int32)), .unset, .unset, .unset] [(.int (1 : Int32))])) _
      refine XS.goto X1.here hx rfl (pc0 := 168) (pc' := 172) rfl (hb hby at_168) (by decide) (by decide) ?_
      show Steps p.tables e below (T1.setTop (mkF m 172 #[.val (.int p1), .val (.ref b2), .val (.int (9 : Int32)), .val (.ref w_REQUESTS), .val (.int (0 : Int32)), .unset, .unset, .unset] [(.int (1 : Int32))])) _
      refine XS.istore X1.here hx rfl (hb hby at_172) rfl (l' := #[.val (.int p1), .val (.ref b2), .val (.int (9 : Int32)), .val (.ref w_REQUESTS), .val (.int (0 : Int32)), .val (.int (1 : Int32)), .unset, .unset]) rfl ?_
      show Steps p.tables e below (T1.setTop (mkF m 174 #[.val (.int p1), .val (.ref b2), .val (.int (9 : Int32)), .val (.ref w_REQUESTS), .val (.int (0 : Int32)), .val (.int (1 : Int32)), .unset, .unset] [])) _
      refine XS.aloadN X1.here hx rfl (hb hby at_174) rfl rfl ?_
      show Steps p.tables e below (T1.setTop (mkF m 175 #[.val (.int p1), .val (.ref b2), .val (.int (9 : Int32)), .val (.ref w_REQUESTS), .val (.int (0 : Int32)), .val (.int (1 : Int32)), .unset, .unset] [(.ref w_REQUESTS)])) _
      refine st101.trans ?_
      show Steps p.tables e below (T101.setTop (mkF m 178 #[.val (.int p1), .val (.ref b2), .val (.int (9 : Int32)), .val (.ref w_REQUESTS), .val (.int (0 : Int32)), .val (.int (1 : Int32)), .unset, .unset] [(.int (1 : Int32))])) _
      refine XS.istore X101.here hx rfl (hb hby at_178) rfl (l' := #[.val (.int p1), .val (.ref b2), .val (.int (9 : Int32)), .val (.ref w_REQUESTS), .val (.int (0 : Int32)), .val (.int (1 : Int32)), .val (.int (1 : Int32)), .unset]) rfl ?_
      show Steps p.tables e below (T101.setTop (mkF m 180 #[.val (.int p1), .val (.ref b2), .val (.int (9 : Int32)), .val (.ref w_REQUESTS), .val (.int (0 : Int32)), .val (.int (1 : Int32)), .val (.int (1 : Int32)), .unset] [])) _
      refine XS.aloadN X101.here hx rfl (hb hby at_180) rfl rfl ?_
      show Steps p.tables e below (T101.setTop (mkF m 181 #[.val (.int p1), .val (.ref b2), .val (.int (9 : Int32)), .val (.ref w_REQUESTS), .val (.int (0 : Int32)), .val (.int (1 : Int32)), .val (.int (1 : Int32)), .unset] [(.ref w_REQUESTS)])) _
      refine st102.trans ?_
      show Steps p.tables e below (T102.setTop (mkF m 184 #[.val (.int p1), .val (.ref b2), .val (.int (9 : Int32)), .val (.ref w_REQUESTS), .val (.int (0 : Int32)), .val (.int (1 : Int32)), .val (.int (1 : Int32)), .unset] [(.int (0 : Int32))])) _
      refine XS.ifYes X102.here hx rfl (pc0 := 184) (pc' := 192) rfl (hb hby at_184) rfl ((if0 _ _).trans (teq (by decide : (0 : Int32) = (0 : Int32))).1) (by decide) (by decide) ?_
      show Steps p.tables e below (T102.setTop (mkF m 192 #[.val (.int p1), .val (.ref b2), .val (.int (9 : Int32)), .val (.ref w_REQUESTS), .val (.int (0 : Int32)), .val (.int (1 : Int32)), .val (.int (1 : Int32)), .unset] [])) _
      refine XS.iconst X102.here hx rfl (hb hby at_192) ?_
      show Steps p.tables e below (T102.setTop (mkF m 193 #[.val (.int p1), .val (.ref b2), .val (.int (9 : Int32)), .val (.ref w_REQUESTS), .val (.int (0 : Int32)), .val (.int (1 : Int32)), .val (.int (1 : Int32)), .unset] [(.int (1 : Int32))])) _
      refine XS.goto X102.here hx rfl (pc0 := 193) (pc' := 197) rfl (hb hby at_193) (by decide) (by decide) ?_
      show Steps p.tables e below (T102.setTop (mkF m 197 #[.val (.int p1), .val (.ref b2), .val (.int (9 : Int32)), .val (.ref w_REQUESTS), .val (.int (0 : Int32)), .val (.int (1 : Int32)), .val (.int (1 : Int32)), .unset] [(.int (1 : Int32))])) _
      refine XS.istore X102.here hx rfl (hb hby at_197) rfl (l' := #[.val (.int p1), .val (.ref b2), .val (.int (9 : Int32)), .val (.ref w_REQUESTS), .val (.int (0 : Int32)), .val (.int (1 : Int32)), .val (.int (1 : Int32)), .val (.int (1 : Int32))]) rfl ?_
      show Steps p.tables e below (T102.setTop (mkF m 199 #[.val (.int p1), .val (.ref b2), .val (.int (9 : Int32)), .val (.ref w_REQUESTS), .val (.int (0 : Int32)), .val (.int (1 : Int32)), .val (.int (1 : Int32)), .val (.int (1 : Int32))] [])) _
      refine XS.iload X102.here hx rfl (hb hby at_199) rfl ?_
      show Steps p.tables e below (T102.setTop (mkF m 201 #[.val (.int p1), .val (.ref b2), .val (.int (9 : Int32)), .val (.ref w_REQUESTS), .val (.int (0 : Int32)), .val (.int (1 : Int32)), .val (.int (1 : Int32)), .val (.int (1 : Int32))] [(.int (1 : Int32))])) _
      refine XS.iload X102.here hx rfl (hb hby at_201) rfl ?_
      show Steps p.tables e below (T102.setTop (mkF m 203 #[.val (.int p1), .val (.ref b2), .val (.int (9 : Int32)), .val (.ref w_REQUESTS), .val (.int (0 : Int32)), .val (.int (1 : Int32)), .val (.int (1 : Int32)), .val (.int (1 : Int32))] [(.int (1 : Int32)), (.int (1 : Int32))])) _
      refine XS.icmpNo X102.here hx rfl (hb hby at_203) rfl (teq (by decide : (1 : Int32) = (1 : Int32))).2 ?_
      show Steps p.tables e below (T102.setTop (mkF m 206 #[.val (.int p1), .val (.ref b2), .val (.int (9 : Int32)), .val (.ref w_REQUESTS), .val (.int (0 : Int32)), .val (.int (1 : Int32)), .val (.int (1 : Int32)), .val (.int (1 : Int32))] [])) _
      refine XS.iload X102.here hx rfl (hb hby at_206) rfl ?_
      show Steps p.tables e below (T102.setTop (mkF m 208 #[.val (.int p1), .val (.ref b2), .val (.int (9 : Int32)), .val (.ref w_REQUESTS), .val (.int (0 : Int32)), .val (.int (1 : Int32)), .val (.int (1 : Int32)), .val (.int (1 : Int32))] [(.int (1 : Int32))])) _
      refine XS.ifNo X102.here hx rfl (hb hby at_208) rfl ((if0 _ _).trans (feq (by decide : ¬ ((1 : Int32) = (0 : Int32)))).1) ?_
      show Steps p.tables e below (T102.setTop (mkF m 211 #[.val (.int p1), .val (.ref b2), .val (.int (9 : Int32)), .val (.ref w_REQUESTS), .val (.int (0 : Int32)), .val (.int (1 : Int32)), .val (.int (1 : Int32)), .val (.int (1 : Int32))] [])) _
      refine XS.iconst X102.here hx rfl (hb hby at_211) ?_
      show Steps p.tables e below (T102.setTop (mkF m 212 #[.val (.int p1), .val (.ref b2), .val (.int (9 : Int32)), .val (.ref w_REQUESTS), .val (.int (0 : Int32)), .val (.int (1 : Int32)), .val (.int (1 : Int32)), .val (.int (1 : Int32))] [(.int (1 : Int32))])) _
      refine XS.goto X102.here hx rfl (pc0 := 212) (pc' := 216) rfl (hb hby at_212) (by decide) (by decide) ?_
      show Steps p.tables e below (T102.setTop (mkF m 216 #[.val (.int p1), .val (.ref b2), .val (.int (9 : Int32)), .val (.ref w_REQUESTS), .val (.int (0 : Int32)), .val (.int (1 : Int32)), .val (.int (1 : Int32)), .val (.int (1 : Int32))] [(.int (1 : Int32))])) _
      exact retN X102 hx (t := .boolean) Bd.returns (by simp) (hb hby at_216) hr
    · show Q0_0 Z p1 w_POD w_BASE w_RESOURCE w_AGENT w_CLIENT w_ISSUER w_OWNER w_CREATOR w_CREDENTIAL w_REQUESTS w_AGENTS w_STATS w_WAC_ALLOW w_METHOD w_CREATES w_REMOVES w_PORT w_VALUE w_FLAG w_REPEATED_VALUE h0 n0 _ T102.heap _
      rw [e102]
      exact ⟨rfl, N102⟩
  ·
    obtain ⟨cl103, Ar103, qq103, Sz103, Nn103, Hs103, Gs103⟩ := id pf1_0
    have hin103 : ¬ ((10 : Int32) < 0 ∨ cl103.slots.size ≤ ((10 : Int32)).toNatClampNeg) := inb_of Sz103 ⟨by decide, by decide⟩
    have hat103 : cl103.slots[((10 : Int32)).toNatClampNeg]? = some (.ref w_AGENTS) := Has.at Hs103 hin103 rfl
    obtain ⟨cq104, kq104, q104a, q104b, q104c⟩ := isOf hZ e1 (E_AGENTS.keep K1)
    obtain ⟨_, _, ⟨T104, L104, k104, n104⟩, -, X104, ⟨Lc104, hQ104, l104, y104, z104⟩, st104⟩ := X1.virtualBack hx (y := (⟨"com/example/garm/garm/command/Option", "takesValue", "()Z"⟩ : MethodName)) (z := (⟨"com/example/garm/garm/command/Option", "takesValue", "()Z"⟩ : MethodName)) hown (mvT hZ (hw _ (List.mem_of_getElem? (i := 39) rfl))) (mvT hZ (hw _ (List.mem_of_getElem? (i := 40) rfl))) (notFace_of_selects (args := #[]) (mvT hZ (hw _ (List.mem_of_getElem? (i := 42) rfl)))) (mvT hZ (hw _ (List.mem_of_getElem? (i := 42) rfl))) (mvT hZ (hw _ (List.mem_of_getElem? (i := 41) rfl))) (by decide) (backOf (W := 0) (rm1_10 l Z a0 hw [] w_AGENTS w_VALUE w_FLAG h1 n0 (Nat.le_trans Z0 K1.1) (F_form_AGENTS.keep K1 nin0) (own_staK S_FLAG K1 all0) ne_FLAG_VALUE) hZ (hw _ (List.mem_of_getElem? (i := 43) rfl)) (hw _ (List.mem_of_getElem? (i := 3) rfl)) (by decide) (by decide)) q104a q104c (g := (mkF m 175 #[.val (.int p1), .val (.ref b2), .val (.int (10 : Int32)), .val (.ref w_AGENTS), .val (.int (0 : Int32)), .val (.int (1 : Int32)), .unset, .unset] [(.ref w_AGENTS)])) rfl (by rw [hml]; rfl) (Steps.refl _) (argsL := []) (rest := []) (lenOf pd_0 rfl) rfl (by show 2 * 0 + _ ≤ _; exact Nat.le_of_eq rfl) (hb hby at_175) (fun _ _ => ⟨rfl, e1, (by decide : 1 + 0 ≤ _), (by decide : 17 + 0 ≤ _)⟩)
    dsimp only [Pt.U, Pt.locs, Pt.cells, Pt.slots] at X104 l104 y104 z104 st104 hQ104
    subst l104 y104 z104
    obtain ⟨rfl, N104q, e104⟩ := hQ104
    have N104 := Fr.app N1 N104q
    obtain ⟨cq105, kq105, q105a, q105b, q105c⟩ := isOf hZ e104 (E_AGENTS.keep K1)
    obtain ⟨_, _, ⟨T105, L105, k105, n105⟩, -, X105, ⟨Lc105, hQ105, l105, y105, z105⟩, st105⟩ := X104.virtualBack hx (y := (⟨"com/example/garm/garm/command/Option", "isRepeatable", "()Z"⟩ : MethodName)) (z := (⟨"com/example/garm/garm/command/Option", "isRepeatable", "()Z"⟩ : MethodName)) hown (mvT hZ (hw _ (List.mem_of_getElem? (i := 50) rfl))) (mvT hZ (hw _ (List.mem_of_getElem? (i := 51) rfl))) (notFace_of_selects (args := #[]) (mvT hZ (hw _ (List.mem_of_getElem? (i := 53) rfl)))) (mvT hZ (hw _ (List.mem_of_getElem? (i := 53) rfl))) (mvT hZ (hw _ (List.mem_of_getElem? (i := 52) rfl))) (by decide) (backOf (W := 0) (rm2_10 l Z a0 hw [] w_AGENTS w_VALUE w_REPEATED_VALUE h1 n0 (Nat.le_trans Z0 K1.1) (F_form_AGENTS.keep K1 nin0) (own_staK S_REPEATED_VALUE K1 all0) ne_REPEATED_VALUE_VALUE) hZ (hw _ (List.mem_of_getElem? (i := 54) rfl)) (hw _ (List.mem_of_getElem? (i := 3) rfl)) (by decide) (by decide)) q105a q105c (g := (mkF m 181 #[.val (.int p1), .val (.ref b2), .val (.int (10 : Int32)), .val (.ref w_AGENTS), .val (.int (0 : Int32)), .val (.int (1 : Int32)), .val (.int (1 : Int32)), .unset] [(.ref w_AGENTS)])) rfl (by rw [hml]; rfl) (Steps.refl _) (argsL := []) (rest := []) (lenOf pd_0 rfl) rfl (by show 2 * 0 + _ ≤ _; exact Nat.le_of_eq rfl) (hb hby at_181) (fun _ _ => ⟨rfl, e104, (by decide : 1 + 0 ≤ _), (by decide : 17 + 0 ≤ _)⟩)
    dsimp only [Pt.U, Pt.locs, Pt.cells, Pt.slots] at X105 l105 y105 z105 st105 hQ105
    subst l105 y105 z105
    obtain ⟨rfl, N105q, e105⟩ := hQ105
    have N105 := Fr.app N104 N105q
    obtain ⟨fs, hr, hrun, hended, hW, hsame⟩ := X105.leave (v := some (.int (1 : Int32))) (fun h => by rw [Bd.returns] at h; cases h)
    refine ⟨_, _, k55 _ ?_, hrun, hended, _, _, rfl, ?_, ⟨_, rfl⟩, hW, hsame.mono (by decide) (by decide)⟩
    ·
      show Steps p.tables e below (T1.setTop (mkF m 126 #[.val (.int p1), .val (.ref b2), .unset, .unset, .unset, .unset, .unset, .unset] [(.int ((p1 &&& (2147483647 : Int32)) % (17 : Int32)))])) _
      rewrite [hk66_10]
      show Steps p.tables e below (T1.setTop (mkF m 126 #[.val (.int p1), .val (.ref b2), .unset, .unset, .unset, .unset, .unset, .unset] [(.int (10 : Int32))])) _
      refine XS.istoreN X1.here hx rfl (hb hby at_126) rfl (l' := #[.val (.int p1), .val (.ref b2), .val (.int (10 : Int32)), .unset, .unset, .unset, .unset, .unset]) rfl ?_
      show Steps p.tables e below (T1.setTop (mkF m 127 #[.val (.int p1), .val (.ref b2), .val (.int (10 : Int32)), .unset, .unset, .unset, .unset, .unset] [])) _
      refine XS.aloadN X1.here hx rfl (hb hby at_127) rfl rfl ?_
      show Steps p.tables e below (T1.setTop (mkF m 128 #[.val (.int p1), .val (.ref b2), .val (.int (10 : Int32)), .unset, .unset, .unset, .unset, .unset] [(.ref b2)])) _
      refine XS.iloadN X1.here hx rfl (hb hby at_128) rfl ?_
      show Steps p.tables e below (T1.setTop (mkF m 129 #[.val (.int p1), .val (.ref b2), .val (.int (10 : Int32)), .unset, .unset, .unset, .unset, .unset] [(.int (10 : Int32)), (.ref b2)])) _
      refine X1.aaload hx (j := (10 : Int32)) (v := (.ref w_AGENTS)) (by rw [e1]; exact Ar103.1) (State.isArrayOf_alike hZ.alike Ar103.2.1) rfl Ar103.2.2 hin103 hat103 (g := (mkF m 129 #[.val (.int p1), .val (.ref b2), .val (.int (10 : Int32)), .unset, .unset, .unset, .unset, .unset] [(.int (10 : Int32)), (.ref b2)])) rfl rfl (hb hby at_129) _ ?_
      show Steps p.tables e below (T1.setTop (mkF m 130 #[.val (.int p1), .val (.ref b2), .val (.int (10 : Int32)), .unset, .unset, .unset, .unset, .unset] [(.ref w_AGENTS)])) _
      refine XS.astoreN X1.here hx rfl (hb hby at_130) rfl rfl (l' := #[.val (.int p1), .val (.ref b2), .val (.int (10 : Int32)), .val (.ref w_AGENTS), .unset, .unset, .unset, .unset]) rfl ?_
      show Steps p.tables e below (T1.setTop (mkF m 131 #[.val (.int p1), .val (.ref b2), .val (.int (10 : Int32)), .val (.ref w_AGENTS), .unset, .unset, .unset, .unset] [])) _
      refine XS.iloadN X1.here hx rfl (hb hby at_131) rfl ?_
      show Steps p.tables e below (T1.setTop (mkF m 132 #[.val (.int p1), .val (.ref b2), .val (.int (10 : Int32)), .val (.ref w_AGENTS), .unset, .unset, .unset, .unset] [(.int (10 : Int32))])) _
      refine XS.bipush X1.here hx rfl (hb hby at_132) ?_
      show Steps p.tables e below (T1.setTop (mkF m 134 #[.val (.int p1), .val (.ref b2), .val (.int (10 : Int32)), .val (.ref w_AGENTS), .unset, .unset, .unset, .unset] [(.int (11 : Int32)), (.int (10 : Int32))])) _
      refine XS.icmpNo X1.here hx rfl (hb hby at_134) rfl (feq (by decide : ¬ ((10 : Int32) = (11 : Int32)))).1 ?_
      show Steps p.tables e below (T1.setTop (mkF m 137 #[.val (.int p1), .val (.ref b2), .val (.int (10 : Int32)), .val (.ref w_AGENTS), .unset, .unset, .unset, .unset] [])) _
      refine XS.iloadN X1.here hx rfl (hb hby at_137) rfl ?_
      show Steps p.tables e below (T1.setTop (mkF m 138 #[.val (.int p1), .val (.ref b2), .val (.int (10 : Int32)), .val (.ref w_AGENTS), .unset, .unset, .unset, .unset] [(.int (10 : Int32))])) _
      refine XS.bipush X1.here hx rfl (hb hby at_138) ?_
      show Steps p.tables e below (T1.setTop (mkF m 140 #[.val (.int p1), .val (.ref b2), .val (.int (10 : Int32)), .val (.ref w_AGENTS), .unset, .unset, .unset, .unset] [(.int (12 : Int32)), (.int (10 : Int32))])) _
      refine XS.icmpNo X1.here hx rfl (hb hby at_140) rfl (feq (by decide : ¬ ((10 : Int32) = (12 : Int32)))).1 ?_
      show Steps p.tables e below (T1.setTop (mkF m 143 #[.val (.int p1), .val (.ref b2), .val (.int (10 : Int32)), .val (.ref w_AGENTS), .unset, .unset, .unset, .unset] [])) _
      refine XS.iloadN X1.here hx rfl (hb hby at_143) rfl ?_
      show Steps p.tables e below (T1.setTop (mkF m 144 #[.val (.int p1), .val (.ref b2), .val (.int (10 : Int32)), .val (.ref w_AGENTS), .unset, .unset, .unset, .unset] [(.int (10 : Int32))])) _
      refine XS.bipush X1.here hx rfl (hb hby at_144) ?_
      show Steps p.tables e below (T1.setTop (mkF m 146 #[.val (.int p1), .val (.ref b2), .val (.int (10 : Int32)), .val (.ref w_AGENTS), .unset, .unset, .unset, .unset] [(.int (14 : Int32)), (.int (10 : Int32))])) _
      refine XS.icmpNo X1.here hx rfl (hb hby at_146) rfl (feq (by decide : ¬ ((10 : Int32) = (14 : Int32)))).1 ?_
      show Steps p.tables e below (T1.setTop (mkF m 149 #[.val (.int p1), .val (.ref b2), .val (.int (10 : Int32)), .val (.ref w_AGENTS), .unset, .unset, .unset, .unset] [])) _
      refine XS.iloadN X1.here hx rfl (hb hby at_149) rfl ?_
      show Steps p.tables e below (T1.setTop (mkF m 150 #[.val (.int p1), .val (.ref b2), .val (.int (10 : Int32)), .val (.ref w_AGENTS), .unset, .unset, .unset, .unset] [(.int (10 : Int32))])) _
      refine XS.bipush X1.here hx rfl (hb hby at_150) ?_
      show Steps p.tables e below (T1.setTop (mkF m 152 #[.val (.int p1), .val (.ref b2), .val (.int (10 : Int32)), .val (.ref w_AGENTS), .unset, .unset, .unset, .unset] [(.int (15 : Int32)), (.int (10 : Int32))])) _
      refine XS.icmpYes X1.here hx rfl (pc0 := 152) (pc' := 159) rfl (hb hby at_152) rfl (feq (by decide : ¬ ((10 : Int32) = (15 : Int32)))).2 (by decide) (by decide) ?_
      show Steps p.tables e below (T1.setTop (mkF m 159 #[.val (.int p1), .val (.ref b2), .val (.int (10 : Int32)), .val (.ref w_AGENTS), .unset, .unset, .unset, .unset] [])) _
      refine XS.iconst X1.here hx rfl (hb hby at_159) ?_
      show Steps p.tables e below (T1.setTop (mkF m 160 #[.val (.int p1), .val (.ref b2), .val (.int (10 : Int32)), .val (.ref w_AGENTS), .unset, .unset, .unset, .unset] [(.int (0 : Int32))])) _
      refine XS.istore X1.here hx rfl (hb hby at_160) rfl (l' := #[.val (.int p1), .val (.ref b2), .val (.int (10 : Int32)), .val (.ref w_AGENTS), .val (.int (0 : Int32)), .unset, .unset, .unset]) rfl ?_
      show Steps p.tables e below (T1.setTop (mkF m 162 #[.val (.int p1), .val (.ref b2), .val (.int (10 : Int32)), .val (.ref w_AGENTS), .val (.int (0 : Int32)), .unset, .unset, .unset] [])) _
      refine XS.iload X1.here hx rfl (hb hby at_162) rfl ?_
      show Steps p.tables e below (T1.setTop (mkF m 164 #[.val (.int p1), .val (.ref b2), .val (.int (10 : Int32)), .val (.ref w_AGENTS), .val (.int (0 : Int32)), .unset, .unset, .unset] [(.int (0 : Int32))])) _
      refine XS.ifNo X1.here hx rfl (hb hby at_164) rfl ((if0 _ _).trans (teq (by decide : (0 : Int32) = (0 : Int32))).2) ?_
      show Steps p.tables e below (T1.setTop (mkF m 167 #[.val (.int p1), .val (.ref b2), .val (.int (10 : Int32)), .val (.ref w_AGENTS), .val (.int (0 : Int32)), .unset, .unset, .unset] [])) _
      refine XS.iconst X1.here hx rfl (hb hby at_167) ?_
      show Steps p.tables e below (T1.setTop (mkF m 168 #[.val (.int p1), .val (.ref b2), .val (.int (10 : Int32)), .val (.ref w_AGENTS), .val (.int (0 : Int32)), .unset, .unset, .unset] [(.int (1 : Int32))])) _
      refine XS.goto X1.here hx rfl (pc0 := 168) (pc' := 172) rfl (hb hby at_168) (by decide) (by decide) ?_
      show Steps p.tables e below (T1.setTop (mkF m 172 #[.val (.int p1), .val (.ref b2), .val (.int (10 : Int32)), .val (.ref w_AGENTS), .val (.int (0 : Int32)), .unset, .unset, .unset] [(.int (1 : Int32))])) _
      refine XS.istore X1.here hx rfl (hb hby at_172) rfl (l' := #[.val (.int p1), .val (.ref b2), .val (.int (10 : Int32)), .val (.ref w_AGENTS), .val (.int (0 : Int32)), .val (.int (1 : Int32)), .unset, .unset]) rfl ?_
      show Steps p.tables e below (T1.setTop (mkF m 174 #[.val (.int p1), .val (.ref b2), .val (.int (10 : Int32)), .val (.ref w_AGENTS), .val (.int (0 : Int32)), .val (.int (1 : Int32)), .unset, .unset] [])) _
      refine XS.aloadN X1.here hx rfl (hb hby at_174) rfl rfl ?_
      show Steps p.tables e below (T1.setTop (mkF m 175 #[.val (.int p1), .val (.ref b2), .val (.int (10 : Int32)), .val (.ref w_AGENTS), .val (.int (0 : Int32)), .val (.int (1 : Int32)), .unset, .unset] [(.ref w_AGENTS)])) _
      refine st104.trans ?_
      show Steps p.tables e below (T104.setTop (mkF m 178 #[.val (.int p1), .val (.ref b2), .val (.int (10 : Int32)), .val (.ref w_AGENTS), .val (.int (0 : Int32)), .val (.int (1 : Int32)), .unset, .unset] [(.int (1 : Int32))])) _
      refine XS.istore X104.here hx rfl (hb hby at_178) rfl (l' := #[.val (.int p1), .val (.ref b2), .val (.int (10 : Int32)), .val (.ref w_AGENTS), .val (.int (0 : Int32)), .val (.int (1 : Int32)), .val (.int (1 : Int32)), .unset]) rfl ?_
      show Steps p.tables e below (T104.setTop (mkF m 180 #[.val (.int p1), .val (.ref b2), .val (.int (10 : Int32)), .val (.ref w_AGENTS), .val (.int (0 : Int32)), .val (.int (1 : Int32)), .val (.int (1 : Int32)), .unset] [])) _
      refine XS.aloadN X104.here hx rfl (hb hby at_180) rfl rfl ?_
      show Steps p.tables e below (T104.setTop (mkF m 181 #[.val (.int p1), .val (.ref b2), .val (.int (10 : Int32)), .val (.ref w_AGENTS), .val (.int (0 : Int32)), .val (.int (1 : Int32)), .val (.int (1 : Int32)), .unset] [(.ref w_AGENTS)])) _
      refine st105.trans ?_
      show Steps p.tables e below (T105.setTop (mkF m 184 #[.val (.int p1), .val (.ref b2), .val (.int (10 : Int32)), .val (.ref w_AGENTS), .val (.int (0 : Int32)), .val (.int (1 : Int32)), .val (.int (1 : Int32)), .unset] [(.int (0 : Int32))])) _
      refine XS.ifYes X105.here hx rfl (pc0 := 184) (pc' := 192) rfl (hb hby at_184) rfl ((if0 _ _).trans (teq (by decide : (0 : Int32) = (0 : Int32))).1) (by decide) (by decide) ?_
      show Steps p.tables e below (T105.setTop (mkF m 192 #[.val (.int p1), .val (.ref b2), .val (.int (10 : Int32)), .val (.ref w_AGENTS), .val (.int (0 : Int32)), .val (.int (1 : Int32)), .val (.int (1 : Int32)), .unset] [])) _
      refine XS.iconst X105.here hx rfl (hb hby at_192) ?_
      show Steps p.tables e below (T105.setTop (mkF m 193 #[.val (.int p1), .val (.ref b2), .val (.int (10 : Int32)), .val (.ref w_AGENTS), .val (.int (0 : Int32)), .val (.int (1 : Int32)), .val (.int (1 : Int32)), .unset] [(.int (1 : Int32))])) _
      refine XS.goto X105.here hx rfl (pc0 := 193) (pc' := 197) rfl (hb hby at_193) (by decide) (by decide) ?_
      show Steps p.tables e below (T105.setTop (mkF m 197 #[.val (.int p1), .val (.ref b2), .val (.int (10 : Int32)), .val (.ref w_AGENTS), .val (.int (0 : Int32)), .val (.int (1 : Int32)), .val (.int (1 : Int32)), .unset] [(.int (1 : Int32))])) _
      refine XS.istore X105.here hx rfl (hb hby at_197) rfl (l' := #[.val (.int p1), .val (.ref b2), .val (.int (10 : Int32)), .val (.ref w_AGENTS), .val (.int (0 : Int32)), .val (.int (1 : Int32)), .val (.int (1 : Int32)), .val (.int (1 : Int32))]) rfl ?_
      show Steps p.tables e below (T105.setTop (mkF m 199 #[.val (.int p1), .val (.ref b2), .val (.int (10 : Int32)), .val (.ref w_AGENTS), .val (.int (0 : Int32)), .val (.int (1 : Int32)), .val (.int (1 : Int32)), .val (.int (1 : Int32))] [])) _
      refine XS.iload X105.here hx rfl (hb hby at_199) rfl ?_
      show Steps p.tables e below (T105.setTop (mkF m 201 #[.val (.int p1), .val (.ref b2), .val (.int (10 : Int32)), .val (.ref w_AGENTS), .val (.int (0 : Int32)), .val (.int (1 : Int32)), .val (.int (1 : Int32)), .val (.int (1 : Int32))] [(.int (1 : Int32))])) _
      refine XS.iload X105.here hx rfl (hb hby at_201) rfl ?_
      show Steps p.tables e below (T105.setTop (mkF m 203 #[.val (.int p1), .val (.ref b2), .val (.int (10 : Int32)), .val (.ref w_AGENTS), .val (.int (0 : Int32)), .val (.int (1 : Int32)), .val (.int (1 : Int32)), .val (.int (1 : Int32))] [(.int (1 : Int32)), (.int (1 : Int32))])) _
      refine XS.icmpNo X105.here hx rfl (hb hby at_203) rfl (teq (by decide : (1 : Int32) = (1 : Int32))).2 ?_
      show Steps p.tables e below (T105.setTop (mkF m 206 #[.val (.int p1), .val (.ref b2), .val (.int (10 : Int32)), .val (.ref w_AGENTS), .val (.int (0 : Int32)), .val (.int (1 : Int32)), .val (.int (1 : Int32)), .val (.int (1 : Int32))] [])) _
      refine XS.iload X105.here hx rfl (hb hby at_206) rfl ?_
      show Steps p.tables e below (T105.setTop (mkF m 208 #[.val (.int p1), .val (.ref b2), .val (.int (10 : Int32)), .val (.ref w_AGENTS), .val (.int (0 : Int32)), .val (.int (1 : Int32)), .val (.int (1 : Int32)), .val (.int (1 : Int32))] [(.int (1 : Int32))])) _
      refine XS.ifNo X105.here hx rfl (hb hby at_208) rfl ((if0 _ _).trans (feq (by decide : ¬ ((1 : Int32) = (0 : Int32)))).1) ?_
      show Steps p.tables e below (T105.setTop (mkF m 211 #[.val (.int p1), .val (.ref b2), .val (.int (10 : Int32)), .val (.ref w_AGENTS), .val (.int (0 : Int32)), .val (.int (1 : Int32)), .val (.int (1 : Int32)), .val (.int (1 : Int32))] [])) _
      refine XS.iconst X105.here hx rfl (hb hby at_211) ?_
      show Steps p.tables e below (T105.setTop (mkF m 212 #[.val (.int p1), .val (.ref b2), .val (.int (10 : Int32)), .val (.ref w_AGENTS), .val (.int (0 : Int32)), .val (.int (1 : Int32)), .val (.int (1 : Int32)), .val (.int (1 : Int32))] [(.int (1 : Int32))])) _
      refine XS.goto X105.here hx rfl (pc0 := 212) (pc' := 216) rfl (hb hby at_212) (by decide) (by decide) ?_
      show Steps p.tables e below (T105.setTop (mkF m 216 #[.val (.int p1), .val (.ref b2), .val (.int (10 : Int32)), .val (.ref w_AGENTS), .val (.int (0 : Int32)), .val (.int (1 : Int32)), .val (.int (1 : Int32)), .val (.int (1 : Int32))] [(.int (1 : Int32))])) _
      exact retN X105 hx (t := .boolean) Bd.returns (by simp) (hb hby at_216) hr
    · show Q0_0 Z p1 w_POD w_BASE w_RESOURCE w_AGENT w_CLIENT w_ISSUER w_OWNER w_CREATOR w_CREDENTIAL w_REQUESTS w_AGENTS w_STATS w_WAC_ALLOW w_METHOD w_CREATES w_REMOVES w_PORT w_VALUE w_FLAG w_REPEATED_VALUE h0 n0 _ T105.heap _
      rw [e105]
      exact ⟨rfl, N105⟩
  ·
    obtain ⟨cl106, Ar106, qq106, Sz106, Nn106, Hs106, Gs106⟩ := id pf1_0
    have hin106 : ¬ ((11 : Int32) < 0 ∨ cl106.slots.size ≤ ((11 : Int32)).toNatClampNeg) := inb_of Sz106 ⟨by decide, by decide⟩
    have hat106 : cl106.slots[((11 : Int32)).toNatClampNeg]? = some (.ref w_STATS) := Has.at Hs106 hin106 rfl
    obtain ⟨cq107, kq107, q107a, q107b, q107c⟩ := isOf hZ e1 (E_STATS.keep K1)
    obtain ⟨_, _, ⟨T107, L107, k107, n107⟩, -, X107, ⟨Lc107, hQ107, l107, y107, z107⟩, st107⟩ := X1.virtualBack hx (y := (⟨"com/example/garm/garm/command/Option", "takesValue", "()Z"⟩ : MethodName)) (z := (⟨"com/example/garm/garm/command/Option", "takesValue", "()Z"⟩ : MethodName)) hown (mvT hZ (hw _ (List.mem_of_getElem? (i := 39) rfl))) (mvT hZ (hw _ (List.mem_of_getElem? (i := 40) rfl))) (notFace_of_selects (args := #[]) (mvT hZ (hw _ (List.mem_of_getElem? (i := 42) rfl)))) (mvT hZ (hw _ (List.mem_of_getElem? (i := 42) rfl))) (mvT hZ (hw _ (List.mem_of_getElem? (i := 41) rfl))) (by decide) (backOf (W := 0) (rm1_11 l Z a0 hw [] w_STATS w_FLAG h1 n0 (Nat.le_trans Z0 K1.1) (F_form_STATS.keep K1 nin0) (own_staK S_FLAG K1 all0)) hZ (hw _ (List.mem_of_getElem? (i := 43) rfl)) (hw _ (List.mem_of_getElem? (i := 3) rfl)) (by decide) (by decide)) q107a q107c (g := (mkF m 175 #[.val (.int p1), .val (.ref b2), .val (.int (11 : Int32)), .val (.ref w_STATS), .val (.int (1 : Int32)), .val (.int (0 : Int32)), .unset, .unset] [(.ref w_STATS)])) rfl (by rw [hml]; rfl) (Steps.refl _) (argsL := []) (rest := []) (lenOf pd_0 rfl) rfl (by show 2 * 0 + _ ≤ _; exact Nat.le_of_eq rfl) (hb hby at_175) (fun _ _ => ⟨rfl, e1, (by decide : 1 + 0 ≤ _), (by decide : 17 + 0 ≤ _)⟩)
    dsimp only [Pt.U, Pt.locs, Pt.cells, Pt.slots] at X107 l107 y107 z107 st107 hQ107
    subst l107 y107 z107
    obtain ⟨rfl, N107q, e107⟩ := hQ107
    have N107 := Fr.app N1 N107q
    obtain ⟨cq108, kq108, q108a, q108b, q108c⟩ := isOf hZ e107 (E_STATS.keep K1)
    obtain ⟨_, _, ⟨T108, L108, k108, n108⟩, -, X108, ⟨Lc108, hQ108, l108, y108, z108⟩, st108⟩ := X107.virtualBack hx (y := (⟨"com/example/garm/garm/command/Option", "isRepeatable", "()Z"⟩ : MethodName)) (z := (⟨"com/example/garm/garm/command/Option", "isRepeatable", "()Z"⟩ : MethodName)) hown (mvT hZ (hw _ (List.mem_of_getElem? (i := 50) rfl))) (mvT hZ (hw _ (List.mem_of_getElem? (i := 51) rfl))) (notFace_of_selects (args := #[]) (mvT hZ (hw _ (List.mem_of_getElem? (i := 53) rfl)))) (mvT hZ (hw _ (List.mem_of_getElem? (i := 53) rfl))) (mvT hZ (hw _ (List.mem_of_getElem? (i := 52) rfl))) (by decide) (backOf (W := 0) (rm2_11 l Z a0 hw [] w_STATS w_FLAG w_REPEATED_VALUE h1 n0 (Nat.le_trans Z0 K1.1) (F_form_STATS.keep K1 nin0) (own_staK S_REPEATED_VALUE K1 all0) ne_FLAG_REPEATED_VALUE) hZ (hw _ (List.mem_of_getElem? (i := 54) rfl)) (hw _ (List.mem_of_getElem? (i := 3) rfl)) (by decide) (by decide)) q108a q108c (g := (mkF m 181 #[.val (.int p1), .val (.ref b2), .val (.int (11 : Int32)), .val (.ref w_STATS), .val (.int (1 : Int32)), .val (.int (0 : Int32)), .val (.int (0 : Int32)), .unset] [(.ref w_STATS)])) rfl (by rw [hml]; rfl) (Steps.refl _) (argsL := []) (rest := []) (lenOf pd_0 rfl) rfl (by show 2 * 0 + _ ≤ _; exact Nat.le_of_eq rfl) (hb hby at_181) (fun _ _ => ⟨rfl, e107, (by decide : 1 + 0 ≤ _), (by decide : 17 + 0 ≤ _)⟩)
    dsimp only [Pt.U, Pt.locs, Pt.cells, Pt.slots] at X108 l108 y108 z108 st108 hQ108
    subst l108 y108 z108
    obtain ⟨rfl, N108q, e108⟩ := hQ108
    have N108 := Fr.app N107 N108q
    obtain ⟨fs, hr, hrun, hended, hW, hsame⟩ := X108.leave (v := some (.int (1 : Int32))) (fun h => by rw [Bd.returns] at h; cases h)
    refine ⟨_, _, k55 _ ?_, hrun, hended, _, _, rfl, ?_, ⟨_, rfl⟩, hW, hsame.mono (by decide) (by decide)⟩
    ·
      show Steps p.tables e below (T1.setTop (mkF m 126 #[.val (.int p1), .val (.ref b2), .unset, .unset, .unset, .unset, .unset, .unset] [(.int ((p1 &&& (2147483647 : Int32)) % (17 : Int32)))])) _
      rewrite [hk67_11]
      show Steps p.tables e below (T1.setTop (mkF m 126 #[.val (.int p1), .val (.ref b2), .unset, .unset, .unset, .unset, .unset, .unset] [(.int (11 : Int32))])) _
      refine XS.istoreN X1.here hx rfl (hb hby at_126) rfl (l' := #[.val (.int p1), .val (.ref b2), .val (.int (11 : Int32)), .unset, .unset, .unset, .unset, .unset]) rfl ?_
      show Steps p.tables e below (T1.setTop (mkF m 127 #[.val (.int p1), .val (.ref b2), .val (.int (11 : Int32)), .unset, .unset, .unset, .unset, .unset] [])) _
      refine XS.aloadN X1.here hx rfl (hb hby at_127) rfl rfl ?_
      show Steps p.tables e below (T1.setTop (mkF m 128 #[.val (.int p1), .val (.ref b2), .val (.int (11 : Int32)), .unset, .unset, .unset, .unset, .unset] [(.ref b2)])) _
      refine XS.iloadN X1.here hx rfl (hb hby at_128) rfl ?_
      show Steps p.tables e below (T1.setTop (mkF m 129 #[.val (.int p1), .val (.ref b2), .val (.int (11 : Int32)), .unset, .unset, .unset, .unset, .unset] [(.int (11 : Int32)), (.ref b2)])) _
      refine X1.aaload hx (j := (11 : Int32)) (v := (.ref w_STATS)) (by rw [e1]; exact Ar106.1) (State.isArrayOf_alike hZ.alike Ar106.2.1) rfl Ar106.2.2 hin106 hat106 (g := (mkF m 129 #[.val (.int p1), .val (.ref b2), .val (.int (11 : Int32)), .unset, .unset, .unset, .unset, .unset] [(.int (11 : Int32)), (.ref b2)])) rfl rfl (hb hby at_129) _ ?_
      show Steps p.tables e below (T1.setTop (mkF m 130 #[.val (.int p1), .val (.ref b2), .val (.int (11 : Int32)), .unset, .unset, .unset, .unset, .unset] [(.ref w_STATS)])) _
      refine XS.astoreN X1.here hx rfl (hb hby at_130) rfl rfl (l' := #[.val (.int p1), .val (.ref b2), .val (.int (11 : Int32)), .val (.ref w_STATS), .unset, .unset, .unset, .unset]) rfl ?_
      show Steps p.tables e below (T1.setTop (mkF m 131 #[.val (.int p1), .val (.ref b2), .val (.int (11 : Int32)), .val (.ref w_STATS), .unset, .unset, .unset, .unset] [])) _
      refine XS.iloadN X1.here hx rfl (hb hby at_131) rfl ?_
      show Steps p.tables e below (T1.setTop (mkF m 132 #[.val (.int p1), .val (.ref b2), .val (.int (11 : Int32)), .val (.ref w_STATS), .unset, .unset, .unset, .unset] [(.int (11 : Int32))])) _
      refine XS.bipush X1.here hx rfl (hb hby at_132) ?_
      show Steps p.tables e below (T1.setTop (mkF m 134 #[.val (.int p1), .val (.ref b2), .val (.int (11 : Int32)), .val (.ref w_STATS), .unset, .unset, .unset, .unset] [(.int (11 : Int32)), (.int (11 : Int32))])) _
      refine XS.icmpYes X1.here hx rfl (pc0 := 134) (pc' := 155) rfl (hb hby at_134) rfl (teq (by decide : (11 : Int32) = (11 : Int32))).1 (by decide) (by decide) ?_
      show Steps p.tables e below (T1.setTop (mkF m 155 #[.val (.int p1), .val (.ref b2), .val (.int (11 : Int32)), .val (.ref w_STATS), .unset, .unset, .unset, .unset] [])) _
      refine XS.iconst X1.here hx rfl (hb hby at_155) ?_
      show Steps p.tables e below (T1.setTop (mkF m 156 #[.val (.int p1), .val (.ref b2), .val (.int (11 : Int32)), .val (.ref w_STATS), .unset, .unset, .unset, .unset] [(.int (1 : Int32))])) _
      refine XS.goto X1.here hx rfl (pc0 := 156) (pc' := 160) rfl (hb hby at_156) (by decide) (by decide) ?_
      show Steps p.tables e below (T1.setTop (mkF m 160 #[.val (.int p1), .val (.ref b2), .val (.int (11 : Int32)), .val (.ref w_STATS), .unset, .unset, .unset, .unset] [(.int (1 : Int32))])) _
      refine XS.istore X1.here hx rfl (hb hby at_160) rfl (l' := #[.val (.int p1), .val (.ref b2), .val (.int (11 : Int32)), .val (.ref w_STATS), .val (.int (1 : Int32)), .unset, .unset, .unset]) rfl ?_
      show Steps p.tables e below (T1.setTop (mkF m 162 #[.val (.int p1), .val (.ref b2), .val (.int (11 : Int32)), .val (.ref w_STATS), .val (.int (1 : Int32)), .unset, .unset, .unset] [])) _
      refine XS.iload X1.here hx rfl (hb hby at_162) rfl ?_
      show Steps p.tables e below (T1.setTop (mkF m 164 #[.val (.int p1), .val (.ref b2), .val (.int (11 : Int32)), .val (.ref w_STATS), .val (.int (1 : Int32)), .unset, .unset, .unset] [(.int (1 : Int32))])) _
      refine XS.ifYes X1.here hx rfl (pc0 := 164) (pc' := 171) rfl (hb hby at_164) rfl ((if0 _ _).trans (feq (by decide : ¬ ((1 : Int32) = (0 : Int32)))).2) (by decide) (by decide) ?_
      show Steps p.tables e below (T1.setTop (mkF m 171 #[.val (.int p1), .val (.ref b2), .val (.int (11 : Int32)), .val (.ref w_STATS), .val (.int (1 : Int32)), .unset, .unset, .unset] [])) _
      refine XS.iconst X1.here hx rfl (hb hby at_171) ?_
      show Steps p.tables e below (T1.setTop (mkF m 172 #[.val (.int p1), .val (.ref b2), .val (.int (11 : Int32)), .val (.ref w_STATS), .val (.int (1 : Int32)), .unset, .unset, .unset] [(.int (0 : Int32))])) _
      refine XS.istore X1.here hx rfl (hb hby at_172) rfl (l' := #[.val (.int p1), .val (.ref b2), .val (.int (11 : Int32)), .val (.ref w_STATS), .val (.int (1 : Int32)), .val (.int (0 : Int32)), .unset, .unset]) rfl ?_
      show Steps p.tables e below (T1.setTop (mkF m 174 #[.val (.int p1), .val (.ref b2), .val (.int (11 : Int32)), .val (.ref w_STATS), .val (.int (1 : Int32)), .val (.int (0 : Int32)), .unset, .unset] [])) _
      refine XS.aloadN X1.here hx rfl (hb hby at_174) rfl rfl ?_
      show Steps p.tables e below (T1.setTop (mkF m 175 #[.val (.int p1), .val (.ref b2), .val (.int (11 : Int32)), .val (.ref w_STATS), .val (.int (1 : Int32)), .val (.int (0 : Int32)), .unset, .unset] [(.ref w_STATS)])) _
      refine st107.trans ?_
      show Steps p.tables e below (T107.setTop (mkF m 178 #[.val (.int p1), .val (.ref b2), .val (.int (11 : Int32)), .val (.ref w_STATS), .val (.int (1 : Int32)), .val (.int (0 : Int32)), .unset, .unset] [(.int (0 : Int32))])) _
      refine XS.istore X107.here hx rfl (hb hby at_178) rfl (l' := #[.val (.int p1), .val (.ref b2), .val (.int (11 : Int32)), .val (.ref w_STATS), .val (.int (1 : Int32)), .val (.int (0 : Int32)), .val (.int (0 : Int32)), .unset]) rfl ?_
      show Steps p.tables e below (T107.setTop (mkF m 180 #[.val (.int p1), .val (.ref b2), .val (.int (11 : Int32)), .val (.ref w_STATS), .val (.int (1 : Int32)), .val (.int (0 : Int32)), .val (.int (0 : Int32)), .unset] [])) _
      refine XS.aloadN X107.here hx rfl (hb hby at_180) rfl rfl ?_
      show Steps p.tables e below (T107.setTop (mkF m 181 #[.val (.int p1), .val (.ref b2), .val (.int (11 : Int32)), .val (.ref w_STATS), .val (.int (1 : Int32)), .val (.int (0 : Int32)), .val (.int (0 : Int32)), .unset] [(.ref w_STATS)])) _
      refine st108.trans ?_
      show Steps p.tables e below (T108.setTop (mkF m 184 #[.val (.int p1), .val (.ref b2), .val (.int (11 : Int32)), .val (.ref w_STATS), .val (.int (1 : Int32)), .val (.int (0 : Int32)), .val (.int (0 : Int32)), .unset] [(.int (0 : Int32))])) _
      refine XS.ifYes X108.here hx rfl (pc0 := 184) (pc' := 192) rfl (hb hby at_184) rfl ((if0 _ _).trans (teq (by decide : (0 : Int32) = (0 : Int32))).1) (by decide) (by decide) ?_
      show Steps p.tables e below (T108.setTop (mkF m 192 #[.val (.int p1), .val (.ref b2), .val (.int (11 : Int32)), .val (.ref w_STATS), .val (.int (1 : Int32)), .val (.int (0 : Int32)), .val (.int (0 : Int32)), .unset] [])) _
      refine XS.iconst X108.here hx rfl (hb hby at_192) ?_
      show Steps p.tables e below (T108.setTop (mkF m 193 #[.val (.int p1), .val (.ref b2), .val (.int (11 : Int32)), .val (.ref w_STATS), .val (.int (1 : Int32)), .val (.int (0 : Int32)), .val (.int (0 : Int32)), .unset] [(.int (1 : Int32))])) _
      refine XS.goto X108.here hx rfl (pc0 := 193) (pc' := 197) rfl (hb hby at_193) (by decide) (by decide) ?_
      show Steps p.tables e below (T108.setTop (mkF m 197 #[.val (.int p1), .val (.ref b2), .val (.int (11 : Int32)), .val (.ref w_STATS), .val (.int (1 : Int32)), .val (.int (0 : Int32)), .val (.int (0 : Int32)), .unset] [(.int (1 : Int32))])) _
      refine XS.istore X108.here hx rfl (hb hby at_197) rfl (l' := #[.val (.int p1), .val (.ref b2), .val (.int (11 : Int32)), .val (.ref w_STATS), .val (.int (1 : Int32)), .val (.int (0 : Int32)), .val (.int (0 : Int32)), .val (.int (1 : Int32))]) rfl ?_
      show Steps p.tables e below (T108.setTop (mkF m 199 #[.val (.int p1), .val (.ref b2), .val (.int (11 : Int32)), .val (.ref w_STATS), .val (.int (1 : Int32)), .val (.int (0 : Int32)), .val (.int (0 : Int32)), .val (.int (1 : Int32))] [])) _
      refine XS.iload X108.here hx rfl (hb hby at_199) rfl ?_
      show Steps p.tables e below (T108.setTop (mkF m 201 #[.val (.int p1), .val (.ref b2), .val (.int (11 : Int32)), .val (.ref w_STATS), .val (.int (1 : Int32)), .val (.int (0 : Int32)), .val (.int (0 : Int32)), .val (.int (1 : Int32))] [(.int (0 : Int32))])) _
      refine XS.iload X108.here hx rfl (hb hby at_201) rfl ?_
      show Steps p.tables e below (T108.setTop (mkF m 203 #[.val (.int p1), .val (.ref b2), .val (.int (11 : Int32)), .val (.ref w_STATS), .val (.int (1 : Int32)), .val (.int (0 : Int32)), .val (.int (0 : Int32)), .val (.int (1 : Int32))] [(.int (0 : Int32)), (.int (0 : Int32))])) _
      refine XS.icmpNo X108.here hx rfl (hb hby at_203) rfl (teq (by decide : (0 : Int32) = (0 : Int32))).2 ?_
      show Steps p.tables e below (T108.setTop (mkF m 206 #[.val (.int p1), .val (.ref b2), .val (.int (11 : Int32)), .val (.ref w_STATS), .val (.int (1 : Int32)), .val (.int (0 : Int32)), .val (.int (0 : Int32)), .val (.int (1 : Int32))] [])) _
      refine XS.iload X108.here hx rfl (hb hby at_206) rfl ?_
      show Steps p.tables e below (T108.setTop (mkF m 208 #[.val (.int p1), .val (.ref b2), .val (.int (11 : Int32)), .val (.ref w_STATS), .val (.int (1 : Int32)), .val (.int (0 : Int32)), .val (.int (0 : Int32)), .val (.int (1 : Int32))] [(.int (1 : Int32))])) _
      refine XS.ifNo X108.here hx rfl (hb hby at_208) rfl ((if0 _ _).trans (feq (by decide : ¬ ((1 : Int32) = (0 : Int32)))).1) ?_
      show Steps p.tables e below (T108.setTop (mkF m 211 #[.val (.int p1), .val (.ref b2), .val (.int (11 : Int32)), .val (.ref w_STATS), .val (.int (1 : Int32)), .val (.int (0 : Int32)), .val (.int (0 : Int32)), .val (.int (1 : Int32))] [])) _
      refine XS.iconst X108.here hx rfl (hb hby at_211) ?_
      show Steps p.tables e below (T108.setTop (mkF m 212 #[.val (.int p1), .val (.ref b2), .val (.int (11 : Int32)), .val (.ref w_STATS), .val (.int (1 : Int32)), .val (.int (0 : Int32)), .val (.int (0 : Int32)), .val (.int (1 : Int32))] [(.int (1 : Int32))])) _
      refine XS.goto X108.here hx rfl (pc0 := 212) (pc' := 216) rfl (hb hby at_212) (by decide) (by decide) ?_
      show Steps p.tables e below (T108.setTop (mkF m 216 #[.val (.int p1), .val (.ref b2), .val (.int (11 : Int32)), .val (.ref w_STATS), .val (.int (1 : Int32)), .val (.int (0 : Int32)), .val (.int (0 : Int32)), .val (.int (1 : Int32))] [(.int (1 : Int32))])) _
      exact retN X108 hx (t := .boolean) Bd.returns (by simp) (hb hby at_216) hr
    · show Q0_0 Z p1 w_POD w_BASE w_RESOURCE w_AGENT w_CLIENT w_ISSUER w_OWNER w_CREATOR w_CREDENTIAL w_REQUESTS w_AGENTS w_STATS w_WAC_ALLOW w_METHOD w_CREATES w_REMOVES w_PORT w_VALUE w_FLAG w_REPEATED_VALUE h0 n0 _ T108.heap _
      rw [e108]
      exact ⟨rfl, N108⟩
  ·
    obtain ⟨cl109, Ar109, qq109, Sz109, Nn109, Hs109, Gs109⟩ := id pf1_0
    have hin109 : ¬ ((12 : Int32) < 0 ∨ cl109.slots.size ≤ ((12 : Int32)).toNatClampNeg) := inb_of Sz109 ⟨by decide, by decide⟩
    have hat109 : cl109.slots[((12 : Int32)).toNatClampNeg]? = some (.ref w_WAC_ALLOW) := Has.at Hs109 hin109 rfl
    obtain ⟨cq110, kq110, q110a, q110b, q110c⟩ := isOf hZ e1 (E_WAC_ALLOW.keep K1)
    obtain ⟨_, _, ⟨T110, L110, k110, n110⟩, -, X110, ⟨Lc110, hQ110, l110, y110, z110⟩, st110⟩ := X1.virtualBack hx (y := (⟨"com/example/garm/garm/command/Option", "takesValue", "()Z"⟩ : MethodName)) (z := (⟨"com/example/garm/garm/command/Option", "takesValue", "()Z"⟩ : MethodName)) hown (mvT hZ (hw _ (List.mem_of_getElem? (i := 39) rfl))) (mvT hZ (hw _ (List.mem_of_getElem? (i := 40) rfl))) (notFace_of_selects (args := #[]) (mvT hZ (hw _ (List.mem_of_getElem? (i := 42) rfl)))) (mvT hZ (hw _ (List.mem_of_getElem? (i := 42) rfl))) (mvT hZ (hw _ (List.mem_of_getElem? (i := 41) rfl))) (by decide) (backOf (W := 0) (rm1_12 l Z a0 hw [] w_WAC_ALLOW w_FLAG h1 n0 (Nat.le_trans Z0 K1.1) (F_form_WAC_ALLOW.keep K1 nin0) (own_staK S_FLAG K1 all0)) hZ (hw _ (List.mem_of_getElem? (i := 43) rfl)) (hw _ (List.mem_of_getElem? (i := 3) rfl)) (by decide) (by decide)) q110a q110c (g := (mkF m 175 #[.val (.int p1), .val (.ref b2), .val (.int (12 : Int32)), .val (.ref w_WAC_ALLOW), .val (.int (1 : Int32)), .val (.int (0 : Int32)), .unset, .unset] [(.ref w_WAC_ALLOW)])) rfl (by rw [hml]; rfl) (Steps.refl _) (argsL := []) (rest := []) (lenOf pd_0 rfl) rfl (by show 2 * 0 + _ ≤ _; exact Nat.le_of_eq rfl) (hb hby at_175) (fun _ _ => ⟨rfl, e1, (by decide : 1 + 0 ≤ _), (by decide : 17 + 0 ≤ _)⟩)
    dsimp only [Pt.U, Pt.locs, Pt.cells, Pt.slots] at X110 l110 y110 z110 st110 hQ110
    subst l110 y110 z110
    obtain ⟨rfl, N110q, e110⟩ := hQ110
    have N110 := Fr.app N1 N110q
    obtain ⟨cq111, kq111, q111a, q111b, q111c⟩ := isOf hZ e110 (E_WAC_ALLOW.keep K1)
    obtain ⟨_, _, ⟨T111, L111, k111, n111⟩, -, X111, ⟨Lc111, hQ111, l111, y111, z111⟩, st111⟩ := X110.virtualBack hx (y := (⟨"com/example/garm/garm/command/Option", "isRepeatable", "()Z"⟩ : MethodName)) (z := (⟨"com/example/garm/garm/command/Option", "isRepeatable", "()Z"⟩ : MethodName)) hown (mvT hZ (hw _ (List.mem_of_getElem? (i := 50) rfl))) (mvT hZ (hw _ (List.mem_of_getElem? (i := 51) rfl))) (notFace_of_selects (args := #[]) (mvT hZ (hw _ (List.mem_of_getElem? (i := 53) rfl)))) (mvT hZ (hw _ (List.mem_of_getElem? (i := 53) rfl))) (mvT hZ (hw _ (List.mem_of_getElem? (i := 52) rfl))) (by decide) (backOf (W := 0) (rm2_12 l Z a0 hw [] w_WAC_ALLOW w_FLAG w_REPEATED_VALUE h1 n0 (Nat.le_trans Z0 K1.1) (F_form_WAC_ALLOW.keep K1 nin0) (own_staK S_REPEATED_VALUE K1 all0) ne_FLAG_REPEATED_VALUE) hZ (hw _ (List.mem_of_getElem? (i := 54) rfl)) (hw _ (List.mem_of_getElem? (i := 3) rfl)) (by decide) (by decide)) q111a q111c (g := (mkF m 181 #[.val (.int p1), .val (.ref b2), .val (.int (12 : Int32)), .val (.ref w_WAC_ALLOW), .val (.int (1 : Int32)), .val (.int (0 : Int32)), .val (.int (0 : Int32)), .unset] [(.ref w_WAC_ALLOW)])) rfl (by rw [hml]; rfl) (Steps.refl _) (argsL := []) (rest := []) (lenOf pd_0 rfl) rfl (by show 2 * 0 + _ ≤ _; exact Nat.le_of_eq rfl) (hb hby at_181) (fun _ _ => ⟨rfl, e110, (by decide : 1 + 0 ≤ _), (by decide : 17 + 0 ≤ _)⟩)
    dsimp only [Pt.U, Pt.locs, Pt.cells, Pt.slots] at X111 l111 y111 z111 st111 hQ111
    subst l111 y111 z111
    obtain ⟨rfl, N111q, e111⟩ := hQ111
    have N111 := Fr.app N110 N111q
    obtain ⟨fs, hr, hrun, hended, hW, hsame⟩ := X111.leave (v := some (.int (1 : Int32))) (fun h => by rw [Bd.returns] at h; cases h)
    refine ⟨_, _, k55 _ ?_, hrun, hended, _, _, rfl, ?_, ⟨_, rfl⟩, hW, hsame.mono (by decide) (by decide)⟩
    ·
      show Steps p.tables e below (T1.setTop (mkF m 126 #[.val (.int p1), .val (.ref b2), .unset, .unset, .unset, .unset, .unset, .unset] [(.int ((p1 &&& (2147483647 : Int32)) % (17 : Int32)))])) _
      rewrite [hk68_12]
      show Steps p.tables e below (T1.setTop (mkF m 126 #[.val (.int p1), .val (.ref b2), .unset, .unset, .unset, .unset, .unset, .unset] [(.int (12 : Int32))])) _
      refine XS.istoreN X1.here hx rfl (hb hby at_126) rfl (l' := #[.val (.int p1), .val (.ref b2), .val (.int (12 : Int32)), .unset, .unset, .unset, .unset, .unset]) rfl ?_
      show Steps p.tables e below (T1.setTop (mkF m 127 #[.val (.int p1), .val (.ref b2), .val (.int (12 : Int32)), .unset, .unset, .unset, .unset, .unset] [])) _
      refine XS.aloadN X1.here hx rfl (hb hby at_127) rfl rfl ?_
      show Steps p.tables e below (T1.setTop (mkF m 128 #[.val (.int p1), .val (.ref b2), .val (.int (12 : Int32)), .unset, .unset, .unset, .unset, .unset] [(.ref b2)])) _
      refine XS.iloadN X1.here hx rfl (hb hby at_128) rfl ?_
      show Steps p.tables e below (T1.setTop (mkF m 129 #[.val (.int p1), .val (.ref b2), .val (.int (12 : Int32)), .unset, .unset, .unset, .unset, .unset] [(.int (12 : Int32)), (.ref b2)])) _
      refine X1.aaload hx (j := (12 : Int32)) (v := (.ref w_WAC_ALLOW)) (by rw [e1]; exact Ar109.1) (State.isArrayOf_alike hZ.alike Ar109.2.1) rfl Ar109.2.2 hin109 hat109 (g := (mkF m 129 #[.val (.int p1), .val (.ref b2), .val (.int (12 : Int32)), .unset, .unset, .unset, .unset, .unset] [(.int (12 : Int32)), (.ref b2)])) rfl rfl (hb hby at_129) _ ?_
      show Steps p.tables e below (T1.setTop (mkF m 130 #[.val (.int p1), .val (.ref b2), .val (.int (12 : Int32)), .unset, .unset, .unset, .unset, .unset] [(.ref w_WAC_ALLOW)])) _
      refine XS.astoreN X1.here hx rfl (hb hby at_130) rfl rfl (l' := #[.val (.int p1), .val (.ref b2), .val (.int (12 : Int32)), .val (.ref w_WAC_ALLOW), .unset, .unset, .unset, .unset]) rfl ?_
      show Steps p.tables e below (T1.setTop (mkF m 131 #[.val (.int p1), .val (.ref b2), .val (.int (12 : Int32)), .val (.ref w_WAC_ALLOW), .unset, .unset, .unset, .unset] [])) _
      refine XS.iloadN X1.here hx rfl (hb hby at_131) rfl ?_
      show Steps p.tables e below (T1.setTop (mkF m 132 #[.val (.int p1), .val (.ref b2), .val (.int (12 : Int32)), .val (.ref w_WAC_ALLOW), .unset, .unset, .unset, .unset] [(.int (12 : Int32))])) _
      refine XS.bipush X1.here hx rfl (hb hby at_132) ?_
      show Steps p.tables e below (T1.setTop (mkF m 134 #[.val (.int p1), .val (.ref b2), .val (.int (12 : Int32)), .val (.ref w_WAC_ALLOW), .unset, .unset, .unset, .unset] [(.int (11 : Int32)), (.int (12 : Int32))])) _
      refine XS.icmpNo X1.here hx rfl (hb hby at_134) rfl (feq (by decide : ¬ ((12 : Int32) = (11 : Int32)))).1 ?_
      show Steps p.tables e below (T1.setTop (mkF m 137 #[.val (.int p1), .val (.ref b2), .val (.int (12 : Int32)), .val (.ref w_WAC_ALLOW), .unset, .unset, .unset, .unset] [])) _
      refine XS.iloadN X1.here hx rfl (hb hby at_137) rfl ?_
      show Steps p.tables e below (T1.setTop (mkF m 138 #[.val (.int p1), .val (.ref b2), .val (.int (12 : Int32)), .val (.ref w_WAC_ALLOW), .unset, .unset, .unset, .unset] [(.int (12 : Int32))])) _
      refine XS.bipush X1.here hx rfl (hb hby at_138) ?_
      show Steps p.tables e below (T1.setTop (mkF m 140 #[.val (.int p1), .val (.ref b2), .val (.int (12 : Int32)), .val (.ref w_WAC_ALLOW), .unset, .unset, .unset, .unset] [(.int (12 : Int32)), (.int (12 : Int32))])) _
      refine XS.icmpYes X1.here hx rfl (pc0 := 140) (pc' := 155) rfl (hb hby at_140) rfl (teq (by decide : (12 : Int32) = (12 : Int32))).1 (by decide) (by decide) ?_
      show Steps p.tables e below (T1.setTop (mkF m 155 #[.val (.int p1), .val (.ref b2), .val (.int (12 : Int32)), .val (.ref w_WAC_ALLOW), .unset, .unset, .unset, .unset] [])) _
      refine XS.iconst X1.here hx rfl (hb hby at_155) ?_
      show Steps p.tables e below (T1.setTop (mkF m 156 #[.val (.int p1), .val (.ref b2), .val (.int (12 : Int32)), .val (.ref w_WAC_ALLOW), .unset, .unset, .unset, .unset] [(.int (1 : Int32))])) _
      refine XS.goto X1.here hx rfl (pc0 := 156) (pc' := 160) rfl (hb hby at_156) (by decide) (by decide) ?_
      show Steps p.tables e below (T1.setTop (mkF m 160 #[.val (.int p1), .val (.ref b2), .val (.int (12 : Int32)), .val (.ref w_WAC_ALLOW), .unset, .unset, .unset, .unset] [(.int (1 : Int32))])) _
      refine XS.istore X1.here hx rfl (hb hby at_160) rfl (l' := #[.val (.int p1), .val (.ref b2), .val (.int (12 : Int32)), .val (.ref w_WAC_ALLOW), .val (.int (1 : Int32)), .unset, .unset, .unset]) rfl ?_
      show Steps p.tables e below (T1.setTop (mkF m 162 #[.val (.int p1), .val (.ref b2), .val (.int (12 : Int32)), .val (.ref w_WAC_ALLOW), .val (.int (1 : Int32)), .unset, .unset, .unset] [])) _
      refine XS.iload X1.here hx rfl (hb hby at_162) rfl ?_
      show Steps p.tables e below (T1.setTop (mkF m 164 #[.val (.int p1), .val (.ref b2), .val (.int (12 : Int32)), .val (.ref w_WAC_ALLOW), .val (.int (1 : Int32)), .unset, .unset, .unset] [(.int (1 : Int32))])) _
      refine XS.ifYes X1.here hx rfl (pc0 := 164) (pc' := 171) rfl (hb hby at_164) rfl ((if0 _ _).trans (feq (by decide : ¬ ((1 : Int32) = (0 : Int32)))).2) (by decide) (by decide) ?_
      show Steps p.tables e below (T1.setTop (mkF m 171 #[.val (.int p1), .val (.ref b2), .val (.int (12 : Int32)), .val (.ref w_WAC_ALLOW), .val (.int (1 : Int32)), .unset, .unset, .unset] [])) _
      refine XS.iconst X1.here hx rfl (hb hby at_171) ?_
      show Steps p.tables e below (T1.setTop (mkF m 172 #[.val (.int p1), .val (.ref b2), .val (.int (12 : Int32)), .val (.ref w_WAC_ALLOW), .val (.int (1 : Int32)), .unset, .unset, .unset] [(.int (0 : Int32))])) _
      refine XS.istore X1.here hx rfl (hb hby at_172) rfl (l' := #[.val (.int p1), .val (.ref b2), .val (.int (12 : Int32)), .val (.ref w_WAC_ALLOW), .val (.int (1 : Int32)), .val (.int (0 : Int32)), .unset, .unset]) rfl ?_
      show Steps p.tables e below (T1.setTop (mkF m 174 #[.val (.int p1), .val (.ref b2), .val (.int (12 : Int32)), .val (.ref w_WAC_ALLOW), .val (.int (1 : Int32)), .val (.int (0 : Int32)), .unset, .unset] [])) _
      refine XS.aloadN X1.here hx rfl (hb hby at_174) rfl rfl ?_
      show Steps p.tables e below (T1.setTop (mkF m 175 #[.val (.int p1), .val (.ref b2), .val (.int (12 : Int32)), .val (.ref w_WAC_ALLOW), .val (.int (1 : Int32)), .val (.int (0 : Int32)), .unset, .unset] [(.ref w_WAC_ALLOW)])) _
      refine st110.trans ?_
      show Steps p.tables e below (T110.setTop (mkF m 178 #[.val (.int p1), .val (.ref b2), .val (.int (12 : Int32)), .val (.ref w_WAC_ALLOW), .val (.int (1 : Int32)), .val (.int (0 : Int32)), .unset, .unset] [(.int (0 : Int32))])) _
      refine XS.istore X110.here hx rfl (hb hby at_178) rfl (l' := #[.val (.int p1), .val (.ref b2), .val (.int (12 : Int32)), .val (.ref w_WAC_ALLOW), .val (.int (1 : Int32)), .val (.int (0 : Int32)), .val (.int (0 : Int32)), .unset]) rfl ?_
      show Steps p.tables e below (T110.setTop (mkF m 180 #[.val (.int p1), .val (.ref b2), .val (.int (12 : Int32)), .val (.ref w_WAC_ALLOW), .val (.int (1 : Int32)), .val (.int (0 : Int32)), .val (.int (0 : Int32)), .unset] [])) _
      refine XS.aloadN X110.here hx rfl (hb hby at_180) rfl rfl ?_
      show Steps p.tables e below (T110.setTop (mkF m 181 #[.val (.int p1), .val (.ref b2), .val (.int (12 : Int32)), .val (.ref w_WAC_ALLOW), .val (.int (1 : Int32)), .val (.int (0 : Int32)), .val (.int (0 : Int32)), .unset] [(.ref w_WAC_ALLOW)])) _
      refine st111.trans ?_
      show Steps p.tables e below (T111.setTop (mkF m 184 #[.val (.int p1), .val (.ref b2), .val (.int (12 : Int32)), .val (.ref w_WAC_ALLOW), .val (.int (1 : Int32)), .val (.int (0 : Int32)), .val (.int (0 : Int32)), .unset] [(.int (0 : Int32))])) _
      refine XS.ifYes X111.here hx rfl (pc0 := 184) (pc' := 192) rfl (hb hby at_184) rfl ((if0 _ _).trans (teq (by decide : (0 : Int32) = (0 : Int32))).1) (by decide) (by decide) ?_
      show Steps p.tables e below (T111.setTop (mkF m 192 #[.val (.int p1), .val (.ref b2), .val (.int (12 : Int32)), .val (.ref w_WAC_ALLOW), .val (.int (1 : Int32)), .val (.int (0 : Int32)), .val (.int (0 : Int32)), .unset] [])) _
      refine XS.iconst X111.here hx rfl (hb hby at_192) ?_
      show Steps p.tables e below (T111.setTop (mkF m 193 #[.val (.int p1), .val (.ref b2), .val (.int (12 : Int32)), .val (.ref w_WAC_ALLOW), .val (.int (1 : Int32)), .val (.int (0 : Int32)), .val (.int (0 : Int32)), .unset] [(.int (1 : Int32))])) _
      refine XS.goto X111.here hx rfl (pc0 := 193) (pc' := 197) rfl (hb hby at_193) (by decide) (by decide) ?_
      show Steps p.tables e below (T111.setTop (mkF m 197 #[.val (.int p1), .val (.ref b2), .val (.int (12 : Int32)), .val (.ref w_WAC_ALLOW), .val (.int (1 : Int32)), .val (.int (0 : Int32)), .val (.int (0 : Int32)), .unset] [(.int (1 : Int32))])) _
      refine XS.istore X111.here hx rfl (hb hby at_197) rfl (l' := #[.val (.int p1), .val (.ref b2), .val (.int (12 : Int32)), .val (.ref w_WAC_ALLOW), .val (.int (1 : Int32)), .val (.int (0 : Int32)), .val (.int (0 : Int32)), .val (.int (1 : Int32))]) rfl ?_
      show Steps p.tables e below (T111.setTop (mkF m 199 #[.val (.int p1), .val (.ref b2), .val (.int (12 : Int32)), .val (.ref w_WAC_ALLOW), .val (.int (1 : Int32)), .val (.int (0 : Int32)), .val (.int (0 : Int32)), .val (.int (1 : Int32))] [])) _
      refine XS.iload X111.here hx rfl (hb hby at_199) rfl ?_
      show Steps p.tables e below (T111.setTop (mkF m 201 #[.val (.int p1), .val (.ref b2), .val (.int (12 : Int32)), .val (.ref w_WAC_ALLOW), .val (.int (1 : Int32)), .val (.int (0 : Int32)), .val (.int (0 : Int32)), .val (.int (1 : Int32))] [(.int (0 : Int32))])) _
      refine XS.iload X111.here hx rfl (hb hby at_201) rfl ?_
      show Steps p.tables e below (T111.setTop (mkF m 203 #[.val (.int p1), .val (.ref b2), .val (.int (12 : Int32)), .val (.ref w_WAC_ALLOW), .val (.int (1 : Int32)), .val (.int (0 : Int32)), .val (.int (0 : Int32)), .val (.int (1 : Int32))] [(.int (0 : Int32)), (.int (0 : Int32))])) _
      refine XS.icmpNo X111.here hx rfl (hb hby at_203) rfl (teq (by decide : (0 : Int32) = (0 : Int32))).2 ?_
      show Steps p.tables e below (T111.setTop (mkF m 206 #[.val (.int p1), .val (.ref b2), .val (.int (12 : Int32)), .val (.ref w_WAC_ALLOW), .val (.int (1 : Int32)), .val (.int (0 : Int32)), .val (.int (0 : Int32)), .val (.int (1 : Int32))] [])) _
      refine XS.iload X111.here hx rfl (hb hby at_206) rfl ?_
      show Steps p.tables e below (T111.setTop (mkF m 208 #[.val (.int p1), .val (.ref b2), .val (.int (12 : Int32)), .val (.ref w_WAC_ALLOW), .val (.int (1 : Int32)), .val (.int (0 : Int32)), .val (.int (0 : Int32)), .val (.int (1 : Int32))] [(.int (1 : Int32))])) _
      refine XS.ifNo X111.here hx rfl (hb hby at_208) rfl ((if0 _ _).trans (feq (by decide : ¬ ((1 : Int32) = (0 : Int32)))).1) ?_
      show Steps p.tables e below (T111.setTop (mkF m 211 #[.val (.int p1), .val (.ref b2), .val (.int (12 : Int32)), .val (.ref w_WAC_ALLOW), .val (.int (1 : Int32)), .val (.int (0 : Int32)), .val (.int (0 : Int32)), .val (.int (1 : Int32))] [])) _
      refine XS.iconst X111.here hx rfl (hb hby at_211) ?_
      show Steps p.tables e below (T111.setTop (mkF m 212 #[.val (.int p1), .val (.ref b2), .val (.int (12 : Int32)), .val (.ref w_WAC_ALLOW), .val (.int (1 : Int32)), .val (.int (0 : Int32)), .val (.int (0 : Int32)), .val (.int (1 : Int32))] [(.int (1 : Int32))])) _
      refine XS.goto X111.here hx rfl (pc0 := 212) (pc' := 216) rfl (hb hby at_212) (by decide) (by decide) ?_
      show Steps p.tables e below (T111.setTop (mkF m 216 #[.val (.int p1), .val (.ref b2), .val (.int (12 : Int32)), .val (.ref w_WAC_ALLOW), .val (.int (1 : Int32)), .val (.int (0 : Int32)), .val (.int (0 : Int32)), .val (.int (1 : Int32))] [(.int (1 : Int32))])) _
      exact retN X111 hx (t := .boolean) Bd.returns (by simp) (hb hby at_216) hr
    · show Q0_0 Z p1 w_POD w_BASE w_RESOURCE w_AGENT w_CLIENT w_ISSUER w_OWNER w_CREATOR w_CREDENTIAL w_REQUESTS w_AGENTS w_STATS w_WAC_ALLOW w_METHOD w_CREATES w_REMOVES w_PORT w_VALUE w_FLAG w_REPEATED_VALUE h0 n0 _ T111.heap _
      rw [e111]
      exact ⟨rfl, N111⟩
  ·
    obtain ⟨cl112, Ar112, qq112, Sz112, Nn112, Hs112, Gs112⟩ := id pf1_0
    have hin112 : ¬ ((13 : Int32) < 0 ∨ cl112.slots.size ≤ ((13 : Int32)).toNatClampNeg) := inb_of Sz112 ⟨by decide, by decide⟩
    have hat112 : cl112.slots[((13 : Int32)).toNatClampNeg]? = some (.ref w_METHOD) := Has.at Hs112 hin112 rfl
    obtain ⟨cq113, kq113, q113a, q113b, q113c⟩ := isOf hZ e1 (E_METHOD.keep K1)
    obtain ⟨_, _, ⟨T113, L113, k113, n113⟩, -, X113, ⟨Lc113, hQ113, l113, y113, z113⟩, st113⟩ := X1.virtualBack hx (y := (⟨"com/example/garm/garm/command/Option", "takesValue", "()Z"⟩ : MethodName)) (z := (⟨"com/example/garm/garm/command/Option", "takesValue", "()Z"⟩ : MethodName)) hown (mvT hZ (hw _ (List.mem_of_getElem? (i := 39) rfl))) (mvT hZ (hw _ (List.mem_of_getElem? (i := 40) rfl))) (notFace_of_selects (args := #[]) (mvT hZ (hw _ (List.mem_of_getElem? (i := 42) rfl)))) (mvT hZ (hw _ (List.mem_of_getElem? (i := 42) rfl))) (mvT hZ (hw _ (List.mem_of_getElem? (i := 41) rfl))) (by decide) (backOf (W := 0) (rm1_13 l Z a0 hw [] w_METHOD w_VALUE w_FLAG h1 n0 (Nat.le_trans Z0 K1.1) (F_form_METHOD.keep K1 nin0) (own_staK S_FLAG K1 all0) ne_FLAG_VALUE) hZ (hw _ (List.mem_of_getElem? (i := 43) rfl)) (hw _ (List.mem_of_getElem? (i := 3) rfl)) (by decide) (by decide)) q113a q113c (g := (mkF m 175 #[.val (.int p1), .val (.ref b2), .val (.int (13 : Int32)), .val (.ref w_METHOD), .val (.int (0 : Int32)), .val (.int (1 : Int32)), .unset, .unset] [(.ref w_METHOD)])) rfl (by rw [hml]; rfl) (Steps.refl _) (argsL := []) (rest := []) (lenOf pd_0 rfl) rfl (by show 2 * 0 + _ ≤ _; exact Nat.le_of_eq rfl) (hb hby at_175) (fun _ _ => ⟨rfl, e1, (by decide : 1 + 0 ≤ _), (by decide : 17 + 0 ≤ _)⟩)
    dsimp only [Pt.U, Pt.locs, Pt.cells, Pt.slots] at X113 l113 y113 z113 st113 hQ113
    subst l113 y113 z113
    obtain ⟨rfl, N113q, e113⟩ := hQ113
    have N113 := Fr.app N1 N113q
    obtain ⟨cq114, kq114, q114a, q114b, q114c⟩ := isOf hZ e113 (E_METHOD.keep K1)
    obtain ⟨_, _, ⟨T114, L114, k114, n114⟩, -, X114, ⟨Lc114, hQ114, l114, y114, z114⟩, st114⟩ := X113.virtualBack hx (y := (⟨"com/example/garm/garm/command/Option", "isRepeatable", "()Z"⟩ : MethodName)) (z := (⟨"com/example/garm/garm/command/Option", "isRepeatable", "()Z"⟩ : MethodName)) hown (mvT hZ (hw _ (List.mem_of_getElem? (i := 50) rfl))) (mvT hZ (hw _ (List.mem_of_getElem? (i := 51) rfl))) (notFace_of_selects (args := #[]) (mvT hZ (hw _ (List.mem_of_getElem? (i := 53) rfl)))) (mvT hZ (hw _ (List.mem_of_getElem? (i := 53) rfl))) (mvT hZ (hw _ (List.mem_of_getElem? (i := 52) rfl))) (by decide) (backOf (W := 0) (rm2_13 l Z a0 hw [] w_METHOD w_VALUE w_REPEATED_VALUE h1 n0 (Nat.le_trans Z0 K1.1) (F_form_METHOD.keep K1 nin0) (own_staK S_REPEATED_VALUE K1 all0) ne_REPEATED_VALUE_VALUE) hZ (hw _ (List.mem_of_getElem? (i := 54) rfl)) (hw _ (List.mem_of_getElem? (i := 3) rfl)) (by decide) (by decide)) q114a q114c (g := (mkF m 181 #[.val (.int p1), .val (.ref b2), .val (.int (13 : Int32)), .val (.ref w_METHOD), .val (.int (0 : Int32)), .val (.int (1 : Int32)), .val (.int (1 : Int32)), .unset] [(.ref w_METHOD)])) rfl (by rw [hml]; rfl) (Steps.refl _) (argsL := []) (rest := []) (lenOf pd_0 rfl) rfl (by show 2 * 0 + _ ≤ _; exact Nat.le_of_eq rfl) (hb hby at_181) (fun _ _ => ⟨rfl, e113, (by decide : 1 + 0 ≤ _), (by decide : 17 + 0 ≤ _)⟩)
    dsimp only [Pt.U, Pt.locs, Pt.cells, Pt.slots] at X114 l114 y114 z114 st114 hQ114
    subst l114 y114 z114
    obtain ⟨rfl, N114q, e114⟩ := hQ114
    have N114 := Fr.app N113 N114q
    obtain ⟨fs, hr, hrun, hended, hW, hsame⟩ := X114.leave (v := some (.int (1 : Int32))) (fun h => by rw [Bd.returns] at h; cases h)
    refine ⟨_, _, k55 _ ?_, hrun, hended, _, _, rfl, ?_, ⟨_, rfl⟩, hW, hsame.mono (by decide) (by decide)⟩
    ·
      show Steps p.tables e below (T1.setTop (mkF m 126 #[.val (.int p1), .val (.ref b2), .unset, .unset, .unset, .unset, .unset, .unset] [(.int ((p1 &&& (2147483647 : Int32)) % (17 : Int32)))])) _
      rewrite [hk69_13]
      show Steps p.tables e below (T1.setTop (mkF m 126 #[.val (.int p1), .val (.ref b2), .unset, .unset, .unset, .unset, .unset, .unset] [(.int (13 : Int32))])) _
      refine XS.istoreN X1.here hx rfl (hb hby at_126) rfl (l' := #[.val (.int p1), .val (.ref b2), .val (.int (13 : Int32)), .unset, .unset, .unset, .unset, .unset]) rfl ?_
      show Steps p.tables e below (T1.setTop (mkF m 127 #[.val (.int p1), .val (.ref b2), .val (.int (13 : Int32)), .unset, .unset, .unset, .unset, .unset] [])) _
      refine XS.aloadN X1.here hx rfl (hb hby at_127) rfl rfl ?_
      show Steps p.tables e below (T1.setTop (mkF m 128 #[.val (.int p1), .val (.ref b2), .val (.int (13 : Int32)), .unset, .unset, .unset, .unset, .unset] [(.ref b2)])) _
      refine XS.iloadN X1.here hx rfl (hb hby at_128) rfl ?_
      show Steps p.tables e below (T1.setTop (mkF m 129 #[.val (.int p1), .val (.ref b2), .val (.int (13 : Int32)), .unset, .unset, .unset, .unset, .unset] [(.int (13 : Int32)), (.ref b2)])) _
      refine X1.aaload hx (j := (13 : Int32)) (v := (.ref w_METHOD)) (by rw [e1]; exact Ar112.1) (State.isArrayOf_alike hZ.alike Ar112.2.1) rfl Ar112.2.2 hin112 hat112 (g := (mkF m 129 #[.val (.int p1), .val (.ref b2), .val (.int (13 : Int32)), .unset, .unset, .unset, .unset, .unset] [(.int (13 : Int32)), (.ref b2)])) rfl rfl (hb hby at_129) _ ?_
      show Steps p.tables e below (T1.setTop (mkF m 130 #[.val (.int p1), .val (.ref b2), .val (.int (13 : Int32)), .unset, .unset, .unset, .unset, .unset] [(.ref w_METHOD)])) _
      refine XS.astoreN X1.here hx rfl (hb hby at_130) rfl rfl (l' := #[.val (.int p1), .val (.ref b2), .val (.int (13 : Int32)), .val (.ref w_METHOD), .unset, .unset, .unset, .unset]) rfl ?_
      show Steps p.tables e below (T1.setTop (mkF m 131 #[.val (.int p1), .val (.ref b2), .val (.int (13 : Int32)), .val (.ref w_METHOD), .unset, .unset, .unset, .unset] [])) _
      refine XS.iloadN X1.here hx rfl (hb hby at_131) rfl ?_
      show Steps p.tables e below (T1.setTop (mkF m 132 #[.val (.int p1), .val (.ref b2), .val (.int (13 : Int32)), .val (.ref w_METHOD), .unset, .unset, .unset, .unset] [(.int (13 : Int32))])) _
      refine XS.bipush X1.here hx rfl (hb hby at_132) ?_
      show Steps p.tables e below (T1.setTop (mkF m 134 #[.val (.int p1), .val (.ref b2), .val (.int (13 : Int32)), .val (.ref w_METHOD), .unset, .unset, .unset, .unset] [(.int (11 : Int32)), (.int (13 : Int32))])) _
      refine XS.icmpNo X1.here hx rfl (hb hby at_134) rfl (feq (by decide : ¬ ((13 : Int32) = (11 : Int32)))).1 ?_
      show Steps p.tables e below (T1.setTop (mkF m 137 #[.val (.int p1), .val (.ref b2), .val (.int (13 : Int32)), .val (.ref w_METHOD), .unset, .unset, .unset, .unset] [])) _
      refine XS.iloadN X1.here hx rfl (hb hby at_137) rfl ?_
      show Steps p.tables e below (T1.setTop (mkF m 138 #[.val (.int p1), .val (.ref b2), .val (.int (13 : Int32)), .val (.ref w_METHOD), .unset, .unset, .unset, .unset] [(.int (13 : Int32))])) _
      refine XS.bipush X1.here hx rfl (hb hby at_138) ?_
      show Steps p.tables e below (T1.setTop (mkF m 140 #[.val (.int p1), .val (.ref b2), .val (.int (13 : Int32)), .val (.ref w_METHOD), .unset, .unset, .unset, .unset] [(.int (12 : Int32)), (.int (13 : Int32))])) _
      refine XS.icmpNo X1.here hx rfl (hb hby at_140) rfl (feq (by decide : ¬ ((13 : Int32) = (12 : Int32)))).1 ?_
      show Steps p.tables e below (T1.setTop (mkF m 143 #[.val (.int p1), .val (.ref b2), .val (.int (13 : Int32)), .val (.ref w_METHOD), .unset, .unset, .unset, .unset] [])) _
      refine XS.iloadN X1.here hx rfl (hb hby at_143) rfl ?_
      show Steps p.tables e below (T1.setTop (mkF m 144 #[.val (.int p1), .val (.ref b2), .val (.int (13 : Int32)), .val (.ref w_METHOD), .unset, .unset, .unset, .unset] [(.int (13 : Int32))])) _
      refine XS.bipush X1.here hx rfl (hb hby at_144) ?_
      show Steps p.tables e below (T1.setTop (mkF m 146 #[.val (.int p1), .val (.ref b2), .val (.int (13 : Int32)), .val (.ref w_METHOD), .unset, .unset, .unset, .unset] [(.int (14 : Int32)), (.int (13 : Int32))])) _
      refine XS.icmpNo X1.here hx rfl (hb hby at_146) rfl (feq (by decide : ¬ ((13 : Int32) = (14 : Int32)))).1 ?_
      show Steps p.tables e below (T1.setTop (mkF m 149 #[.val (.int p1), .val (.ref b2), .val (.int (13 : Int32)), .val (.ref w_METHOD), .unset, .unset, .unset, .unset] [])) _
      refine XS.iloadN X1.here hx rfl (hb hby at_149) rfl ?_
      show Steps p.tables e below (T1.setTop (mkF m 150 #[.val (.int p1), .val (.ref b2), .val (.int (13 : Int32)), .val (.ref w_METHOD), .unset, .unset, .unset, .unset] [(.int (13 : Int32))])) _
      refine XS.bipush X1.here hx rfl (hb hby at_150) ?_
      show Steps p.tables e below (T1.setTop (mkF m 152 #[.val (.int p1), .val (.ref b2), .val (.int (13 : Int32)), .val (.ref w_METHOD), .unset, .unset, .unset, .unset] [(.int (15 : Int32)), (.int (13 : Int32))])) _
      refine XS.icmpYes X1.here hx rfl (pc0 := 152) (pc' := 159) rfl (hb hby at_152) rfl (feq (by decide : ¬ ((13 : Int32) = (15 : Int32)))).2 (by decide) (by decide) ?_
      show Steps p.tables e below (T1.setTop (mkF m 159 #[.val (.int p1), .val (.ref b2), .val (.int (13 : Int32)), .val (.ref w_METHOD), .unset, .unset, .unset, .unset] [])) _
      refine XS.iconst X1.here hx rfl (hb hby at_159) ?_
      show Steps p.tables e below (T1.setTop (mkF m 160 #[.val (.int p1), .val (.ref b2), .val (.int (13 : Int32)), .val (.ref w_METHOD), .unset, .unset, .unset, .unset] [(.int (0 : Int32))])) _
      refine XS.istore X1.here hx rfl (hb hby at_160) rfl (l' := #[.val (.int p1), .val (.ref b2), .val (.int (13 : Int32)), .val (.ref w_METHOD), .val (.int (0 : Int32)), .unset, .unset, .unset]) rfl ?_
      show Steps p.tables e below (T1.setTop (mkF m 162 #[.val (.int p1), .val (.ref b2), .val (.int (13 : Int32)), .val (.ref w_METHOD), .val (.int (0 : Int32)), .unset, .unset, .unset] [])) _
      refine XS.iload X1.here hx rfl (hb hby at_162) rfl ?_
      show Steps p.tables e below (T1.setTop (mkF m 164 #[.val (.int p1), .val (.ref b2), .val (.int (13 : Int32)), .val (.ref w_METHOD), .val (.int (0 : Int32)), .unset, .unset, .unset] [(.int (0 : Int32))])) _
      refine XS.ifNo X1.here hx rfl (hb hby at_164) rfl ((if0 _ _).trans (teq (by decide : (0 : Int32) = (0 : Int32))).2) ?_
      show Steps p.tables e below (T1.setTop (mkF m 167 #[.val (.int p1), .val (.ref b2), .val (.int (13 : Int32)), .val (.ref w_METHOD), .val (.int (0 : Int32)), .unset, .unset, .unset] [])) _
      refine XS.iconst X1.here hx rfl (hb hby at_167) ?_
      show Steps p.tables e below (T1.setTop (mkF m 168 #[.val (.int p1), .val (.ref b2), .val (.int (13 : Int32)), .val (.ref w_METHOD), .val (.int (0 : Int32)), .unset, .unset, .unset] [(.int (1 : Int32))])) _
      refine XS.goto X1.here hx rfl (pc0 := 168) (pc' := 172) rfl (hb hby at_168) (by decide) (by decide) ?_
      show Steps p.tables e below (T1.setTop (mkF m 172 #[.val (.int p1), .val (.ref b2), .val (.int (13 : Int32)), .val (.ref w_METHOD), .val (.int (0 : Int32)), .unset, .unset, .unset] [(.int (1 : Int32))])) _
      refine XS.istore X1.here hx rfl (hb hby at_172) rfl (l' := #[.val (.int p1), .val (.ref b2), .val (.int (13 : Int32)), .val (.ref w_METHOD), .val (.int (0 : Int32)), .val (.int (1 : Int32)), .unset, .unset]) rfl ?_
      show Steps p.tables e below (T1.setTop (mkF m 174 #[.val (.int p1), .val (.ref b2), .val (.int (13 : Int32)), .val (.ref w_METHOD), .val (.int (0 : Int32)), .val (.int (1 : Int32)), .unset, .unset] [])) _
      refine XS.aloadN X1.here hx rfl (hb hby at_174) rfl rfl ?_
      show Steps p.tables e below (T1.setTop (mkF m 175 #[.val (.int p1), .val (.ref b2), .val (.int (13 : Int32)), .val (.ref w_METHOD), .val (.int (0 : Int32)), .val (.int (1 : Int32)), .unset, .unset] [(.ref w_METHOD)])) _
      refine st113.trans ?_
      show Steps p.tables e below (T113.setTop (mkF m 178 #[.val (.int p1), .val (.ref b2), .val (.int (13 : Int32)), .val (.ref w_METHOD), .val (.int (0 : Int32)), .val (.int (1 : Int32)), .unset, .unset] [(.int (1 : Int32))])) _
      refine XS.istore X113.here hx rfl (hb hby at_178) rfl (l' := #[.val (.int p1), .val (.ref b2), .val (.int (13 : Int32)), .val (.ref w_METHOD), .val (.int (0 : Int32)), .val (.int (1 : Int32)), .val (.int (1 : Int32)), .unset]) rfl ?_
      show Steps p.tables e below (T113.setTop (mkF m 180 #[.val (.int p1), .val (.ref b2), .val (.int (13 : Int32)), .val (.ref w_METHOD), .val (.int (0 : Int32)), .val (.int (1 : Int32)), .val (.int (1 : Int32)), .unset] [])) _
      refine XS.aloadN X113.here hx rfl (hb hby at_180) rfl rfl ?_
      show Steps p.tables e below (T113.setTop (mkF m 181 #[.val (.int p1), .val (.ref b2), .val (.int (13 : Int32)), .val (.ref w_METHOD), .val (.int (0 : Int32)), .val (.int (1 : Int32)), .val (.int (1 : Int32)), .unset] [(.ref w_METHOD)])) _
      refine st114.trans ?_
      show Steps p.tables e below (T114.setTop (mkF m 184 #[.val (.int p1), .val (.ref b2), .val (.int (13 : Int32)), .val (.ref w_METHOD), .val (.int (0 : Int32)), .val (.int (1 : Int32)), .val (.int (1 : Int32)), .unset] [(.int (0 : Int32))])) _
      refine XS.ifYes X114.here hx rfl (pc0 := 184) (pc' := 192) rfl (hb hby at_184) rfl ((if0 _ _).trans (teq (by decide : (0 : Int32) = (0 : Int32))).1) (by decide) (by decide) ?_
      show Steps p.tables e below (T114.setTop (mkF m 192 #[.val (.int p1), .val (.ref b2), .val (.int (13 : Int32)), .val (.ref w_METHOD), .val (.int (0 : Int32)), .val (.int (1 : Int32)), .val (.int (1 : Int32)), .unset] [])) _
      refine XS.iconst X114.here hx rfl (hb hby at_192) ?_
      show Steps p.tables e below (T114.setTop (mkF m 193 #[.val (.int p1), .val (.ref b2), .val (.int (13 : Int32)), .val (.ref w_METHOD), .val (.int (0 : Int32)), .val (.int (1 : Int32)), .val (.int (1 : Int32)), .unset] [(.int (1 : Int32))])) _
      refine XS.goto X114.here hx rfl (pc0 := 193) (pc' := 197) rfl (hb hby at_193) (by decide) (by decide) ?_
      show Steps p.tables e below (T114.setTop (mkF m 197 #[.val (.int p1), .val (.ref b2), .val (.int (13 : Int32)), .val (.ref w_METHOD), .val (.int (0 : Int32)), .val (.int (1 : Int32)), .val (.int (1 : Int32)), .unset] [(.int (1 : Int32))])) _
      refine XS.istore X114.here hx rfl (hb hby at_197) rfl (l' := #[.val (.int p1), .val (.ref b2), .val (.int (13 : Int32)), .val (.ref w_METHOD), .val (.int (0 : Int32)), .val (.int (1 : Int32)), .val (.int (1 : Int32)), .val (.int (1 : Int32))]) rfl ?_
      show Steps p.tables e below (T114.setTop (mkF m 199 #[.val (.int p1), .val (.ref b2), .val (.int (13 : Int32)), .val (.ref w_METHOD), .val (.int (0 : Int32)), .val (.int (1 : Int32)), .val (.int (1 : Int32)), .val (.int (1 : Int32))] [])) _
      refine XS.iload X114.here hx rfl (hb hby at_199) rfl ?_
      show Steps p.tables e below (T114.setTop (mkF m 201 #[.val (.int p1), .val (.ref b2), .val (.int (13 : Int32)), .val (.ref w_METHOD), .val (.int (0 : Int32)), .val (.int (1 : Int32)), .val (.int (1 : Int32)), .val (.int (1 : Int32))] [(.int (1 : Int32))])) _
      refine XS.iload X114.here hx rfl (hb hby at_201) rfl ?_
      show Steps p.tables e below (T114.setTop (mkF m 203 #[.val (.int p1), .val (.ref b2), .val (.int (13 : Int32)), .val (.ref w_METHOD), .val (.int (0 : Int32)), .val (.int (1 : Int32)), .val (.int (1 : Int32)), .val (.int (1 : Int32))] [(.int (1 : Int32)), (.int (1 : Int32))])) _
      refine XS.icmpNo X114.here hx rfl (hb hby at_203) rfl (teq (by decide : (1 : Int32) = (1 : Int32))).2 ?_
      show Steps p.tables e below (T114.setTop (mkF m 206 #[.val (.int p1), .val (.ref b2), .val (.int (13 : Int32)), .val (.ref w_METHOD), .val (.int (0 : Int32)), .val (.int (1 : Int32)), .val (.int (1 : Int32)), .val (.int (1 : Int32))] [])) _
      refine XS.iload X114.here hx rfl (hb hby at_206) rfl ?_
      show Steps p.tables e below (T114.setTop (mkF m 208 #[.val (.int p1), .val (.ref b2), .val (.int (13 : Int32)), .val (.ref w_METHOD), .val (.int (0 : Int32)), .val (.int (1 : Int32)), .val (.int (1 : Int32)), .val (.int (1 : Int32))] [(.int (1 : Int32))])) _
      refine XS.ifNo X114.here hx rfl (hb hby at_208) rfl ((if0 _ _).trans (feq (by decide : ¬ ((1 : Int32) = (0 : Int32)))).1) ?_
      show Steps p.tables e below (T114.setTop (mkF m 211 #[.val (.int p1), .val (.ref b2), .val (.int (13 : Int32)), .val (.ref w_METHOD), .val (.int (0 : Int32)), .val (.int (1 : Int32)), .val (.int (1 : Int32)), .val (.int (1 : Int32))] [])) _
      refine XS.iconst X114.here hx rfl (hb hby at_211) ?_
      show Steps p.tables e below (T114.setTop (mkF m 212 #[.val (.int p1), .val (.ref b2), .val (.int (13 : Int32)), .val (.ref w_METHOD), .val (.int (0 : Int32)), .val (.int (1 : Int32)), .val (.int (1 : Int32)), .val (.int (1 : Int32))] [(.int (1 : Int32))])) _
      refine XS.goto X114.here hx rfl (pc0 := 212) (pc' := 216) rfl (hb hby at_212) (by decide) (by decide) ?_
      show Steps p.tables e below (T114.setTop (mkF m 216 #[.val (.int p1), .val (.ref b2), .val (.int (13 : Int32)), .val (.ref w_METHOD), .val (.int (0 : Int32)), .val (.int (1 : Int32)), .val (.int (1 : Int32)), .val (.int (1 : Int32))] [(.int (1 : Int32))])) _
      exact retN X114 hx (t := .boolean) Bd.returns (by simp) (hb hby at_216) hr
    · show Q0_0 Z p1 w_POD w_BASE w_RESOURCE w_AGENT w_CLIENT w_ISSUER w_OWNER w_CREATOR w_CREDENTIAL w_REQUESTS w_AGENTS w_STATS w_WAC_ALLOW w_METHOD w_CREATES w_REMOVES w_PORT w_VALUE w_FLAG w_REPEATED_VALUE h0 n0 _ T114.heap _
      rw [e114]
      exact ⟨rfl, N114⟩
  ·
    obtain ⟨cl115, Ar115, qq115, Sz115, Nn115, Hs115, Gs115⟩ := id pf1_0
    have hin115 : ¬ ((14 : Int32) < 0 ∨ cl115.slots.size ≤ ((14 : Int32)).toNatClampNeg) := inb_of Sz115 ⟨by decide, by decide⟩
    have hat115 : cl115.slots[((14 : Int32)).toNatClampNeg]? = some (.ref w_CREATES) := Has.at Hs115 hin115 rfl
    obtain ⟨cq116, kq116, q116a, q116b, q116c⟩ := isOf hZ e1 (E_CREATES.keep K1)
    obtain ⟨_, _, ⟨T116, L116, k116, n116⟩, -, X116, ⟨Lc116, hQ116, l116, y116, z116⟩, st116⟩ := X1.virtualBack hx (y := (⟨"com/example/garm/garm/command/Option", "takesValue", "()Z"⟩ : MethodName)) (z := (⟨"com/example/garm/garm/command/Option", "takesValue", "()Z"⟩ : MethodName)) hown (mvT hZ (hw _ (List.mem_of_getElem? (i := 39) rfl))) (mvT hZ (hw _ (List.mem_of_getElem? (i := 40) rfl))) (notFace_of_selects (args := #[]) (mvT hZ (hw _ (List.mem_of_getElem? (i := 42) rfl)))) (mvT hZ (hw _ (List.mem_of_getElem? (i := 42) rfl))) (mvT hZ (hw _ (List.mem_of_getElem? (i := 41) rfl))) (by decide) (backOf (W := 0) (rm1_14 l Z a0 hw [] w_CREATES w_FLAG h1 n0 (Nat.le_trans Z0 K1.1) (F_form_CREATES.keep K1 nin0) (own_staK S_FLAG K1 all0)) hZ (hw _ (List.mem_of_getElem? (i := 43) rfl)) (hw _ (List.mem_of_getElem? (i := 3) rfl)) (by decide) (by decide)) q116a q116c (g := (mkF m 175 #[.val (.int p1), .val (.ref b2), .val (.int (14 : Int32)), .val (.ref w_CREATES), .val (.int (1 : Int32)), .val (.int (0 : Int32)), .unset, .unset] [(.ref w_CREATES)])) rfl (by rw [hml]; rfl) (Steps.refl _) (argsL := []) (rest := []) (lenOf pd_0 rfl) rfl (by show 2 * 0 + _ ≤ _; exact Nat.le_of_eq rfl) (hb hby at_175) (fun _ _ => ⟨rfl, e1, (by decide : 1 + 0 ≤ _), (by decide : 17 + 0 ≤ _)⟩)
    dsimp only [Pt.U, Pt.locs, Pt.cells, Pt.slots] at X116 l116 y116 z116 st116 hQ116
    subst l116 y116 z116
    obtain ⟨rfl, N116q, e116⟩ := hQ116
    have N116 := Fr.app N1 N116q
    obtain ⟨cq117, kq117, q117a, q117b, q117c⟩ := isOf hZ e116 (E_CREATES.keep K1)
    obtain ⟨_, _, ⟨T117, L117, k117, n117⟩, -, X117, ⟨Lc117, hQ117, l117, y117, z117⟩, st117⟩ := X116.virtualBack hx (y := (⟨"com/example/garm/garm/command/Option", "isRepeatable", "()Z"⟩ : MethodName)) (z := (⟨"com/example/garm/garm/command/Option", "isRepeatable", "()Z"⟩ : MethodName)) hown (mvT hZ (hw _ (List.mem_of_getElem? (i := 50) rfl))) (mvT hZ (hw _ (List.mem_of_getElem? (i := 51) rfl))) (notFace_of_selects (args := #[]) (mvT hZ (hw _ (List.mem_of_getElem? (i := 53) rfl)))) (mvT hZ (hw _ (List.mem_of_getElem? (i := 53) rfl))) (mvT hZ (hw _ (List.mem_of_getElem? (i := 52) rfl))) (by decide) (backOf (W := 0) (rm2_14 l Z a0 hw [] w_CREATES w_FLAG w_REPEATED_VALUE h1 n0 (Nat.le_trans Z0 K1.1) (F_form_CREATES.keep K1 nin0) (own_staK S_REPEATED_VALUE K1 all0) ne_FLAG_REPEATED_VALUE) hZ (hw _ (List.mem_of_getElem? (i := 54) rfl)) (hw _ (List.mem_of_getElem? (i := 3) rfl)) (by decide) (by decide)) q117a q117c (g := (mkF m 181 #[.val (.int p1), .val (.ref b2), .val (.int (14 : Int32)), .val (.ref w_CREATES), .val (.int (1 : Int32)), .val (.int (0 : Int32)), .val (.int (0 : Int32)), .unset] [(.ref w_CREATES)])) rfl (by rw [hml]; rfl) (Steps.refl _) (argsL := []) (rest := []) (lenOf pd_0 rfl) rfl (by show 2 * 0 + _ ≤ _; exact Nat.le_of_eq rfl) (hb hby at_181) (fun _ _ => ⟨rfl, e116, (by decide : 1 + 0 ≤ _), (by decide : 17 + 0 ≤ _)⟩)
    dsimp only [Pt.U, Pt.locs, Pt.cells, Pt.slots] at X117 l117 y117 z117 st117 hQ117
    subst l117 y117 z117
    obtain ⟨rfl, N117q, e117⟩ := hQ117
    have N117 := Fr.app N116 N117q
    obtain ⟨fs, hr, hrun, hended, hW, hsame⟩ := X117.leave (v := some (.int (1 : Int32))) (fun h => by rw [Bd.returns] at h; cases h)
    refine ⟨_, _, k55 _ ?_, hrun, hended, _, _, rfl, ?_, ⟨_, rfl⟩, hW, hsame.mono (by decide) (by decide)⟩
    ·
      show Steps p.tables e below (T1.setTop (mkF m 126 #[.val (.int p1), .val (.ref b2), .unset, .unset, .unset, .unset, .unset, .unset] [(.int ((p1 &&& (2147483647 : Int32)) % (17 : Int32)))])) _
      rewrite [hk70_14]
      show Steps p.tables e below (T1.setTop (mkF m 126 #[.val (.int p1), .val (.ref b2), .unset, .unset, .unset, .unset, .unset, .unset] [(.int (14 : Int32))])) _
      refine XS.istoreN X1.here hx rfl (hb hby at_126) rfl (l' := #[.val (.int p1), .val (.ref b2), .val (.int (14 : Int32)), .unset, .unset, .unset, .unset, .unset]) rfl ?_
      show Steps p.tables e below (T1.setTop (mkF m 127 #[.val (.int p1), .val (.ref b2), .val (.int (14 : Int32)), .unset, .unset, .unset, .unset, .unset] [])) _
      refine XS.aloadN X1.here hx rfl (hb hby at_127) rfl rfl ?_
      show Steps p.tables e below (T1.setTop (mkF m 128 #[.val (.int p1), .val (.ref b2), .val (.int (14 : Int32)), .unset, .unset, .unset, .unset, .unset] [(.ref b2)])) _
      refine XS.iloadN X1.here hx rfl (hb hby at_128) rfl ?_
      show Steps p.tables e below (T1.setTop (mkF m 129 #[.val (.int p1), .val (.ref b2), .val (.int (14 : Int32)), .unset, .unset, .unset, .unset, .unset] [(.int (14 : Int32)), (.ref b2)])) _
      refine X1.aaload hx (j := (14 : Int32)) (v := (.ref w_CREATES)) (by rw [e1]; exact Ar115.1) (State.isArrayOf_alike hZ.alike Ar115.2.1) rfl Ar115.2.2 hin115 hat115 (g := (mkF m 129 #[.val (.int p1), .val (.ref b2), .val (.int (14 : Int32)), .unset, .unset, .unset, .unset, .unset] [(.int (14 : Int32)), (.ref b2)])) rfl rfl (hb hby at_129) _ ?_
      show Steps p.tables e below (T1.setTop (mkF m 130 #[.val (.int p1), .val (.ref b2), .val (.int (14 : Int32)), .unset, .unset, .unset, .unset, .unset] [(.ref w_CREATES)])) _
      refine XS.astoreN X1.here hx rfl (hb hby at_130) rfl rfl (l' := #[.val (.int p1), .val (.ref b2), .val (.int (14 : Int32)), .val (.ref w_CREATES), .unset, .unset, .unset, .unset]) rfl ?_
      show Steps p.tables e below (T1.setTop (mkF m 131 #[.val (.int p1), .val (.ref b2), .val (.int (14 : Int32)), .val (.ref w_CREATES), .unset, .unset, .unset, .unset] [])) _
      refine XS.iloadN X1.here hx rfl (hb hby at_131) rfl ?_
      show Steps p.tables e below (T1.setTop (mkF m 132 #[.val (.int p1), .val (.ref b2), .val (.int (14 : Int32)), .val (.ref w_CREATES), .unset, .unset, .unset, .unset] [(.int (14 : Int32))])) _
      refine XS.bipush X1.here hx rfl (hb hby at_132) ?_
      show Steps p.tables e below (T1.setTop (mkF m 134 #[.val (.int p1), .val (.ref b2), .val (.int (14 : Int32)), .val (.ref w_CREATES), .unset, .unset, .unset, .unset] [(.int (11 : Int32)), (.int (14 : Int32))])) _
      refine XS.icmpNo X1.here hx rfl (hb hby at_134) rfl (feq (by decide : ¬ ((14 : Int32) = (11 : Int32)))).1 ?_
      show Steps p.tables e below (T1.setTop (mkF m 137 #[.val (.int p1), .val (.ref b2), .val (.int (14 : Int32)), .val (.ref w_CREATES), .unset, .unset, .unset, .unset] [])) _
      refine XS.iloadN X1.here hx rfl (hb hby at_137) rfl ?_
      show Steps p.tables e below (T1.setTop (mkF m 138 #[.val (.int p1), .val (.ref b2), .val (.int (14 : Int32)), .val (.ref w_CREATES), .unset, .unset, .unset, .unset] [(.int (14 : Int32))])) _
      refine XS.bipush X1.here hx rfl (hb hby at_138) ?_
      show Steps p.tables e below (T1.setTop (mkF m 140 #[.val (.int p1), .val (.ref b2), .val (.int (14 : Int32)), .val (.ref w_CREATES), .unset, .unset, .unset, .unset] [(.int (12 : Int32)), (.int (14 : Int32))])) _
      refine XS.icmpNo X1.here hx rfl (hb hby at_140) rfl (feq (by decide : ¬ ((14 : Int32) = (12 : Int32)))).1 ?_
      show Steps p.tables e below (T1.setTop (mkF m 143 #[.val (.int p1), .val (.ref b2), .val (.int (14 : Int32)), .val (.ref w_CREATES), .unset, .unset, .unset, .unset] [])) _
      refine XS.iloadN X1.here hx rfl (hb hby at_143) rfl ?_
      show Steps p.tables e below (T1.setTop (mkF m 144 #[.val (.int p1), .val (.ref b2), .val (.int (14 : Int32)), .val (.ref w_CREATES), .unset, .unset, .unset, .unset] [(.int (14 : Int32))])) _
      refine XS.bipush X1.here hx rfl (hb hby at_144) ?_
      show Steps p.tables e below (T1.setTop (mkF m 146 #[.val (.int p1), .val (.ref b2), .val (.int (14 : Int32)), .val (.ref w_CREATES), .unset, .unset, .unset, .unset] [(.int (14 : Int32)), (.int (14 : Int32))])) _
      refine XS.icmpYes X1.here hx rfl (pc0 := 146) (pc' := 155) rfl (hb hby at_146) rfl (teq (by decide : (14 : Int32) = (14 : Int32))).1 (by decide) (by decide) ?_
      show Steps p.tables e below (T1.setTop (mkF m 155 #[.val (.int p1), .val (.ref b2), .val (.int (14 : Int32)), .val (.ref w_CREATES), .unset, .unset, .unset, .unset] [])) _
      refine XS.iconst X1.here hx rfl (hb hby at_155) ?_
      show Steps p.tables e below (T1.setTop (mkF m 156 #[.val (.int p1), .val (.ref b2), .val (.int (14 : Int32)), .val (.ref w_CREATES), .unset, .unset, .unset, .unset] [(.int (1 : Int32))])) _
      refine XS.goto X1.here hx rfl (pc0 := 156) (pc' := 160) rfl (hb hby at_156) (by decide) (by decide) ?_
      show Steps p.tables e below (T1.setTop (mkF m 160 #[.val (.int p1), .val (.ref b2), .val (.int (14 : Int32)), .val (.ref w_CREATES), .unset, .unset, .unset, .unset] [(.int (1 : Int32))])) _
      refine XS.istore X1.here hx rfl (hb hby at_160) rfl (l' := #[.val (.int p1), .val (.ref b2), .val (.int (14 : Int32)), .val (.ref w_CREATES), .val (.int (1 : Int32)), .unset, .unset, .unset]) rfl ?_
      show Steps p.tables e below (T1.setTop (mkF m 162 #[.val (.int p1), .val (.ref b2), .val (.int (14 : Int32)), .val (.ref w_CREATES), .val (.int (1 : Int32)), .unset, .unset, .unset] [])) _
      refine XS.iload X1.here hx rfl (hb hby at_162) rfl ?_
      show Steps p.tables e below (T1.setTop (mkF m 164 #[.val (.int p1), .val (.ref b2), .val (.int (14 : Int32)), .val (.ref w_CREATES), .val (.int (1 : Int32)), .unset, .unset, .unset] [(.int (1 : Int32))])) _
      refine XS.ifYes X1.here hx rfl (pc0 := 164) (pc' := 171) rfl (hb hby at_164) rfl ((if0 _ _).trans (feq (by decide : ¬ ((1 : Int32) = (0 : Int32)))).2) (by decide) (by decide) ?_
      show Steps p.tables e below (T1.setTop (mkF m 171 #[.val (.int p1), .val (.ref b2), .val (.int (14 : Int32)), .val (.ref w_CREATES), .val (.int (1 : Int32)), .unset, .unset, .unset] [])) _
      refine XS.iconst X1.here hx rfl (hb hby at_171) ?_
      show Steps p.tables e below (T1.setTop (mkF m 172 #[.val (.int p1), .val (.ref b2), .val (.int (14 : Int32)), .val (.ref w_CREATES), .val (.int (1 : Int32)), .unset, .unset, .unset] [(.int (0 : Int32))])) _
      refine XS.istore X1.here hx rfl (hb hby at_172) rfl (l' := #[.val (.int p1), .val (.ref b2), .val (.int (14 : Int32)), .val (.ref w_CREATES), .val (.int (1 : Int32)), .val (.int (0 : Int32)), .unset, .unset]) rfl ?_
      show Steps p.tables e below (T1.setTop (mkF m 174 #[.val (.int p1), .val (.ref b2), .val (.int (14 : Int32)), .val (.ref w_CREATES), .val (.int (1 : Int32)), .val (.int (0 : Int32)), .unset, .unset] [])) _
      refine XS.aloadN X1.here hx rfl (hb hby at_174) rfl rfl ?_
      show Steps p.tables e below (T1.setTop (mkF m 175 #[.val (.int p1), .val (.ref b2), .val (.int (14 : Int32)), .val (.ref w_CREATES), .val (.int (1 : Int32)), .val (.int (0 : Int32)), .unset, .unset] [(.ref w_CREATES)])) _
      refine st116.trans ?_
      show Steps p.tables e below (T116.setTop (mkF m 178 #[.val (.int p1), .val (.ref b2), .val (.int (14 : Int32)), .val (.ref w_CREATES), .val (.int (1 : Int32)), .val (.int (0 : Int32)), .unset, .unset] [(.int (0 : Int32))])) _
      refine XS.istore X116.here hx rfl (hb hby at_178) rfl (l' := #[.val (.int p1), .val (.ref b2), .val (.int (14 : Int32)), .val (.ref w_CREATES), .val (.int (1 : Int32)), .val (.int (0 : Int32)), .val (.int (0 : Int32)), .unset]) rfl ?_
      show Steps p.tables e below (T116.setTop (mkF m 180 #[.val (.int p1), .val (.ref b2), .val (.int (14 : Int32)), .val (.ref w_CREATES), .val (.int (1 : Int32)), .val (.int (0 : Int32)), .val (.int (0 : Int32)), .unset] [])) _
      refine XS.aloadN X116.here hx rfl (hb hby at_180) rfl rfl ?_
      show Steps p.tables e below (T116.setTop (mkF m 181 #[.val (.int p1), .val (.ref b2), .val (.int (14 : Int32)), .val (.ref w_CREATES), .val (.int (1 : Int32)), .val (.int (0 : Int32)), .val (.int (0 : Int32)), .unset] [(.ref w_CREATES)])) _
      refine st117.trans ?_
      show Steps p.tables e below (T117.setTop (mkF m 184 #[.val (.int p1), .val (.ref b2), .val (.int (14 : Int32)), .val (.ref w_CREATES), .val (.int (1 : Int32)), .val (.int (0 : Int32)), .val (.int (0 : Int32)), .unset] [(.int (0 : Int32))])) _
      refine XS.ifYes X117.here hx rfl (pc0 := 184) (pc' := 192) rfl (hb hby at_184) rfl ((if0 _ _).trans (teq (by decide : (0 : Int32) = (0 : Int32))).1) (by decide) (by decide) ?_
      show Steps p.tables e below (T117.setTop (mkF m 192 #[.val (.int p1), .val (.ref b2), .val (.int (14 : Int32)), .val (.ref w_CREATES), .val (.int (1 : Int32)), .val (.int (0 : Int32)), .val (.int (0 : Int32)), .unset] [])) _
      refine XS.iconst X117.here hx rfl (hb hby at_192) ?_
      show Steps p.tables e below (T117.setTop (mkF m 193 #[.val (.int p1), .val (.ref b2), .val (.int (14 : Int32)), .val (.ref w_CREATES), .val (.int (1 : Int32)), .val (.int (0 : Int32)), .val (.int (0 : Int32)), .unset] [(.int (1 : Int32))])) _
      refine XS.goto X117.here hx rfl (pc0 := 193) (pc' := 197) rfl (hb hby at_193) (by decide) (by decide) ?_
      show Steps p.tables e below (T117.setTop (mkF m 197 #[.val (.int p1), .val (.ref b2), .val (.int (14 : Int32)), .val (.ref w_CREATES), .val (.int (1 : Int32)), .val (.int (0 : Int32)), .val (.int (0 : Int32)), .unset] [(.int (1 : Int32))])) _
      refine XS.istore X117.here hx rfl (hb hby at_197) rfl (l' := #[.val (.int p1), .val (.ref b2), .val (.int (14 : Int32)), .val (.ref w_CREATES), .val (.int (1 : Int32)), .val (.int (0 : Int32)), .val (.int (0 : Int32)), .val (.int (1 : Int32))]) rfl ?_
      show Steps p.tables e below (T117.setTop (mkF m 199 #[.val (.int p1), .val (.ref b2), .val (.int (14 : Int32)), .val (.ref w_CREATES), .val (.int (1 : Int32)), .val (.int (0 : Int32)), .val (.int (0 : Int32)), .val (.int (1 : Int32))] [])) _
      refine XS.iload X117.here hx rfl (hb hby at_199) rfl ?_
      show Steps p.tables e below (T117.setTop (mkF m 201 #[.val (.int p1), .val (.ref b2), .val (.int (14 : Int32)), .val (.ref w_CREATES), .val (.int (1 : Int32)), .val (.int (0 : Int32)), .val (.int (0 : Int32)), .val (.int (1 : Int32))] [(.int (0 : Int32))])) _
      refine XS.iload X117.here hx rfl (hb hby at_201) rfl ?_
      show Steps p.tables e below (T117.setTop (mkF m 203 #[.val (.int p1), .val (.ref b2), .val (.int (14 : Int32)), .val (.ref w_CREATES), .val (.int (1 : Int32)), .val (.int (0 : Int32)), .val (.int (0 : Int32)), .val (.int (1 : Int32))] [(.int (0 : Int32)), (.int (0 : Int32))])) _
      refine XS.icmpNo X117.here hx rfl (hb hby at_203) rfl (teq (by decide : (0 : Int32) = (0 : Int32))).2 ?_
      show Steps p.tables e below (T117.setTop (mkF m 206 #[.val (.int p1), .val (.ref b2), .val (.int (14 : Int32)), .val (.ref w_CREATES), .val (.int (1 : Int32)), .val (.int (0 : Int32)), .val (.int (0 : Int32)), .val (.int (1 : Int32))] [])) _
      refine XS.iload X117.here hx rfl (hb hby at_206) rfl ?_
      show Steps p.tables e below (T117.setTop (mkF m 208 #[.val (.int p1), .val (.ref b2), .val (.int (14 : Int32)), .val (.ref w_CREATES), .val (.int (1 : Int32)), .val (.int (0 : Int32)), .val (.int (0 : Int32)), .val (.int (1 : Int32))] [(.int (1 : Int32))])) _
      refine XS.ifNo X117.here hx rfl (hb hby at_208) rfl ((if0 _ _).trans (feq (by decide : ¬ ((1 : Int32) = (0 : Int32)))).1) ?_
      show Steps p.tables e below (T117.setTop (mkF m 211 #[.val (.int p1), .val (.ref b2), .val (.int (14 : Int32)), .val (.ref w_CREATES), .val (.int (1 : Int32)), .val (.int (0 : Int32)), .val (.int (0 : Int32)), .val (.int (1 : Int32))] [])) _
      refine XS.iconst X117.here hx rfl (hb hby at_211) ?_
      show Steps p.tables e below (T117.setTop (mkF m 212 #[.val (.int p1), .val (.ref b2), .val (.int (14 : Int32)), .val (.ref w_CREATES), .val (.int (1 : Int32)), .val (.int (0 : Int32)), .val (.int (0 : Int32)), .val (.int (1 : Int32))] [(.int (1 : Int32))])) _
      refine XS.goto X117.here hx rfl (pc0 := 212) (pc' := 216) rfl (hb hby at_212) (by decide) (by decide) ?_
      show Steps p.tables e below (T117.setTop (mkF m 216 #[.val (.int p1), .val (.ref b2), .val (.int (14 : Int32)), .val (.ref w_CREATES), .val (.int (1 : Int32)), .val (.int (0 : Int32)), .val (.int (0 : Int32)), .val (.int (1 : Int32))] [(.int (1 : Int32))])) _
      exact retN X117 hx (t := .boolean) Bd.returns (by simp) (hb hby at_216) hr
    · show Q0_0 Z p1 w_POD w_BASE w_RESOURCE w_AGENT w_CLIENT w_ISSUER w_OWNER w_CREATOR w_CREDENTIAL w_REQUESTS w_AGENTS w_STATS w_WAC_ALLOW w_METHOD w_CREATES w_REMOVES w_PORT w_VALUE w_FLAG w_REPEATED_VALUE h0 n0 _ T117.heap _
      rw [e117]
      exact ⟨rfl, N117⟩
  ·
    obtain ⟨cl118, Ar118, qq118, Sz118, Nn118, Hs118, Gs118⟩ := id pf1_0
    have hin118 : ¬ ((15 : Int32) < 0 ∨ cl118.slots.size ≤ ((15 : Int32)).toNatClampNeg) := inb_of Sz118 ⟨by decide, by decide⟩
    have hat118 : cl118.slots[((15 : Int32)).toNatClampNeg]? = some (.ref w_REMOVES) := Has.at Hs118 hin118 rfl
    obtain ⟨cq119, kq119, q119a, q119b, q119c⟩ := isOf hZ e1 (E_REMOVES.keep K1)
    obtain ⟨_, _, ⟨T119, L119, k119, n119⟩, -, X119, ⟨Lc119, hQ119, l119, y119, z119⟩, st119⟩ := X1.virtualBack hx (y := (⟨"com/example/garm/garm/command/Option", "takesValue", "()Z"⟩ : MethodName)) (z := (⟨"com/example/garm/garm/command/Option", "takesValue", "()Z"⟩ : MethodName)) hown (mvT hZ (hw _ (List.mem_of_getElem? (i := 39) rfl))) (mvT hZ (hw _ (List.mem_of_getElem? (i := 40) rfl))) (notFace_of_selects (args := #[]) (mvT hZ (hw _ (List.mem_of_getElem? (i := 42) rfl)))) (mvT hZ (hw _ (List.mem_of_getElem? (i := 42) rfl))) (mvT hZ (hw _ (List.mem_of_getElem? (i := 41) rfl))) (by decide) (backOf (W := 0) (rm1_15 l Z a0 hw [] w_REMOVES w_FLAG h1 n0 (Nat.le_trans Z0 K1.1) (F_form_REMOVES.keep K1 nin0) (own_staK S_FLAG K1 all0)) hZ (hw _ (List.mem_of_getElem? (i := 43) rfl)) (hw _ (List.mem_of_getElem? (i := 3) rfl)) (by decide) (by decide)) q119a q119c (g := (mkF m 175 #[.val (.int p1), .val (.ref b2), .val (.int (15 : Int32)), .val (.ref w_REMOVES), .val (.int (1 : Int32)), .val (.int (0 : Int32)), .unset, .unset] [(.ref w_REMOVES)])) rfl (by rw [hml]; rfl) (Steps.refl _) (argsL := []) (rest := []) (lenOf pd_0 rfl) rfl (by show 2 * 0 + _ ≤ _; exact Nat.le_of_eq rfl) (hb hby at_175) (fun _ _ => ⟨rfl, e1, (by decide : 1 + 0 ≤ _), (by decide : 17 + 0 ≤ _)⟩)
    dsimp only [Pt.U, Pt.locs, Pt.cells, Pt.slots] at X119 l119 y119 z119 st119 hQ119
    subst l119 y119 z119
    obtain ⟨rfl, N119q, e119⟩ := hQ119
    have N119 := Fr.app N1 N119q
    obtain ⟨cq120, kq120, q120a, q120b, q120c⟩ := isOf hZ e119 (E_REMOVES.keep K1)
    obtain ⟨_, _, ⟨T120, L120, k120, n120⟩, -, X120, ⟨Lc120, hQ120, l120, y120, z120⟩, st120⟩ := X119.virtualBack hx (y := (⟨"com/example/garm/garm/command/Option", "isRepeatable", "()Z"⟩ : MethodName)) (z := (⟨"com/example/garm/garm/command/Option", "isRepeatable", "()Z"⟩ : MethodName)) hown (mvT hZ (hw _ (List.mem_of_getElem? (i := 50) rfl))) (mvT hZ (hw _ (List.mem_of_getElem? (i := 51) rfl))) (notFace_of_selects (args := #[]) (mvT hZ (hw _ (List.mem_of_getElem? (i := 53) rfl)))) (mvT hZ (hw _ (List.mem_of_getElem? (i := 53) rfl))) (mvT hZ (hw _ (List.mem_of_getElem? (i := 52) rfl))) (by decide) (backOf (W := 0) (rm2_15 l Z a0 hw [] w_REMOVES w_FLAG w_REPEATED_VALUE h1 n0 (Nat.le_trans Z0 K1.1) (F_form_REMOVES.keep K1 nin0) (own_staK S_REPEATED_VALUE K1 all0) ne_FLAG_REPEATED_VALUE) hZ (hw _ (List.mem_of_getElem? (i := 54) rfl)) (hw _ (List.mem_of_getElem? (i := 3) rfl)) (by decide) (by decide)) q120a q120c (g := (mkF m 181 #[.val (.int p1), .val (.ref b2), .val (.int (15 : Int32)), .val (.ref w_REMOVES), .val (.int (1 : Int32)), .val (.int (0 : Int32)), .val (.int (0 : Int32)), .unset] [(.ref w_REMOVES)])) rfl (by rw [hml]; rfl) (Steps.refl _) (argsL := []) (rest := []) (lenOf pd_0 rfl) rfl (by show 2 * 0 + _ ≤ _; exact Nat.le_of_eq rfl) (hb hby at_181) (fun _ _ => ⟨rfl, e119, (by decide : 1 + 0 ≤ _), (by decide : 17 + 0 ≤ _)⟩)
    dsimp only [Pt.U, Pt.locs, Pt.cells, Pt.slots] at X120 l120 y120 z120 st120 hQ120
    subst l120 y120 z120
    obtain ⟨rfl, N120q, e120⟩ := hQ120
    have N120 := Fr.app N119 N120q
    obtain ⟨fs, hr, hrun, hended, hW, hsame⟩ := X120.leave (v := some (.int (1 : Int32))) (fun h => by rw [Bd.returns] at h; cases h)
    refine ⟨_, _, k55 _ ?_, hrun, hended, _, _, rfl, ?_, ⟨_, rfl⟩, hW, hsame.mono (by decide) (by decide)⟩
    ·
      show Steps p.tables e below (T1.setTop (mkF m 126 #[.val (.int p1), .val (.ref b2), .unset, .unset, .unset, .unset, .unset, .unset] [(.int ((p1 &&& (2147483647 : Int32)) % (17 : Int32)))])) _
      rewrite [hk71_15]
      show Steps p.tables e below (T1.setTop (mkF m 126 #[.val (.int p1), .val (.ref b2), .unset, .unset, .unset, .unset, .unset, .unset] [(.int (15 : Int32))])) _
      refine XS.istoreN X1.here hx rfl (hb hby at_126) rfl (l' := #[.val (.int p1), .val (.ref b2), .val (.int (15 : Int32)), .unset, .unset, .unset, .unset, .unset]) rfl ?_
      show Steps p.tables e below (T1.setTop (mkF m 127 #[.val (.int p1), .val (.ref b2), .val (.int (15 : Int32)), .unset, .unset, .unset, .unset, .unset] [])) _
      refine XS.aloadN X1.here hx rfl (hb hby at_127) rfl rfl ?_
      show Steps p.tables e below (T1.setTop (mkF m 128 #[.val (.int p1), .val (.ref b2), .val (.int (15 : Int32)), .unset, .unset, .unset, .unset, .unset] [(.ref b2)])) _
      refine XS.iloadN X1.here hx rfl (hb hby at_128) rfl ?_
      show Steps p.tables e below (T1.setTop (mkF m 129 #[.val (.int p1), .val (.ref b2), .val (.int (15 : Int32)), .unset, .unset, .unset, .unset, .unset] [(.int (15 : Int32)), (.ref b2)])) _
      refine X1.aaload hx (j := (15 : Int32)) (v := (.ref w_REMOVES)) (by rw [e1]; exact Ar118.1) (State.isArrayOf_alike hZ.alike Ar118.2.1) rfl Ar118.2.2 hin118 hat118 (g := (mkF m 129 #[.val (.int p1), .val (.ref b2), .val (.int (15 : Int32)), .unset, .unset, .unset, .unset, .unset] [(.int (15 : Int32)), (.ref b2)])) rfl rfl (hb hby at_129) _ ?_
      show Steps p.tables e below (T1.setTop (mkF m 130 #[.val (.int p1), .val (.ref b2), .val (.int (15 : Int32)), .unset, .unset, .unset, .unset, .unset] [(.ref w_REMOVES)])) _
      refine XS.astoreN X1.here hx rfl (hb hby at_130) rfl rfl (l' := #[.val (.int p1), .val (.ref b2), .val (.int (15 : Int32)), .val (.ref w_REMOVES), .unset, .unset, .unset, .unset]) rfl ?_
      show Steps p.tables e below (T1.setTop (mkF m 131 #[.val (.int p1), .val (.ref b2), .val (.int (15 : Int32)), .val (.ref w_REMOVES), .unset, .unset, .unset, .unset] [])) _
      refine XS.iloadN X1.here hx rfl (hb hby at_131) rfl ?_
      show Steps p.tables e below (T1.setTop (mkF m 132 #[.val (.int p1), .val (.ref b2), .val (.int (15 : Int32)), .val (.ref w_REMOVES), .unset, .unset, .unset, .unset] [(.int (15 : Int32))])) _
      refine XS.bipush X1.here hx rfl (hb hby at_132) ?_
      show Steps p.tables e below (T1.setTop (mkF m 134 #[.val (.int p1), .val (.ref b2), .val (.int (15 : Int32)), .val (.ref w_REMOVES), .unset, .unset, .unset, .unset] [(.int (11 : Int32)), (.int (15 : Int32))])) _
      refine XS.icmpNo X1.here hx rfl (hb hby at_134) rfl (feq (by decide : ¬ ((15 : Int32) = (11 : Int32)))).1 ?_
      show Steps p.tables e below (T1.setTop (mkF m 137 #[.val (.int p1), .val (.ref b2), .val (.int (15 : Int32)), .val (.ref w_REMOVES), .unset, .unset, .unset, .unset] [])) _
      refine XS.iloadN X1.here hx rfl (hb hby at_137) rfl ?_
      show Steps p.tables e below (T1.setTop (mkF m 138 #[.val (.int p1), .val (.ref b2), .val (.int (15 : Int32)), .val (.ref w_REMOVES), .unset, .unset, .unset, .unset] [(.int (15 : Int32))])) _
      refine XS.bipush X1.here hx rfl (hb hby at_138) ?_
      show Steps p.tables e below (T1.setTop (mkF m 140 #[.val (.int p1), .val (.ref b2), .val (.int (15 : Int32)), .val (.ref w_REMOVES), .unset, .unset, .unset, .unset] [(.int (12 : Int32)), (.int (15 : Int32))])) _
      refine XS.icmpNo X1.here hx rfl (hb hby at_140) rfl (feq (by decide : ¬ ((15 : Int32) = (12 : Int32)))).1 ?_
      show Steps p.tables e below (T1.setTop (mkF m 143 #[.val (.int p1), .val (.ref b2), .val (.int (15 : Int32)), .val (.ref w_REMOVES), .unset, .unset, .unset, .unset] [])) _
      refine XS.iloadN X1.here hx rfl (hb hby at_143) rfl ?_
      show Steps p.tables e below (T1.setTop (mkF m 144 #[.val (.int p1), .val (.ref b2), .val (.int (15 : Int32)), .val (.ref w_REMOVES), .unset, .unset, .unset, .unset] [(.int (15 : Int32))])) _
      refine XS.bipush X1.here hx rfl (hb hby at_144) ?_
      show Steps p.tables e below (T1.setTop (mkF m 146 #[.val (.int p1), .val (.ref b2), .val (.int (15 : Int32)), .val (.ref w_REMOVES), .unset, .unset, .unset, .unset] [(.int (14 : Int32)), (.int (15 : Int32))])) _
      refine XS.icmpNo X1.here hx rfl (hb hby at_146) rfl (feq (by decide : ¬ ((15 : Int32) = (14 : Int32)))).1 ?_
      show Steps p.tables e below (T1.setTop (mkF m 149 #[.val (.int p1), .val (.ref b2), .val (.int (15 : Int32)), .val (.ref w_REMOVES), .unset, .unset, .unset, .unset] [])) _
      refine XS.iloadN X1.here hx rfl (hb hby at_149) rfl ?_
      show Steps p.tables e below (T1.setTop (mkF m 150 #[.val (.int p1), .val (.ref b2), .val (.int (15 : Int32)), .val (.ref w_REMOVES), .unset, .unset, .unset, .unset] [(.int (15 : Int32))])) _
      refine XS.bipush X1.here hx rfl (hb hby at_150) ?_
      show Steps p.tables e below (T1.setTop (mkF m 152 #[.val (.int p1), .val (.ref b2), .val (.int (15 : Int32)), .val (.ref w_REMOVES), .unset, .unset, .unset, .unset] [(.int (15 : Int32)), (.int (15 : Int32))])) _
      refine XS.icmpNo X1.here hx rfl (hb hby at_152) rfl (teq (by decide : (15 : Int32) = (15 : Int32))).2 ?_
      show Steps p.tables e below (T1.setTop (mkF m 155 #[.val (.int p1), .val (.ref b2), .val (.int (15 : Int32)), .val (.ref w_REMOVES), .unset, .unset, .unset, .unset] [])) _
      refine XS.iconst X1.here hx rfl (hb hby at_155) ?_
      show Steps p.tables e below (T1.setTop (mkF m 156 #[.val (.int p1), .val (.ref b2), .val (.int (15 : Int32)), .val (.ref w_REMOVES), .unset, .unset, .unset, .unset] [(.int (1 : Int32))])) _
      refine XS.goto X1.here hx rfl (pc0 := 156) (pc' := 160) rfl (hb hby at_156) (by decide) (by decide) ?_
      show Steps p.tables e below (T1.setTop (mkF m 160 #[.val (.int p1), .val (.ref b2), .val (.int (15 : Int32)), .val (.ref w_REMOVES), .unset, .unset, .unset, .unset] [(.int (1 : Int32))])) _
      refine XS.istore X1.here hx rfl (hb hby at_160) rfl (l' := #[.val (.int p1), .val (.ref b2), .val (.int (15 : Int32)), .val (.ref w_REMOVES), .val (.int (1 : Int32)), .unset, .unset, .unset]) rfl ?_
      show Steps p.tables e below (T1.setTop (mkF m 162 #[.val (.int p1), .val (.ref b2), .val (.int (15 : Int32)), .val (.ref w_REMOVES), .val (.int (1 : Int32)), .unset, .unset, .unset] [])) _
      refine XS.iload X1.here hx rfl (hb hby at_162) rfl ?_
      show Steps p.tables e below (T1.setTop (mkF m 164 #[.val (.int p1), .val (.ref b2), .val (.int (15 : Int32)), .val (.ref w_REMOVES), .val (.int (1 : Int32)), .unset, .unset, .unset] [(.int (1 : Int32))])) _
      refine XS.ifYes X1.here hx rfl (pc0 := 164) (pc' := 171) rfl (hb hby at_164) rfl ((if0 _ _).trans (feq (by decide : ¬ ((1 : Int32) = (0 : Int32)))).2) (by decide) (by decide) ?_
      show Steps p.tables e below (T1.setTop (mkF m 171 #[.val (.int p1), .val (.ref b2), .val (.int (15 : Int32)), .val (.ref w_REMOVES), .val (.int (1 : Int32)), .unset, .unset, .unset] [])) _
      refine XS.iconst X1.here hx rfl (hb hby at_171) ?_
      show Steps p.tables e below (T1.setTop (mkF m 172 #[.val (.int p1), .val (.ref b2), .val (.int (15 : Int32)), .val (.ref w_REMOVES), .val (.int (1 : Int32)), .unset, .unset, .unset] [(.int (0 : Int32))])) _
      refine XS.istore X1.here hx rfl (hb hby at_172) rfl (l' := #[.val (.int p1), .val (.ref b2), .val (.int (15 : Int32)), .val (.ref w_REMOVES), .val (.int (1 : Int32)), .val (.int (0 : Int32)), .unset, .unset]) rfl ?_
      show Steps p.tables e below (T1.setTop (mkF m 174 #[.val (.int p1), .val (.ref b2), .val (.int (15 : Int32)), .val (.ref w_REMOVES), .val (.int (1 : Int32)), .val (.int (0 : Int32)), .unset, .unset] [])) _
      refine XS.aloadN X1.here hx rfl (hb hby at_174) rfl rfl ?_
      show Steps p.tables e below (T1.setTop (mkF m 175 #[.val (.int p1), .val (.ref b2), .val (.int (15 : Int32)), .val (.ref w_REMOVES), .val (.int (1 : Int32)), .val (.int (0 : Int32)), .unset, .unset] [(.ref w_REMOVES)])) _
      refine st119.trans ?_
      show Steps p.tables e below (T119.setTop (mkF m 178 #[.val (.int p1), .val (.ref b2), .val (.int (15 : Int32)), .val (.ref w_REMOVES), .val (.int (1 : Int32)), .val (.int (0 : Int32)), .unset, .unset] [(.int (0 : Int32))])) _
      refine XS.istore X119.here hx rfl (hb hby at_178) rfl (l' := #[.val (.int p1), .val (.ref b2), .val (.int (15 : Int32)), .val (.ref w_REMOVES), .val (.int (1 : Int32)), .val (.int (0 : Int32)), .val (.int (0 : Int32)), .unset]) rfl ?_
      show Steps p.tables e below (T119.setTop (mkF m 180 #[.val (.int p1), .val (.ref b2), .val (.int (15 : Int32)), .val (.ref w_REMOVES), .val (.int (1 : Int32)), .val (.int (0 : Int32)), .val (.int (0 : Int32)), .unset] [])) _
      refine XS.aloadN X119.here hx rfl (hb hby at_180) rfl rfl ?_
      show Steps p.tables e below (T119.setTop (mkF m 181 #[.val (.int p1), .val (.ref b2), .val (.int (15 : Int32)), .val (.ref w_REMOVES), .val (.int (1 : Int32)), .val (.int (0 : Int32)), .val (.int (0 : Int32)), .unset] [(.ref w_REMOVES)])) _
      refine st120.trans ?_
      show Steps p.tables e below (T120.setTop (mkF m 184 #[.val (.int p1), .val (.ref b2), .val (.int (15 : Int32)), .val (.ref w_REMOVES), .val (.int (1 : Int32)), .val (.int (0 : Int32)), .val (.int (0 : Int32)), .unset] [(.int (0 : Int32))])) _
      refine XS.ifYes X120.here hx rfl (pc0 := 184) (pc' := 192) rfl (hb hby at_184) rfl ((if0 _ _).trans (teq (by decide : (0 : Int32) = (0 : Int32))).1) (by decide) (by decide) ?_
      show Steps p.tables e below (T120.setTop (mkF m 192 #[.val (.int p1), .val (.ref b2), .val (.int (15 : Int32)), .val (.ref w_REMOVES), .val (.int (1 : Int32)), .val (.int (0 : Int32)), .val (.int (0 : Int32)), .unset] [])) _
      refine XS.iconst X120.here hx rfl (hb hby at_192) ?_
      show Steps p.tables e below (T120.setTop (mkF m 193 #[.val (.int p1), .val (.ref b2), .val (.int (15 : Int32)), .val (.ref w_REMOVES), .val (.int (1 : Int32)), .val (.int (0 : Int32)), .val (.int (0 : Int32)), .unset] [(.int (1 : Int32))])) _
      refine XS.goto X120.here hx rfl (pc0 := 193) (pc' := 197) rfl (hb hby at_193) (by decide) (by decide) ?_
      show Steps p.tables e below (T120.setTop (mkF m 197 #[.val (.int p1), .val (.ref b2), .val (.int (15 : Int32)), .val (.ref w_REMOVES), .val (.int (1 : Int32)), .val (.int (0 : Int32)), .val (.int (0 : Int32)), .unset] [(.int (1 : Int32))])) _
      refine XS.istore X120.here hx rfl (hb hby at_197) rfl (l' := #[.val (.int p1), .val (.ref b2), .val (.int (15 : Int32)), .val (.ref w_REMOVES), .val (.int (1 : Int32)), .val (.int (0 : Int32)), .val (.int (0 : Int32)), .val (.int (1 : Int32))]) rfl ?_
      show Steps p.tables e below (T120.setTop (mkF m 199 #[.val (.int p1), .val (.ref b2), .val (.int (15 : Int32)), .val (.ref w_REMOVES), .val (.int (1 : Int32)), .val (.int (0 : Int32)), .val (.int (0 : Int32)), .val (.int (1 : Int32))] [])) _
      refine XS.iload X120.here hx rfl (hb hby at_199) rfl ?_
      show Steps p.tables e below (T120.setTop (mkF m 201 #[.val (.int p1), .val (.ref b2), .val (.int (15 : Int32)), .val (.ref w_REMOVES), .val (.int (1 : Int32)), .val (.int (0 : Int32)), .val (.int (0 : Int32)), .val (.int (1 : Int32))] [(.int (0 : Int32))])) _
      refine XS.iload X120.here hx rfl (hb hby at_201) rfl ?_
      show Steps p.tables e below (T120.setTop (mkF m 203 #[.val (.int p1), .val (.ref b2), .val (.int (15 : Int32)), .val (.ref w_REMOVES), .val (.int (1 : Int32)), .val (.int (0 : Int32)), .val (.int (0 : Int32)), .val (.int (1 : Int32))] [(.int (0 : Int32)), (.int (0 : Int32))])) _
      refine XS.icmpNo X120.here hx rfl (hb hby at_203) rfl (teq (by decide : (0 : Int32) = (0 : Int32))).2 ?_
      show Steps p.tables e below (T120.setTop (mkF m 206 #[.val (.int p1), .val (.ref b2), .val (.int (15 : Int32)), .val (.ref w_REMOVES), .val (.int (1 : Int32)), .val (.int (0 : Int32)), .val (.int (0 : Int32)), .val (.int (1 : Int32))] [])) _
      refine XS.iload X120.here hx rfl (hb hby at_206) rfl ?_
      show Steps p.tables e below (T120.setTop (mkF m 208 #[.val (.int p1), .val (.ref b2), .val (.int (15 : Int32)), .val (.ref w_REMOVES), .val (.int (1 : Int32)), .val (.int (0 : Int32)), .val (.int (0 : Int32)), .val (.int (1 : Int32))] [(.int (1 : Int32))])) _
      refine XS.ifNo X120.here hx rfl (hb hby at_208) rfl ((if0 _ _).trans (feq (by decide : ¬ ((1 : Int32) = (0 : Int32)))).1) ?_
      show Steps p.tables e below (T120.setTop (mkF m 211 #[.val (.int p1), .val (.ref b2), .val (.int (15 : Int32)), .val (.ref w_REMOVES), .val (.int (1 : Int32)), .val (.int (0 : Int32)), .val (.int (0 : Int32)), .val (.int (1 : Int32))] [])) _
      refine XS.iconst X120.here hx rfl (hb hby at_211) ?_
      show Steps p.tables e below (T120.setTop (mkF m 212 #[.val (.int p1), .val (.ref b2), .val (.int (15 : Int32)), .val (.ref w_REMOVES), .val (.int (1 : Int32)), .val (.int (0 : Int32)), .val (.int (0 : Int32)), .val (.int (1 : Int32))] [(.int (1 : Int32))])) _
      refine XS.goto X120.here hx rfl (pc0 := 212) (pc' := 216) rfl (hb hby at_212) (by decide) (by decide) ?_
      show Steps p.tables e below (T120.setTop (mkF m 216 #[.val (.int p1), .val (.ref b2), .val (.int (15 : Int32)), .val (.ref w_REMOVES), .val (.int (1 : Int32)), .val (.int (0 : Int32)), .val (.int (0 : Int32)), .val (.int (1 : Int32))] [(.int (1 : Int32))])) _
      exact retN X120 hx (t := .boolean) Bd.returns (by simp) (hb hby at_216) hr
    · show Q0_0 Z p1 w_POD w_BASE w_RESOURCE w_AGENT w_CLIENT w_ISSUER w_OWNER w_CREATOR w_CREDENTIAL w_REQUESTS w_AGENTS w_STATS w_WAC_ALLOW w_METHOD w_CREATES w_REMOVES w_PORT w_VALUE w_FLAG w_REPEATED_VALUE h0 n0 _ T120.heap _
      rw [e120]
      exact ⟨rfl, N120⟩
  ·
    obtain ⟨cl121, Ar121, qq121, Sz121, Nn121, Hs121, Gs121⟩ := id pf1_0
    have hin121 : ¬ ((16 : Int32) < 0 ∨ cl121.slots.size ≤ ((16 : Int32)).toNatClampNeg) := inb_of Sz121 ⟨by decide, by decide⟩
    have hat121 : cl121.slots[((16 : Int32)).toNatClampNeg]? = some (.ref w_PORT) := Has.at Hs121 hin121 rfl
    obtain ⟨cq122, kq122, q122a, q122b, q122c⟩ := isOf hZ e1 (E_PORT.keep K1)
    obtain ⟨_, _, ⟨T122, L122, k122, n122⟩, -, X122, ⟨Lc122, hQ122, l122, y122, z122⟩, st122⟩ := X1.virtualBack hx (y := (⟨"com/example/garm/garm/command/Option", "takesValue", "()Z"⟩ : MethodName)) (z := (⟨"com/example/garm/garm/command/Option", "takesValue", "()Z"⟩ : MethodName)) hown (mvT hZ (hw _ (List.mem_of_getElem? (i := 39) rfl))) (mvT hZ (hw _ (List.mem_of_getElem? (i := 40) rfl))) (notFace_of_selects (args := #[]) (mvT hZ (hw _ (List.mem_of_getElem? (i := 42) rfl)))) (mvT hZ (hw _ (List.mem_of_getElem? (i := 42) rfl))) (mvT hZ (hw _ (List.mem_of_getElem? (i := 41) rfl))) (by decide) (backOf (W := 0) (rm1_16 l Z a0 hw [] w_PORT w_VALUE w_FLAG h1 n0 (Nat.le_trans Z0 K1.1) (F_form_PORT.keep K1 nin0) (own_staK S_FLAG K1 all0) ne_FLAG_VALUE) hZ (hw _ (List.mem_of_getElem? (i := 43) rfl)) (hw _ (List.mem_of_getElem? (i := 3) rfl)) (by decide) (by decide)) q122a q122c (g := (mkF m 175 #[.val (.int p1), .val (.ref b2), .val (.int (16 : Int32)), .val (.ref w_PORT), .val (.int (0 : Int32)), .val (.int (1 : Int32)), .unset, .unset] [(.ref w_PORT)])) rfl (by rw [hml]; rfl) (Steps.refl _) (argsL := []) (rest := []) (lenOf pd_0 rfl) rfl (by show 2 * 0 + _ ≤ _; exact Nat.le_of_eq rfl) (hb hby at_175) (fun _ _ => ⟨rfl, e1, (by decide : 1 + 0 ≤ _), (by decide : 17 + 0 ≤ _)⟩)
    dsimp only [Pt.U, Pt.locs, Pt.cells, Pt.slots] at X122 l122 y122 z122 st122 hQ122
    subst l122 y122 z122
    obtain ⟨rfl, N122q, e122⟩ := hQ122
    have N122 := Fr.app N1 N122q
    obtain ⟨cq123, kq123, q123a, q123b, q123c⟩ := isOf hZ e122 (E_PORT.keep K1)
    obtain ⟨_, _, ⟨T123, L123, k123, n123⟩, -, X123, ⟨Lc123, hQ123, l123, y123, z123⟩, st123⟩ := X122.virtualBack hx (y := (⟨"com/example/garm/garm/command/Option", "isRepeatable", "()Z"⟩ : MethodName)) (z := (⟨"com/example/garm/garm/command/Option", "isRepeatable", "()Z"⟩ : MethodName)) hown (mvT hZ (hw _ (List.mem_of_getElem? (i := 50) rfl))) (mvT hZ (hw _ (List.mem_of_getElem? (i := 51) rfl))) (notFace_of_selects (args := #[]) (mvT hZ (hw _ (List.mem_of_getElem? (i := 53) rfl)))) (mvT hZ (hw _ (List.mem_of_getElem? (i := 53) rfl))) (mvT hZ (hw _ (List.mem_of_getElem? (i := 52) rfl))) (by decide) (backOf (W := 0) (rm2_16 l Z a0 hw [] w_PORT w_VALUE w_REPEATED_VALUE h1 n0 (Nat.le_trans Z0 K1.1) (F_form_PORT.keep K1 nin0) (own_staK S_REPEATED_VALUE K1 all0) ne_REPEATED_VALUE_VALUE) hZ (hw _ (List.mem_of_getElem? (i := 54) rfl)) (hw _ (List.mem_of_getElem? (i := 3) rfl)) (by decide) (by decide)) q123a q123c (g := (mkF m 181 #[.val (.int p1), .val (.ref b2), .val (.int (16 : Int32)), .val (.ref w_PORT), .val (.int (0 : Int32)), .val (.int (1 : Int32)), .val (.int (1 : Int32)), .unset] [(.ref w_PORT)])) rfl (by rw [hml]; rfl) (Steps.refl _) (argsL := []) (rest := []) (lenOf pd_0 rfl) rfl (by show 2 * 0 + _ ≤ _; exact Nat.le_of_eq rfl) (hb hby at_181) (fun _ _ => ⟨rfl, e122, (by decide : 1 + 0 ≤ _), (by decide : 17 + 0 ≤ _)⟩)
    dsimp only [Pt.U, Pt.locs, Pt.cells, Pt.slots] at X123 l123 y123 z123 st123 hQ123
    subst l123 y123 z123
    obtain ⟨rfl, N123q, e123⟩ := hQ123
    have N123 := Fr.app N122 N123q
    obtain ⟨fs, hr, hrun, hended, hW, hsame⟩ := X123.leave (v := some (.int (1 : Int32))) (fun h => by rw [Bd.returns] at h; cases h)
    refine ⟨_, _, k55 _ ?_, hrun, hended, _, _, rfl, ?_, ⟨_, rfl⟩, hW, hsame.mono (by decide) (by decide)⟩
    ·
      show Steps p.tables e below (T1.setTop (mkF m 126 #[.val (.int p1), .val (.ref b2), .unset, .unset, .unset, .unset, .unset, .unset] [(.int ((p1 &&& (2147483647 : Int32)) % (17 : Int32)))])) _
      rewrite [hk72_16]
      show Steps p.tables e below (T1.setTop (mkF m 126 #[.val (.int p1), .val (.ref b2), .unset, .unset, .unset, .unset, .unset, .unset] [(.int (16 : Int32))])) _
      refine XS.istoreN X1.here hx rfl (hb hby at_126) rfl (l' := #[.val (.int p1), .val (.ref b2), .val (.int (16 : Int32)), .unset, .unset, .unset, .unset, .unset]) rfl ?_
      show Steps p.tables e below (T1.setTop (mkF m 127 #[.val (.int p1), .val (.ref b2), .val (.int (16 : Int32)), .unset, .unset, .unset, .unset, .unset] [])) _
      refine XS.aloadN X1.here hx rfl (hb hby at_127) rfl rfl ?_
      show Steps p.tables e below (T1.setTop (mkF m 128 #[.val (.int p1), .val (.ref b2), .val (.int (16 : Int32)), .unset, .unset, .unset, .unset, .unset] [(.ref b2)])) _
      refine XS.iloadN X1.here hx rfl (hb hby at_128) rfl ?_
      show Steps p.tables e below (T1.setTop (mkF m 129 #[.val (.int p1), .val (.ref b2), .val (.int (16 : Int32)), .unset, .unset, .unset, .unset, .unset] [(.int (16 : Int32)), (.ref b2)])) _
      refine X1.aaload hx (j := (16 : Int32)) (v := (.ref w_PORT)) (by rw [e1]; exact Ar121.1) (State.isArrayOf_alike hZ.alike Ar121.2.1) rfl Ar121.2.2 hin121 hat121 (g := (mkF m 129 #[.val (.int p1), .val (.ref b2), .val (.int (16 : Int32)), .unset, .unset, .unset, .unset, .unset] [(.int (16 : Int32)), (.ref b2)])) rfl rfl (hb hby at_129) _ ?_
      show Steps p.tables e below (T1.setTop (mkF m 130 #[.val (.int p1), .val (.ref b2), .val (.int (16 : Int32)), .unset, .unset, .unset, .unset, .unset] [(.ref w_PORT)])) _
      refine XS.astoreN X1.here hx rfl (hb hby at_130) rfl rfl (l' := #[.val (.int p1), .val (.ref b2), .val (.int (16 : Int32)), .val (.ref w_PORT), .unset, .unset, .unset, .unset]) rfl ?_
      show Steps p.tables e below (T1.setTop (mkF m 131 #[.val (.int p1), .val (.ref b2), .val (.int (16 : Int32)), .val (.ref w_PORT), .unset, .unset, .unset, .unset] [])) _
      refine XS.iloadN X1.here hx rfl (hb hby at_131) rfl ?_
      show Steps p.tables e below (T1.setTop (mkF m 132 #[.val (.int p1), .val (.ref b2), .val (.int (16 : Int32)), .val (.ref w_PORT), .unset, .unset, .unset, .unset] [(.int (16 : Int32))])) _
      refine XS.bipush X1.here hx rfl (hb hby at_132) ?_
      show Steps p.tables e below (T1.setTop (mkF m 134 #[.val (.int p1), .val (.ref b2), .val (.int (16 : Int32)), .val (.ref w_PORT), .unset, .unset, .unset, .unset] [(.int (11 : Int32)), (.int (16 : Int32))])) _
      refine XS.icmpNo X1.here hx rfl (hb hby at_134) rfl (feq (by decide : ¬ ((16 : Int32) = (11 : Int32)))).1 ?_
      show Steps p.tables e below (T1.setTop (mkF m 137 #[.val (.int p1), .val (.ref b2), .val (.int (16 : Int32)), .val (.ref w_PORT), .unset, .unset, .unset, .unset] [])) _
      refine XS.iloadN X1.here hx rfl (hb hby at_137) rfl ?_
      show Steps p.tables e below (T1.setTop (mkF m 138 #[.val (.int p1), .val (.ref b2), .val (.int (16 : Int32)), .val (.ref w_PORT), .unset, .unset, .unset, .unset] [(.int (16 : Int32))])) _
      refine XS.bipush X1.here hx rfl (hb hby at_138) ?_
      show Steps p.tables e below (T1.setTop (mkF m 140 #[.val (.int p1), .val (.ref b2), .val (.int (16 : Int32)), .val (.ref w_PORT), .unset, .unset, .unset, .unset] [(.int (12 : Int32)), (.int (16 : Int32))])) _
      refine XS.icmpNo X1.here hx rfl (hb hby at_140) rfl (feq (by decide : ¬ ((16 : Int32) = (12 : Int32)))).1 ?_
      show Steps p.tables e below (T1.setTop (mkF m 143 #[.val (.int p1), .val (.ref b2), .val (.int (16 : Int32)), .val (.ref w_PORT), .unset, .unset, .unset, .unset] [])) _
      refine XS.iloadN X1.here hx rfl (hb hby at_143) rfl ?_
      show Steps p.tables e below (T1.setTop (mkF m 144 #[.val (.int p1), .val (.ref b2), .val (.int (16 : Int32)), .val (.ref w_PORT), .unset, .unset, .unset, .unset] [(.int (16 : Int32))])) _
      refine XS.bipush X1.here hx rfl (hb hby at_144) ?_
      show Steps p.tables e below (T1.setTop (mkF m 146 #[.val (.int p1), .val (.ref b2), .val (.int (16 : Int32)), .val (.ref w_PORT), .unset, .unset, .unset, .unset] [(.int (14 : Int32)), (.int (16 : Int32))])) _
      refine XS.icmpNo X1.here hx rfl (hb hby at_146) rfl (feq (by decide : ¬ ((16 : Int32) = (14 : Int32)))).1 ?_
      show Steps p.tables e below (T1.setTop (mkF m 149 #[.val (.int p1), .val (.ref b2), .val (.int (16 : Int32)), .val (.ref w_PORT), .unset, .unset, .unset, .unset] [])) _
      refine XS.iloadN X1.here hx rfl (hb hby at_149) rfl ?_
      show Steps p.tables e below (T1.setTop (mkF m 150 #[.val (.int p1), .val (.ref b2), .val (.int (16 : Int32)), .val (.ref w_PORT), .unset, .unset, .unset, .unset] [(.int (16 : Int32))])) _
      refine XS.bipush X1.here hx rfl (hb hby at_150) ?_
      show Steps p.tables e below (T1.setTop (mkF m 152 #[.val (.int p1), .val (.ref b2), .val (.int (16 : Int32)), .val (.ref w_PORT), .unset, .unset, .unset, .unset] [(.int (15 : Int32)), (.int (16 : Int32))])) _
      refine XS.icmpYes X1.here hx rfl (pc0 := 152) (pc' := 159) rfl (hb hby at_152) rfl (feq (by decide : ¬ ((16 : Int32) = (15 : Int32)))).2 (by decide) (by decide) ?_
      show Steps p.tables e below (T1.setTop (mkF m 159 #[.val (.int p1), .val (.ref b2), .val (.int (16 : Int32)), .val (.ref w_PORT), .unset, .unset, .unset, .unset] [])) _
      refine XS.iconst X1.here hx rfl (hb hby at_159) ?_
      show Steps p.tables e below (T1.setTop (mkF m 160 #[.val (.int p1), .val (.ref b2), .val (.int (16 : Int32)), .val (.ref w_PORT), .unset, .unset, .unset, .unset] [(.int (0 : Int32))])) _
      refine XS.istore X1.here hx rfl (hb hby at_160) rfl (l' := #[.val (.int p1), .val (.ref b2), .val (.int (16 : Int32)), .val (.ref w_PORT), .val (.int (0 : Int32)), .unset, .unset, .unset]) rfl ?_
      show Steps p.tables e below (T1.setTop (mkF m 162 #[.val (.int p1), .val (.ref b2), .val (.int (16 : Int32)), .val (.ref w_PORT), .val (.int (0 : Int32)), .unset, .unset, .unset] [])) _
      refine XS.iload X1.here hx rfl (hb hby at_162) rfl ?_
      show Steps p.tables e below (T1.setTop (mkF m 164 #[.val (.int p1), .val (.ref b2), .val (.int (16 : Int32)), .val (.ref w_PORT), .val (.int (0 : Int32)), .unset, .unset, .unset] [(.int (0 : Int32))])) _
      refine XS.ifNo X1.here hx rfl (hb hby at_164) rfl ((if0 _ _).trans (teq (by decide : (0 : Int32) = (0 : Int32))).2) ?_
      show Steps p.tables e below (T1.setTop (mkF m 167 #[.val (.int p1), .val (.ref b2), .val (.int (16 : Int32)), .val (.ref w_PORT), .val (.int (0 : Int32)), .unset, .unset, .unset] [])) _
      refine XS.iconst X1.here hx rfl (hb hby at_167) ?_
      show Steps p.tables e below (T1.setTop (mkF m 168 #[.val (.int p1), .val (.ref b2), .val (.int (16 : Int32)), .val (.ref w_PORT), .val (.int (0 : Int32)), .unset, .unset, .unset] [(.int (1 : Int32))])) _
      refine XS.goto X1.here hx rfl (pc0 := 168) (pc' := 172) rfl (hb hby at_168) (by decide) (by decide) ?_
      show Steps p.tables e below (T1.setTop (mkF m 172 #[.val (.int p1), .val (.ref b2), .val (.int (16 : Int32)), .val (.ref w_PORT), .val (.int (0 : Int32)), .unset, .unset, .unset] [(.int (1 : Int32))])) _
      refine XS.istore X1.here hx rfl (hb hby at_172) rfl (l' := #[.val (.int p1), .val (.ref b2), .val (.int (16 : Int32)), .val (.ref w_PORT), .val (.int (0 : Int32)), .val (.int (1 : Int32)), .unset, .unset]) rfl ?_
      show Steps p.tables e below (T1.setTop (mkF m 174 #[.val (.int p1), .val (.ref b2), .val (.int (16 : Int32)), .val (.ref w_PORT), .val (.int (0 : Int32)), .val (.int (1 : Int32)), .unset, .unset] [])) _
      refine XS.aloadN X1.here hx rfl (hb hby at_174) rfl rfl ?_
      show Steps p.tables e below (T1.setTop (mkF m 175 #[.val (.int p1), .val (.ref b2), .val (.int (16 : Int32)), .val (.ref w_PORT), .val (.int (0 : Int32)), .val (.int (1 : Int32)), .unset, .unset] [(.ref w_PORT)])) _
      refine st122.trans ?_
      show Steps p.tables e below (T122.setTop (mkF m 178 #[.val (.int p1), .val (.ref b2), .val (.int (16 : Int32)), .val (.ref w_PORT), .val (.int (0 : Int32)), .val (.int (1 : Int32)), .unset, .unset] [(.int (1 : Int32))])) _
      refine XS.istore X122.here hx rfl (hb hby at_178) rfl (l' := #[.val (.int p1), .val (.ref b2), .val (.int (16 : Int32)), .val (.ref w_PORT), .val (.int (0 : Int32)), .val (.int (1 : Int32)), .val (.int (1 : Int32)), .unset]) rfl ?_
      show Steps p.tables e below (T122.setTop (mkF m 180 #[.val (.int p1), .val (.ref b2), .val (.int (16 : Int32)), .val (.ref w_PORT), .val (.int (0 : Int32)), .val (.int (1 : Int32)), .val (.int (1 : Int32)), .unset] [])) _
      refine XS.aloadN X122.here hx rfl (hb hby at_180) rfl rfl ?_
      show Steps p.tables e below (T122.setTop (mkF m 181 #[.val (.int p1), .val (.ref b2), .val (.int (16 : Int32)), .val (.ref w_PORT), .val (.int (0 : Int32)), .val (.int (1 : Int32)), .val (.int (1 : Int32)), .unset] [(.ref w_PORT)])) _
      refine st123.trans ?_
      show Steps p.tables e below (T123.setTop (mkF m 184 #[.val (.int p1), .val (.ref b2), .val (.int (16 : Int32)), .val (.ref w_PORT), .val (.int (0 : Int32)), .val (.int (1 : Int32)), .val (.int (1 : Int32)), .unset] [(.int (0 : Int32))])) _
      refine XS.ifYes X123.here hx rfl (pc0 := 184) (pc' := 192) rfl (hb hby at_184) rfl ((if0 _ _).trans (teq (by decide : (0 : Int32) = (0 : Int32))).1) (by decide) (by decide) ?_
      show Steps p.tables e below (T123.setTop (mkF m 192 #[.val (.int p1), .val (.ref b2), .val (.int (16 : Int32)), .val (.ref w_PORT), .val (.int (0 : Int32)), .val (.int (1 : Int32)), .val (.int (1 : Int32)), .unset] [])) _
      refine XS.iconst X123.here hx rfl (hb hby at_192) ?_
      show Steps p.tables e below (T123.setTop (mkF m 193 #[.val (.int p1), .val (.ref b2), .val (.int (16 : Int32)), .val (.ref w_PORT), .val (.int (0 : Int32)), .val (.int (1 : Int32)), .val (.int (1 : Int32)), .unset] [(.int (1 : Int32))])) _
      refine XS.goto X123.here hx rfl (pc0 := 193) (pc' := 197) rfl (hb hby at_193) (by decide) (by decide) ?_
      show Steps p.tables e below (T123.setTop (mkF m 197 #[.val (.int p1), .val (.ref b2), .val (.int (16 : Int32)), .val (.ref w_PORT), .val (.int (0 : Int32)), .val (.int (1 : Int32)), .val (.int (1 : Int32)), .unset] [(.int (1 : Int32))])) _
      refine XS.istore X123.here hx rfl (hb hby at_197) rfl (l' := #[.val (.int p1), .val (.ref b2), .val (.int (16 : Int32)), .val (.ref w_PORT), .val (.int (0 : Int32)), .val (.int (1 : Int32)), .val (.int (1 : Int32)), .val (.int (1 : Int32))]) rfl ?_
      show Steps p.tables e below (T123.setTop (mkF m 199 #[.val (.int p1), .val (.ref b2), .val (.int (16 : Int32)), .val (.ref w_PORT), .val (.int (0 : Int32)), .val (.int (1 : Int32)), .val (.int (1 : Int32)), .val (.int (1 : Int32))] [])) _
      refine XS.iload X123.here hx rfl (hb hby at_199) rfl ?_
      show Steps p.tables e below (T123.setTop (mkF m 201 #[.val (.int p1), .val (.ref b2), .val (.int (16 : Int32)), .val (.ref w_PORT), .val (.int (0 : Int32)), .val (.int (1 : Int32)), .val (.int (1 : Int32)), .val (.int (1 : Int32))] [(.int (1 : Int32))])) _
      refine XS.iload X123.here hx rfl (hb hby at_201) rfl ?_
      show Steps p.tables e below (T123.setTop (mkF m 203 #[.val (.int p1), .val (.ref b2), .val (.int (16 : Int32)), .val (.ref w_PORT), .val (.int (0 : Int32)), .val (.int (1 : Int32)), .val (.int (1 : Int32)), .val (.int (1 : Int32))] [(.int (1 : Int32)), (.int (1 : Int32))])) _
      refine XS.icmpNo X123.here hx rfl (hb hby at_203) rfl (teq (by decide : (1 : Int32) = (1 : Int32))).2 ?_
      show Steps p.tables e below (T123.setTop (mkF m 206 #[.val (.int p1), .val (.ref b2), .val (.int (16 : Int32)), .val (.ref w_PORT), .val (.int (0 : Int32)), .val (.int (1 : Int32)), .val (.int (1 : Int32)), .val (.int (1 : Int32))] [])) _
      refine XS.iload X123.here hx rfl (hb hby at_206) rfl ?_
      show Steps p.tables e below (T123.setTop (mkF m 208 #[.val (.int p1), .val (.ref b2), .val (.int (16 : Int32)), .val (.ref w_PORT), .val (.int (0 : Int32)), .val (.int (1 : Int32)), .val (.int (1 : Int32)), .val (.int (1 : Int32))] [(.int (1 : Int32))])) _
      refine XS.ifNo X123.here hx rfl (hb hby at_208) rfl ((if0 _ _).trans (feq (by decide : ¬ ((1 : Int32) = (0 : Int32)))).1) ?_
      show Steps p.tables e below (T123.setTop (mkF m 211 #[.val (.int p1), .val (.ref b2), .val (.int (16 : Int32)), .val (.ref w_PORT), .val (.int (0 : Int32)), .val (.int (1 : Int32)), .val (.int (1 : Int32)), .val (.int (1 : Int32))] [])) _
      refine XS.iconst X123.here hx rfl (hb hby at_211) ?_
      show Steps p.tables e below (T123.setTop (mkF m 212 #[.val (.int p1), .val (.ref b2), .val (.int (16 : Int32)), .val (.ref w_PORT), .val (.int (0 : Int32)), .val (.int (1 : Int32)), .val (.int (1 : Int32)), .val (.int (1 : Int32))] [(.int (1 : Int32))])) _
      refine XS.goto X123.here hx rfl (pc0 := 212) (pc' := 216) rfl (hb hby at_212) (by decide) (by decide) ?_
      show Steps p.tables e below (T123.setTop (mkF m 216 #[.val (.int p1), .val (.ref b2), .val (.int (16 : Int32)), .val (.ref w_PORT), .val (.int (0 : Int32)), .val (.int (1 : Int32)), .val (.int (1 : Int32)), .val (.int (1 : Int32))] [(.int (1 : Int32))])) _
      exact retN X123 hx (t := .boolean) Bd.returns (by simp) (hb hby at_216) hr
    · show Q0_0 Z p1 w_POD w_BASE w_RESOURCE w_AGENT w_CLIENT w_ISSUER w_OWNER w_CREATOR w_CREDENTIAL w_REQUESTS w_AGENTS w_STATS w_WAC_ALLOW w_METHOD w_CREATES w_REMOVES w_PORT w_VALUE w_FLAG w_REPEATED_VALUE h0 n0 _ T123.heap _
      rw [e123]
      exact ⟨rfl, N123⟩
set_option maxRecDepth 65536 in
set_option maxHeartbeats 40000000 in
theorem comes_1 {Post : Tables → Env → Array Value → State → Outcome → State → Prop} (hpost : ∀ tb e args s v u, (limb_1_1.after args s (.returned v) u = true ∧ limb_1_2.after args s (.returned v) u = true ∧ True) → FrameEnd s (.returned v) u (Jvm.fieldLocs frame_1_writes args s ++ Jvm.arrayLocs frame_1_arrays args s ++ Jvm.staticLocs frame_1_statics s) 16 128 → Post tb e args s (.returned v) u) :
    ArmFor flags0 classFile x code maxLocals ret World_1 tables_1 room_1 Calls_1 rest_1 Pre_1 Post := by
  intro l hfl _ _ p e ha hc hk s m args below hf hA hF happ hP
  obtain ⟨hcalls, hrest, hpre⟩ := hP
  obtain ⟨-, -, -, hnamed, -, -, -, hat⟩ := (Spec.applies_iff hf).mp happ
  obtain ⟨hg, hn⟩ := and_e (Cond.before_iff.mp (show (Jvm.Cond.and given_1 narrow_1).before args s = true from hpre))
  obtain ⟨g1a, g1b⟩ := and_e hg
  obtain ⟨a0w, rfl⟩ : ∃ a0w : Value, args = #[a0w] := by
    have hs : args.size = 1 := by simpa [Cond.value, given_1] using g1a
    obtain ⟨L⟩ := args
    match L, hs with
    | [a0w], _ => exact ⟨a0w, rfl⟩
  have hw := fun d (hd : d ∈ tables_1) => atoms_spec (ws := Jvm.Cond.code x code maxLocals ret :: tables_1) hat d (List.mem_cons_of_mem _ hd)
  have hfit : Fit s := fun {y c} hc i hi => by
    obtain ⟨ha, rfl⟩ := Array.getElem?_eq_some_iff.mp hc
    have q := List.all_eq_true.mp ((Array.all_eq_true_iff_forall_mem.mp hF) _ (Array.getElem_mem ha)) i (List.mem_range.mpr hi)
    simpa [Array.getElem?_eq_getElem hi] using q
  obtain ⟨i0, ei0⟩ := is_v g1b
  obtain rfl : a0w = (.int i0) := Option.some.inj ei0
  obtain ⟨hn0, hm0⟩ := and_e hn
  obtain ⟨hn1, hm1⟩ := and_e hm0
  obtain ⟨hn2, hm2⟩ := and_e hm1
  obtain ⟨hn3, hm3⟩ := and_e hm2
  obtain ⟨hn4, hm4⟩ := and_e hm3
  obtain ⟨hn5, hm5⟩ := and_e hm4
  obtain ⟨hn6, hm6⟩ := and_e hm5
  obtain ⟨hn7, hm7⟩ := and_e hm6
  obtain ⟨hn8, hm8⟩ := and_e hm7
  obtain ⟨hn9, hm9⟩ := and_e hm8
  obtain ⟨hn10, hm10⟩ := and_e hm9
  obtain ⟨hn11, hm11⟩ := and_e hm10
  obtain ⟨hn12, hm12⟩ := and_e hm11
  obtain ⟨hn13, hm13⟩ := and_e hm12
  obtain ⟨hn14, hm14⟩ := and_e hm13
  obtain ⟨hn15, hm15⟩ := and_e hm14
  obtain ⟨hn16, hm16⟩ := and_e hm15
  obtain ⟨hn17, hm17⟩ := and_e hm16
  obtain ⟨hn18, hm18⟩ := and_e hm17
  obtain ⟨hn19, hm19⟩ := and_e hm18
  obtain ⟨hn20, hm20⟩ := and_e hm19
  obtain ⟨hn21, hm21⟩ := and_e hm20
  obtain ⟨hn22, hm22⟩ := and_e hm21
  obtain ⟨hn23, hm23⟩ := and_e hm22
  obtain ⟨hn24, hm24⟩ := and_e hm23
  obtain ⟨hn25, hm25⟩ := and_e hm24
  obtain ⟨hn26, hm26⟩ := and_e hm25
  obtain ⟨hn27, hm27⟩ := and_e hm26
  obtain ⟨hn28, hm28⟩ := and_e hm27
  obtain ⟨hn29, hm29⟩ := and_e hm28
  obtain ⟨hn30, hm30⟩ := and_e hm29
  obtain ⟨hn31, hm31⟩ := and_e hm30
  obtain ⟨hn32, hm32⟩ := and_e hm31
  obtain ⟨hn33, hm33⟩ := and_e hm32
  obtain ⟨hn34, hm34⟩ := and_e hm33
  obtain ⟨hn35, hm35⟩ := and_e hm34
  obtain ⟨hn36, hm36⟩ := and_e hm35
  obtain ⟨hn37, hm37⟩ := and_e hm36
  obtain ⟨hn38, hm38⟩ := and_e hm37
  obtain ⟨w_POD, v_POD⟩ := exa_v hn0
  have S_POD := Sta.start v_POD (Or.inr ⟨(hw _ (List.mem_of_getElem? (i := 3) rfl)), (hw _ (List.mem_of_getElem? (i := 4) rfl))⟩)
  have E_POD := Exa.start v_POD hn0
  obtain ⟨w_BASE, v_BASE⟩ := exa_v hn1
  have S_BASE := Sta.start v_BASE (Or.inr ⟨(hw _ (List.mem_of_getElem? (i := 3) rfl)), (hw _ (List.mem_of_getElem? (i := 7) rfl))⟩)
  have E_BASE := Exa.start v_BASE hn1
  obtain ⟨w_RESOURCE, v_RESOURCE⟩ := exa_v hn2
  have S_RESOURCE := Sta.start v_RESOURCE (Or.inr ⟨(hw _ (List.mem_of_getElem? (i := 3) rfl)), (hw _ (List.mem_of_getElem? (i := 9) rfl))⟩)
  have E_RESOURCE := Exa.start v_RESOURCE hn2
  obtain ⟨w_AGENT, v_AGENT⟩ := exa_v hn3
  have S_AGENT := Sta.start v_AGENT (Or.inr ⟨(hw _ (List.mem_of_getElem? (i := 3) rfl)), (hw _ (List.mem_of_getElem? (i := 11) rfl))⟩)
  have E_AGENT := Exa.start v_AGENT hn3
  obtain ⟨w_CLIENT, v_CLIENT⟩ := exa_v hn4
  have S_CLIENT := Sta.start v_CLIENT (Or.inr ⟨(hw _ (List.mem_of_getElem? (i := 3) rfl)), (hw _ (List.mem_of_getElem? (i := 13) rfl))⟩)
  have E_CLIENT := Exa.start v_CLIENT hn4
  obtain ⟨w_ISSUER, v_ISSUER⟩ := exa_v hn5
  have S_ISSUER := Sta.start v_ISSUER (Or.inr ⟨(hw _ (List.mem_of_getElem? (i := 3) rfl)), (hw _ (List.mem_of_getElem? (i := 15) rfl))⟩)
  have E_ISSUER := Exa.start v_ISSUER hn5
  obtain ⟨w_OWNER, v_OWNER⟩ := exa_v hn6
  have S_OWNER := Sta.start v_OWNER (Or.inr ⟨(hw _ (List.mem_of_getElem? (i := 3) rfl)), (hw _ (List.mem_of_getElem? (i := 17) rfl))⟩)
  have E_OWNER := Exa.start v_OWNER hn6
  obtain ⟨w_CREATOR, v_CREATOR⟩ := exa_v hn7
  have S_CREATOR := Sta.start v_CREATOR (Or.inr ⟨(hw _ (List.mem_of_getElem? (i := 3) rfl)), (hw _ (List.mem_of_getElem? (i := 19) rfl))⟩)
  have E_CREATOR := Exa.start v_CREATOR hn7
  obtain ⟨w_CREDENTIAL, v_CREDENTIAL⟩ := exa_v hn8
  have S_CREDENTIAL := Sta.start v_CREDENTIAL (Or.inr ⟨(hw _ (List.mem_of_getElem? (i := 3) rfl)), (hw _ (List.mem_of_getElem? (i := 21) rfl))⟩)
  have E_CREDENTIAL := Exa.start v_CREDENTIAL hn8
  obtain ⟨w_REQUESTS, v_REQUESTS⟩ := exa_v hn9
  have S_REQUESTS := Sta.start v_REQUESTS (Or.inr ⟨(hw _ (List.mem_of_getElem? (i := 3) rfl)), (hw _ (List.mem_of_getElem? (i := 23) rfl))⟩)
  have E_REQUESTS := Exa.start v_REQUESTS hn9
  obtain ⟨w_AGENTS, v_AGENTS⟩ := exa_v hn10
  have S_AGENTS := Sta.start v_AGENTS (Or.inr ⟨(hw _ (List.mem_of_getElem? (i := 3) rfl)), (hw _ (List.mem_of_getElem? (i := 25) rfl))⟩)
  have E_AGENTS := Exa.start v_AGENTS hn10
  obtain ⟨w_STATS, v_STATS⟩ := exa_v hn11
  have S_STATS := Sta.start v_STATS (Or.inr ⟨(hw _ (List.mem_of_getElem? (i := 3) rfl)), (hw _ (List.mem_of_getElem? (i := 27) rfl))⟩)
  have E_STATS := Exa.start v_STATS hn11
  obtain ⟨w_WAC_ALLOW, v_WAC_ALLOW⟩ := exa_v hn12
  have S_WAC_ALLOW := Sta.start v_WAC_ALLOW (Or.inr ⟨(hw _ (List.mem_of_getElem? (i := 3) rfl)), (hw _ (List.mem_of_getElem? (i := 29) rfl))⟩)
  have E_WAC_ALLOW := Exa.start v_WAC_ALLOW hn12
  obtain ⟨w_METHOD, v_METHOD⟩ := exa_v hn13
  have S_METHOD := Sta.start v_METHOD (Or.inr ⟨(hw _ (List.mem_of_getElem? (i := 3) rfl)), (hw _ (List.mem_of_getElem? (i := 31) rfl))⟩)
  have E_METHOD := Exa.start v_METHOD hn13
  obtain ⟨w_CREATES, v_CREATES⟩ := exa_v hn14
  have S_CREATES := Sta.start v_CREATES (Or.inr ⟨(hw _ (List.mem_of_getElem? (i := 3) rfl)), (hw _ (List.mem_of_getElem? (i := 33) rfl))⟩)
  have E_CREATES := Exa.start v_CREATES hn14
  obtain ⟨w_REMOVES, v_REMOVES⟩ := exa_v hn15
  have S_REMOVES := Sta.start v_REMOVES (Or.inr ⟨(hw _ (List.mem_of_getElem? (i := 3) rfl)), (hw _ (List.mem_of_getElem? (i := 35) rfl))⟩)
  have E_REMOVES := Exa.start v_REMOVES hn15
  obtain ⟨w_PORT, v_PORT⟩ := exa_v hn16
  have S_PORT := Sta.start v_PORT (Or.inr ⟨(hw _ (List.mem_of_getElem? (i := 3) rfl)), (hw _ (List.mem_of_getElem? (i := 37) rfl))⟩)
  have E_PORT := Exa.start v_PORT hn16
  obtain ⟨w_VALUE, v_VALUE⟩ := exa_v hn17
  have S_VALUE := Sta.start v_VALUE (Or.inr ⟨(hw _ (List.mem_of_getElem? (i := 46) rfl)), (hw _ (List.mem_of_getElem? (i := 47) rfl))⟩)
  have E_VALUE := Exa.start v_VALUE hn17
  obtain ⟨w_FLAG, v_FLAG⟩ := exa_v hn19
  have S_FLAG := Sta.start v_FLAG (Or.inr ⟨(hw _ (List.mem_of_getElem? (i := 46) rfl)), (hw _ (List.mem_of_getElem? (i := 49) rfl))⟩)
  have E_FLAG := Exa.start v_FLAG hn19
  obtain ⟨w_REPEATED_VALUE, v_REPEATED_VALUE⟩ := exa_v hn22
  have S_REPEATED_VALUE := Sta.start v_REPEATED_VALUE (Or.inr ⟨(hw _ (List.mem_of_getElem? (i := 46) rfl)), (hw _ (List.mem_of_getElem? (i := 56) rfl))⟩)
  have E_REPEATED_VALUE := Exa.start v_REPEATED_VALUE hn22
  have F_form_POD := Fld.start ((fld_at v_POD).symm.trans (own_eqR hn18 v_VALUE))
  have F_ordinal_VALUE := Fld.start ((fld_at v_VALUE).symm.trans (own_eqI hn20))
  have F_ordinal_FLAG := Fld.start ((fld_at v_FLAG).symm.trans (own_eqI hn21))
  have F_ordinal_REPEATED_VALUE := Fld.start ((fld_at v_REPEATED_VALUE).symm.trans (own_eqI hn23))
  have F_form_AGENT := Fld.start ((fld_at v_AGENT).symm.trans (own_eqR hn24 v_VALUE))
  have F_form_CREDENTIAL := Fld.start ((fld_at v_CREDENTIAL).symm.trans (own_eqR hn25 v_REPEATED_VALUE))
  have F_form_REQUESTS := Fld.start ((fld_at v_REQUESTS).symm.trans (own_eqR hn26 v_VALUE))
  have F_form_OWNER := Fld.start ((fld_at v_OWNER).symm.trans (own_eqR hn27 v_REPEATED_VALUE))
  have F_form_CREATOR := Fld.start ((fld_at v_CREATOR).symm.trans (own_eqR hn28 v_VALUE))
  have F_form_RESOURCE := Fld.start ((fld_at v_RESOURCE).symm.trans (own_eqR hn29 v_VALUE))
  have F_form_STATS := Fld.start ((fld_at v_STATS).symm.trans (own_eqR hn30 v_FLAG))
  have F_form_BASE := Fld.start ((fld_at v_BASE).symm.trans (own_eqR hn31 v_VALUE))
  have F_form_METHOD := Fld.start ((fld_at v_METHOD).symm.trans (own_eqR hn32 v_VALUE))
  have F_form_CLIENT := Fld.start ((fld_at v_CLIENT).symm.trans (own_eqR hn33 v_VALUE))
  have F_form_AGENTS := Fld.start ((fld_at v_AGENTS).symm.trans (own_eqR hn34 v_VALUE))
  have F_form_PORT := Fld.start ((fld_at v_PORT).symm.trans (own_eqR hn35 v_VALUE))
  have F_form_REMOVES := Fld.start ((fld_at v_REMOVES).symm.trans (own_eqR hn36 v_FLAG))
  have F_form_ISSUER := Fld.start ((fld_at v_ISSUER).symm.trans (own_eqR hn37 v_VALUE))
  have F_form_CREATES := Fld.start ((fld_at v_CREATES).symm.trans (own_eqR hn38 v_FLAG))
  have F_form_WAC_ALLOW := Fld.start ((fld_at v_WAC_ALLOW).symm.trans (own_eqR hm38 v_FLAG))
  have ne_FLAG_VALUE := Fld.ne F_ordinal_FLAG F_ordinal_VALUE (fun q => absurd (Value.int.inj q) (by decide))
  have ne_REPEATED_VALUE_VALUE := Fld.ne F_ordinal_REPEATED_VALUE F_ordinal_VALUE (fun q => absurd (Value.int.inj q) (by decide))
  have ne_FLAG_REPEATED_VALUE := Fld.ne F_ordinal_FLAG F_ordinal_REPEATED_VALUE (fun q => absurd (Value.int.inj q) (by decide))
  obtain ⟨n, o, h1, h2, h3, _, L, rfl, ⟨rfl, N⟩, hq⟩ := rm0_0 l s _ hw tables_1 i0 w_POD w_BASE w_RESOURCE w_AGENT w_CLIENT w_ISSUER w_OWNER w_CREATOR w_CREDENTIAL w_REQUESTS w_AGENTS w_STATS w_WAC_ALLOW w_METHOD w_CREATES w_REMOVES w_PORT w_VALUE w_FLAG w_REPEATED_VALUE s.heap s.heap.size (Nat.le_refl _) S_POD E_POD S_BASE E_BASE S_RESOURCE E_RESOURCE S_AGENT E_AGENT S_CLIENT E_CLIENT S_ISSUER E_ISSUER S_OWNER E_OWNER S_CREATOR E_CREATOR S_CREDENTIAL E_CREDENTIAL S_REQUESTS E_REQUESTS S_AGENTS E_AGENTS S_STATS E_STATS S_WAC_ALLOW E_WAC_ALLOW S_METHOD E_METHOD S_CREATES E_CREATES S_REMOVES E_REMOVES S_PORT E_PORT F_form_POD S_FLAG ne_FLAG_VALUE S_REPEATED_VALUE ne_REPEATED_VALUE_VALUE F_form_BASE F_form_RESOURCE F_form_AGENT F_form_CLIENT F_form_ISSUER F_form_OWNER ne_FLAG_REPEATED_VALUE F_form_CREATOR F_form_CREDENTIAL F_form_REQUESTS F_form_AGENTS F_form_STATS F_form_WAC_ALLOW F_form_METHOD F_form_CREATES F_form_REMOVES F_form_PORT p e ha hc hk s m _ below hf ((Spec.applies_iff_loose hf).mp happ).1 ⟨rfl, State.Warmed39.refl s, rfl⟩ trivial
  refine ⟨n, _, h1, h2, h3, hpost _ _ _ _ _ _ ⟨Cond.after_iff.mpr rfl, Cond.after_iff.mpr (eq_i res_at (Term.int_eval (1)) rfl), trivial⟩ ⟨hq.1, hq.2.1, (hq.2.2.sift fun y hy => Or.inr (N y hy)).mono (by decide) (by decide)⟩⟩
theorem main_1_1 : Claimed_1_1 := comes_1 fun _ _ _ _ _ _ h hF => ⟨h.1, hF⟩
theorem main_1_2 : Claimed_1_2 := comes_1 fun _ _ _ _ _ _ h hF => ⟨h.2.1, hF⟩
end Jvm.Pilot.@@N@@
namespace Jvm.Pilot.@@N@@
open Jvm Jvm.ClassFile Sem Op Lib Jvm.Free Jvm.Stand Jvm.Pilot.@@N@@.Jvm.D
/-! MADE BY PROGRAM (witnessworld.py) out of the Statement's table words and the real class files: 14 classes; the members and pool entries that the words name. The judged class is class 1, her method 1. -/
namespace start1
open Jvm.ClassFile
def u (s : String) : CpInfo := .utf8 (stringToUtf16 s)
/-- a pool by its gaps: so many unusable entries, then the entry; so many at the end -/
def gap : Nat → List CpInfo → List CpInfo
  | 0, r => r
  | n + 1, r => .unusable :: gap n r
def poolList (es : List (Nat × CpInfo)) (last : Nat) : List CpInfo := es.foldr (fun e r => gap e.1 (e.2 :: r)) (gap last [])
def pool (es : List (Nat × CpInfo)) (last : Nat) : Array CpInfo := ⟨poolList es last⟩
def fileOf (pool : Array CpInfo) (this : Nat) (attrs : Array Attribute := #[]) (ms : Array MethodInfo := #[]) (fl : Nat := 33) (sup : Nat := 0) (ifs : Array Nat := #[]) (fds : Array FieldInfo := #[]) : ClassFile where
  minorVersion := 0
  majorVersion := 65
  constantPool := pool
  accessFlags := fl
  thisClass := this
  superClass := sup
  interfaces := ifs
  fields := fds
  methods := ms
  attributes := attrs
def plain (name : String) (sup : Option ClassId) : Class where
  name := name
  kind := .ordinary
  loader := none
  accessFlags := 33
  super := sup
  interfaces := #[]
  cf := none
  fields := #[]
  methods := #[]
  instanceTypes := #[]
  staticTypes := #[]
  resolved := #[]
  callSites := []
  init := .initialized
  statics := none
  mirror := none

def pool0 : Array CpInfo := pool [(5, u "<init>"), (0, u "()V"), (1, .class_ 10), (1, u "java/lang/Object")] 113

def k0m0 : Method := { name := "<init>", desc := "()V", sig := { parameters := [], returnType := none }, accessFlags := 1, code := none }
/-- java/lang/Object -/
def k0 : Class := { plain "java/lang/Object" none with
  accessFlags := 33
  interfaces := #[]
  cf := some (fileOf pool0 8 #[] #[{ accessFlags := 1, nameIndex := 5, descriptorIndex := 6, attributes := #[] }] 33 0 #[] #[])
  fields := #[]
  methods := #[k0m0]
  instanceTypes := #[]
  staticTypes := #[]
  resolved := Array.replicate 124 none
  statics := none }

def pool1 : Array CpInfo := pool [(2, .class_ 4), (1, u "java/lang/Object"), (0, u "<init>"), (0, u "()V"), (0, .class_ 8), (0, u "com/example/garm/garm/command/Option"), (0, .fieldref 7 10), (0, .nameAndType 11 12), (0, u "POD"), (0, u "Lcom/example/garm/garm/command/Option;"), (0, .fieldref 7 14), (0, .nameAndType 15 12), (0, u "BASE"), (0, .fieldref 7 17), (0, .nameAndType 18 12), (0, u "RESOURCE"), (0, .fieldref 7 20), (0, .nameAndType 21 12), (0, u "AGENT"), (0, .fieldref 7 23), (0, .nameAndType 24 12), (0, u "CLIENT"), (0, .fieldref 7 26), (0, .nameAndType 27 12), (0, u "ISSUER"), (0, .fieldref 7 29), (0, .nameAndType 30 12), (0, u "OWNER"), (0, .fieldref 7 32), (0, .nameAndType 33 12), (0, u "CREATOR"), (0, .fieldref 7 35), (0, .nameAndType 36 12), (0, u "CREDENTIAL"), (0, .fieldref 7 38), (0, .nameAndType 39 12), (0, u "REQUESTS"), (0, .fieldref 7 41), (0, .nameAndType 42 12), (0, u "AGENTS"), (0, .fieldref 7 44), (0, .nameAndType 45 12), (0, u "STATS"), (0, .fieldref 7 47), (0, .nameAndType 48 12), (0, u "WAC_ALLOW"), (0, .fieldref 7 50), (0, .nameAndType 51 12), (0, u "METHOD"), (0, .fieldref 7 53), (0, .nameAndType 54 12), (0, u "CREATES"), (0, .fieldref 7 56), (0, .nameAndType 57 12), (0, u "REMOVES"), (0, .fieldref 7 59), (0, .nameAndType 60 12), (0, u "PORT"), (0, .integer 2147483647), (0, .methodref 7 63), (0, .nameAndType 64 65), (0, u "takesValue"), (0, u "()Z"), (0, .methodref 7 67), (0, .nameAndType 68 65), (0, u "isRepeatable"), (0, .class_ 70), (0, u "com/example/garm/garm/command/OptionTakesValuePinLaw"), (2, u "law"), (0, u "(I)Z")] 5

def k1m0 : Method := { name := "<init>", desc := "()V", sig := { parameters := [], returnType := none }, accessFlags := 2, code := none }
def k1c1 : Code := { maxStack := 4, maxLocals := 8, code := code, exceptionTable := #[], attributes := #[] }
def k1m1 : Method := { name := "law", desc := "(I)Z", sig := { parameters := [.int], returnType := some .boolean }, accessFlags := 9, code := some k1c1 }
/-- com/example/garm/garm/command/OptionTakesValuePinLaw -/
def k1 : Class := { plain "com/example/garm/garm/command/OptionTakesValuePinLaw" (some 0) with
  accessFlags := 49
  interfaces := #[]
  cf := some (fileOf pool1 69 #[] #[{ accessFlags := 2, nameIndex := 5, descriptorIndex := 6, attributes := #[] }, { accessFlags := 9, nameIndex := 73, descriptorIndex := 74, attributes := #[] }] 49 2 #[] #[])
  fields := #[]
  methods := #[k1m0, k1m1]
  instanceTypes := #[]
  staticTypes := #[]
  resolved := Array.replicate 80 none
  statics := none }

def pool2 : Array CpInfo := pool [(1, .class_ 2), (0, u "java/lang/constant/Constable"), (0, .class_ 4), (0, u "java/lang/Object")] 6

/-- java/lang/constant/Constable -/
def k2 : Class := { plain "java/lang/constant/Constable" (some 0) with
  accessFlags := 1537
  interfaces := #[]
  cf := some (fileOf pool2 1 #[] #[] 1537 3 #[] #[])
  fields := #[]
  methods := #[]
  instanceTypes := #[]
  staticTypes := #[]
  resolved := Array.replicate 11 none
  statics := none }

def pool3 : Array CpInfo := pool [(1, .class_ 2), (0, u "java/lang/Comparable"), (0, .class_ 4), (0, u "java/lang/Object")] 7

/-- java/lang/Comparable -/
def k3 : Class := { plain "java/lang/Comparable" (some 0) with
  accessFlags := 1537
  interfaces := #[]
  cf := some (fileOf pool3 1 #[] #[] 1537 3 #[] #[])
  fields := #[]
  methods := #[]
  instanceTypes := #[]
  staticTypes := #[]
  resolved := Array.replicate 12 none
  statics := none }

def pool4 : Array CpInfo := pool [(1, .class_ 2), (0, u "java/io/Serializable"), (0, .class_ 4), (0, u "java/lang/Object")] 2

/-- java/io/Serializable -/
def k4 : Class := { plain "java/io/Serializable" (some 0) with
  accessFlags := 1537
  interfaces := #[]
  cf := some (fileOf pool4 1 #[] #[] 1537 3 #[] #[])
  fields := #[]
  methods := #[]
  instanceTypes := #[]
  staticTypes := #[]
  resolved := Array.replicate 7 none
  statics := none }

def pool5 : Array CpInfo := pool [(2, .class_ 4), (1, u "java/lang/Enum"), (0, u "name"), (0, u "Ljava/lang/String;"), (2, u "ordinal"), (0, u "I"), (1, .class_ 14), (1, u "java/lang/Object"), (4, u "hash"), (86, .class_ 108), (1, u "java/lang/Enum$EnumDesc"), (2, .class_ 112), (0, u "java/lang/constant/Constable"), (0, .class_ 114), (0, u "java/lang/Comparable"), (0, .class_ 116), (0, u "java/io/Serializable")] 87

/-- java/lang/Enum -/
def k5 : Class := { plain "java/lang/Enum" (some 0) with
  accessFlags := 1057
  interfaces := #[2, 3, 4]
  cf := some (fileOf pool5 2 #[.nestMembers #[106]] #[] 1057 12 #[111, 113, 115] #[{ accessFlags := 18, nameIndex := 5, descriptorIndex := 6, attributes := #[] }, { accessFlags := 18, nameIndex := 9, descriptorIndex := 10, attributes := #[] }, { accessFlags := 2, nameIndex := 19, descriptorIndex := 10, attributes := #[] }])
  fields := #[{ name := "name", type := (.object "java/lang/String"), accessFlags := 18, slot := 0, constantValue := 0 }, { name := "ordinal", type := .int, accessFlags := 18, slot := 1, constantValue := 0 }, { name := "hash", type := .int, accessFlags := 2, slot := 2, constantValue := 0 }]
  methods := #[]
  instanceTypes := #[(.object "java/lang/String"), .int, .int]
  staticTypes := #[]
  resolved := Array.replicate 204 none
  statics := none }

def pool6 : Array CpInfo := pool [(1, .class_ 2), (0, u "com/example/garm/garm/command/Option"), (2, u "POD"), (0, u "Lcom/example/garm/garm/command/Option;"), (2, u "BASE"), (2, u "RESOURCE"), (2, u "AGENT"), (2, u "CLIENT"), (2, u "ISSUER"), (2, u "OWNER"), (2, u "CREATOR"), (2, u "CREDENTIAL"), (2, u "REQUESTS"), (2, u "AGENTS"), (2, u "STATS"), (2, u "WAC_ALLOW"), (2, u "METHOD"), (2, u "CREATES"), (2, u "REMOVES"), (2, u "PORT"), (2, u "$VALUES"), (0, u "[Lcom/example/garm/garm/command/Option;"), (6, .class_ 67), (1, u "java/lang/Enum"), (6, .fieldref 1 75), (0, .nameAndType 76 77), (0, u "form"), (0, u "Lcom/example/garm/garm/command/Option$Form;"), (2, u "part"), (0, u "Lcom/example/garm/garm/command/Option$Part;"), (24, .fieldref 107 108), (0, .class_ 109), (0, .nameAndType 110 77), (0, u "com/example/garm/garm/command/Option$Form"), (0, u "FLAG"), (0, .fieldref 107 112), (0, .nameAndType 113 77), (0, u "REPEATED_VALUE"), (1, .class_ 117), (1, u "com/example/garm/garm/command/Option$Part"), (53, u "REQUIRED"), (0, u "Ljava/util/List;"), (5, u "ONE_REQUEST"), (11, u "takesValue"), (0, u "()Z"), (0, u "isRepeatable")] 24

def k6c0 : Code := { maxStack := 2, maxLocals := 1, code := prog_4_method_5_code, exceptionTable := #[], attributes := #[] }
def k6m0 : Method := { name := "takesValue", desc := "()Z", sig := { parameters := [], returnType := some .boolean }, accessFlags := 0, code := some k6c0 }
def k6c1 : Code := { maxStack := 2, maxLocals := 1, code := prog_4_method_6_code, exceptionTable := #[], attributes := #[] }
def k6m1 : Method := { name := "isRepeatable", desc := "()Z", sig := { parameters := [], returnType := some .boolean }, accessFlags := 0, code := some k6c1 }
/-- com/example/garm/garm/command/Option -/
def k6 : Class := { plain "com/example/garm/garm/command/Option" (some 5) with
  accessFlags := 16432
  interfaces := #[]
  cf := some (fileOf pool6 1 #[.nestMembers #[115, 107]] #[{ accessFlags := 0, nameIndex := 190, descriptorIndex := 191, attributes := #[] }, { accessFlags := 0, nameIndex := 192, descriptorIndex := 191, attributes := #[] }] 16432 65 #[] #[{ accessFlags := 16409, nameIndex := 5, descriptorIndex := 6, attributes := #[] }, { accessFlags := 16409, nameIndex := 9, descriptorIndex := 6, attributes := #[] }, { accessFlags := 16409, nameIndex := 12, descriptorIndex := 6, attributes := #[] }, { accessFlags := 16409, nameIndex := 15, descriptorIndex := 6, attributes := #[] }, { accessFlags := 16409, nameIndex := 18, descriptorIndex := 6, attributes := #[] }, { accessFlags := 16409, nameIndex := 21, descriptorIndex := 6, attributes := #[] }, { accessFlags := 16409, nameIndex := 24, descriptorIndex := 6, attributes := #[] }, { accessFlags := 16409, nameIndex := 27, descriptorIndex := 6, attributes := #[] }, { accessFlags := 16409, nameIndex := 30, descriptorIndex := 6, attributes := #[] }, { accessFlags := 16409, nameIndex := 33, descriptorIndex := 6, attributes := #[] }, { accessFlags := 16409, nameIndex := 36, descriptorIndex := 6, attributes := #[] }, { accessFlags := 16409, nameIndex := 39, descriptorIndex := 6, attributes := #[] }, { accessFlags := 16409, nameIndex := 42, descriptorIndex := 6, attributes := #[] }, { accessFlags := 16409, nameIndex := 45, descriptorIndex := 6, attributes := #[] }, { accessFlags := 16409, nameIndex := 48, descriptorIndex := 6, attributes := #[] }, { accessFlags := 16409, nameIndex := 51, descriptorIndex := 6, attributes := #[] }, { accessFlags := 16409, nameIndex := 54, descriptorIndex := 6, attributes := #[] }, { accessFlags := 24, nameIndex := 171, descriptorIndex := 172, attributes := #[] }, { accessFlags := 24, nameIndex := 178, descriptorIndex := 172, attributes := #[] }, { accessFlags := 18, nameIndex := 76, descriptorIndex := 77, attributes := #[] }, { accessFlags := 18, nameIndex := 80, descriptorIndex := 81, attributes := #[] }, { accessFlags := 4122, nameIndex := 57, descriptorIndex := 58, attributes := #[] }])
  fields := #[{ name := "POD", type := (.object "com/example/garm/garm/command/Option"), accessFlags := 16409, slot := 0, constantValue := 0 }, { name := "BASE", type := (.object "com/example/garm/garm/command/Option"), accessFlags := 16409, slot := 1, constantValue := 0 }, { name := "RESOURCE", type := (.object "com/example/garm/garm/command/Option"), accessFlags := 16409, slot := 2, constantValue := 0 }, { name := "AGENT", type := (.object "com/example/garm/garm/command/Option"), accessFlags := 16409, slot := 3, constantValue := 0 }, { name := "CLIENT", type := (.object "com/example/garm/garm/command/Option"), accessFlags := 16409, slot := 4, constantValue := 0 }, { name := "ISSUER", type := (.object "com/example/garm/garm/command/Option"), accessFlags := 16409, slot := 5, constantValue := 0 }, { name := "OWNER", type := (.object "com/example/garm/garm/command/Option"), accessFlags := 16409, slot := 6, constantValue := 0 }, { name := "CREATOR", type := (.object "com/example/garm/garm/command/Option"), accessFlags := 16409, slot := 7, constantValue := 0 }, { name := "CREDENTIAL", type := (.object "com/example/garm/garm/command/Option"), accessFlags := 16409, slot := 8, constantValue := 0 }, { name := "REQUESTS", type := (.object "com/example/garm/garm/command/Option"), accessFlags := 16409, slot := 9, constantValue := 0 }, { name := "AGENTS", type := (.object "com/example/garm/garm/command/Option"), accessFlags := 16409, slot := 10, constantValue := 0 }, { name := "STATS", type := (.object "com/example/garm/garm/command/Option"), accessFlags := 16409, slot := 11, constantValue := 0 }, { name := "WAC_ALLOW", type := (.object "com/example/garm/garm/command/Option"), accessFlags := 16409, slot := 12, constantValue := 0 }, { name := "METHOD", type := (.object "com/example/garm/garm/command/Option"), accessFlags := 16409, slot := 13, constantValue := 0 }, { name := "CREATES", type := (.object "com/example/garm/garm/command/Option"), accessFlags := 16409, slot := 14, constantValue := 0 }, { name := "REMOVES", type := (.object "com/example/garm/garm/command/Option"), accessFlags := 16409, slot := 15, constantValue := 0 }, { name := "PORT", type := (.object "com/example/garm/garm/command/Option"), accessFlags := 16409, slot := 16, constantValue := 0 }, { name := "REQUIRED", type := (.object "java/util/List"), accessFlags := 24, slot := 17, constantValue := 0 }, { name := "ONE_REQUEST", type := (.object "java/util/List"), accessFlags := 24, slot := 18, constantValue := 0 }, { name := "form", type := (.object "com/example/garm/garm/command/Option$Form"), accessFlags := 18, slot := 3, constantValue := 0 }, { name := "part", type := (.object "com/example/garm/garm/command/Option$Part"), accessFlags := 18, slot := 4, constantValue := 0 }, { name := "$VALUES", type := (.array (.object "com/example/garm/garm/command/Option")), accessFlags := 4122, slot := 19, constantValue := 0 }]
  methods := #[k6m0, k6m1]
  instanceTypes := #[(.object "java/lang/String"), .int, .int, (.object "com/example/garm/garm/command/Option$Form"), (.object "com/example/garm/garm/command/Option$Part")]
  staticTypes := #[(.object "com/example/garm/garm/command/Option"), (.object "com/example/garm/garm/command/Option"), (.object "com/example/garm/garm/command/Option"), (.object "com/example/garm/garm/command/Option"), (.object "com/example/garm/garm/command/Option"), (.object "com/example/garm/garm/command/Option"), (.object "com/example/garm/garm/command/Option"), (.object "com/example/garm/garm/command/Option"), (.object "com/example/garm/garm/command/Option"), (.object "com/example/garm/garm/command/Option"), (.object "com/example/garm/garm/command/Option"), (.object "com/example/garm/garm/command/Option"), (.object "com/example/garm/garm/command/Option"), (.object "com/example/garm/garm/command/Option"), (.object "com/example/garm/garm/command/Option"), (.object "com/example/garm/garm/command/Option"), (.object "com/example/garm/garm/command/Option"), (.object "java/util/List"), (.object "java/util/List"), (.array (.object "com/example/garm/garm/command/Option"))]
  resolved := Array.replicate 217 none
  statics := some 0 }

def pool7 : Array CpInfo := pool [(1, .class_ 2), (0, u "com/example/garm/garm/command/Option$Form"), (2, u "FLAG"), (0, u "Lcom/example/garm/garm/command/Option$Form;"), (2, u "VALUE"), (2, u "REPEATED_VALUE"), (2, u "$VALUES"), (0, u "[Lcom/example/garm/garm/command/Option$Form;"), (6, .class_ 25), (1, u "java/lang/Enum"), (26, .class_ 53), (0, u "com/example/garm/garm/command/Option")] 2

/-- com/example/garm/garm/command/Option$Form -/
def k7 : Class := { plain "com/example/garm/garm/command/Option$Form" (some 5) with
  accessFlags := 16432
  interfaces := #[]
  cf := some (fileOf pool7 1 #[.nestHost 52] #[] 16432 23 #[] #[{ accessFlags := 16409, nameIndex := 5, descriptorIndex := 6, attributes := #[] }, { accessFlags := 16409, nameIndex := 9, descriptorIndex := 6, attributes := #[] }, { accessFlags := 16409, nameIndex := 12, descriptorIndex := 6, attributes := #[] }, { accessFlags := 4122, nameIndex := 15, descriptorIndex := 16, attributes := #[] }])
  fields := #[{ name := "FLAG", type := (.object "com/example/garm/garm/command/Option$Form"), accessFlags := 16409, slot := 0, constantValue := 0 }, { name := "VALUE", type := (.object "com/example/garm/garm/command/Option$Form"), accessFlags := 16409, slot := 1, constantValue := 0 }, { name := "REPEATED_VALUE", type := (.object "com/example/garm/garm/command/Option$Form"), accessFlags := 16409, slot := 2, constantValue := 0 }, { name := "$VALUES", type := (.array (.object "com/example/garm/garm/command/Option$Form")), accessFlags := 4122, slot := 3, constantValue := 0 }]
  methods := #[]
  instanceTypes := #[(.object "java/lang/String"), .int, .int]
  staticTypes := #[(.object "com/example/garm/garm/command/Option$Form"), (.object "com/example/garm/garm/command/Option$Form"), (.object "com/example/garm/garm/command/Option$Form"), (.array (.object "com/example/garm/garm/command/Option$Form"))]
  resolved := Array.replicate 56 none
  statics := some 1 }

def pool8 : Array CpInfo := pool [(1, u "java/lang/Cloneable"), (0, .class_ 1), (0, u "java/lang/Object"), (0, .class_ 3)] 3

/-- java/lang/Cloneable -/
def k8 : Class := { plain "java/lang/Cloneable" (some 0) with
  accessFlags := 1537
  interfaces := #[]
  cf := some (fileOf pool8 2 #[] #[] 1537 4 #[] #[])
  fields := #[]
  methods := #[]
  instanceTypes := #[]
  staticTypes := #[]
  resolved := Array.replicate 8 none
  statics := none }

/-- the primitive byte -/
def k9 : Class := { plain "byte" none with kind := .primitive 'B', accessFlags := 0x411 }
/-- [B -/
def k10 : Class := { plain "[B" (some 0) with kind := .array 9 .byte, interfaces := #[8, 4], accessFlags := 1041 }

/-- the primitive int -/
def k11 : Class := { plain "int" none with kind := .primitive 'I', accessFlags := 0x411 }
/-- [I -/
def k12 : Class := { plain "[I" (some 0) with kind := .array 11 .int, interfaces := #[8, 4], accessFlags := 1041 }

/-- [Lcom/example/garm/garm/command/Option; -/
def k13 : Class := { plain "[Lcom/example/garm/garm/command/Option;" (some 0) with kind := .array 6 (.object "com/example/garm/garm/command/Option"), interfaces := #[8, 4], accessFlags := 1041 }

def heap : Heap := #[{ cls := 6, slots := #[.ref 2, .ref 3, .ref 4, .ref 5, .ref 6, .ref 7, .ref 8, .ref 9, .ref 10, .ref 11, .ref 12, .ref 13, .ref 14, .ref 15, .ref 16, .ref 17, .ref 18, .null, .null, .null], vm := .statics 6 },
  { cls := 7, slots := #[.ref 20, .ref 19, .ref 21, .null], vm := .statics 7 },
  { cls := 6, slots := #[.null, .int 0, .int 0, .ref 19, .null], vm := .none },
  { cls := 6, slots := #[.null, .int 0, .int 0, .ref 19, .null], vm := .none },
  { cls := 6, slots := #[.null, .int 0, .int 0, .ref 19, .null], vm := .none },
  { cls := 6, slots := #[.null, .int 0, .int 0, .ref 19, .null], vm := .none },
  { cls := 6, slots := #[.null, .int 0, .int 0, .ref 19, .null], vm := .none },
  { cls := 6, slots := #[.null, .int 0, .int 0, .ref 19, .null], vm := .none },
  { cls := 6, slots := #[.null, .int 0, .int 0, .ref 21, .null], vm := .none },
  { cls := 6, slots := #[.null, .int 0, .int 0, .ref 19, .null], vm := .none },
  { cls := 6, slots := #[.null, .int 0, .int 0, .ref 21, .null], vm := .none },
  { cls := 6, slots := #[.null, .int 0, .int 0, .ref 19, .null], vm := .none },
  { cls := 6, slots := #[.null, .int 0, .int 0, .ref 19, .null], vm := .none },
  { cls := 6, slots := #[.null, .int 0, .int 0, .ref 20, .null], vm := .none },
  { cls := 6, slots := #[.null, .int 0, .int 0, .ref 20, .null], vm := .none },
  { cls := 6, slots := #[.null, .int 0, .int 0, .ref 19, .null], vm := .none },
  { cls := 6, slots := #[.null, .int 0, .int 0, .ref 20, .null], vm := .none },
  { cls := 6, slots := #[.null, .int 0, .int 0, .ref 20, .null], vm := .none },
  { cls := 6, slots := #[.null, .int 0, .int 0, .ref 19, .null], vm := .none },
  { cls := 7, slots := #[.null, .int 1, .int 0], vm := .none },
  { cls := 7, slots := #[.null, .int 0, .int 0], vm := .none },
  { cls := 7, slots := #[.null, .int 2, .int 0], vm := .none }]
def classes : Array Class := #[k0, k1, k2, k3, k4, k5, k6, k7, k8, k9, k10, k11, k12, k13]
def interned : List (Array UInt16 × Addr) := []
def slotsUsed : Nat := 118
def theMethod : MethodId := ⟨1, 1⟩
def args0 : Array Value := #[.int 5]
def aboutOver (below : List Frame) : State where
  vm := { classes := classes, interned := interned.toArray }
  heap := heap
  slotsUsed := slotsUsed
  threads := #[{ frames := .invoking theMethod args0 :: below }]
def below0 : List Frame := [.native { method := ⟨0, 0⟩, args := #[] }]
def about1 : State := aboutOver below0
def p0 : Program := .bare "" "" ""
def e0 : Env := launch0.env 0 0 0
theorem w_frames : about1.frames = Frame.invoking theMethod args0 :: below0 := rfl
set_option maxRecDepth 65536 in
theorem w_args : argsFit about1.vm theMethod args0 = true := by decide +kernel
set_option maxRecDepth 65536 in
theorem w_heap : heapFits about1 = true := by decide +kernel
set_option maxRecDepth 65536 in
theorem w_runnable : about1.curStatus? = some .runnable := by decide +kernel
set_option maxRecDepth 65536 in
theorem w_alone : about1.alone = true := by decide +kernel
set_option maxRecDepth 65536 in
theorem w_named : about1.methodNamed? x = some theMethod := by decide +kernel
set_option maxRecDepth 65536 in
theorem w_hears : about1.hears theMethod below0 = true := by decide +kernel
set_option maxRecDepth 65536 in
theorem w_ripe : about1.ripe theMethod args0 below0 = true := by decide +kernel
theorem w_running : about1.status = .running := rfl
set_option maxRecDepth 65536 in
theorem w_room : about1.hasRoom e0.platform room_1 = true :=
  launch0.hasRoom_least _ room_1 (by decide +kernel) (by decide +kernel) (by decide +kernel) (by decide +kernel) (by decide +kernel) (by decide +kernel)
theorem allAtoms_all (ts : List Jvm.Cond) (a : Array Jvm.Value) (st : Jvm.State) : (allAtoms ts).before a st = ts.all (fun c => c.before a st) := by
  induction ts with
  | nil => rfl
  | cons c t ih =>
    show (Jvm.Cond.and c (allAtoms t)).before a st = _
    rw [Jvm.Cond.before_and, ih, List.all_cons]
def words1 : List Jvm.Cond := Jvm.Cond.code x code maxLocals ret :: tables_1
/-- a 'code' word, met by the world's own term for the bytes: nothing is compared byte by byte -/
theorem code_word {y : MethodName} {bytes : ByteArray} {mx : Nat} {rt : Option FieldType} {a : Array Value} {s : State} {m : MethodId} {meth : Method} {c : Code} (h1 : s.methodNamed? y = some m) (h2 : s.vm.method? m = some meth) (h3 : meth.code = some c) (h4 : c.code = bytes)
    (h5 : (c.maxLocals == mx && c.exceptionTable.isEmpty && decide (c.maxStack ≤ mostOperands) && decide (meth.sig.returnType = rt) && !meth.locks && decide (parseMethodDescriptor y.desc = some meth.sig)) = true) : (Jvm.Cond.code y bytes mx rt).before a s = true := by
  simp only [Bool.and_eq_true, beq_iff_eq, Bool.not_eq_true', decide_eq_true_eq] at h5
  obtain ⟨⟨⟨⟨⟨g1, g2⟩, g3⟩, g4⟩, g5⟩, g6⟩ := h5
  simp [Cond.before, Cond.holds, Cond.value, h1, h2, h3, h4, g1, g2, g3, g4, g5, g6]
def isCode : Jvm.Cond → Bool
  | .code _ _ _ _ => true
  | _ => false
theorem all_split {L : List Jvm.Cond} {P : Jvm.Cond → Bool} (h1 : L.all (fun c => isCode c || P c) = true) (h2 : ∀ c ∈ L.filter isCode, P c = true) : L.all P = true := by
  refine List.all_eq_true.mpr fun c hc => ?_
  have h := List.all_eq_true.mp h1 c hc
  rcases Bool.eq_false_or_eq_true (isCode c) with hi | hi
  · exact h2 c (List.mem_filter.mpr ⟨hc, hi⟩)
  · simpa [hi] using h
set_option maxRecDepth 65536 in
theorem w_c0 : (Jvm.Cond.code x code maxLocals ret).before args0 about1 = true := code_word (m := ⟨1, 1⟩) (meth := k1m1) (c := k1c1) (by decide +kernel) rfl rfl rfl (by decide +kernel)
set_option maxRecDepth 65536 in
theorem w_c1 : (Jvm.Cond.code ({ cls := "com/example/garm/garm/command/Option", name := "takesValue", desc := "()Z" } : Jvm.MethodName) prog_4_method_5_code (1 : Nat) (Option.some Jvm.ClassFile.FieldType.boolean)).before args0 about1 = true := code_word (m := ⟨6, 0⟩) (meth := k6m0) (c := k6c0) (by decide +kernel) rfl rfl rfl (by decide +kernel)
set_option maxRecDepth 65536 in
theorem w_c2 : (Jvm.Cond.code ({ cls := "com/example/garm/garm/command/Option", name := "isRepeatable", desc := "()Z" } : Jvm.MethodName) prog_4_method_6_code (1 : Nat) (Option.some Jvm.ClassFile.FieldType.boolean)).before args0 about1 = true := code_word (m := ⟨6, 1⟩) (meth := k6m1) (c := k6c1) (by decide +kernel) rfl rfl rfl (by decide +kernel)
def codes1 : List Jvm.Cond := [Jvm.Cond.code x code maxLocals ret, Jvm.Cond.code ({ cls := "com/example/garm/garm/command/Option", name := "takesValue", desc := "()Z" } : Jvm.MethodName) prog_4_method_5_code (1 : Nat) (Option.some Jvm.ClassFile.FieldType.boolean), Jvm.Cond.code ({ cls := "com/example/garm/garm/command/Option", name := "isRepeatable", desc := "()Z" } : Jvm.MethodName) prog_4_method_6_code (1 : Nat) (Option.some Jvm.ClassFile.FieldType.boolean)]
set_option maxRecDepth 65536 in
theorem codes_eq : words1.filter isCode = codes1 := rfl
theorem w_codes : ∀ c ∈ words1.filter isCode, c.before args0 about1 = true := by
  rw [codes_eq]
  intro c hc
  simp only [codes1, List.mem_cons, List.not_mem_nil, or_false] at hc
  rcases hc with rfl | rfl | rfl
  · exact w_c0
  · exact w_c1
  · exact w_c2
set_option maxRecDepth 65536 in
theorem w_t1 : (words1.take 24).all (fun c => isCode c || c.before args0 about1) = true := by decide +kernel
set_option maxRecDepth 65536 in
theorem w_t2 : ((words1.drop 24).take 24).all (fun c => isCode c || c.before args0 about1) = true := by decide +kernel
set_option maxRecDepth 65536 in
theorem w_t3 : ((words1.drop 24).drop 24).all (fun c => isCode c || c.before args0 about1) = true := by decide +kernel
theorem w_tables : (allAtoms (Jvm.Cond.code x code maxLocals ret :: tables_1)).before args0 about1 = true := by
  rw [allAtoms_all]
  show words1.all (fun c => c.before args0 about1) = true
  refine all_split ?_ w_codes
  rw [← List.take_append_drop 24 words1, List.all_append, w_t1, ← List.take_append_drop 24 (words1.drop 24), List.all_append, w_t2, w_t3]
  rfl
set_option maxRecDepth 65536 in
theorem w_case : (Jvm.Cond.and given_1 narrow_1).before args0 about1 = true := by decide +kernel
theorem w_applies : (headSpec (Jvm.Cond.code x code maxLocals ret :: tables_1) room_1).applies x e0.platform about1 = true :=
  (Spec.applies_iff w_frames).mpr ⟨w_running, w_runnable, w_alone, w_named, w_hears, w_ripe, w_room, w_tables⟩
theorem atStart : AtStart classFile x code maxLocals ret World_1 tables_1 room_1 Calls_1 rest_1 Pre_1 launch0 p0 e0 about1 theMethod args0 below0 :=
  ⟨lists_1, trivial, launch0.admits_env _ _ _, launch0.least_env, fairChoices_fair.cas, fairChoices_fair.clock, w_frames, w_args, w_heap, w_applies, trivial, trivial, w_case⟩
end start1
theorem witness_1 : WitnessClaimed_1 := ⟨start1.p0, start1.e0, start1.about1, start1.theMethod, start1.args0, start1.below0, start1.atStart⟩
end Jvm.Pilot.@@N@@
