import JvmDerived
import JvmDerived.Pilot.@@N@@Statement
import JvmDerived.Pilot.@@N@@Code
set_option linter.unusedVariables false
set_option linter.unusedSimpArgs false
namespace Jvm.RoadKit
open Sem ClassFile Op Lib Jvm.Stand Jvm.Free Jvm.LawKit
section New
variable {p : Program} {l : Launch} {e : Env} {R : Room} {s : State} {m : MethodId} {args : Array Value} {below : List Frame} {meth : Method} {c : Code} {T : State} {locs : List Loc} {cells slots : Nat}
theorem retI (X : Stand p l e R s m args below meth c T locs cells slots) (hx : p.tables.exec = Jvm.exec) {pc : Nat} {Ls : Array Slot} {z : Int32} {rest : List Value} (hret : meth.sig.returnType = some .int) (hd : decode c.code pc = .ok (.ireturn, 1)) {fs : List Frame}
    (hl : ∀ (f : JFrame) (acts : List Action), f.method = m → f.locked = none → f.entered = [] → (doReturn e (T.setTop f) acts (some (.int z))).1 = T.setFrames fs) : Steps p.tables e below (T.setTop (mkF m pc Ls (.int z :: rest))) (T.setFrames fs) := by
  have hm' : T.vm.method? m = some meth := X.method'
  have hn : narrow .int (.int z) = .int z := rfl
  show Steps p.tables e below (T.setTop { method := m, pc := pc, locals := Ls, stack := _ :: rest, locked := none }) _
  jvm_step X.here [X.here.top, hx, hd, hm', hret, hn]
  first | (intro acts; rw [hl _ acts rfl rfl rfl]) | rw [hl _ _ rfl rfl rfl]
  exact Steps.refl _
end New
end Jvm.RoadKit
namespace Jvm.Pilot.@@N@@
open Jvm Jvm.ClassFile Sem Op Lib Jvm.Free Jvm.Stand Jvm.LawKit Jvm.RoadKit Bundle Jvm.Pilot.@@N@@.Jvm.D
theorem own_staK {Z : State} {h h' : Heap} {C n d : String} {v : Value} {ws : List Addr} (F : Sta Z h C n d v) (K : Keep h h' ws) (q : ∀ x ∈ ws, ∃ C', Exa Z h x C') : Sta Z h' C n d v := by
  obtain ⟨cf, i, k, f, st, cell, h1, h2, h3, h4, h5, h6, r⟩ := F
  refine ⟨cf, i, k, f, st, cell, h1, h2, h3, h4, K.2.1 _ _ h5 (fun hm => ?_), h6, r⟩
  obtain ⟨C', cell', k', e1, -, -, e4, -⟩ := q _ hm
  cases h5.symm.trans e1
  rw [h6] at e4; cases e4
theorem own_eqI {args : Array Value} {first s : State} {o : Option Outcome} {idx : List Nat} {a : Term} {n : Int32} (h : (Jvm.Cond.eq a (Term.int n)).value args first o s idx = some true) : a.eval args first o idx s = some (.int n) := by
  obtain ⟨x, y, h1, h2, -, -⟩ := cmp_v (Or.inl h)
  cases h2.symm.trans (Term.int_eval n)
  cases x <;> simp [Cond.value, h1, h2] at h
  rw [h1, h]
theorem own_eqR {args : Array Value} {first s : State} {o : Option Outcome} {idx : List Nat} {a b : Term} {x : Addr} (h : (Jvm.Cond.eq a b).value args first o s idx = some true) (hb : b.eval args first o idx s = some (.ref x)) : a.eval args first o idx s = some (.ref x) := by
  obtain ⟨u, y, h1, h2, -, -⟩ := cmp_v (Or.inl h)
  cases h2.symm.trans hb
  cases u <;> simp [Cond.value, h1, h2] at h
  rw [h1, h]
theorem own_eqL {args : Array Value} {first s : State} {o : Option Outcome} {idx : List Nat} {a : Term} {n : Int64} (h : (Jvm.Cond.eq a (Term.long n)).value args first o s idx = some true) : a.eval args first o idx s = some (.long n) := by
  obtain ⟨x, y, h1, h2, -, -⟩ := cmp_v (Or.inl h)
  cases h2.symm.trans (long_at n)
  cases x <;> simp [Cond.value, h1, h2] at h
  rw [h1, h]
theorem own_c0 (x : Int32) : ((x &&& (2147483647 : Int32)) % (15 : Int32)) = (0 : Int32) ∨ ((x &&& (2147483647 : Int32)) % (15 : Int32)) = (1 : Int32) ∨ ((x &&& (2147483647 : Int32)) % (15 : Int32)) = (2 : Int32) ∨ ((x &&& (2147483647 : Int32)) % (15 : Int32)) = (3 : Int32) ∨ ((x &&& (2147483647 : Int32)) % (15 : Int32)) = (4 : Int32) ∨ ((x &&& (2147483647 : Int32)) % (15 : Int32)) = (5 : Int32) ∨ ((x &&& (2147483647 : Int32)) % (15 : Int32)) = (6 : Int32) ∨ ((x &&& (2147483647 : Int32)) % (15 : Int32)) = (7 : Int32) ∨ ((x &&& (2147483647 : Int32)) % (15 : Int32)) = (8 : Int32) ∨ ((x &&& (2147483647 : Int32)) % (15 : Int32)) = (9 : Int32) ∨ ((x &&& (2147483647 : Int32)) % (15 : Int32)) = (10 : Int32) ∨ ((x &&& (2147483647 : Int32)) % (15 : Int32)) = (11 : Int32) ∨ ((x &&& (2147483647 : Int32)) % (15 : Int32)) = (12 : Int32) ∨ ((x &&& (2147483647 : Int32)) % (15 : Int32)) = (13 : Int32) ∨ ((x &&& (2147483647 : Int32)) % (15 : Int32)) = (14 : Int32) := by
  have h1 := (c_and x (2147483647 : Int32) (by decide)).1
  have h2 := (c_irem (x &&& (2147483647 : Int32)) (15 : Int32) 15 (by decide)).1 h1
  have h9 : (((x &&& (2147483647 : Int32)) % (15 : Int32))).toInt = 0 ∨ (((x &&& (2147483647 : Int32)) % (15 : Int32))).toInt = 1 ∨ (((x &&& (2147483647 : Int32)) % (15 : Int32))).toInt = 2 ∨ (((x &&& (2147483647 : Int32)) % (15 : Int32))).toInt = 3 ∨ (((x &&& (2147483647 : Int32)) % (15 : Int32))).toInt = 4 ∨ (((x &&& (2147483647 : Int32)) % (15 : Int32))).toInt = 5 ∨ (((x &&& (2147483647 : Int32)) % (15 : Int32))).toInt = 6 ∨ (((x &&& (2147483647 : Int32)) % (15 : Int32))).toInt = 7 ∨ (((x &&& (2147483647 : Int32)) % (15 : Int32))).toInt = 8 ∨ (((x &&& (2147483647 : Int32)) % (15 : Int32))).toInt = 9 ∨ (((x &&& (2147483647 : Int32)) % (15 : Int32))).toInt = 10 ∨ (((x &&& (2147483647 : Int32)) % (15 : Int32))).toInt = 11 ∨ (((x &&& (2147483647 : Int32)) % (15 : Int32))).toInt = 12 ∨ (((x &&& (2147483647 : Int32)) % (15 : Int32))).toInt = 13 ∨ (((x &&& (2147483647 : Int32)) % (15 : Int32))).toInt = 14 := by omega
  rcases h9 with q | q | q | q | q | q | q | q | q | q | q | q | q | q | q
  · exact Or.inl (Int32.toInt_inj.mp (q.trans (by decide)))
  · exact Or.inr (Or.inl (Int32.toInt_inj.mp (q.trans (by decide))))
  · exact Or.inr (Or.inr (Or.inl (Int32.toInt_inj.mp (q.trans (by decide)))))
  · exact Or.inr (Or.inr (Or.inr (Or.inl (Int32.toInt_inj.mp (q.trans (by decide))))))
  · exact Or.inr (Or.inr (Or.inr (Or.inr (Or.inl (Int32.toInt_inj.mp (q.trans (by decide)))))))
  · exact Or.inr (Or.inr (Or.inr (Or.inr (Or.inr (Or.inl (Int32.toInt_inj.mp (q.trans (by decide))))))))
  · exact Or.inr (Or.inr (Or.inr (Or.inr (Or.inr (Or.inr (Or.inl (Int32.toInt_inj.mp (q.trans (by decide)))))))))
  · exact Or.inr (Or.inr (Or.inr (Or.inr (Or.inr (Or.inr (Or.inr (Or.inl (Int32.toInt_inj.mp (q.trans (by decide))))))))))
  · exact Or.inr (Or.inr (Or.inr (Or.inr (Or.inr (Or.inr (Or.inr (Or.inr (Or.inl (Int32.toInt_inj.mp (q.trans (by decide)))))))))))
  · exact Or.inr (Or.inr (Or.inr (Or.inr (Or.inr (Or.inr (Or.inr (Or.inr (Or.inr (Or.inl (Int32.toInt_inj.mp (q.trans (by decide))))))))))))
  · exact Or.inr (Or.inr (Or.inr (Or.inr (Or.inr (Or.inr (Or.inr (Or.inr (Or.inr (Or.inr (Or.inl (Int32.toInt_inj.mp (q.trans (by decide)))))))))))))
  · exact Or.inr (Or.inr (Or.inr (Or.inr (Or.inr (Or.inr (Or.inr (Or.inr (Or.inr (Or.inr (Or.inr (Or.inl (Int32.toInt_inj.mp (q.trans (by decide))))))))))))))
  · exact Or.inr (Or.inr (Or.inr (Or.inr (Or.inr (Or.inr (Or.inr (Or.inr (Or.inr (Or.inr (Or.inr (Or.inr (Or.inl (Int32.toInt_inj.mp (q.trans (by decide)))))))))))))))
  · exact Or.inr (Or.inr (Or.inr (Or.inr (Or.inr (Or.inr (Or.inr (Or.inr (Or.inr (Or.inr (Or.inr (Or.inr (Or.inr (Or.inl (Int32.toInt_inj.mp (q.trans (by decide))))))))))))))))
  · exact Or.inr (Or.inr (Or.inr (Or.inr (Or.inr (Or.inr (Or.inr (Or.inr (Or.inr (Or.inr (Or.inr (Or.inr (Or.inr (Or.inr (Int32.toInt_inj.mp (q.trans (by decide))))))))))))))))
theorem d1_0 : decode prog_8_method_4_code 0 = .ok (.aload_n 0, 1) := by decide +kernel
theorem d1_1 : decode prog_8_method_4_code 1 = .ok (.getstatic 3, 3) := by decide +kernel
theorem d1_4 : decode prog_8_method_4_code 4 = .ok (.if_acmp .eq 21, 3) := by decide +kernel
theorem d1_25 : decode prog_8_method_4_code 25 = .ok (.iconst 0, 1) := by decide +kernel
theorem d1_26 : decode prog_8_method_4_code 26 = .ok (.ireturn, 1) := by decide +kernel
theorem pn_0 : plainName "com/example/grebe/grebe/frame/Command" = true := by first | (simp [plainName, overriddenIn]; done) | decide +kernel
theorem ef_rm1_0 (m : MethodId) (x0 : Addr) : entryFrame m #[(.ref x0)] 1 = mkF m 0 #[.val (.ref x0)] [] := by first | (simp [entryFrame, mkF, argsToLocals, Value.category]; done) | rfl
def Q1_0 (Z : State) (w_CONNECT : Addr) (h0 : Heap) (n0 : Nat) (v : Option Value) (h : Heap) (L : List Loc) : Prop := v = some (.int (0 : Int32)) ∧ Fr n0 L ∧ h = h0
set_option maxRecDepth 65536 in
set_option maxHeartbeats 40000000 in
theorem rm1_0 (l : Launch) (Z : State) (a0 : Array Value) (hw : ∀ d ∈ tables_1, d.before a0 Z = true) (ws : List Jvm.Cond) (w_CONNECT : Addr) (h0 : Heap) (n0 : Nat) (Z0 : n0 ≤ h0.size) (S_CONNECT : Sta Z h0 "com/example/grebe/grebe/frame/Command" "CONNECT" "Lcom/example/grebe/grebe/frame/Command;" (.ref w_CONNECT)) :
    MetFree l (⟨"com/example/grebe/grebe/frame/Command", "escapesHeaders", "()Z"⟩ : MethodName) (head1 (Jvm.Cond.code (⟨"com/example/grebe/grebe/frame/Command", "escapesHeaders", "()Z"⟩ : MethodName) prog_8_method_4_code 1 (some .boolean) :: ws) ({ frames := 0, cells := 0, slots := 0, locals := 0 } : Room)) (fun a U => a = #[(.ref w_CONNECT)] ∧ Z.Warmed39 U.vm ∧ U.heap = h0) (fun _ _ _ _ _ => True) (fun _ U o U' => ∃ v L, o = .returned v ∧ Q1_0 Z w_CONNECT h0 n0 v U'.heap L ∧ FrameEnd U o U' L ({ frames := 0, cells := 0, slots := 0, locals := 0 } : Room).cells ({ frames := 0, cells := 0, slots := 0, locals := 0 } : Room).slots) := by
  refine MetFree.of_bodySF (plainFor_of_name pn_0) hisR ?_
  intro p e s m args below meth c s₁ Bd hml0 hP hK
  obtain ⟨rfl, hZ, hh⟩ := hP
  have hx := Bd.exec
  have hby := Bd.bytes
  have hml : c.maxLocals = 1 := hml0
  have hown : s.vm.findClass "com/example/grebe/grebe/frame/Command" = some m.cls := findClass_of_methodNamed Bd.named
  have hnm := (name_of_methodNamed Bd.named Bd.method).1
  have X0 : Stand p l e ({ frames := 0, cells := 0, slots := 0, locals := 0 } : Room) s m #[(.ref w_CONNECT)] below meth c s₁ [] 0 0 := Stand.of_body Bd
  have e0 : s₁.heap = h0 := by rw [← hh, Bd.state]; rfl
  have N0 := Fr.nil n0
  have pre0 : ∀ t, Steps p.tables e below (s₁.setTop (mkF m 0 #[.val (.ref w_CONNECT)] [])) t → Steps p.tables e below (s₁.setTop (entryFrame m #[(.ref w_CONNECT)] 1)) t := fun t k => castTop (ef_rm1_0 m w_CONNECT) k
  obtain ⟨T1, X1, e1, st1⟩ := getS2 X0 hx hZ hown (host := "") (Or.inl (hw _ (List.mem_of_getElem? (i := 41) rfl))) Via.refl e0 S_CONNECT (g := (mkF m 1 #[.val (.ref w_CONNECT)] [(.ref w_CONNECT)])) rfl (hb hby d1_1)
  obtain ⟨fs, hr, hrun, hended, hW, hsame⟩ := X1.leave (v := some (.int (0 : Int32))) (fun h => by rw [Bd.returns] at h; cases h)
  refine ⟨_, _, pre0 _ ?_, hrun, hended, _, _, rfl, ?_, ⟨_, rfl⟩, hW, hsame.mono (by decide) (by decide)⟩
  ·
    show Steps p.tables e below (s₁.setTop (mkF m 0 #[.val (.ref w_CONNECT)] [])) _
    refine XS.aloadN X0.here hx rfl (hb hby d1_0) rfl rfl ?_
    show Steps p.tables e below (s₁.setTop (mkF m 1 #[.val (.ref w_CONNECT)] [(.ref w_CONNECT)])) _
    refine st1 _ ?_
    show Steps p.tables e below (T1.setTop (mkF m 4 #[.val (.ref w_CONNECT)] [(.ref w_CONNECT), (.ref w_CONNECT)])) _
    refine Jvm.RoadKit.acmp (g := (mkF m 4 #[.val (.ref w_CONNECT)] [(.ref w_CONNECT), (.ref w_CONNECT)])) X1 hx rfl rfl rfl (pc0 := 4) (pc' := 25) (same := true) rfl (hb hby d1_4) rfl (decide_eq_true rfl) (by decide) (by decide) ?_
    show Steps p.tables e below (T1.setTop (mkF m 25 #[.val (.ref w_CONNECT)] [])) _
    refine XS.iconst X1.here hx rfl (hb hby d1_25) ?_
    show Steps p.tables e below (T1.setTop (mkF m 26 #[.val (.ref w_CONNECT)] [(.int (0 : Int32))])) _
    exact retN X1 hx (t := .boolean) Bd.returns (by simp) (hb hby d1_26) hr
  · show Q1_0 Z w_CONNECT h0 n0 _ T1.heap _
    rw [e1]
    exact ⟨rfl, N0, rfl⟩
theorem pd_0 : parseMethodDescriptor "()Z" = some ⟨[], some .boolean⟩ := by decide +kernel
theorem d1_7 : decode prog_8_method_4_code 7 = .ok (.aload_n 0, 1) := by decide +kernel
theorem d1_8 : decode prog_8_method_4_code 8 = .ok (.getstatic 7, 3) := by decide +kernel
theorem d1_11 : decode prog_8_method_4_code 11 = .ok (.if_acmp .eq 14, 3) := by decide +kernel
theorem ef_rm1_1 (m : MethodId) (x0 : Addr) : entryFrame m #[(.ref x0)] 1 = mkF m 0 #[.val (.ref x0)] [] := by first | (simp [entryFrame, mkF, argsToLocals, Value.category]; done) | rfl
def Q1_1 (Z : State) (w_CONNECT : Addr) (w_STOMP : Addr) (h0 : Heap) (n0 : Nat) (v : Option Value) (h : Heap) (L : List Loc) : Prop := v = some (.int (0 : Int32)) ∧ Fr n0 L ∧ h = h0
set_option maxRecDepth 65536 in
set_option maxHeartbeats 40000000 in
theorem rm1_1 (l : Launch) (Z : State) (a0 : Array Value) (hw : ∀ d ∈ tables_1, d.before a0 Z = true) (ws : List Jvm.Cond) (w_CONNECT : Addr) (w_STOMP : Addr) (h0 : Heap) (n0 : Nat) (Z0 : n0 ≤ h0.size) (S_CONNECT : Sta Z h0 "com/example/grebe/grebe/frame/Command" "CONNECT" "Lcom/example/grebe/grebe/frame/Command;" (.ref w_CONNECT)) (ne_CONNECT_STOMP : w_CONNECT ≠ w_STOMP) (S_STOMP : Sta Z h0 "com/example/grebe/grebe/frame/Command" "STOMP" "Lcom/example/grebe/grebe/frame/Command;" (.ref w_STOMP)) :
    MetFree l (⟨"com/example/grebe/grebe/frame/Command", "escapesHeaders", "()Z"⟩ : MethodName) (head1 (Jvm.Cond.code (⟨"com/example/grebe/grebe/frame/Command", "escapesHeaders", "()Z"⟩ : MethodName) prog_8_method_4_code 1 (some .boolean) :: ws) ({ frames := 0, cells := 0, slots := 0, locals := 0 } : Room)) (fun a U => a = #[(.ref w_STOMP)] ∧ Z.Warmed39 U.vm ∧ U.heap = h0) (fun _ _ _ _ _ => True) (fun _ U o U' => ∃ v L, o = .returned v ∧ Q1_1 Z w_CONNECT w_STOMP h0 n0 v U'.heap L ∧ FrameEnd U o U' L ({ frames := 0, cells := 0, slots := 0, locals := 0 } : Room).cells ({ frames := 0, cells := 0, slots := 0, locals := 0 } : Room).slots) := by
  refine MetFree.of_bodySF (plainFor_of_name pn_0) hisR ?_
  intro p e s m args below meth c s₁ Bd hml0 hP hK
  obtain ⟨rfl, hZ, hh⟩ := hP
  have hx := Bd.exec
  have hby := Bd.bytes
  have hml : c.maxLocals = 1 := hml0
  have hown : s.vm.findClass "com/example/grebe/grebe/frame/Command" = some m.cls := findClass_of_methodNamed Bd.named
  have hnm := (name_of_methodNamed Bd.named Bd.method).1
  have X0 : Stand p l e ({ frames := 0, cells := 0, slots := 0, locals := 0 } : Room) s m #[(.ref w_STOMP)] below meth c s₁ [] 0 0 := Stand.of_body Bd
  have e0 : s₁.heap = h0 := by rw [← hh, Bd.state]; rfl
  have N0 := Fr.nil n0
  have pre0 : ∀ t, Steps p.tables e below (s₁.setTop (mkF m 0 #[.val (.ref w_STOMP)] [])) t → Steps p.tables e below (s₁.setTop (entryFrame m #[(.ref w_STOMP)] 1)) t := fun t k => castTop (ef_rm1_1 m w_STOMP) k
  obtain ⟨T1, X1, e1, st1⟩ := getS2 X0 hx hZ hown (host := "") (Or.inl (hw _ (List.mem_of_getElem? (i := 41) rfl))) Via.refl e0 S_CONNECT (g := (mkF m 1 #[.val (.ref w_STOMP)] [(.ref w_STOMP)])) rfl (hb hby d1_1)
  obtain ⟨T2, X2, e2, st2⟩ := getS2 X1 hx hZ hown (host := "") (Or.inl (hw _ (List.mem_of_getElem? (i := 42) rfl))) Via.refl e1 S_STOMP (g := (mkF m 8 #[.val (.ref w_STOMP)] [(.ref w_STOMP)])) rfl (hb hby d1_8)
  obtain ⟨fs, hr, hrun, hended, hW, hsame⟩ := X2.leave (v := some (.int (0 : Int32))) (fun h => by rw [Bd.returns] at h; cases h)
  refine ⟨_, _, pre0 _ ?_, hrun, hended, _, _, rfl, ?_, ⟨_, rfl⟩, hW, hsame.mono (by decide) (by decide)⟩
  ·
    show Steps p.tables e below (s₁.setTop (mkF m 0 #[.val (.ref w_STOMP)] [])) _
    refine XS.aloadN X0.here hx rfl (hb hby d1_0) rfl rfl ?_
    show Steps p.tables e below (s₁.setTop (mkF m 1 #[.val (.ref w_STOMP)] [(.ref w_STOMP)])) _
    refine st1 _ ?_
    show Steps p.tables e below (T1.setTop (mkF m 4 #[.val (.ref w_STOMP)] [(.ref w_CONNECT), (.ref w_STOMP)])) _
    refine Jvm.RoadKit.acmp (g := (mkF m 4 #[.val (.ref w_STOMP)] [(.ref w_CONNECT), (.ref w_STOMP)])) X1 hx rfl rfl rfl (pc0 := 4) (pc' := 7) (same := false) rfl (hb hby d1_4) rfl (decide_eq_false fun q => (Ne.symm ne_CONNECT_STOMP) (Value.ref.inj q)) (by decide) (by decide) ?_
    show Steps p.tables e below (T1.setTop (mkF m 7 #[.val (.ref w_STOMP)] [])) _
    refine XS.aloadN X1.here hx rfl (hb hby d1_7) rfl rfl ?_
    show Steps p.tables e below (T1.setTop (mkF m 8 #[.val (.ref w_STOMP)] [(.ref w_STOMP)])) _
    refine st2 _ ?_
    show Steps p.tables e below (T2.setTop (mkF m 11 #[.val (.ref w_STOMP)] [(.ref w_STOMP), (.ref w_STOMP)])) _
    refine Jvm.RoadKit.acmp (g := (mkF m 11 #[.val (.ref w_STOMP)] [(.ref w_STOMP), (.ref w_STOMP)])) X2 hx rfl rfl rfl (pc0 := 11) (pc' := 25) (same := true) rfl (hb hby d1_11) rfl (decide_eq_true rfl) (by decide) (by decide) ?_
    show Steps p.tables e below (T2.setTop (mkF m 25 #[.val (.ref w_STOMP)] [])) _
    refine XS.iconst X2.here hx rfl (hb hby d1_25) ?_
    show Steps p.tables e below (T2.setTop (mkF m 26 #[.val (.ref w_STOMP)] [(.int (0 : Int32))])) _
    exact retN X2 hx (t := .boolean) Bd.returns (by simp) (hb hby d1_26) hr
  · show Q1_1 Z w_CONNECT w_STOMP h0 n0 _ T2.heap _
    rw [e2]
    exact ⟨rfl, N0, rfl⟩
theorem d1_14 : decode prog_8_method_4_code 14 = .ok (.aload_n 0, 1) := by decide +kernel
theorem d1_15 : decode prog_8_method_4_code 15 = .ok (.getstatic 37, 3) := by decide +kernel
theorem d1_18 : decode prog_8_method_4_code 18 = .ok (.if_acmp .eq 7, 3) := by decide +kernel
theorem d1_21 : decode prog_8_method_4_code 21 = .ok (.iconst 1, 1) := by decide +kernel
theorem d1_22 : decode prog_8_method_4_code 22 = .ok (.goto 4, 3) := by decide +kernel
theorem ef_rm1_2 (m : MethodId) (x0 : Addr) : entryFrame m #[(.ref x0)] 1 = mkF m 0 #[.val (.ref x0)] [] := by first | (simp [entryFrame, mkF, argsToLocals, Value.category]; done) | rfl
def Q1_2 (Z : State) (w_CONNECT : Addr) (w_STOMP : Addr) (w_SEND : Addr) (w_CONNECTED : Addr) (h0 : Heap) (n0 : Nat) (v : Option Value) (h : Heap) (L : List Loc) : Prop := v = some (.int (1 : Int32)) ∧ Fr n0 L ∧ h = h0
set_option maxRecDepth 65536 in
set_option maxHeartbeats 40000000 in
theorem rm1_2 (l : Launch) (Z : State) (a0 : Array Value) (hw : ∀ d ∈ tables_1, d.before a0 Z = true) (ws : List Jvm.Cond) (w_CONNECT : Addr) (w_STOMP : Addr) (w_SEND : Addr) (w_CONNECTED : Addr) (h0 : Heap) (n0 : Nat) (Z0 : n0 ≤ h0.size) (S_CONNECT : Sta Z h0 "com/example/grebe/grebe/frame/Command" "CONNECT" "Lcom/example/grebe/grebe/frame/Command;" (.ref w_CONNECT)) (ne_CONNECT_SEND : w_CONNECT ≠ w_SEND) (S_STOMP : Sta Z h0 "com/example/grebe/grebe/frame/Command" "STOMP" "Lcom/example/grebe/grebe/frame/Command;" (.ref w_STOMP)) (ne_SEND_STOMP : w_SEND ≠ w_STOMP) (S_CONNECTED : Sta Z h0 "com/example/grebe/grebe/frame/Command" "CONNECTED" "Lcom/example/grebe/grebe/frame/Command;" (.ref w_CONNECTED)) (ne_CONNECTED_SEND : w_CONNECTED ≠ w_SEND) :
    MetFree l (⟨"com/example/grebe/grebe/frame/Command", "escapesHeaders", "()Z"⟩ : MethodName) (head1 (Jvm.Cond.code (⟨"com/example/grebe/grebe/frame/Command", "escapesHeaders", "()Z"⟩ : MethodName) prog_8_method_4_code 1 (some .boolean) :: ws) ({ frames := 0, cells := 0, slots := 0, locals := 0 } : Room)) (fun a U => a = #[(.ref w_SEND)] ∧ Z.Warmed39 U.vm ∧ U.heap = h0) (fun _ _ _ _ _ => True) (fun _ U o U' => ∃ v L, o = .returned v ∧ Q1_2 Z w_CONNECT w_STOMP w_SEND w_CONNECTED h0 n0 v U'.heap L ∧ FrameEnd U o U' L ({ frames := 0, cells := 0, slots := 0, locals := 0 } : Room).cells ({ frames := 0, cells := 0, slots := 0, locals := 0 } : Room).slots) := by
  refine MetFree.of_bodySF (plainFor_of_name pn_0) hisR ?_
  intro p e s m args below meth c s₁ Bd hml0 hP hK
  obtain ⟨rfl, hZ, hh⟩ := hP
  have hx := Bd.exec
  have hby := Bd.bytes
  have hml : c.maxLocals = 1 := hml0
  have hown : s.vm.findClass "com/example/grebe/grebe/frame/Command" = some m.cls := findClass_of_methodNamed Bd.named
  have hnm := (name_of_methodNamed Bd.named Bd.method).1
  have X0 : Stand p l e ({ frames := 0, cells := 0, slots := 0, locals := 0 } : Room) s m #[(.ref w_SEND)] below meth c s₁ [] 0 0 := Stand.of_body Bd
  have e0 : s₁.heap = h0 := by rw [← hh, Bd.state]; rfl
  have N0 := Fr.nil n0
  have pre0 : ∀ t, Steps p.tables e below (s₁.setTop (mkF m 0 #[.val (.ref w_SEND)] [])) t → Steps p.tables e below (s₁.setTop (entryFrame m #[(.ref w_SEND)] 1)) t := fun t k => castTop (ef_rm1_2 m w_SEND) k
  obtain ⟨T1, X1, e1, st1⟩ := getS2 X0 hx hZ hown (host := "") (Or.inl (hw _ (List.mem_of_getElem? (i := 41) rfl))) Via.refl e0 S_CONNECT (g := (mkF m 1 #[.val (.ref w_SEND)] [(.ref w_SEND)])) rfl (hb hby d1_1)
  obtain ⟨T2, X2, e2, st2⟩ := getS2 X1 hx hZ hown (host := "") (Or.inl (hw _ (List.mem_of_getElem? (i := 42) rfl))) Via.refl e1 S_STOMP (g := (mkF m 8 #[.val (.ref w_SEND)] [(.ref w_SEND)])) rfl (hb hby d1_8)
  obtain ⟨T3, X3, e3, st3⟩ := getS2 X2 hx hZ hown (host := "") (Or.inl (hw _ (List.mem_of_getElem? (i := 43) rfl))) Via.refl e2 S_CONNECTED (g := (mkF m 15 #[.val (.ref w_SEND)] [(.ref w_SEND)])) rfl (hb hby d1_15)
  obtain ⟨fs, hr, hrun, hended, hW, hsame⟩ := X3.leave (v := some (.int (1 : Int32))) (fun h => by rw [Bd.returns] at h; cases h)
  refine ⟨_, _, pre0 _ ?_, hrun, hended, _, _, rfl, ?_, ⟨_, rfl⟩, hW, hsame.mono (by decide) (by decide)⟩
  ·
    show Steps p.tables e below (s₁.setTop (mkF m 0 #[.val (.ref w_SEND)] [])) _
    refine XS.aloadN X0.here hx rfl (hb hby d1_0) rfl rfl ?_
    show Steps p.tables e below (s₁.setTop (mkF m 1 #[.val (.ref w_SEND)] [(.ref w_SEND)])) _
    refine st1 _ ?_
    show Steps p.tables e below (T1.setTop (mkF m 4 #[.val (.ref w_SEND)] [(.ref w_CONNECT), (.ref w_SEND)])) _
    refine Jvm.RoadKit.acmp (g := (mkF m 4 #[.val (.ref w_SEND)] [(.ref w_CONNECT), (.ref w_SEND)])) X1 hx rfl rfl rfl (pc0 := 4) (pc' := 7) (same := false) rfl (hb hby d1_4) rfl (decide_eq_false fun q => (Ne.symm ne_CONNECT_SEND) (Value.ref.inj q)) (by decide) (by decide) ?_
    show Steps p.tables e below (T1.setTop (mkF m 7 #[.val (.ref w_SEND)] [])) _
    refine XS.aloadN X1.here hx rfl (hb hby d1_7) rfl rfl ?_
    show Steps p.tables e below (T1.setTop (mkF m 8 #[.val (.ref w_SEND)] [(.ref w_SEND)])) _
    refine st2 _ ?_
    show Steps p.tables e below (T2.setTop (mkF m 11 #[.val (.ref w_SEND)] [(.ref w_STOMP), (.ref w_SEND)])) _
    refine Jvm.RoadKit.acmp (g := (mkF m 11 #[.val (.ref w_SEND)] [(.ref w_STOMP), (.ref w_SEND)])) X2 hx rfl rfl rfl (pc0 := 11) (pc' := 14) (same := false) rfl (hb hby d1_11) rfl (decide_eq_false fun q => ne_SEND_STOMP (Value.ref.inj q)) (by decide) (by decide) ?_
    show Steps p.tables e below (T2.setTop (mkF m 14 #[.val (.ref w_SEND)] [])) _
    refine XS.aloadN X2.here hx rfl (hb hby d1_14) rfl rfl ?_
    show Steps p.tables e below (T2.setTop (mkF m 15 #[.val (.ref w_SEND)] [(.ref w_SEND)])) _
    refine st3 _ ?_
    show Steps p.tables e below (T3.setTop (mkF m 18 #[.val (.ref w_SEND)] [(.ref w_CONNECTED), (.ref w_SEND)])) _
    refine Jvm.RoadKit.acmp (g := (mkF m 18 #[.val (.ref w_SEND)] [(.ref w_CONNECTED), (.ref w_SEND)])) X3 hx rfl rfl rfl (pc0 := 18) (pc' := 21) (same := false) rfl (hb hby d1_18) rfl (decide_eq_false fun q => (Ne.symm ne_CONNECTED_SEND) (Value.ref.inj q)) (by decide) (by decide) ?_
    show Steps p.tables e below (T3.setTop (mkF m 21 #[.val (.ref w_SEND)] [])) _
    refine XS.iconst X3.here hx rfl (hb hby d1_21) ?_
    show Steps p.tables e below (T3.setTop (mkF m 22 #[.val (.ref w_SEND)] [(.int (1 : Int32))])) _
    refine XS.goto X3.here hx rfl (pc0 := 22) (pc' := 26) rfl (hb hby d1_22) (by decide) (by decide) ?_
    show Steps p.tables e below (T3.setTop (mkF m 26 #[.val (.ref w_SEND)] [(.int (1 : Int32))])) _
    exact retN X3 hx (t := .boolean) Bd.returns (by simp) (hb hby d1_26) hr
  · show Q1_2 Z w_CONNECT w_STOMP w_SEND w_CONNECTED h0 n0 _ T3.heap _
    rw [e3]
    exact ⟨rfl, N0, rfl⟩
theorem ef_rm1_3 (m : MethodId) (x0 : Addr) : entryFrame m #[(.ref x0)] 1 = mkF m 0 #[.val (.ref x0)] [] := by first | (simp [entryFrame, mkF, argsToLocals, Value.category]; done) | rfl
def Q1_3 (Z : State) (w_CONNECT : Addr) (w_STOMP : Addr) (w_SUBSCRIBE : Addr) (w_CONNECTED : Addr) (h0 : Heap) (n0 : Nat) (v : Option Value) (h : Heap) (L : List Loc) : Prop := v = some (.int (1 : Int32)) ∧ Fr n0 L ∧ h = h0
set_option maxRecDepth 65536 in
set_option maxHeartbeats 40000000 in
theorem rm1_3 (l : Launch) (Z : State) (a0 : Array Value) (hw : ∀ d ∈ tables_1, d.before a0 Z = true) (ws : List Jvm.Cond) (w_CONNECT : Addr) (w_STOMP : Addr) (w_SUBSCRIBE : Addr) (w_CONNECTED : Addr) (h0 : Heap) (n0 : Nat) (Z0 : n0 ≤ h0.size) (S_CONNECT : Sta Z h0 "com/example/grebe/grebe/frame/Command" "CONNECT" "Lcom/example/grebe/grebe/frame/Command;" (.ref w_CONNECT)) (ne_CONNECT_SUBSCRIBE : w_CONNECT ≠ w_SUBSCRIBE) (S_STOMP : Sta Z h0 "com/example/grebe/grebe/frame/Command" "STOMP" "Lcom/example/grebe/grebe/frame/Command;" (.ref w_STOMP)) (ne_STOMP_SUBSCRIBE : w_STOMP ≠ w_SUBSCRIBE) (S_CONNECTED : Sta Z h0 "com/example/grebe/grebe/frame/Command" "CONNECTED" "Lcom/example/grebe/grebe/frame/Command;" (.ref w_CONNECTED)) (ne_CONNECTED_SUBSCRIBE : w_CONNECTED ≠ w_SUBSCRIBE) :
    MetFree l (⟨"com/example/grebe/grebe/frame/Command", "escapesHeaders", "()Z"⟩ : MethodName) (head1 (Jvm.Cond.code (⟨"com/example/grebe/grebe/frame/Command", "escapesHeaders", "()Z"⟩ : MethodName) prog_8_method_4_code 1 (some .boolean) :: ws) ({ frames := 0, cells := 0, slots := 0, locals := 0 } : Room)) (fun a U => a = #[(.ref w_SUBSCRIBE)] ∧ Z.Warmed39 U.vm ∧ U.heap = h0) (fun _ _ _ _ _ => True) (fun _ U o U' => ∃ v L, o = .returned v ∧ Q1_3 Z w_CONNECT w_STOMP w_SUBSCRIBE w_CONNECTED h0 n0 v U'.heap L ∧ FrameEnd U o U' L ({ frames := 0, cells := 0, slots := 0, locals := 0 } : Room).cells ({ frames := 0, cells := 0, slots := 0, locals := 0 } : Room).slots) := by
  refine MetFree.of_bodySF (plainFor_of_name pn_0) hisR ?_
  intro p e s m args below meth c s₁ Bd hml0 hP hK
  obtain ⟨rfl, hZ, hh⟩ := hP
  have hx := Bd.exec
  have hby := Bd.bytes
  have hml : c.maxLocals = 1 := hml0
  have hown : s.vm.findClass "com/example/grebe/grebe/frame/Command" = some m.cls := findClass_of_methodNamed Bd.named
  have hnm := (name_of_methodNamed Bd.named Bd.method).1
  have X0 : Stand p l e ({ frames := 0, cells := 0, slots := 0, locals := 0 } : Room) s m #[(.ref w_SUBSCRIBE)] below meth c s₁ [] 0 0 := Stand.of_body Bd
  have e0 : s₁.heap = h0 := by rw [← hh, Bd.state]; rfl
  have N0 := Fr.nil n0
  have pre0 : ∀ t, Steps p.tables e below (s₁.setTop (mkF m 0 #[.val (.ref w_SUBSCRIBE)] [])) t → Steps p.tables e below (s₁.setTop (entryFrame m #[(.ref w_SUBSCRIBE)] 1)) t := fun t k => castTop (ef_rm1_3 m w_SUBSCRIBE) k
  obtain ⟨T1, X1, e1, st1⟩ := getS2 X0 hx hZ hown (host := "") (Or.inl (hw _ (List.mem_of_getElem? (i := 41) rfl))) Via.refl e0 S_CONNECT (g := (mkF m 1 #[.val (.ref w_SUBSCRIBE)] [(.ref w_SUBSCRIBE)])) rfl (hb hby d1_1)
  obtain ⟨T2, X2, e2, st2⟩ := getS2 X1 hx hZ hown (host := "") (Or.inl (hw _ (List.mem_of_getElem? (i := 42) rfl))) Via.refl e1 S_STOMP (g := (mkF m 8 #[.val (.ref w_SUBSCRIBE)] [(.ref w_SUBSCRIBE)])) rfl (hb hby d1_8)
  obtain ⟨T3, X3, e3, st3⟩ := getS2 X2 hx hZ hown (host := "") (Or.inl (hw _ (List.mem_of_getElem? (i := 43) rfl))) Via.refl e2 S_CONNECTED (g := (mkF m 15 #[.val (.ref w_SUBSCRIBE)] [(.ref w_SUBSCRIBE)])) rfl (hb hby d1_15)
  obtain ⟨fs, hr, hrun, hended, hW, hsame⟩ := X3.leave (v := some (.int (1 : Int32))) (fun h => by rw [Bd.returns] at h; cases h)
  refine ⟨_, _, pre0 _ ?_, hrun, hended, _, _, rfl, ?_, ⟨_, rfl⟩, hW, hsame.mono (by decide) (by decide)⟩
  ·
    show Steps p.tables e below (s₁.setTop (mkF m 0 #[.val (.ref w_SUBSCRIBE)] [])) _
    refine XS.aloadN X0.here hx rfl (hb hby d1_0) rfl rfl ?_
    show Steps p.tables e below (s₁.setTop (mkF m 1 #[.val (.ref w_SUBSCRIBE)] [(.ref w_SUBSCRIBE)])) _
    refine st1 _ ?_
    show Steps p.tables e below (T1.setTop (mkF m 4 #[.val (.ref w_SUBSCRIBE)] [(.ref w_CONNECT), (.ref w_SUBSCRIBE)])) _
    refine Jvm.RoadKit.acmp (g := (mkF m 4 #[.val (.ref w_SUBSCRIBE)] [(.ref w_CONNECT), (.ref w_SUBSCRIBE)])) X1 hx rfl rfl rfl (pc0 := 4) (pc' := 7) (same := false) rfl (hb hby d1_4) rfl (decide_eq_false fun q => (Ne.symm ne_CONNECT_SUBSCRIBE) (Value.ref.inj q)) (by decide) (by decide) ?_
    show Steps p.tables e below (T1.setTop (mkF m 7 #[.val (.ref w_SUBSCRIBE)] [])) _
    refine XS.aloadN X1.here hx rfl (hb hby d1_7) rfl rfl ?_
    show Steps p.tables e below (T1.setTop (mkF m 8 #[.val (.ref w_SUBSCRIBE)] [(.ref w_SUBSCRIBE)])) _
    refine st2 _ ?_
    show Steps p.tables e below (T2.setTop (mkF m 11 #[.val (.ref w_SUBSCRIBE)] [(.ref w_STOMP), (.ref w_SUBSCRIBE)])) _
    refine Jvm.RoadKit.acmp (g := (mkF m 11 #[.val (.ref w_SUBSCRIBE)] [(.ref w_STOMP), (.ref w_SUBSCRIBE)])) X2 hx rfl rfl rfl (pc0 := 11) (pc' := 14) (same := false) rfl (hb hby d1_11) rfl (decide_eq_false fun q => (Ne.symm ne_STOMP_SUBSCRIBE) (Value.ref.inj q)) (by decide) (by decide) ?_
    show Steps p.tables e below (T2.setTop (mkF m 14 #[.val (.ref w_SUBSCRIBE)] [])) _
    refine XS.aloadN X2.here hx rfl (hb hby d1_14) rfl rfl ?_
    show Steps p.tables e below (T2.setTop (mkF m 15 #[.val (.ref w_SUBSCRIBE)] [(.ref w_SUBSCRIBE)])) _
    refine st3 _ ?_
    show Steps p.tables e below (T3.setTop (mkF m 18 #[.val (.ref w_SUBSCRIBE)] [(.ref w_CONNECTED), (.ref w_SUBSCRIBE)])) _
    refine Jvm.RoadKit.acmp (g := (mkF m 18 #[.val (.ref w_SUBSCRIBE)] [(.ref w_CONNECTED), (.ref w_SUBSCRIBE)])) X3 hx rfl rfl rfl (pc0 := 18) (pc' := 21) (same := false) rfl (hb hby d1_18) rfl (decide_eq_false fun q => (Ne.symm ne_CONNECTED_SUBSCRIBE) (Value.ref.inj q)) (by decide) (by decide) ?_
    show Steps p.tables e below (T3.setTop (mkF m 21 #[.val (.ref w_SUBSCRIBE)] [])) _
    refine XS.iconst X3.here hx rfl (hb hby d1_21) ?_
    show Steps p.tables e below (T3.setTop (mkF m 22 #[.val (.ref w_SUBSCRIBE)] [(.int (1 : Int32))])) _
    refine XS.goto X3.here hx rfl (pc0 := 22) (pc' := 26) rfl (hb hby d1_22) (by decide) (by decide) ?_
    show Steps p.tables e below (T3.setTop (mkF m 26 #[.val (.ref w_SUBSCRIBE)] [(.int (1 : Int32))])) _
    exact retN X3 hx (t := .boolean) Bd.returns (by simp) (hb hby d1_26) hr
  · show Q1_3 Z w_CONNECT w_STOMP w_SUBSCRIBE w_CONNECTED h0 n0 _ T3.heap _
    rw [e3]
    exact ⟨rfl, N0, rfl⟩
theorem ef_rm1_4 (m : MethodId) (x0 : Addr) : entryFrame m #[(.ref x0)] 1 = mkF m 0 #[.val (.ref x0)] [] := by first | (simp [entryFrame, mkF, argsToLocals, Value.category]; done) | rfl
def Q1_4 (Z : State) (w_CONNECT : Addr) (w_STOMP : Addr) (w_UNSUBSCRIBE : Addr) (w_CONNECTED : Addr) (h0 : Heap) (n0 : Nat) (v : Option Value) (h : Heap) (L : List Loc) : Prop := v = some (.int (1 : Int32)) ∧ Fr n0 L ∧ h = h0
set_option maxRecDepth 65536 in
set_option maxHeartbeats 40000000 in
theorem rm1_4 (l : Launch) (Z : State) (a0 : Array Value) (hw : ∀ d ∈ tables_1, d.before a0 Z = true) (ws : List Jvm.Cond) (w_CONNECT : Addr) (w_STOMP : Addr) (w_UNSUBSCRIBE : Addr) (w_CONNECTED : Addr) (h0 : Heap) (n0 : Nat) (Z0 : n0 ≤ h0.size) (S_CONNECT : Sta Z h0 "com/example/grebe/grebe/frame/Command" "CONNECT" "Lcom/example/grebe/grebe/frame/Command;" (.ref w_CONNECT)) (ne_CONNECT_UNSUBSCRIBE : w_CONNECT ≠ w_UNSUBSCRIBE) (S_STOMP : Sta Z h0 "com/example/grebe/grebe/frame/Command" "STOMP" "Lcom/example/grebe/grebe/frame/Command;" (.ref w_STOMP)) (ne_STOMP_UNSUBSCRIBE : w_STOMP ≠ w_UNSUBSCRIBE) (S_CONNECTED : Sta Z h0 "com/example/grebe/grebe/frame/Command" "CONNECTED" "Lcom/example/grebe/grebe/frame/Command;" (.ref w_CONNECTED)) (ne_CONNECTED_UNSUBSCRIBE : w_CONNECTED ≠ w_UNSUBSCRIBE) :
    MetFree l (⟨"com/example/grebe/grebe/frame/Command", "escapesHeaders", "()Z"⟩ : MethodName) (head1 (Jvm.Cond.code (⟨"com/example/grebe/grebe/frame/Command", "escapesHeaders", "()Z"⟩ : MethodName) prog_8_method_4_code 1 (some .boolean) :: ws) ({ frames := 0, cells := 0, slots := 0, locals := 0 } : Room)) (fun a U => a = #[(.ref w_UNSUBSCRIBE)] ∧ Z.Warmed39 U.vm ∧ U.heap = h0) (fun _ _ _ _ _ => True) (fun _ U o U' => ∃ v L, o = .returned v ∧ Q1_4 Z w_CONNECT w_STOMP w_UNSUBSCRIBE w_CONNECTED h0 n0 v U'.heap L ∧ FrameEnd U o U' L ({ frames := 0, cells := 0, slots := 0, locals := 0 } : Room).cells ({ frames := 0, cells := 0, slots := 0, locals := 0 } : Room).slots) := by
  refine MetFree.of_bodySF (plainFor_of_name pn_0) hisR ?_
  intro p e s m args below meth c s₁ Bd hml0 hP hK
  obtain ⟨rfl, hZ, hh⟩ := hP
  have hx := Bd.exec
  have hby := Bd.bytes
  have hml : c.maxLocals = 1 := hml0
  have hown : s.vm.findClass "com/example/grebe/grebe/frame/Command" = some m.cls := findClass_of_methodNamed Bd.named
  have hnm := (name_of_methodNamed Bd.named Bd.method).1
  have X0 : Stand p l e ({ frames := 0, cells := 0, slots := 0, locals := 0 } : Room) s m #[(.ref w_UNSUBSCRIBE)] below meth c s₁ [] 0 0 := Stand.of_body Bd
  have e0 : s₁.heap = h0 := by rw [← hh, Bd.state]; rfl
  have N0 := Fr.nil n0
  have pre0 : ∀ t, Steps p.tables e below (s₁.setTop (mkF m 0 #[.val (.ref w_UNSUBSCRIBE)] [])) t → Steps p.tables e below (s₁.setTop (entryFrame m #[(.ref w_UNSUBSCRIBE)] 1)) t := fun t k => castTop (ef_rm1_4 m w_UNSUBSCRIBE) k
  obtain ⟨T1, X1, e1, st1⟩ := getS2 X0 hx hZ hown (host := "") (Or.inl (hw _ (List.mem_of_getElem? (i := 41) rfl))) Via.refl e0 S_CONNECT (g := (mkF m 1 #[.val (.ref w_UNSUBSCRIBE)] [(.ref w_UNSUBSCRIBE)])) rfl (hb hby d1_1)
  obtain ⟨T2, X2, e2, st2⟩ := getS2 X1 hx hZ hown (host := "") (Or.inl (hw _ (List.mem_of_getElem? (i := 42) rfl))) Via.refl e1 S_STOMP (g := (mkF m 8 #[.val (.ref w_UNSUBSCRIBE)] [(.ref w_UNSUBSCRIBE)])) rfl (hb hby d1_8)
  obtain ⟨T3, X3, e3, st3⟩ := getS2 X2 hx hZ hown (host := "") (Or.inl (hw _ (List.mem_of_getElem? (i := 43) rfl))) Via.refl e2 S_CONNECTED (g := (mkF m 15 #[.val (.ref w_UNSUBSCRIBE)] [(.ref w_UNSUBSCRIBE)])) rfl (hb hby d1_15)
  obtain ⟨fs, hr, hrun, hended, hW, hsame⟩ := X3.leave (v := some (.int (1 : Int32))) (fun h => by rw [Bd.returns] at h; cases h)
  refine ⟨_, _, pre0 _ ?_, hrun, hended, _, _, rfl, ?_, ⟨_, rfl⟩, hW, hsame.mono (by decide) (by decide)⟩
  ·
    show Steps p.tables e below (s₁.setTop (mkF m 0 #[.val (.ref w_UNSUBSCRIBE)] [])) _
    refine XS.aloadN X0.here hx rfl (hb hby d1_0) rfl rfl ?_
    show Steps p.tables e below (s₁.setTop (mkF m 1 #[.val (.ref w_UNSUBSCRIBE)] [(.ref w_UNSUBSCRIBE)])) _
    refine st1 _ ?_
    show Steps p.tables e below (T1.setTop (mkF m 4 #[.val (.ref w_UNSUBSCRIBE)] [(.ref w_CONNECT), (.ref w_UNSUBSCRIBE)])) _
    refine Jvm.RoadKit.acmp (g := (mkF m 4 #[.val (.ref w_UNSUBSCRIBE)] [(.ref w_CONNECT), (.ref w_UNSUBSCRIBE)])) X1 hx rfl rfl rfl (pc0 := 4) (pc' := 7) (same := false) rfl (hb hby d1_4) rfl (decide_eq_false fun q => (Ne.symm ne_CONNECT_UNSUBSCRIBE) (Value.ref.inj q)) (by decide) (by decide) ?_
    show Steps p.tables e below (T1.setTop (mkF m 7 #[.val (.ref w_UNSUBSCRIBE)] [])) _
    refine XS.aloadN X1.here hx rfl (hb hby d1_7) rfl rfl ?_
    show Steps p.tables e below (T1.setTop (mkF m 8 #[.val (.ref w_UNSUBSCRIBE)] [(.ref w_UNSUBSCRIBE)])) _
    refine st2 _ ?_
    show Steps p.tables e below (T2.setTop (mkF m 11 #[.val (.ref w_UNSUBSCRIBE)] [(.ref w_STOMP), (.ref w_UNSUBSCRIBE)])) _
    refine Jvm.RoadKit.acmp (g := (mkF m 11 #[.val (.ref w_UNSUBSCRIBE)] [(.ref w_STOMP), (.ref w_UNSUBSCRIBE)])) X2 hx rfl rfl rfl (pc0 := 11) (pc' := 14) (same := false) rfl (hb hby d1_11) rfl (decide_eq_false fun q => (Ne.symm ne_STOMP_UNSUBSCRIBE) (Value.ref.inj q)) (by decide) (by decide) ?_
    show Steps p.tables e below (T2.setTop (mkF m 14 #[.val (.ref w_UNSUBSCRIBE)] [])) _
    refine XS.aloadN X2.here hx rfl (hb hby d1_14) rfl rfl ?_
    show Steps p.tables e below (T2.setTop (mkF m 15 #[.val (.ref w_UNSUBSCRIBE)] [(.ref w_UNSUBSCRIBE)])) _
    refine st3 _ ?_
    show Steps p.tables e below (T3.setTop (mkF m 18 #[.val (.ref w_UNSUBSCRIBE)] [(.ref w_CONNECTED), (.ref w_UNSUBSCRIBE)])) _
    refine Jvm.RoadKit.acmp (g := (mkF m 18 #[.val (.ref w_UNSUBSCRIBE)] [(.ref w_CONNECTED), (.ref w_UNSUBSCRIBE)])) X3 hx rfl rfl rfl (pc0 := 18) (pc' := 21) (same := false) rfl (hb hby d1_18) rfl (decide_eq_false fun q => (Ne.symm ne_CONNECTED_UNSUBSCRIBE) (Value.ref.inj q)) (by decide) (by decide) ?_
    show Steps p.tables e below (T3.setTop (mkF m 21 #[.val (.ref w_UNSUBSCRIBE)] [])) _
    refine XS.iconst X3.here hx rfl (hb hby d1_21) ?_
    show Steps p.tables e below (T3.setTop (mkF m 22 #[.val (.ref w_UNSUBSCRIBE)] [(.int (1 : Int32))])) _
    refine XS.goto X3.here hx rfl (pc0 := 22) (pc' := 26) rfl (hb hby d1_22) (by decide) (by decide) ?_
    show Steps p.tables e below (T3.setTop (mkF m 26 #[.val (.ref w_UNSUBSCRIBE)] [(.int (1 : Int32))])) _
    exact retN X3 hx (t := .boolean) Bd.returns (by simp) (hb hby d1_26) hr
  · show Q1_4 Z w_CONNECT w_STOMP w_UNSUBSCRIBE w_CONNECTED h0 n0 _ T3.heap _
    rw [e3]
    exact ⟨rfl, N0, rfl⟩
theorem ef_rm1_5 (m : MethodId) (x0 : Addr) : entryFrame m #[(.ref x0)] 1 = mkF m 0 #[.val (.ref x0)] [] := by first | (simp [entryFrame, mkF, argsToLocals, Value.category]; done) | rfl
def Q1_5 (Z : State) (w_CONNECT : Addr) (w_STOMP : Addr) (w_ACK : Addr) (w_CONNECTED : Addr) (h0 : Heap) (n0 : Nat) (v : Option Value) (h : Heap) (L : List Loc) : Prop := v = some (.int (1 : Int32)) ∧ Fr n0 L ∧ h = h0
set_option maxRecDepth 65536 in
set_option maxHeartbeats 40000000 in
theorem rm1_5 (l : Launch) (Z : State) (a0 : Array Value) (hw : ∀ d ∈ tables_1, d.before a0 Z = true) (ws : List Jvm.Cond) (w_CONNECT : Addr) (w_STOMP : Addr) (w_ACK : Addr) (w_CONNECTED : Addr) (h0 : Heap) (n0 : Nat) (Z0 : n0 ≤ h0.size) (S_CONNECT : Sta Z h0 "com/example/grebe/grebe/frame/Command" "CONNECT" "Lcom/example/grebe/grebe/frame/Command;" (.ref w_CONNECT)) (ne_ACK_CONNECT : w_ACK ≠ w_CONNECT) (S_STOMP : Sta Z h0 "com/example/grebe/grebe/frame/Command" "STOMP" "Lcom/example/grebe/grebe/frame/Command;" (.ref w_STOMP)) (ne_ACK_STOMP : w_ACK ≠ w_STOMP) (S_CONNECTED : Sta Z h0 "com/example/grebe/grebe/frame/Command" "CONNECTED" "Lcom/example/grebe/grebe/frame/Command;" (.ref w_CONNECTED)) (ne_ACK_CONNECTED : w_ACK ≠ w_CONNECTED) :
    MetFree l (⟨"com/example/grebe/grebe/frame/Command", "escapesHeaders", "()Z"⟩ : MethodName) (head1 (Jvm.Cond.code (⟨"com/example/grebe/grebe/frame/Command", "escapesHeaders", "()Z"⟩ : MethodName) prog_8_method_4_code 1 (some .boolean) :: ws) ({ frames := 0, cells := 0, slots := 0, locals := 0 } : Room)) (fun a U => a = #[(.ref w_ACK)] ∧ Z.Warmed39 U.vm ∧ U.heap = h0) (fun _ _ _ _ _ => True) (fun _ U o U' => ∃ v L, o = .returned v ∧ Q1_5 Z w_CONNECT w_STOMP w_ACK w_CONNECTED h0 n0 v U'.heap L ∧ FrameEnd U o U' L ({ frames := 0, cells := 0, slots := 0, locals := 0 } : Room).cells ({ frames := 0, cells := 0, slots := 0, locals := 0 } : Room).slots) := by
  refine MetFree.of_bodySF (plainFor_of_name pn_0) hisR ?_
  intro p e s m args below meth c s₁ Bd hml0 hP hK
  obtain ⟨rfl, hZ, hh⟩ := hP
  have hx := Bd.exec
  have hby := Bd.bytes
  have hml : c.maxLocals = 1 := hml0
  have hown : s.vm.findClass "com/example/grebe/grebe/frame/Command" = some m.cls := findClass_of_methodNamed Bd.named
  have hnm := (name_of_methodNamed Bd.named Bd.method).1
  have X0 : Stand p l e ({ frames := 0, cells := 0, slots := 0, locals := 0 } : Room) s m #[(.ref w_ACK)] below meth c s₁ [] 0 0 := Stand.of_body Bd
  have e0 : s₁.heap = h0 := by rw [← hh, Bd.state]; rfl
  have N0 := Fr.nil n0
  have pre0 : ∀ t, Steps p.tables e below (s₁.setTop (mkF m 0 #[.val (.ref w_ACK)] [])) t → Steps p.tables e below (s₁.setTop (entryFrame m #[(.ref w_ACK)] 1)) t := fun t k => castTop (ef_rm1_5 m w_ACK) k
  obtain ⟨T1, X1, e1, st1⟩ := getS2 X0 hx hZ hown (host := "") (Or.inl (hw _ (List.mem_of_getElem? (i := 41) rfl))) Via.refl e0 S_CONNECT (g := (mkF m 1 #[.val (.ref w_ACK)] [(.ref w_ACK)])) rfl (hb hby d1_1)
  obtain ⟨T2, X2, e2, st2⟩ := getS2 X1 hx hZ hown (host := "") (Or.inl (hw _ (List.mem_of_getElem? (i := 42) rfl))) Via.refl e1 S_STOMP (g := (mkF m 8 #[.val (.ref w_ACK)] [(.ref w_ACK)])) rfl (hb hby d1_8)
  obtain ⟨T3, X3, e3, st3⟩ := getS2 X2 hx hZ hown (host := "") (Or.inl (hw _ (List.mem_of_getElem? (i := 43) rfl))) Via.refl e2 S_CONNECTED (g := (mkF m 15 #[.val (.ref w_ACK)] [(.ref w_ACK)])) rfl (hb hby d1_15)
  obtain ⟨fs, hr, hrun, hended, hW, hsame⟩ := X3.leave (v := some (.int (1 : Int32))) (fun h => by rw [Bd.returns] at h; cases h)
  refine ⟨_, _, pre0 _ ?_, hrun, hended, _, _, rfl, ?_, ⟨_, rfl⟩, hW, hsame.mono (by decide) (by decide)⟩
  ·
    show Steps p.tables e below (s₁.setTop (mkF m 0 #[.val (.ref w_ACK)] [])) _
    refine XS.aloadN X0.here hx rfl (hb hby d1_0) rfl rfl ?_
    show Steps p.tables e below (s₁.setTop (mkF m 1 #[.val (.ref w_ACK)] [(.ref w_ACK)])) _
    refine st1 _ ?_
    show Steps p.tables e below (T1.setTop (mkF m 4 #[.val (.ref w_ACK)] [(.ref w_CONNECT), (.ref w_ACK)])) _
    refine Jvm.RoadKit.acmp (g := (mkF m 4 #[.val (.ref w_ACK)] [(.ref w_CONNECT), (.ref w_ACK)])) X1 hx rfl rfl rfl (pc0 := 4) (pc' := 7) (same := false) rfl (hb hby d1_4) rfl (decide_eq_false fun q => ne_ACK_CONNECT (Value.ref.inj q)) (by decide) (by decide) ?_
    show Steps p.tables e below (T1.setTop (mkF m 7 #[.val (.ref w_ACK)] [])) _
    refine XS.aloadN X1.here hx rfl (hb hby d1_7) rfl rfl ?_
    show Steps p.tables e below (T1.setTop (mkF m 8 #[.val (.ref w_ACK)] [(.ref w_ACK)])) _
    refine st2 _ ?_
    show Steps p.tables e below (T2.setTop (mkF m 11 #[.val (.ref w_ACK)] [(.ref w_STOMP), (.ref w_ACK)])) _
    refine Jvm.RoadKit.acmp (g := (mkF m 11 #[.val (.ref w_ACK)] [(.ref w_STOMP), (.ref w_ACK)])) X2 hx rfl rfl rfl (pc0 := 11) (pc' := 14) (same := false) rfl (hb hby d1_11) rfl (decide_eq_false fun q => ne_ACK_STOMP (Value.ref.inj q)) (by decide) (by decide) ?_
    show Steps p.tables e below (T2.setTop (mkF m 14 #[.val (.ref w_ACK)] [])) _
    refine XS.aloadN X2.here hx rfl (hb hby d1_14) rfl rfl ?_
    show Steps p.tables e below (T2.setTop (mkF m 15 #[.val (.ref w_ACK)] [(.ref w_ACK)])) _
    refine st3 _ ?_
    show Steps p.tables e below (T3.setTop (mkF m 18 #[.val (.ref w_ACK)] [(.ref w_CONNECTED), (.ref w_ACK)])) _
    refine Jvm.RoadKit.acmp (g := (mkF m 18 #[.val (.ref w_ACK)] [(.ref w_CONNECTED), (.ref w_ACK)])) X3 hx rfl rfl rfl (pc0 := 18) (pc' := 21) (same := false) rfl (hb hby d1_18) rfl (decide_eq_false fun q => ne_ACK_CONNECTED (Value.ref.inj q)) (by decide) (by decide) ?_
    show Steps p.tables e below (T3.setTop (mkF m 21 #[.val (.ref w_ACK)] [])) _
    refine XS.iconst X3.here hx rfl (hb hby d1_21) ?_
    show Steps p.tables e below (T3.setTop (mkF m 22 #[.val (.ref w_ACK)] [(.int (1 : Int32))])) _
    refine XS.goto X3.here hx rfl (pc0 := 22) (pc' := 26) rfl (hb hby d1_22) (by decide) (by decide) ?_
    show Steps p.tables e below (T3.setTop (mkF m 26 #[.val (.ref w_ACK)] [(.int (1 : Int32))])) _
    exact retN X3 hx (t := .boolean) Bd.returns (by simp) (hb hby d1_26) hr
  · show Q1_5 Z w_CONNECT w_STOMP w_ACK w_CONNECTED h0 n0 _ T3.heap _
    rw [e3]
    exact ⟨rfl, N0, rfl⟩
theorem ef_rm1_6 (m : MethodId) (x0 : Addr) : entryFrame m #[(.ref x0)] 1 = mkF m 0 #[.val (.ref x0)] [] := by first | (simp [entryFrame, mkF, argsToLocals, Value.category]; done) | rfl
def Q1_6 (Z : State) (w_CONNECT : Addr) (w_STOMP : Addr) (w_NACK : Addr) (w_CONNECTED : Addr) (h0 : Heap) (n0 : Nat) (v : Option Value) (h : Heap) (L : List Loc) : Prop := v = some (.int (1 : Int32)) ∧ Fr n0 L ∧ h = h0
set_option maxRecDepth 65536 in
set_option maxHeartbeats 40000000 in
theorem rm1_6 (l : Launch) (Z : State) (a0 : Array Value) (hw : ∀ d ∈ tables_1, d.before a0 Z = true) (ws : List Jvm.Cond) (w_CONNECT : Addr) (w_STOMP : Addr) (w_NACK : Addr) (w_CONNECTED : Addr) (h0 : Heap) (n0 : Nat) (Z0 : n0 ≤ h0.size) (S_CONNECT : Sta Z h0 "com/example/grebe/grebe/frame/Command" "CONNECT" "Lcom/example/grebe/grebe/frame/Command;" (.ref w_CONNECT)) (ne_CONNECT_NACK : w_CONNECT ≠ w_NACK) (S_STOMP : Sta Z h0 "com/example/grebe/grebe/frame/Command" "STOMP" "Lcom/example/grebe/grebe/frame/Command;" (.ref w_STOMP)) (ne_NACK_STOMP : w_NACK ≠ w_STOMP) (S_CONNECTED : Sta Z h0 "com/example/grebe/grebe/frame/Command" "CONNECTED" "Lcom/example/grebe/grebe/frame/Command;" (.ref w_CONNECTED)) (ne_CONNECTED_NACK : w_CONNECTED ≠ w_NACK) :
    MetFree l (⟨"com/example/grebe/grebe/frame/Command", "escapesHeaders", "()Z"⟩ : MethodName) (head1 (Jvm.Cond.code (⟨"com/example/grebe/grebe/frame/Command", "escapesHeaders", "()Z"⟩ : MethodName) prog_8_method_4_code 1 (some .boolean) :: ws) ({ frames := 0, cells := 0, slots := 0, locals := 0 } : Room)) (fun a U => a = #[(.ref w_NACK)] ∧ Z.Warmed39 U.vm ∧ U.heap = h0) (fun _ _ _ _ _ => True) (fun _ U o U' => ∃ v L, o = .returned v ∧ Q1_6 Z w_CONNECT w_STOMP w_NACK w_CONNECTED h0 n0 v U'.heap L ∧ FrameEnd U o U' L ({ frames := 0, cells := 0, slots := 0, locals := 0 } : Room).cells ({ frames := 0, cells := 0, slots := 0, locals := 0 } : Room).slots) := by
  refine MetFree.of_bodySF (plainFor_of_name pn_0) hisR ?_
  intro p e s m args below meth c s₁ Bd hml0 hP hK
  obtain ⟨rfl, hZ, hh⟩ := hP
  have hx := Bd.exec
  have hby := Bd.bytes
  have hml : c.maxLocals = 1 := hml0
  have hown : s.vm.findClass "com/example/grebe/grebe/frame/Command" = some m.cls := findClass_of_methodNamed Bd.named
  have hnm := (name_of_methodNamed Bd.named Bd.method).1
  have X0 : Stand p l e ({ frames := 0, cells := 0, slots := 0, locals := 0 } : Room) s m #[(.ref w_NACK)] below meth c s₁ [] 0 0 := Stand.of_body Bd
  have e0 : s₁.heap = h0 := by rw [← hh, Bd.state]; rfl
  have N0 := Fr.nil n0
  have pre0 : ∀ t, Steps p.tables e below (s₁.setTop (mkF m 0 #[.val (.ref w_NACK)] [])) t → Steps p.tables e below (s₁.setTop (entryFrame m #[(.ref w_NACK)] 1)) t := fun t k => castTop (ef_rm1_6 m w_NACK) k
  obtain ⟨T1, X1, e1, st1⟩ := getS2 X0 hx hZ hown (host := "") (Or.inl (hw _ (List.mem_of_getElem? (i := 41) rfl))) Via.refl e0 S_CONNECT (g := (mkF m 1 #[.val (.ref w_NACK)] [(.ref w_NACK)])) rfl (hb hby d1_1)
  obtain ⟨T2, X2, e2, st2⟩ := getS2 X1 hx hZ hown (host := "") (Or.inl (hw _ (List.mem_of_getElem? (i := 42) rfl))) Via.refl e1 S_STOMP (g := (mkF m 8 #[.val (.ref w_NACK)] [(.ref w_NACK)])) rfl (hb hby d1_8)
  obtain ⟨T3, X3, e3, st3⟩ := getS2 X2 hx hZ hown (host := "") (Or.inl (hw _ (List.mem_of_getElem? (i := 43) rfl))) Via.refl e2 S_CONNECTED (g := (mkF m 15 #[.val (.ref w_NACK)] [(.ref w_NACK)])) rfl (hb hby d1_15)
  obtain ⟨fs, hr, hrun, hended, hW, hsame⟩ := X3.leave (v := some (.int (1 : Int32))) (fun h => by rw [Bd.returns] at h; cases h)
  refine ⟨_, _, pre0 _ ?_, hrun, hended, _, _, rfl, ?_, ⟨_, rfl⟩, hW, hsame.mono (by decide) (by decide)⟩
  ·
    show Steps p.tables e below (s₁.setTop (mkF m 0 #[.val (.ref w_NACK)] [])) _
    refine XS.aloadN X0.here hx rfl (hb hby d1_0) rfl rfl ?_
    show Steps p.tables e below (s₁.setTop (mkF m 1 #[.val (.ref w_NACK)] [(.ref w_NACK)])) _
    refine st1 _ ?_
    show Steps p.tables e below (T1.setTop (mkF m 4 #[.val (.ref w_NACK)] [(.ref w_CONNECT), (.ref w_NACK)])) _
    refine Jvm.RoadKit.acmp (g := (mkF m 4 #[.val (.ref w_NACK)] [(.ref w_CONNECT), (.ref w_NACK)])) X1 hx rfl rfl rfl (pc0 := 4) (pc' := 7) (same := false) rfl (hb hby d1_4) rfl (decide_eq_false fun q => (Ne.symm ne_CONNECT_NACK) (Value.ref.inj q)) (by decide) (by decide) ?_
    show Steps p.tables e below (T1.setTop (mkF m 7 #[.val (.ref w_NACK)] [])) _
    refine XS.aloadN X1.here hx rfl (hb hby d1_7) rfl rfl ?_
    show Steps p.tables e below (T1.setTop (mkF m 8 #[.val (.ref w_NACK)] [(.ref w_NACK)])) _
    refine st2 _ ?_
    show Steps p.tables e below (T2.setTop (mkF m 11 #[.val (.ref w_NACK)] [(.ref w_STOMP), (.ref w_NACK)])) _
    refine Jvm.RoadKit.acmp (g := (mkF m 11 #[.val (.ref w_NACK)] [(.ref w_STOMP), (.ref w_NACK)])) X2 hx rfl rfl rfl (pc0 := 11) (pc' := 14) (same := false) rfl (hb hby d1_11) rfl (decide_eq_false fun q => ne_NACK_STOMP (Value.ref.inj q)) (by decide) (by decide) ?_
    show Steps p.tables e below (T2.setTop (mkF m 14 #[.val (.ref w_NACK)] [])) _
    refine XS.aloadN X2.here hx rfl (hb hby d1_14) rfl rfl ?_
    show Steps p.tables e below (T2.setTop (mkF m 15 #[.val (.ref w_NACK)] [(.ref w_NACK)])) _
    refine st3 _ ?_
    show Steps p.tables e below (T3.setTop (mkF m 18 #[.val (.ref w_NACK)] [(.ref w_CONNECTED), (.ref w_NACK)])) _
    refine Jvm.RoadKit.acmp (g := (mkF m 18 #[.val (.ref w_NACK)] [(.ref w_CONNECTED), (.ref w_NACK)])) X3 hx rfl rfl rfl (pc0 := 18) (pc' := 21) (same := false) rfl (hb hby d1_18) rfl (decide_eq_false fun q => (Ne.symm ne_CONNECTED_NACK) (Value.ref.inj q)) (by decide) (by decide) ?_
    show Steps p.tables e below (T3.setTop (mkF m 21 #[.val (.ref w_NACK)] [])) _
    refine XS.iconst X3.here hx rfl (hb hby d1_21) ?_
    show Steps p.tables e below (T3.setTop (mkF m 22 #[.val (.ref w_NACK)] [(.int (1 : Int32))])) _
    refine XS.goto X3.here hx rfl (pc0 := 22) (pc' := 26) rfl (hb hby d1_22) (by decide) (by decide) ?_
    show Steps p.tables e below (T3.setTop (mkF m 26 #[.val (.ref w_NACK)] [(.int (1 : Int32))])) _
    exact retN X3 hx (t := .boolean) Bd.returns (by simp) (hb hby d1_26) hr
  · show Q1_6 Z w_CONNECT w_STOMP w_NACK w_CONNECTED h0 n0 _ T3.heap _
    rw [e3]
    exact ⟨rfl, N0, rfl⟩
theorem ef_rm1_7 (m : MethodId) (x0 : Addr) : entryFrame m #[(.ref x0)] 1 = mkF m 0 #[.val (.ref x0)] [] := by first | (simp [entryFrame, mkF, argsToLocals, Value.category]; done) | rfl
def Q1_7 (Z : State) (w_CONNECT : Addr) (w_STOMP : Addr) (w_BEGIN : Addr) (w_CONNECTED : Addr) (h0 : Heap) (n0 : Nat) (v : Option Value) (h : Heap) (L : List Loc) : Prop := v = some (.int (1 : Int32)) ∧ Fr n0 L ∧ h = h0
set_option maxRecDepth 65536 in
set_option maxHeartbeats 40000000 in
theorem rm1_7 (l : Launch) (Z : State) (a0 : Array Value) (hw : ∀ d ∈ tables_1, d.before a0 Z = true) (ws : List Jvm.Cond) (w_CONNECT : Addr) (w_STOMP : Addr) (w_BEGIN : Addr) (w_CONNECTED : Addr) (h0 : Heap) (n0 : Nat) (Z0 : n0 ≤ h0.size) (S_CONNECT : Sta Z h0 "com/example/grebe/grebe/frame/Command" "CONNECT" "Lcom/example/grebe/grebe/frame/Command;" (.ref w_CONNECT)) (ne_BEGIN_CONNECT : w_BEGIN ≠ w_CONNECT) (S_STOMP : Sta Z h0 "com/example/grebe/grebe/frame/Command" "STOMP" "Lcom/example/grebe/grebe/frame/Command;" (.ref w_STOMP)) (ne_BEGIN_STOMP : w_BEGIN ≠ w_STOMP) (S_CONNECTED : Sta Z h0 "com/example/grebe/grebe/frame/Command" "CONNECTED" "Lcom/example/grebe/grebe/frame/Command;" (.ref w_CONNECTED)) (ne_BEGIN_CONNECTED : w_BEGIN ≠ w_CONNECTED) :
    MetFree l (⟨"com/example/grebe/grebe/frame/Command", "escapesHeaders", "()Z"⟩ : MethodName) (head1 (Jvm.Cond.code (⟨"com/example/grebe/grebe/frame/Command", "escapesHeaders", "()Z"⟩ : MethodName) prog_8_method_4_code 1 (some .boolean) :: ws) ({ frames := 0, cells := 0, slots := 0, locals := 0 } : Room)) (fun a U => a = #[(.ref w_BEGIN)] ∧ Z.Warmed39 U.vm ∧ U.heap = h0) (fun _ _ _ _ _ => True) (fun _ U o U' => ∃ v L, o = .returned v ∧ Q1_7 Z w_CONNECT w_STOMP w_BEGIN w_CONNECTED h0 n0 v U'.heap L ∧ FrameEnd U o U' L ({ frames := 0, cells := 0, slots := 0, locals := 0 } : Room).cells ({ frames := 0, cells := 0, slots := 0, locals := 0 } : Room).slots) := by
  refine MetFree.of_bodySF (plainFor_of_name pn_0) hisR ?_
  intro p e s m args below meth c s₁ Bd hml0 hP hK
  obtain ⟨rfl, hZ, hh⟩ := hP
  have hx := Bd.exec
  have hby := Bd.bytes
  have hml : c.maxLocals = 1 := hml0
  have hown : s.vm.findClass "com/example/grebe/grebe/frame/Command" = some m.cls := findClass_of_methodNamed Bd.named
  have hnm := (name_of_methodNamed Bd.named Bd.method).1
  have X0 : Stand p l e ({ frames := 0, cells := 0, slots := 0, locals := 0 } : Room) s m #[(.ref w_BEGIN)] below meth c s₁ [] 0 0 := Stand.of_body Bd
  have e0 : s₁.heap = h0 := by rw [← hh, Bd.state]; rfl
  have N0 := Fr.nil n0
  have pre0 : ∀ t, Steps p.tables e below (s₁.setTop (mkF m 0 #[.val (.ref w_BEGIN)] [])) t → Steps p.tables e below (s₁.setTop (entryFrame m #[(.ref w_BEGIN)] 1)) t := fun t k => castTop (ef_rm1_7 m w_BEGIN) k
  obtain ⟨T1, X1, e1, st1⟩ := getS2 X0 hx hZ hown (host := "") (Or.inl (hw _ (List.mem_of_getElem? (i := 41) rfl))) Via.refl e0 S_CONNECT (g := (mkF m 1 #[.val (.ref w_BEGIN)] [(.ref w_BEGIN)])) rfl (hb hby d1_1)
  obtain ⟨T2, X2, e2, st2⟩ := getS2 X1 hx hZ hown (host := "") (Or.inl (hw _ (List.mem_of_getElem? (i := 42) rfl))) Via.refl e1 S_STOMP (g := (mkF m 8 #[.val (.ref w_BEGIN)] [(.ref w_BEGIN)])) rfl (hb hby d1_8)
  obtain ⟨T3, X3, e3, st3⟩ := getS2 X2 hx hZ hown (host := "") (Or.inl (hw _ (List.mem_of_getElem? (i := 43) rfl))) Via.refl e2 S_CONNECTED (g := (mkF m 15 #[.val (.ref w_BEGIN)] [(.ref w_BEGIN)])) rfl (hb hby d1_15)
  obtain ⟨fs, hr, hrun, hended, hW, hsame⟩ := X3.leave (v := some (.int (1 : Int32))) (fun h => by rw [Bd.returns] at h; cases h)
  refine ⟨_, _, pre0 _ ?_, hrun, hended, _, _, rfl, ?_, ⟨_, rfl⟩, hW, hsame.mono (by decide) (by decide)⟩
  ·
    show Steps p.tables e below (s₁.setTop (mkF m 0 #[.val (.ref w_BEGIN)] [])) _
    refine XS.aloadN X0.here hx rfl (hb hby d1_0) rfl rfl ?_
    show Steps p.tables e below (s₁.setTop (mkF m 1 #[.val (.ref w_BEGIN)] [(.ref w_BEGIN)])) _
    refine st1 _ ?_
    show Steps p.tables e below (T1.setTop (mkF m 4 #[.val (.ref w_BEGIN)] [(.ref w_CONNECT), (.ref w_BEGIN)])) _
    refine Jvm.RoadKit.acmp (g := (mkF m 4 #[.val (.ref w_BEGIN)] [(.ref w_CONNECT), (.ref w_BEGIN)])) X1 hx rfl rfl rfl (pc0 := 4) (pc' := 7) (same := false) rfl (hb hby d1_4) rfl (decide_eq_false fun q => ne_BEGIN_CONNECT (Value.ref.inj q)) (by decide) (by decide) ?_
    show Steps p.tables e below (T1.setTop (mkF m 7 #[.val (.ref w_BEGIN)] [])) _
    refine XS.aloadN X1.here hx rfl (hb hby d1_7) rfl rfl ?_
    show Steps p.tables e below (T1.setTop (mkF m 8 #[.val (.ref w_BEGIN)] [(.ref w_BEGIN)])) _
    refine st2 _ ?_
    show Steps p.tables e below (T2.setTop (mkF m 11 #[.val (.ref w_BEGIN)] [(.ref w_STOMP), (.ref w_BEGIN)])) _
    refine Jvm.RoadKit.acmp (g := (mkF m 11 #[.val (.ref w_BEGIN)] [(.ref w_STOMP), (.ref w_BEGIN)])) X2 hx rfl rfl rfl (pc0 := 11) (pc' := 14) (same := false) rfl (hb hby d1_11) rfl (decide_eq_false fun q => ne_BEGIN_STOMP (Value.ref.inj q)) (by decide) (by decide) ?_
    show Steps p.tables e below (T2.setTop (mkF m 14 #[.val (.ref w_BEGIN)] [])) _
    refine XS.aloadN X2.here hx rfl (hb hby d1_14) rfl rfl ?_
    show Steps p.tables e below (T2.setTop (mkF m 15 #[.val (.ref w_BEGIN)] [(.ref w_BEGIN)])) _
    refine st3 _ ?_
    show Steps p.tables e below (T3.setTop (mkF m 18 #[.val (.ref w_BEGIN)] [(.ref w_CONNECTED), (.ref w_BEGIN)])) _
    refine Jvm.RoadKit.acmp (g := (mkF m 18 #[.val (.ref w_BEGIN)] [(.ref w_CONNECTED), (.ref w_BEGIN)])) X3 hx rfl rfl rfl (pc0 := 18) (pc' := 21) (same := false) rfl (hb hby d1_18) rfl (decide_eq_false fun q => ne_BEGIN_CONNECTED (Value.ref.inj q)) (by decide) (by decide) ?_
    show Steps p.tables e below (T3.setTop (mkF m 21 #[.val (.ref w_BEGIN)] [])) _
    refine XS.iconst X3.here hx rfl (hb hby d1_21) ?_
    show Steps p.tables e below (T3.setTop (mkF m 22 #[.val (.ref w_BEGIN)] [(.int (1 : Int32))])) _
    refine XS.goto X3.here hx rfl (pc0 := 22) (pc' := 26) rfl (hb hby d1_22) (by decide) (by decide) ?_
    show Steps p.tables e below (T3.setTop (mkF m 26 #[.val (.ref w_BEGIN)] [(.int (1 : Int32))])) _
    exact retN X3 hx (t := .boolean) Bd.returns (by simp) (hb hby d1_26) hr
  · show Q1_7 Z w_CONNECT w_STOMP w_BEGIN w_CONNECTED h0 n0 _ T3.heap _
    rw [e3]
    exact ⟨rfl, N0, rfl⟩
theorem ef_rm1_8 (m : MethodId) (x0 : Addr) : entryFrame m #[(.ref x0)] 1 = mkF m 0 #[.val (.ref x0)] [] := by first | (simp [entryFrame, mkF, argsToLocals, Value.category]; done) | rfl
def Q1_8 (Z : State) (w_CONNECT : Addr) (w_STOMP : Addr) (w_COMMIT : Addr) (w_CONNECTED : Addr) (h0 : Heap) (n0 : Nat) (v : Option Value) (h : Heap) (L : List Loc) : Prop := v = some (.int (1 : Int32)) ∧ Fr n0 L ∧ h = h0
set_option maxRecDepth 65536 in
set_option maxHeartbeats 40000000 in
theorem rm1_8 (l : Launch) (Z : State) (a0 : Array Value) (hw : ∀ d ∈ tables_1, d.before a0 Z = true) (ws : List Jvm.Cond) (w_CONNECT : Addr) (w_STOMP : Addr) (w_COMMIT : Addr) (w_CONNECTED : Addr) (h0 : Heap) (n0 : Nat) (Z0 : n0 ≤ h0.size) (S_CONNECT : Sta Z h0 "com/example/grebe/grebe/frame/Command" "CONNECT" "Lcom/example/grebe/grebe/frame/Command;" (.ref w_CONNECT)) (ne_COMMIT_CONNECT : w_COMMIT ≠ w_CONNECT) (S_STOMP : Sta Z h0 "com/example/grebe/grebe/frame/Command" "STOMP" "Lcom/example/grebe/grebe/frame/Command;" (.ref w_STOMP)) (ne_COMMIT_STOMP : w_COMMIT ≠ w_STOMP) (S_CONNECTED : Sta Z h0 "com/example/grebe/grebe/frame/Command" "CONNECTED" "Lcom/example/grebe/grebe/frame/Command;" (.ref w_CONNECTED)) (ne_COMMIT_CONNECTED : w_COMMIT ≠ w_CONNECTED) :
    MetFree l (⟨"com/example/grebe/grebe/frame/Command", "escapesHeaders", "()Z"⟩ : MethodName) (head1 (Jvm.Cond.code (⟨"com/example/grebe/grebe/frame/Command", "escapesHeaders", "()Z"⟩ : MethodName) prog_8_method_4_code 1 (some .boolean) :: ws) ({ frames := 0, cells := 0, slots := 0, locals := 0 } : Room)) (fun a U => a = #[(.ref w_COMMIT)] ∧ Z.Warmed39 U.vm ∧ U.heap = h0) (fun _ _ _ _ _ => True) (fun _ U o U' => ∃ v L, o = .returned v ∧ Q1_8 Z w_CONNECT w_STOMP w_COMMIT w_CONNECTED h0 n0 v U'.heap L ∧ FrameEnd U o U' L ({ frames := 0, cells := 0, slots := 0, locals := 0 } : Room).cells ({ frames := 0, cells := 0, slots := 0, locals := 0 } : Room).slots) := by
  refine MetFree.of_bodySF (plainFor_of_name pn_0) hisR ?_
  intro p e s m args below meth c s₁ Bd hml0 hP hK
  obtain ⟨rfl, hZ, hh⟩ := hP
  have hx := Bd.exec
  have hby := Bd.bytes
  have hml : c.maxLocals = 1 := hml0
  have hown : s.vm.findClass "com/example/grebe/grebe/frame/Command" = some m.cls := findClass_of_methodNamed Bd.named
  have hnm := (name_of_methodNamed Bd.named Bd.method).1
  have X0 : Stand p l e ({ frames := 0, cells := 0, slots := 0, locals := 0 } : Room) s m #[(.ref w_COMMIT)] below meth c s₁ [] 0 0 := Stand.of_body Bd
  have e0 : s₁.heap = h0 := by rw [← hh, Bd.state]; rfl
  have N0 := Fr.nil n0
  have pre0 : ∀ t, Steps p.tables e below (s₁.setTop (mkF m 0 #[.val (.ref w_COMMIT)] [])) t → Steps p.tables e below (s₁.setTop (entryFrame m #[(.ref w_COMMIT)] 1)) t := fun t k => castTop (ef_rm1_8 m w_COMMIT) k
  obtain ⟨T1, X1, e1, st1⟩ := getS2 X0 hx hZ hown (host := "") (Or.inl (hw _ (List.mem_of_getElem? (i := 41) rfl))) Via.refl e0 S_CONNECT (g := (mkF m 1 #[.val (.ref w_COMMIT)] [(.ref w_COMMIT)])) rfl (hb hby d1_1)
  obtain ⟨T2, X2, e2, st2⟩ := getS2 X1 hx hZ hown (host := "") (Or.inl (hw _ (List.mem_of_getElem? (i := 42) rfl))) Via.refl e1 S_STOMP (g := (mkF m 8 #[.val (.ref w_COMMIT)] [(.ref w_COMMIT)])) rfl (hb hby d1_8)
  obtain ⟨T3, X3, e3, st3⟩ := getS2 X2 hx hZ hown (host := "") (Or.inl (hw _ (List.mem_of_getElem? (i := 43) rfl))) Via.refl e2 S_CONNECTED (g := (mkF m 15 #[.val (.ref w_COMMIT)] [(.ref w_COMMIT)])) rfl (hb hby d1_15)
  obtain ⟨fs, hr, hrun, hended, hW, hsame⟩ := X3.leave (v := some (.int (1 : Int32))) (fun h => by rw [Bd.returns] at h; cases h)
  refine ⟨_, _, pre0 _ ?_, hrun, hended, _, _, rfl, ?_, ⟨_, rfl⟩, hW, hsame.mono (by decide) (by decide)⟩
  ·
    show Steps p.tables e below (s₁.setTop (mkF m 0 #[.val (.ref w_COMMIT)] [])) _
    refine XS.aloadN X0.here hx rfl (hb hby d1_0) rfl rfl ?_
    show Steps p.tables e below (s₁.setTop (mkF m 1 #[.val (.ref w_COMMIT)] [(.ref w_COMMIT)])) _
    refine st1 _ ?_
    show Steps p.tables e below (T1.setTop (mkF m 4 #[.val (.ref w_COMMIT)] [(.ref w_CONNECT), (.ref w_COMMIT)])) _
    refine Jvm.RoadKit.acmp (g := (mkF m 4 #[.val (.ref w_COMMIT)] [(.ref w_CONNECT), (.ref w_COMMIT)])) X1 hx rfl rfl rfl (pc0 := 4) (pc' := 7) (same := false) rfl (hb hby d1_4) rfl (decide_eq_false fun q => ne_COMMIT_CONNECT (Value.ref.inj q)) (by decide) (by decide) ?_
    show Steps p.tables e below (T1.setTop (mkF m 7 #[.val (.ref w_COMMIT)] [])) _
    refine XS.aloadN X1.here hx rfl (hb hby d1_7) rfl rfl ?_
    show Steps p.tables e below (T1.setTop (mkF m 8 #[.val (.ref w_COMMIT)] [(.ref w_COMMIT)])) _
    refine st2 _ ?_
    show Steps p.tables e below (T2.setTop (mkF m 11 #[.val (.ref w_COMMIT)] [(.ref w_STOMP), (.ref w_COMMIT)])) _
    refine Jvm.RoadKit.acmp (g := (mkF m 11 #[.val (.ref w_COMMIT)] [(.ref w_STOMP), (.ref w_COMMIT)])) X2 hx rfl rfl rfl (pc0 := 11) (pc' := 14) (same := false) rfl (hb hby d1_11) rfl (decide_eq_false fun q => ne_COMMIT_STOMP (Value.ref.inj q)) (by decide) (by decide) ?_
    show Steps p.tables e below (T2.setTop (mkF m 14 #[.val (.ref w_COMMIT)] [])) _
    refine XS.aloadN X2.here hx rfl (hb hby d1_14) rfl rfl ?_
    show Steps p.tables e below (T2.setTop (mkF m 15 #[.val (.ref w_COMMIT)] [(.ref w_COMMIT)])) _
    refine st3 _ ?_
    show Steps p.tables e below (T3.setTop (mkF m 18 #[.val (.ref w_COMMIT)] [(.ref w_CONNECTED), (.ref w_COMMIT)])) _
    refine Jvm.RoadKit.acmp (g := (mkF m 18 #[.val (.ref w_COMMIT)] [(.ref w_CONNECTED), (.ref w_COMMIT)])) X3 hx rfl rfl rfl (pc0 := 18) (pc' := 21) (same := false) rfl (hb hby d1_18) rfl (decide_eq_false fun q => ne_COMMIT_CONNECTED (Value.ref.inj q)) (by decide) (by decide) ?_
    show Steps p.tables e below (T3.setTop (mkF m 21 #[.val (.ref w_COMMIT)] [])) _
    refine XS.iconst X3.here hx rfl (hb hby d1_21) ?_
    show Steps p.tables e below (T3.setTop (mkF m 22 #[.val (.ref w_COMMIT)] [(.int (1 : Int32))])) _
    refine XS.goto X3.here hx rfl (pc0 := 22) (pc' := 26) rfl (hb hby d1_22) (by decide) (by decide) ?_
    show Steps p.tables e below (T3.setTop (mkF m 26 #[.val (.ref w_COMMIT)] [(.int (1 : Int32))])) _
    exact retN X3 hx (t := .boolean) Bd.returns (by simp) (hb hby d1_26) hr
  · show Q1_8 Z w_CONNECT w_STOMP w_COMMIT w_CONNECTED h0 n0 _ T3.heap _
    rw [e3]
    exact ⟨rfl, N0, rfl⟩
theorem ef_rm1_9 (m : MethodId) (x0 : Addr) : entryFrame m #[(.ref x0)] 1 = mkF m 0 #[.val (.ref x0)] [] := by first | (simp [entryFrame, mkF, argsToLocals, Value.category]; done) | rfl
def Q1_9 (Z : State) (w_CONNECT : Addr) (w_STOMP : Addr) (w_ABORT : Addr) (w_CONNECTED : Addr) (h0 : Heap) (n0 : Nat) (v : Option Value) (h : Heap) (L : List Loc) : Prop := v = some (.int (1 : Int32)) ∧ Fr n0 L ∧ h = h0
set_option maxRecDepth 65536 in
set_option maxHeartbeats 40000000 in
theorem rm1_9 (l : Launch) (Z : State) (a0 : Array Value) (hw : ∀ d ∈ tables_1, d.before a0 Z = true) (ws : List Jvm.Cond) (w_CONNECT : Addr) (w_STOMP : Addr) (w_ABORT : Addr) (w_CONNECTED : Addr) (h0 : Heap) (n0 : Nat) (Z0 : n0 ≤ h0.size) (S_CONNECT : Sta Z h0 "com/example/grebe/grebe/frame/Command" "CONNECT" "Lcom/example/grebe/grebe/frame/Command;" (.ref w_CONNECT)) (ne_ABORT_CONNECT : w_ABORT ≠ w_CONNECT) (S_STOMP : Sta Z h0 "com/example/grebe/grebe/frame/Command" "STOMP" "Lcom/example/grebe/grebe/frame/Command;" (.ref w_STOMP)) (ne_ABORT_STOMP : w_ABORT ≠ w_STOMP) (S_CONNECTED : Sta Z h0 "com/example/grebe/grebe/frame/Command" "CONNECTED" "Lcom/example/grebe/grebe/frame/Command;" (.ref w_CONNECTED)) (ne_ABORT_CONNECTED : w_ABORT ≠ w_CONNECTED) :
    MetFree l (⟨"com/example/grebe/grebe/frame/Command", "escapesHeaders", "()Z"⟩ : MethodName) (head1 (Jvm.Cond.code (⟨"com/example/grebe/grebe/frame/Command", "escapesHeaders", "()Z"⟩ : MethodName) prog_8_method_4_code 1 (some .boolean) :: ws) ({ frames := 0, cells := 0, slots := 0, locals := 0 } : Room)) (fun a U => a = #[(.ref w_ABORT)] ∧ Z.Warmed39 U.vm ∧ U.heap = h0) (fun _ _ _ _ _ => True) (fun _ U o U' => ∃ v L, o = .returned v ∧ Q1_9 Z w_CONNECT w_STOMP w_ABORT w_CONNECTED h0 n0 v U'.heap L ∧ FrameEnd U o U' L ({ frames := 0, cells := 0, slots := 0, locals := 0 } : Room).cells ({ frames := 0, cells := 0, slots := 0, locals := 0 } : Room).slots) := by
  refine MetFree.of_bodySF (plainFor_of_name pn_0) hisR ?_
  intro p e s m args below meth c s₁ Bd hml0 hP hK
  obtain ⟨rfl, hZ, hh⟩ := hP
  have hx := Bd.exec
  have hby := Bd.bytes
  have hml : c.maxLocals = 1 := hml0
  have hown : s.vm.findClass "com/example/grebe/grebe/frame/Command" = some m.cls := findClass_of_methodNamed Bd.named
  have hnm := (name_of_methodNamed Bd.named Bd.method).1
  have X0 : Stand p l e ({ frames := 0, cells := 0, slots := 0, locals := 0 } : Room) s m #[(.ref w_ABORT)] below meth c s₁ [] 0 0 := Stand.of_body Bd
  have e0 : s₁.heap = h0 := by rw [← hh, Bd.state]; rfl
  have N0 := Fr.nil n0
  have pre0 : ∀ t, Steps p.tables e below (s₁.setTop (mkF m 0 #[.val (.ref w_ABORT)] [])) t → Steps p.tables e below (s₁.setTop (entryFrame m #[(.ref w_ABORT)] 1)) t := fun t k => castTop (ef_rm1_9 m w_ABORT) k
  obtain ⟨T1, X1, e1, st1⟩ := getS2 X0 hx hZ hown (host := "") (Or.inl (hw _ (List.mem_of_getElem? (i := 41) rfl))) Via.refl e0 S_CONNECT (g := (mkF m 1 #[.val (.ref w_ABORT)] [(.ref w_ABORT)])) rfl (hb hby d1_1)
  obtain ⟨T2, X2, e2, st2⟩ := getS2 X1 hx hZ hown (host := "") (Or.inl (hw _ (List.mem_of_getElem? (i := 42) rfl))) Via.refl e1 S_STOMP (g := (mkF m 8 #[.val (.ref w_ABORT)] [(.ref w_ABORT)])) rfl (hb hby d1_8)
  obtain ⟨T3, X3, e3, st3⟩ := getS2 X2 hx hZ hown (host := "") (Or.inl (hw _ (List.mem_of_getElem? (i := 43) rfl))) Via.refl e2 S_CONNECTED (g := (mkF m 15 #[.val (.ref w_ABORT)] [(.ref w_ABORT)])) rfl (hb hby d1_15)
  obtain ⟨fs, hr, hrun, hended, hW, hsame⟩ := X3.leave (v := some (.int (1 : Int32))) (fun h => by rw [Bd.returns] at h; cases h)
  refine ⟨_, _, pre0 _ ?_, hrun, hended, _, _, rfl, ?_, ⟨_, rfl⟩, hW, hsame.mono (by decide) (by decide)⟩
  ·
    show Steps p.tables e below (s₁.setTop (mkF m 0 #[.val (.ref w_ABORT)] [])) _
    refine XS.aloadN X0.here hx rfl (hb hby d1_0) rfl rfl ?_
    show Steps p.tables e below (s₁.setTop (mkF m 1 #[.val (.ref w_ABORT)] [(.ref w_ABORT)])) _
    refine st1 _ ?_
    show Steps p.tables e below (T1.setTop (mkF m 4 #[.val (.ref w_ABORT)] [(.ref w_CONNECT), (.ref w_ABORT)])) _
    refine Jvm.RoadKit.acmp (g := (mkF m 4 #[.val (.ref w_ABORT)] [(.ref w_CONNECT), (.ref w_ABORT)])) X1 hx rfl rfl rfl (pc0 := 4) (pc' := 7) (same := false) rfl (hb hby d1_4) rfl (decide_eq_false fun q => ne_ABORT_CONNECT (Value.ref.inj q)) (by decide) (by decide) ?_
    show Steps p.tables e below (T1.setTop (mkF m 7 #[.val (.ref w_ABORT)] [])) _
    refine XS.aloadN X1.here hx rfl (hb hby d1_7) rfl rfl ?_
    show Steps p.tables e below (T1.setTop (mkF m 8 #[.val (.ref w_ABORT)] [(.ref w_ABORT)])) _
    refine st2 _ ?_
    show Steps p.tables e below (T2.setTop (mkF m 11 #[.val (.ref w_ABORT)] [(.ref w_STOMP), (.ref w_ABORT)])) _
    refine Jvm.RoadKit.acmp (g := (mkF m 11 #[.val (.ref w_ABORT)] [(.ref w_STOMP), (.ref w_ABORT)])) X2 hx rfl rfl rfl (pc0 := 11) (pc' := 14) (same := false) rfl (hb hby d1_11) rfl (decide_eq_false fun q => ne_ABORT_STOMP (Value.ref.inj q)) (by decide) (by decide) ?_
    show Steps p.tables e below (T2.setTop (mkF m 14 #[.val (.ref w_ABORT)] [])) _
    refine XS.aloadN X2.here hx rfl (hb hby d1_14) rfl rfl ?_
    show Steps p.tables e below (T2.setTop (mkF m 15 #[.val (.ref w_ABORT)] [(.ref w_ABORT)])) _
    refine st3 _ ?_
    show Steps p.tables e below (T3.setTop (mkF m 18 #[.val (.ref w_ABORT)] [(.ref w_CONNECTED), (.ref w_ABORT)])) _
    refine Jvm.RoadKit.acmp (g := (mkF m 18 #[.val (.ref w_ABORT)] [(.ref w_CONNECTED), (.ref w_ABORT)])) X3 hx rfl rfl rfl (pc0 := 18) (pc' := 21) (same := false) rfl (hb hby d1_18) rfl (decide_eq_false fun q => ne_ABORT_CONNECTED (Value.ref.inj q)) (by decide) (by decide) ?_
    show Steps p.tables e below (T3.setTop (mkF m 21 #[.val (.ref w_ABORT)] [])) _
    refine XS.iconst X3.here hx rfl (hb hby d1_21) ?_
    show Steps p.tables e below (T3.setTop (mkF m 22 #[.val (.ref w_ABORT)] [(.int (1 : Int32))])) _
    refine XS.goto X3.here hx rfl (pc0 := 22) (pc' := 26) rfl (hb hby d1_22) (by decide) (by decide) ?_
    show Steps p.tables e below (T3.setTop (mkF m 26 #[.val (.ref w_ABORT)] [(.int (1 : Int32))])) _
    exact retN X3 hx (t := .boolean) Bd.returns (by simp) (hb hby d1_26) hr
  · show Q1_9 Z w_CONNECT w_STOMP w_ABORT w_CONNECTED h0 n0 _ T3.heap _
    rw [e3]
    exact ⟨rfl, N0, rfl⟩
theorem ef_rm1_10 (m : MethodId) (x0 : Addr) : entryFrame m #[(.ref x0)] 1 = mkF m 0 #[.val (.ref x0)] [] := by first | (simp [entryFrame, mkF, argsToLocals, Value.category]; done) | rfl
def Q1_10 (Z : State) (w_CONNECT : Addr) (w_STOMP : Addr) (w_DISCONNECT : Addr) (w_CONNECTED : Addr) (h0 : Heap) (n0 : Nat) (v : Option Value) (h : Heap) (L : List Loc) : Prop := v = some (.int (1 : Int32)) ∧ Fr n0 L ∧ h = h0
set_option maxRecDepth 65536 in
set_option maxHeartbeats 40000000 in
theorem rm1_10 (l : Launch) (Z : State) (a0 : Array Value) (hw : ∀ d ∈ tables_1, d.before a0 Z = true) (ws : List Jvm.Cond) (w_CONNECT : Addr) (w_STOMP : Addr) (w_DISCONNECT : Addr) (w_CONNECTED : Addr) (h0 : Heap) (n0 : Nat) (Z0 : n0 ≤ h0.size) (S_CONNECT : Sta Z h0 "com/example/grebe/grebe/frame/Command" "CONNECT" "Lcom/example/grebe/grebe/frame/Command;" (.ref w_CONNECT)) (ne_CONNECT_DISCONNECT : w_CONNECT ≠ w_DISCONNECT) (S_STOMP : Sta Z h0 "com/example/grebe/grebe/frame/Command" "STOMP" "Lcom/example/grebe/grebe/frame/Command;" (.ref w_STOMP)) (ne_DISCONNECT_STOMP : w_DISCONNECT ≠ w_STOMP) (S_CONNECTED : Sta Z h0 "com/example/grebe/grebe/frame/Command" "CONNECTED" "Lcom/example/grebe/grebe/frame/Command;" (.ref w_CONNECTED)) (ne_CONNECTED_DISCONNECT : w_CONNECTED ≠ w_DISCONNECT) :
    MetFree l (⟨"com/example/grebe/grebe/frame/Command", "escapesHeaders", "()Z"⟩ : MethodName) (head1 (Jvm.Cond.code (⟨"com/example/grebe/grebe/frame/Command", "escapesHeaders", "()Z"⟩ : MethodName) prog_8_method_4_code 1 (some .boolean) :: ws) ({ frames := 0, cells := 0, slots := 0, locals := 0 } : Room)) (fun a U => a = #[(.ref w_DISCONNECT)] ∧ Z.Warmed39 U.vm ∧ U.heap = h0) (fun _ _ _ _ _ => True) (fun _ U o U' => ∃ v L, o = .returned v ∧ Q1_10 Z w_CONNECT w_STOMP w_DISCONNECT w_CONNECTED h0 n0 v U'.heap L ∧ FrameEnd U o U' L ({ frames := 0, cells := 0, slots := 0, locals := 0 } : Room).cells ({ frames := 0, cells := 0, slots := 0, locals := 0 } : Room).slots) := by
  refine MetFree.of_bodySF (plainFor_of_name pn_0) hisR ?_
  intro p e s m args below meth c s₁ Bd hml0 hP hK
  obtain ⟨rfl, hZ, hh⟩ := hP
  have hx := Bd.exec
  have hby := Bd.bytes
  have hml : c.maxLocals = 1 := hml0
  have hown : s.vm.findClass "com/example/grebe/grebe/frame/Command" = some m.cls := findClass_of_methodNamed Bd.named
  have hnm := (name_of_methodNamed Bd.named Bd.method).1
  have X0 : Stand p l e ({ frames := 0, cells := 0, slots := 0, locals := 0 } : Room) s m #[(.ref w_DISCONNECT)] below meth c s₁ [] 0 0 := Stand.of_body Bd
  have e0 : s₁.heap = h0 := by rw [← hh, Bd.state]; rfl
  have N0 := Fr.nil n0
  have pre0 : ∀ t, Steps p.tables e below (s₁.setTop (mkF m 0 #[.val (.ref w_DISCONNECT)] [])) t → Steps p.tables e below (s₁.setTop (entryFrame m #[(.ref w_DISCONNECT)] 1)) t := fun t k => castTop (ef_rm1_10 m w_DISCONNECT) k
  obtain ⟨T1, X1, e1, st1⟩ := getS2 X0 hx hZ hown (host := "") (Or.inl (hw _ (List.mem_of_getElem? (i := 41) rfl))) Via.refl e0 S_CONNECT (g := (mkF m 1 #[.val (.ref w_DISCONNECT)] [(.ref w_DISCONNECT)])) rfl (hb hby d1_1)
  obtain ⟨T2, X2, e2, st2⟩ := getS2 X1 hx hZ hown (host := "") (Or.inl (hw _ (List.mem_of_getElem? (i := 42) rfl))) Via.refl e1 S_STOMP (g := (mkF m 8 #[.val (.ref w_DISCONNECT)] [(.ref w_DISCONNECT)])) rfl (hb hby d1_8)
  obtain ⟨T3, X3, e3, st3⟩ := getS2 X2 hx hZ hown (host := "") (Or.inl (hw _ (List.mem_of_getElem? (i := 43) rfl))) Via.refl e2 S_CONNECTED (g := (mkF m 15 #[.val (.ref w_DISCONNECT)] [(.ref w_DISCONNECT)])) rfl (hb hby d1_15)
  obtain ⟨fs, hr, hrun, hended, hW, hsame⟩ := X3.leave (v := some (.int (1 : Int32))) (fun h => by rw [Bd.returns] at h; cases h)
  refine ⟨_, _, pre0 _ ?_, hrun, hended, _, _, rfl, ?_, ⟨_, rfl⟩, hW, hsame.mono (by decide) (by decide)⟩
  ·
    show Steps p.tables e below (s₁.setTop (mkF m 0 #[.val (.ref w_DISCONNECT)] [])) _
    refine XS.aloadN X0.here hx rfl (hb hby d1_0) rfl rfl ?_
    show Steps p.tables e below (s₁.setTop (mkF m 1 #[.val (.ref w_DISCONNECT)] [(.ref w_DISCONNECT)])) _
    refine st1 _ ?_
    show Steps p.tables e below (T1.setTop (mkF m 4 #[.val (.ref w_DISCONNECT)] [(.ref w_CONNECT), (.ref w_DISCONNECT)])) _
    refine Jvm.RoadKit.acmp (g := (mkF m 4 #[.val (.ref w_DISCONNECT)] [(.ref w_CONNECT), (.ref w_DISCONNECT)])) X1 hx rfl rfl rfl (pc0 := 4) (pc' := 7) (same := false) rfl (hb hby d1_4) rfl (decide_eq_false fun q => (Ne.symm ne_CONNECT_DISCONNECT) (Value.ref.inj q)) (by decide) (by decide) ?_
    show Steps p.tables e below (T1.setTop (mkF m 7 #[.val (.ref w_DISCONNECT)] [])) _
    refine XS.aloadN X1.here hx rfl (hb hby d1_7) rfl rfl ?_
    show Steps p.tables e below (T1.setTop (mkF m 8 #[.val (.ref w_DISCONNECT)] [(.ref w_DISCONNECT)])) _
    refine st2 _ ?_
    show Steps p.tables e below (T2.setTop (mkF m 11 #[.val (.ref w_DISCONNECT)] [(.ref w_STOMP), (.ref w_DISCONNECT)])) _
    refine Jvm.RoadKit.acmp (g := (mkF m 11 #[.val (.ref w_DISCONNECT)] [(.ref w_STOMP), (.ref w_DISCONNECT)])) X2 hx rfl rfl rfl (pc0 := 11) (pc' := 14) (same := false) rfl (hb hby d1_11) rfl (decide_eq_false fun q => ne_DISCONNECT_STOMP (Value.ref.inj q)) (by decide) (by decide) ?_
    show Steps p.tables e below (T2.setTop (mkF m 14 #[.val (.ref w_DISCONNECT)] [])) _
    refine XS.aloadN X2.here hx rfl (hb hby d1_14) rfl rfl ?_
    show Steps p.tables e below (T2.setTop (mkF m 15 #[.val (.ref w_DISCONNECT)] [(.ref w_DISCONNECT)])) _
    refine st3 _ ?_
    show Steps p.tables e below (T3.setTop (mkF m 18 #[.val (.ref w_DISCONNECT)] [(.ref w_CONNECTED), (.ref w_DISCONNECT)])) _
    refine Jvm.RoadKit.acmp (g := (mkF m 18 #[.val (.ref w_DISCONNECT)] [(.ref w_CONNECTED), (.ref w_DISCONNECT)])) X3 hx rfl rfl rfl (pc0 := 18) (pc' := 21) (same := false) rfl (hb hby d1_18) rfl (decide_eq_false fun q => (Ne.symm ne_CONNECTED_DISCONNECT) (Value.ref.inj q)) (by decide) (by decide) ?_
    show Steps p.tables e below (T3.setTop (mkF m 21 #[.val (.ref w_DISCONNECT)] [])) _
    refine XS.iconst X3.here hx rfl (hb hby d1_21) ?_
    show Steps p.tables e below (T3.setTop (mkF m 22 #[.val (.ref w_DISCONNECT)] [(.int (1 : Int32))])) _
    refine XS.goto X3.here hx rfl (pc0 := 22) (pc' := 26) rfl (hb hby d1_22) (by decide) (by decide) ?_
    show Steps p.tables e below (T3.setTop (mkF m 26 #[.val (.ref w_DISCONNECT)] [(.int (1 : Int32))])) _
    exact retN X3 hx (t := .boolean) Bd.returns (by simp) (hb hby d1_26) hr
  · show Q1_10 Z w_CONNECT w_STOMP w_DISCONNECT w_CONNECTED h0 n0 _ T3.heap _
    rw [e3]
    exact ⟨rfl, N0, rfl⟩
theorem ef_rm1_11 (m : MethodId) (x0 : Addr) : entryFrame m #[(.ref x0)] 1 = mkF m 0 #[.val (.ref x0)] [] := by first | (simp [entryFrame, mkF, argsToLocals, Value.category]; done) | rfl
def Q1_11 (Z : State) (w_CONNECT : Addr) (w_STOMP : Addr) (w_CONNECTED : Addr) (h0 : Heap) (n0 : Nat) (v : Option Value) (h : Heap) (L : List Loc) : Prop := v = some (.int (0 : Int32)) ∧ Fr n0 L ∧ h = h0
set_option maxRecDepth 65536 in
set_option maxHeartbeats 40000000 in
theorem rm1_11 (l : Launch) (Z : State) (a0 : Array Value) (hw : ∀ d ∈ tables_1, d.before a0 Z = true) (ws : List Jvm.Cond) (w_CONNECT : Addr) (w_STOMP : Addr) (w_CONNECTED : Addr) (h0 : Heap) (n0 : Nat) (Z0 : n0 ≤ h0.size) (S_CONNECT : Sta Z h0 "com/example/grebe/grebe/frame/Command" "CONNECT" "Lcom/example/grebe/grebe/frame/Command;" (.ref w_CONNECT)) (ne_CONNECT_CONNECTED : w_CONNECT ≠ w_CONNECTED) (S_STOMP : Sta Z h0 "com/example/grebe/grebe/frame/Command" "STOMP" "Lcom/example/grebe/grebe/frame/Command;" (.ref w_STOMP)) (ne_CONNECTED_STOMP : w_CONNECTED ≠ w_STOMP) (S_CONNECTED : Sta Z h0 "com/example/grebe/grebe/frame/Command" "CONNECTED" "Lcom/example/grebe/grebe/frame/Command;" (.ref w_CONNECTED)) :
    MetFree l (⟨"com/example/grebe/grebe/frame/Command", "escapesHeaders", "()Z"⟩ : MethodName) (head1 (Jvm.Cond.code (⟨"com/example/grebe/grebe/frame/Command", "escapesHeaders", "()Z"⟩ : MethodName) prog_8_method_4_code 1 (some .boolean) :: ws) ({ frames := 0, cells := 0, slots := 0, locals := 0 } : Room)) (fun a U => a = #[(.ref w_CONNECTED)] ∧ Z.Warmed39 U.vm ∧ U.heap = h0) (fun _ _ _ _ _ => True) (fun _ U o U' => ∃ v L, o = .returned v ∧ Q1_11 Z w_CONNECT w_STOMP w_CONNECTED h0 n0 v U'.heap L ∧ FrameEnd U o U' L ({ frames := 0, cells := 0, slots := 0, locals := 0 } : Room).cells ({ frames := 0, cells := 0, slots := 0, locals := 0 } : Room).slots) := by
  refine MetFree.of_bodySF (plainFor_of_name pn_0) hisR ?_
  intro p e s m args below meth c s₁ Bd hml0 hP hK
  obtain ⟨rfl, hZ, hh⟩ := hP
  have hx := Bd.exec
  have hby := Bd.bytes
  have hml : c.maxLocals = 1 := hml0
  have hown : s.vm.findClass "com/example/grebe/grebe/frame/Command" = some m.cls := findClass_of_methodNamed Bd.named
  have hnm := (name_of_methodNamed Bd.named Bd.method).1
  have X0 : Stand p l e ({ frames := 0, cells := 0, slots := 0, locals := 0 } : Room) s m #[(.ref w_CONNECTED)] below meth c s₁ [] 0 0 := Stand.of_body Bd
  have e0 : s₁.heap = h0 := by rw [← hh, Bd.state]; rfl
  have N0 := Fr.nil n0
  have pre0 : ∀ t, Steps p.tables e below (s₁.setTop (mkF m 0 #[.val (.ref w_CONNECTED)] [])) t → Steps p.tables e below (s₁.setTop (entryFrame m #[(.ref w_CONNECTED)] 1)) t := fun t k => castTop (ef_rm1_11 m w_CONNECTED) k
  obtain ⟨T1, X1, e1, st1⟩ := getS2 X0 hx hZ hown (host := "") (Or.inl (hw _ (List.mem_of_getElem? (i := 41) rfl))) Via.refl e0 S_CONNECT (g := (mkF m 1 #[.val (.ref w_CONNECTED)] [(.ref w_CONNECTED)])) rfl (hb hby d1_1)
  obtain ⟨T2, X2, e2, st2⟩ := getS2 X1 hx hZ hown (host := "") (Or.inl (hw _ (List.mem_of_getElem? (i := 42) rfl))) Via.refl e1 S_STOMP (g := (mkF m 8 #[.val (.ref w_CONNECTED)] [(.ref w_CONNECTED)])) rfl (hb hby d1_8)
  obtain ⟨T3, X3, e3, st3⟩ := getS2 X2 hx hZ hown (host := "") (Or.inl (hw _ (List.mem_of_getElem? (i := 43) rfl))) Via.refl e2 S_CONNECTED (g := (mkF m 15 #[.val (.ref w_CONNECTED)] [(.ref w_CONNECTED)])) rfl (hb hby d1_15)
  obtain ⟨fs, hr, hrun, hended, hW, hsame⟩ := X3.leave (v := some (.int (0 : Int32))) (fun h => by rw [Bd.returns] at h; cases h)
  refine ⟨_, _, pre0 _ ?_, hrun, hended, _, _, rfl, ?_, ⟨_, rfl⟩, hW, hsame.mono (by decide) (by decide)⟩
  ·
    show Steps p.tables e below (s₁.setTop (mkF m 0 #[.val (.ref w_CONNECTED)] [])) _
    refine XS.aloadN X0.here hx rfl (hb hby d1_0) rfl rfl ?_
    show Steps p.tables e below (s₁.setTop (mkF m 1 #[.val (.ref w_CONNECTED)] [(.ref w_CONNECTED)])) _
    refine st1 _ ?_
    show Steps p.tables e below (T1.setTop (mkF m 4 #[.val (.ref w_CONNECTED)] [(.ref w_CONNECT), (.ref w_CONNECTED)])) _
    refine Jvm.RoadKit.acmp (g := (mkF m 4 #[.val (.ref w_CONNECTED)] [(.ref w_CONNECT), (.ref w_CONNECTED)])) X1 hx rfl rfl rfl (pc0 := 4) (pc' := 7) (same := false) rfl (hb hby d1_4) rfl (decide_eq_false fun q => (Ne.symm ne_CONNECT_CONNECTED) (Value.ref.inj q)) (by decide) (by decide) ?_
    show Steps p.tables e below (T1.setTop (mkF m 7 #[.val (.ref w_CONNECTED)] [])) _
    refine XS.aloadN X1.here hx rfl (hb hby d1_7) rfl rfl ?_
    show Steps p.tables e below (T1.setTop (mkF m 8 #[.val (.ref w_CONNECTED)] [(.ref w_CONNECTED)])) _
    refine st2 _ ?_
    show Steps p.tables e below (T2.setTop (mkF m 11 #[.val (.ref w_CONNECTED)] [(.ref w_STOMP), (.ref w_CONNECTED)])) _
    refine Jvm.RoadKit.acmp (g := (mkF m 11 #[.val (.ref w_CONNECTED)] [(.ref w_STOMP), (.ref w_CONNECTED)])) X2 hx rfl rfl rfl (pc0 := 11) (pc' := 14) (same := false) rfl (hb hby d1_11) rfl (decide_eq_false fun q => ne_CONNECTED_STOMP (Value.ref.inj q)) (by decide) (by decide) ?_
    show Steps p.tables e below (T2.setTop (mkF m 14 #[.val (.ref w_CONNECTED)] [])) _
    refine XS.aloadN X2.here hx rfl (hb hby d1_14) rfl rfl ?_
    show Steps p.tables e below (T2.setTop (mkF m 15 #[.val (.ref w_CONNECTED)] [(.ref w_CONNECTED)])) _
    refine st3 _ ?_
    show Steps p.tables e below (T3.setTop (mkF m 18 #[.val (.ref w_CONNECTED)] [(.ref w_CONNECTED), (.ref w_CONNECTED)])) _
    refine Jvm.RoadKit.acmp (g := (mkF m 18 #[.val (.ref w_CONNECTED)] [(.ref w_CONNECTED), (.ref w_CONNECTED)])) X3 hx rfl rfl rfl (pc0 := 18) (pc' := 25) (same := true) rfl (hb hby d1_18) rfl (decide_eq_true rfl) (by decide) (by decide) ?_
    show Steps p.tables e below (T3.setTop (mkF m 25 #[.val (.ref w_CONNECTED)] [])) _
    refine XS.iconst X3.here hx rfl (hb hby d1_25) ?_
    show Steps p.tables e below (T3.setTop (mkF m 26 #[.val (.ref w_CONNECTED)] [(.int (0 : Int32))])) _
    exact retN X3 hx (t := .boolean) Bd.returns (by simp) (hb hby d1_26) hr
  · show Q1_11 Z w_CONNECT w_STOMP w_CONNECTED h0 n0 _ T3.heap _
    rw [e3]
    exact ⟨rfl, N0, rfl⟩
theorem ef_rm1_12 (m : MethodId) (x0 : Addr) : entryFrame m #[(.ref x0)] 1 = mkF m 0 #[.val (.ref x0)] [] := by first | (simp [entryFrame, mkF, argsToLocals, Value.category]; done) | rfl
def Q1_12 (Z : State) (w_CONNECT : Addr) (w_STOMP : Addr) (w_CONNECTED : Addr) (w_MESSAGE : Addr) (h0 : Heap) (n0 : Nat) (v : Option Value) (h : Heap) (L : List Loc) : Prop := v = some (.int (1 : Int32)) ∧ Fr n0 L ∧ h = h0
set_option maxRecDepth 65536 in
set_option maxHeartbeats 40000000 in
theorem rm1_12 (l : Launch) (Z : State) (a0 : Array Value) (hw : ∀ d ∈ tables_1, d.before a0 Z = true) (ws : List Jvm.Cond) (w_CONNECT : Addr) (w_STOMP : Addr) (w_CONNECTED : Addr) (w_MESSAGE : Addr) (h0 : Heap) (n0 : Nat) (Z0 : n0 ≤ h0.size) (S_CONNECT : Sta Z h0 "com/example/grebe/grebe/frame/Command" "CONNECT" "Lcom/example/grebe/grebe/frame/Command;" (.ref w_CONNECT)) (ne_CONNECT_MESSAGE : w_CONNECT ≠ w_MESSAGE) (S_STOMP : Sta Z h0 "com/example/grebe/grebe/frame/Command" "STOMP" "Lcom/example/grebe/grebe/frame/Command;" (.ref w_STOMP)) (ne_MESSAGE_STOMP : w_MESSAGE ≠ w_STOMP) (S_CONNECTED : Sta Z h0 "com/example/grebe/grebe/frame/Command" "CONNECTED" "Lcom/example/grebe/grebe/frame/Command;" (.ref w_CONNECTED)) (ne_CONNECTED_MESSAGE : w_CONNECTED ≠ w_MESSAGE) :
    MetFree l (⟨"com/example/grebe/grebe/frame/Command", "escapesHeaders", "()Z"⟩ : MethodName) (head1 (Jvm.Cond.code (⟨"com/example/grebe/grebe/frame/Command", "escapesHeaders", "()Z"⟩ : MethodName) prog_8_method_4_code 1 (some .boolean) :: ws) ({ frames := 0, cells := 0, slots := 0, locals := 0 } : Room)) (fun a U => a = #[(.ref w_MESSAGE)] ∧ Z.Warmed39 U.vm ∧ U.heap = h0) (fun _ _ _ _ _ => True) (fun _ U o U' => ∃ v L, o = .returned v ∧ Q1_12 Z w_CONNECT w_STOMP w_CONNECTED w_MESSAGE h0 n0 v U'.heap L ∧ FrameEnd U o U' L ({ frames := 0, cells := 0, slots := 0, locals := 0 } : Room).cells ({ frames := 0, cells := 0, slots := 0, locals := 0 } : Room).slots) := by
  refine MetFree.of_bodySF (plainFor_of_name pn_0) hisR ?_
  intro p e s m args below meth c s₁ Bd hml0 hP hK
  obtain ⟨rfl, hZ, hh⟩ := hP
  have hx := Bd.exec
  have hby := Bd.bytes
  have hml : c.maxLocals = 1 := hml0
  have hown : s.vm.findClass "com/example/grebe/grebe/frame/Command" = some m.cls := findClass_of_methodNamed Bd.named
  have hnm := (name_of_methodNamed Bd.named Bd.method).1
  have X0 : Stand p l e ({ frames := 0, cells := 0, slots := 0, locals := 0 } : Room) s m #[(.ref w_MESSAGE)] below meth c s₁ [] 0 0 := Stand.of_body Bd
  have e0 : s₁.heap = h0 := by rw [← hh, Bd.state]; rfl
  have N0 := Fr.nil n0
  have pre0 : ∀ t, Steps p.tables e below (s₁.setTop (mkF m 0 #[.val (.ref w_MESSAGE)] [])) t → Steps p.tables e below (s₁.setTop (entryFrame m #[(.ref w_MESSAGE)] 1)) t := fun t k => castTop (ef_rm1_12 m w_MESSAGE) k
  obtain ⟨T1, X1, e1, st1⟩ := getS2 X0 hx hZ hown (host := "") (Or.inl (hw _ (List.mem_of_getElem? (i := 41) rfl))) Via.refl e0 S_CONNECT (g := (mkF m 1 #[.val (.ref w_MESSAGE)] [(.ref w_MESSAGE)])) rfl (hb hby d1_1)
  obtain ⟨T2, X2, e2, st2⟩ := getS2 X1 hx hZ hown (host := "") (Or.inl (hw _ (List.mem_of_getElem? (i := 42) rfl))) Via.refl e1 S_STOMP (g := (mkF m 8 #[.val (.ref w_MESSAGE)] [(.ref w_MESSAGE)])) rfl (hb hby d1_8)
  obtain ⟨T3, X3, e3, st3⟩ := getS2 X2 hx hZ hown (host := "") (Or.inl (hw _ (List.mem_of_getElem? (i := 43) rfl))) Via.refl e2 S_CONNECTED (g := (mkF m 15 #[.val (.ref w_MESSAGE)] [(.ref w_MESSAGE)])) rfl (hb hby d1_15)
  obtain ⟨fs, hr, hrun, hended, hW, hsame⟩ := X3.leave (v := some (.int (1 : Int32))) (fun h => by rw [Bd.returns] at h; cases h)
  refine ⟨_, _, pre0 _ ?_, hrun, hended, _, _, rfl, ?_, ⟨_, rfl⟩, hW, hsame.mono (by decide) (by decide)⟩
  ·
    show Steps p.tables e below (s₁.setTop (mkF m 0 #[.val (.ref w_MESSAGE)] [])) _
    refine XS.aloadN X0.here hx rfl (hb hby d1_0) rfl rfl ?_
    show Steps p.tables e below (s₁.setTop (mkF m 1 #[.val (.ref w_MESSAGE)] [(.ref w_MESSAGE)])) _
    refine st1 _ ?_
    show Steps p.tables e below (T1.setTop (mkF m 4 #[.val (.ref w_MESSAGE)] [(.ref w_CONNECT), (.ref w_MESSAGE)])) _
    refine Jvm.RoadKit.acmp (g := (mkF m 4 #[.val (.ref w_MESSAGE)] [(.ref w_CONNECT), (.ref w_MESSAGE)])) X1 hx rfl rfl rfl (pc0 := 4) (pc' := 7) (same := false) rfl (hb hby d1_4) rfl (decide_eq_false fun q => (Ne.symm ne_CONNECT_MESSAGE) (Value.ref.inj q)) (by decide) (by decide) ?_
    show Steps p.tables e below (T1.setTop (mkF m 7 #[.val (.ref w_MESSAGE)] [])) _
    refine XS.aloadN X1.here hx rfl (hb hby d1_7) rfl rfl ?_
    show Steps p.tables e below (T1.setTop (mkF m 8 #[.val (.ref w_MESSAGE)] [(.ref w_MESSAGE)])) _
    refine st2 _ ?_
    show Steps p.tables e below (T2.setTop (mkF m 11 #[.val (.ref w_MESSAGE)] [(.ref w_STOMP), (.ref w_MESSAGE)])) _
    refine Jvm.RoadKit.acmp (g := (mkF m 11 #[.val (.ref w_MESSAGE)] [(.ref w_STOMP), (.ref w_MESSAGE)])) X2 hx rfl rfl rfl (pc0 := 11) (pc' := 14) (same := false) rfl (hb hby d1_11) rfl (decide_eq_false fun q => ne_MESSAGE_STOMP (Value.ref.inj q)) (by decide) (by decide) ?_
    show Steps p.tables e below (T2.setTop (mkF m 14 #[.val (.ref w_MESSAGE)] [])) _
    refine XS.aloadN X2.here hx rfl (hb hby d1_14) rfl rfl ?_
    show Steps p.tables e below (T2.setTop (mkF m 15 #[.val (.ref w_MESSAGE)] [(.ref w_MESSAGE)])) _
    refine st3 _ ?_
    show Steps p.tables e below (T3.setTop (mkF m 18 #[.val (.ref w_MESSAGE)] [(.ref w_CONNECTED), (.ref w_MESSAGE)])) _
    refine Jvm.RoadKit.acmp (g := (mkF m 18 #[.val (.ref w_MESSAGE)] [(.ref w_CONNECTED), (.ref w_MESSAGE)])) X3 hx rfl rfl rfl (pc0 := 18) (pc' := 21) (same := false) rfl (hb hby d1_18) rfl (decide_eq_false fun q => (Ne.symm ne_CONNECTED_MESSAGE) (Value.ref.inj q)) (by decide) (by decide) ?_
    show Steps p.tables e below (T3.setTop (mkF m 21 #[.val (.ref w_MESSAGE)] [])) _
    refine XS.iconst X3.here hx rfl (hb hby d1_21) ?_
    show Steps p.tables e below (T3.setTop (mkF m 22 #[.val (.ref w_MESSAGE)] [(.int (1 : Int32))])) _
    refine XS.goto X3.here hx rfl (pc0 := 22) (pc' := 26) rfl (hb hby d1_22) (by decide) (by decide) ?_
    show Steps p.tables e below (T3.setTop (mkF m 26 #[.val (.ref w_MESSAGE)] [(.int (1 : Int32))])) _
    exact retN X3 hx (t := .boolean) Bd.returns (by simp) (hb hby d1_26) hr
  · show Q1_12 Z w_CONNECT w_STOMP w_CONNECTED w_MESSAGE h0 n0 _ T3.heap _
    rw [e3]
    exact ⟨rfl, N0, rfl⟩
theorem ef_rm1_13 (m : MethodId) (x0 : Addr) : entryFrame m #[(.ref x0)] 1 = mkF m 0 #[.val (.ref x0)] [] := by first | (simp [entryFrame, mkF, argsToLocals, Value.category]; done) | rfl
def Q1_13 (Z : State) (w_CONNECT : Addr) (w_STOMP : Addr) (w_CONNECTED : Addr) (w_RECEIPT : Addr) (h0 : Heap) (n0 : Nat) (v : Option Value) (h : Heap) (L : List Loc) : Prop := v = some (.int (1 : Int32)) ∧ Fr n0 L ∧ h = h0
set_option maxRecDepth 65536 in
set_option maxHeartbeats 40000000 in
theorem rm1_13 (l : Launch) (Z : State) (a0 : Array Value) (hw : ∀ d ∈ tables_1, d.before a0 Z = true) (ws : List Jvm.Cond) (w_CONNECT : Addr) (w_STOMP : Addr) (w_CONNECTED : Addr) (w_RECEIPT : Addr) (h0 : Heap) (n0 : Nat) (Z0 : n0 ≤ h0.size) (S_CONNECT : Sta Z h0 "com/example/grebe/grebe/frame/Command" "CONNECT" "Lcom/example/grebe/grebe/frame/Command;" (.ref w_CONNECT)) (ne_CONNECT_RECEIPT : w_CONNECT ≠ w_RECEIPT) (S_STOMP : Sta Z h0 "com/example/grebe/grebe/frame/Command" "STOMP" "Lcom/example/grebe/grebe/frame/Command;" (.ref w_STOMP)) (ne_RECEIPT_STOMP : w_RECEIPT ≠ w_STOMP) (S_CONNECTED : Sta Z h0 "com/example/grebe/grebe/frame/Command" "CONNECTED" "Lcom/example/grebe/grebe/frame/Command;" (.ref w_CONNECTED)) (ne_CONNECTED_RECEIPT : w_CONNECTED ≠ w_RECEIPT) :
    MetFree l (⟨"com/example/grebe/grebe/frame/Command", "escapesHeaders", "()Z"⟩ : MethodName) (head1 (Jvm.Cond.code (⟨"com/example/grebe/grebe/frame/Command", "escapesHeaders", "()Z"⟩ : MethodName) prog_8_method_4_code 1 (some .boolean) :: ws) ({ frames := 0, cells := 0, slots := 0, locals := 0 } : Room)) (fun a U => a = #[(.ref w_RECEIPT)] ∧ Z.Warmed39 U.vm ∧ U.heap = h0) (fun _ _ _ _ _ => True) (fun _ U o U' => ∃ v L, o = .returned v ∧ Q1_13 Z w_CONNECT w_STOMP w_CONNECTED w_RECEIPT h0 n0 v U'.heap L ∧ FrameEnd U o U' L ({ frames := 0, cells := 0, slots := 0, locals := 0 } : Room).cells ({ frames := 0, cells := 0, slots := 0, locals := 0 } : Room).slots) := by
  refine MetFree.of_bodySF (plainFor_of_name pn_0) hisR ?_
  intro p e s m args below meth c s₁ Bd hml0 hP hK
  obtain ⟨rfl, hZ, hh⟩ := hP
  have hx := Bd.exec
  have hby := Bd.bytes
  have hml : c.maxLocals = 1 := hml0
  have hown : s.vm.findClass "com/example/grebe/grebe/frame/Command" = some m.cls := findClass_of_methodNamed Bd.named
  have hnm := (name_of_methodNamed Bd.named Bd.method).1
  have X0 : Stand p l e ({ frames := 0, cells := 0, slots := 0, locals := 0 } : Room) s m #[(.ref w_RECEIPT)] below meth c s₁ [] 0 0 := Stand.of_body Bd
  have e0 : s₁.heap = h0 := by rw [← hh, Bd.state]; rfl
  have N0 := Fr.nil n0
  have pre0 : ∀ t, Steps p.tables e below (s₁.setTop (mkF m 0 #[.val (.ref w_RECEIPT)] [])) t → Steps p.tables e below (s₁.setTop (entryFrame m #[(.ref w_RECEIPT)] 1)) t := fun t k => castTop (ef_rm1_13 m w_RECEIPT) k
  obtain ⟨T1, X1, e1, st1⟩ := getS2 X0 hx hZ hown (host := "") (Or.inl (hw _ (List.mem_of_getElem? (i := 41) rfl))) Via.refl e0 S_CONNECT (g := (mkF m 1 #[.val (.ref w_RECEIPT)] [(.ref w_RECEIPT)])) rfl (hb hby d1_1)
  obtain ⟨T2, X2, e2, st2⟩ := getS2 X1 hx hZ hown (host := "") (Or.inl (hw _ (List.mem_of_getElem? (i := 42) rfl))) Via.refl e1 S_STOMP (g := (mkF m 8 #[.val (.ref w_RECEIPT)] [(.ref w_RECEIPT)])) rfl (hb hby d1_8)
  obtain ⟨T3, X3, e3, st3⟩ := getS2 X2 hx hZ hown (host := "") (Or.inl (hw _ (List.mem_of_getElem? (i := 43) rfl))) Via.refl e2 S_CONNECTED (g := (mkF m 15 #[.val (.ref w_RECEIPT)] [(.ref w_RECEIPT)])) rfl (hb hby d1_15)
  obtain ⟨fs, hr, hrun, hended, hW, hsame⟩ := X3.leave (v := some (.int (1 : Int32))) (fun h => by rw [Bd.returns] at h; cases h)
  refine ⟨_, _, pre0 _ ?_, hrun, hended, _, _, rfl, ?_, ⟨_, rfl⟩, hW, hsame.mono (by decide) (by decide)⟩
  ·
    show Steps p.tables e below (s₁.setTop (mkF m 0 #[.val (.ref w_RECEIPT)] [])) _
    refine XS.aloadN X0.here hx rfl (hb hby d1_0) rfl rfl ?_
    show Steps p.tables e below (s₁.setTop (mkF m 1 #[.val (.ref w_RECEIPT)] [(.ref w_RECEIPT)])) _
    refine st1 _ ?_
    show Steps p.tables e below (T1.setTop (mkF m 4 #[.val (.ref w_RECEIPT)] [(.ref w_CONNECT), (.ref w_RECEIPT)])) _
    refine Jvm.RoadKit.acmp (g := (mkF m 4 #[.val (.ref w_RECEIPT)] [(.ref w_CONNECT), (.ref w_RECEIPT)])) X1 hx rfl rfl rfl (pc0 := 4) (pc' := 7) (same := false) rfl (hb hby d1_4) rfl (decide_eq_false fun q => (Ne.symm ne_CONNECT_RECEIPT) (Value.ref.inj q)) (by decide) (by decide) ?_
    show Steps p.tables e below (T1.setTop (mkF m 7 #[.val (.ref w_RECEIPT)] [])) _
    refine XS.aloadN X1.here hx rfl (hb hby d1_7) rfl rfl ?_
    show Steps p.tables e below (T1.setTop (mkF m 8 #[.val (.ref w_RECEIPT)] [(.ref w_RECEIPT)])) _
    refine st2 _ ?_
    show Steps p.tables e below (T2.setTop (mkF m 11 #[.val (.ref w_RECEIPT)] [(.ref w_STOMP), (.ref w_RECEIPT)])) _
    refine Jvm.RoadKit.acmp (g := (mkF m 11 #[.val (.ref w_RECEIPT)] [(.ref w_STOMP), (.ref w_RECEIPT)])) X2 hx rfl rfl rfl (pc0 := 11) (pc' := 14) (same := false) rfl (hb hby d1_11) rfl (decide_eq_false fun q => ne_RECEIPT_STOMP (Value.ref.inj q)) (by decide) (by decide) ?_
    show Steps p.tables e below (T2.setTop (mkF m 14 #[.val (.ref w_RECEIPT)] [])) _
    refine XS.aloadN X2.here hx rfl (hb hby d1_14) rfl rfl ?_
    show Steps p.tables e below (T2.setTop (mkF m 15 #[.val (.ref w_RECEIPT)] [(.ref w_RECEIPT)])) _
    refine st3 _ ?_
    show Steps p.tables e below (T3.setTop (mkF m 18 #[.val (.ref w_RECEIPT)] [(.ref w_CONNECTED), (.ref w_RECEIPT)])) _
    refine Jvm.RoadKit.acmp (g := (mkF m 18 #[.val (.ref w_RECEIPT)] [(.ref w_CONNECTED), (.ref w_RECEIPT)])) X3 hx rfl rfl rfl (pc0 := 18) (pc' := 21) (same := false) rfl (hb hby d1_18) rfl (decide_eq_false fun q => (Ne.symm ne_CONNECTED_RECEIPT) (Value.ref.inj q)) (by decide) (by decide) ?_
    show Steps p.tables e below (T3.setTop (mkF m 21 #[.val (.ref w_RECEIPT)] [])) _
    refine XS.iconst X3.here hx rfl (hb hby d1_21) ?_
    show Steps p.tables e below (T3.setTop (mkF m 22 #[.val (.ref w_RECEIPT)] [(.int (1 : Int32))])) _
    refine XS.goto X3.here hx rfl (pc0 := 22) (pc' := 26) rfl (hb hby d1_22) (by decide) (by decide) ?_
    show Steps p.tables e below (T3.setTop (mkF m 26 #[.val (.ref w_RECEIPT)] [(.int (1 : Int32))])) _
    exact retN X3 hx (t := .boolean) Bd.returns (by simp) (hb hby d1_26) hr
  · show Q1_13 Z w_CONNECT w_STOMP w_CONNECTED w_RECEIPT h0 n0 _ T3.heap _
    rw [e3]
    exact ⟨rfl, N0, rfl⟩
theorem ef_rm1_14 (m : MethodId) (x0 : Addr) : entryFrame m #[(.ref x0)] 1 = mkF m 0 #[.val (.ref x0)] [] := by first | (simp [entryFrame, mkF, argsToLocals, Value.category]; done) | rfl
def Q1_14 (Z : State) (w_CONNECT : Addr) (w_STOMP : Addr) (w_CONNECTED : Addr) (w_ERROR : Addr) (h0 : Heap) (n0 : Nat) (v : Option Value) (h : Heap) (L : List Loc) : Prop := v = some (.int (1 : Int32)) ∧ Fr n0 L ∧ h = h0
set_option maxRecDepth 65536 in
set_option maxHeartbeats 40000000 in
theorem rm1_14 (l : Launch) (Z : State) (a0 : Array Value) (hw : ∀ d ∈ tables_1, d.before a0 Z = true) (ws : List Jvm.Cond) (w_CONNECT : Addr) (w_STOMP : Addr) (w_CONNECTED : Addr) (w_ERROR : Addr) (h0 : Heap) (n0 : Nat) (Z0 : n0 ≤ h0.size) (S_CONNECT : Sta Z h0 "com/example/grebe/grebe/frame/Command" "CONNECT" "Lcom/example/grebe/grebe/frame/Command;" (.ref w_CONNECT)) (ne_CONNECT_ERROR : w_CONNECT ≠ w_ERROR) (S_STOMP : Sta Z h0 "com/example/grebe/grebe/frame/Command" "STOMP" "Lcom/example/grebe/grebe/frame/Command;" (.ref w_STOMP)) (ne_ERROR_STOMP : w_ERROR ≠ w_STOMP) (S_CONNECTED : Sta Z h0 "com/example/grebe/grebe/frame/Command" "CONNECTED" "Lcom/example/grebe/grebe/frame/Command;" (.ref w_CONNECTED)) (ne_CONNECTED_ERROR : w_CONNECTED ≠ w_ERROR) :
    MetFree l (⟨"com/example/grebe/grebe/frame/Command", "escapesHeaders", "()Z"⟩ : MethodName) (head1 (Jvm.Cond.code (⟨"com/example/grebe/grebe/frame/Command", "escapesHeaders", "()Z"⟩ : MethodName) prog_8_method_4_code 1 (some .boolean) :: ws) ({ frames := 0, cells := 0, slots := 0, locals := 0 } : Room)) (fun a U => a = #[(.ref w_ERROR)] ∧ Z.Warmed39 U.vm ∧ U.heap = h0) (fun _ _ _ _ _ => True) (fun _ U o U' => ∃ v L, o = .returned v ∧ Q1_14 Z w_CONNECT w_STOMP w_CONNECTED w_ERROR h0 n0 v U'.heap L ∧ FrameEnd U o U' L ({ frames := 0, cells := 0, slots := 0, locals := 0 } : Room).cells ({ frames := 0, cells := 0, slots := 0, locals := 0 } : Room).slots) := by
  refine MetFree.of_bodySF (plainFor_of_name pn_0) hisR ?_
  intro p e s m args below meth c s₁ Bd hml0 hP hK
  obtain ⟨rfl, hZ, hh⟩ := hP
  have hx := Bd.exec
  have hby := Bd.bytes
  have hml : c.maxLocals = 1 := hml0
  have hown : s.vm.findClass "com/example/grebe/grebe/frame/Command" = some m.cls := findClass_of_methodNamed Bd.named
  have hnm := (name_of_methodNamed Bd.named Bd.method).1
  have X0 : Stand p l e ({ frames := 0, cells := 0, slots := 0, locals := 0 } : Room) s m #[(.ref w_ERROR)] below meth c s₁ [] 0 0 := Stand.of_body Bd
  have e0 : s₁.heap = h0 := by rw [← hh, Bd.state]; rfl
  have N0 := Fr.nil n0
  have pre0 : ∀ t, Steps p.tables e below (s₁.setTop (mkF m 0 #[.val (.ref w_ERROR)] [])) t → Steps p.tables e below (s₁.setTop (entryFrame m #[(.ref w_ERROR)] 1)) t := fun t k => castTop (ef_rm1_14 m w_ERROR) k
  obtain ⟨T1, X1, e1, st1⟩ := getS2 X0 hx hZ hown (host := "") (Or.inl (hw _ (List.mem_of_getElem? (i := 41) rfl))) Via.refl e0 S_CONNECT (g := (mkF m 1 #[.val (.ref w_ERROR)] [(.ref w_ERROR)])) rfl (hb hby d1_1)
  obtain ⟨T2, X2, e2, st2⟩ := getS2 X1 hx hZ hown (host := "") (Or.inl (hw _ (List.mem_of_getElem? (i := 42) rfl))) Via.refl e1 S_STOMP (g := (mkF m 8 #[.val (.ref w_ERROR)] [(.ref w_ERROR)])) rfl (hb hby d1_8)
  obtain ⟨T3, X3, e3, st3⟩ := getS2 X2 hx hZ hown (host := "") (Or.inl (hw _ (List.mem_of_getElem? (i := 43) rfl))) Via.refl e2 S_CONNECTED (g := (mkF m 15 #[.val (.ref w_ERROR)] [(.ref w_ERROR)])) rfl (hb hby d1_15)
  obtain ⟨fs, hr, hrun, hended, hW, hsame⟩ := X3.leave (v := some (.int (1 : Int32))) (fun h => by rw [Bd.returns] at h; cases h)
  refine ⟨_, _, pre0 _ ?_, hrun, hended, _, _, rfl, ?_, ⟨_, rfl⟩, hW, hsame.mono (by decide) (by decide)⟩
  ·
    show Steps p.tables e below (s₁.setTop (mkF m 0 #[.val (.ref w_ERROR)] [])) _
    refine XS.aloadN X0.here hx rfl (hb hby d1_0) rfl rfl ?_
    show Steps p.tables e below (s₁.setTop (mkF m 1 #[.val (.ref w_ERROR)] [(.ref w_ERROR)])) _
    refine st1 _ ?_
    show Steps p.tables e below (T1.setTop (mkF m 4 #[.val (.ref w_ERROR)] [(.ref w_CONNECT), (.ref w_ERROR)])) _
    refine Jvm.RoadKit.acmp (g := (mkF m 4 #[.val (.ref w_ERROR)] [(.ref w_CONNECT), (.ref w_ERROR)])) X1 hx rfl rfl rfl (pc0 := 4) (pc' := 7) (same := false) rfl (hb hby d1_4) rfl (decide_eq_false fun q => (Ne.symm ne_CONNECT_ERROR) (Value.ref.inj q)) (by decide) (by decide) ?_
    show Steps p.tables e below (T1.setTop (mkF m 7 #[.val (.ref w_ERROR)] [])) _
    refine XS.aloadN X1.here hx rfl (hb hby d1_7) rfl rfl ?_
    show Steps p.tables e below (T1.setTop (mkF m 8 #[.val (.ref w_ERROR)] [(.ref w_ERROR)])) _
    refine st2 _ ?_
    show Steps p.tables e below (T2.setTop (mkF m 11 #[.val (.ref w_ERROR)] [(.ref w_STOMP), (.ref w_ERROR)])) _
    refine Jvm.RoadKit.acmp (g := (mkF m 11 #[.val (.ref w_ERROR)] [(.ref w_STOMP), (.ref w_ERROR)])) X2 hx rfl rfl rfl (pc0 := 11) (pc' := 14) (same := false) rfl (hb hby d1_11) rfl (decide_eq_false fun q => ne_ERROR_STOMP (Value.ref.inj q)) (by decide) (by decide) ?_
    show Steps p.tables e below (T2.setTop (mkF m 14 #[.val (.ref w_ERROR)] [])) _
    refine XS.aloadN X2.here hx rfl (hb hby d1_14) rfl rfl ?_
    show Steps p.tables e below (T2.setTop (mkF m 15 #[.val (.ref w_ERROR)] [(.ref w_ERROR)])) _
    refine st3 _ ?_
    show Steps p.tables e below (T3.setTop (mkF m 18 #[.val (.ref w_ERROR)] [(.ref w_CONNECTED), (.ref w_ERROR)])) _
    refine Jvm.RoadKit.acmp (g := (mkF m 18 #[.val (.ref w_ERROR)] [(.ref w_CONNECTED), (.ref w_ERROR)])) X3 hx rfl rfl rfl (pc0 := 18) (pc' := 21) (same := false) rfl (hb hby d1_18) rfl (decide_eq_false fun q => (Ne.symm ne_CONNECTED_ERROR) (Value.ref.inj q)) (by decide) (by decide) ?_
    show Steps p.tables e below (T3.setTop (mkF m 21 #[.val (.ref w_ERROR)] [])) _
    refine XS.iconst X3.here hx rfl (hb hby d1_21) ?_
    show Steps p.tables e below (T3.setTop (mkF m 22 #[.val (.ref w_ERROR)] [(.int (1 : Int32))])) _
    refine XS.goto X3.here hx rfl (pc0 := 22) (pc' := 26) rfl (hb hby d1_22) (by decide) (by decide) ?_
    show Steps p.tables e below (T3.setTop (mkF m 26 #[.val (.ref w_ERROR)] [(.int (1 : Int32))])) _
    exact retN X3 hx (t := .boolean) Bd.returns (by simp) (hb hby d1_26) hr
  · show Q1_14 Z w_CONNECT w_STOMP w_CONNECTED w_ERROR h0 n0 _ T3.heap _
    rw [e3]
    exact ⟨rfl, N0, rfl⟩
theorem pn_1 : plainName "com/example/grebe/grebe/frame/CommandEscapesHeadersPinLaw" = true := by first | (simp [plainName, overriddenIn]; done) | decide +kernel
theorem ef_rm0_0 (m : MethodId) (x0 : Int32) : entryFrame m #[(.int x0)] maxLocals = mkF m 0 #[.val (.int x0), .unset, .unset, .unset] [] := by first | (simp [entryFrame, mkF, argsToLocals, Value.category, maxLocals]; done) | rfl
def Q0_0 (Z : State) (p1 : Int32) (w_CONNECT : Addr) (w_STOMP : Addr) (w_SEND : Addr) (w_SUBSCRIBE : Addr) (w_UNSUBSCRIBE : Addr) (w_ACK : Addr) (w_NACK : Addr) (w_BEGIN : Addr) (w_COMMIT : Addr) (w_ABORT : Addr) (w_DISCONNECT : Addr) (w_CONNECTED : Addr) (w_MESSAGE : Addr) (w_RECEIPT : Addr) (w_ERROR : Addr) (h0 : Heap) (n0 : Nat) (v : Option Value) (h : Heap) (L : List Loc) : Prop := v = some (.int (1 : Int32)) ∧ Fr n0 L
set_option maxRecDepth 65536 in
set_option maxHeartbeats 40000000 in
theorem rm0_0 (l : Launch) (Z : State) (a0 : Array Value) (hw : ∀ d ∈ tables_1, d.before a0 Z = true) (ws : List Jvm.Cond) (p1 : Int32) (w_CONNECT : Addr) (w_STOMP : Addr) (w_SEND : Addr) (w_SUBSCRIBE : Addr) (w_UNSUBSCRIBE : Addr) (w_ACK : Addr) (w_NACK : Addr) (w_BEGIN : Addr) (w_COMMIT : Addr) (w_ABORT : Addr) (w_DISCONNECT : Addr) (w_CONNECTED : Addr) (w_MESSAGE : Addr) (w_RECEIPT : Addr) (w_ERROR : Addr) (h0 : Heap) (n0 : Nat) (Z0 : n0 ≤ h0.size) (S_CONNECT : Sta Z h0 "com/example/grebe/grebe/frame/Command" "CONNECT" "Lcom/example/grebe/grebe/frame/Command;" (.ref w_CONNECT)) (E_CONNECT : Exa Z h0 w_CONNECT "com/example/grebe/grebe/frame/Command") (S_STOMP : Sta Z h0 "com/example/grebe/grebe/frame/Command" "STOMP" "Lcom/example/grebe/grebe/frame/Command;" (.ref w_STOMP)) (E_STOMP : Exa Z h0 w_STOMP "com/example/grebe/grebe/frame/Command") (S_SEND : Sta Z h0 "com/example/grebe/grebe/frame/Command" "SEND" "Lcom/example/grebe/grebe/frame/Command;" (.ref w_SEND)) (E_SEND : Exa Z h0 w_SEND "com/example/grebe/grebe/frame/Command") (S_SUBSCRIBE : Sta Z h0 "com/example/grebe/grebe/frame/Command" "SUBSCRIBE" "Lcom/example/grebe/grebe/frame/Command;" (.ref w_SUBSCRIBE)) (E_SUBSCRIBE : Exa Z h0 w_SUBSCRIBE "com/example/grebe/grebe/frame/Command") (S_UNSUBSCRIBE : Sta Z h0 "com/example/grebe/grebe/frame/Command" "UNSUBSCRIBE" "Lcom/example/grebe/grebe/frame/Command;" (.ref w_UNSUBSCRIBE)) (E_UNSUBSCRIBE : Exa Z h0 w_UNSUBSCRIBE "com/example/grebe/grebe/frame/Command") (S_ACK : Sta Z h0 "com/example/grebe/grebe/frame/Command" "ACK" "Lcom/example/grebe/grebe/frame/Command;" (.ref w_ACK)) (E_ACK : Exa Z h0 w_ACK "com/example/grebe/grebe/frame/Command") (S_NACK : Sta Z h0 "com/example/grebe/grebe/frame/Command" "NACK" "Lcom/example/grebe/grebe/frame/Command;" (.ref w_NACK)) (E_NACK : Exa Z h0 w_NACK "com/example/grebe/grebe/frame/Command") (S_BEGIN : Sta Z h0 "com/example/grebe/grebe/frame/Command" "BEGIN" "Lcom/example/grebe/grebe/frame/Command;" (.ref w_BEGIN)) (E_BEGIN : Exa Z h0 w_BEGIN "com/example/grebe/grebe/frame/Command") (S_COMMIT : Sta Z h0 "com/example/grebe/grebe/frame/Command" "COMMIT" "Lcom/example/grebe/grebe/frame/Command;" (.ref w_COMMIT)) (E_COMMIT : Exa Z h0 w_COMMIT "com/example/grebe/grebe/frame/Command") (S_ABORT : Sta Z h0 "com/example/grebe/grebe/frame/Command" "ABORT" "Lcom/example/grebe/grebe/frame/Command;" (.ref w_ABORT)) (E_ABORT : Exa Z h0 w_ABORT "com/example/grebe/grebe/frame/Command") (S_DISCONNECT : Sta Z h0 "com/example/grebe/grebe/frame/Command" "DISCONNECT" "Lcom/example/grebe/grebe/frame/Command;" (.ref w_DISCONNECT)) (E_DISCONNECT : Exa Z h0 w_DISCONNECT "com/example/grebe/grebe/frame/Command") (S_CONNECTED : Sta Z h0 "com/example/grebe/grebe/frame/Command" "CONNECTED" "Lcom/example/grebe/grebe/frame/Command;" (.ref w_CONNECTED)) (E_CONNECTED : Exa Z h0 w_CONNECTED "com/example/grebe/grebe/frame/Command") (S_MESSAGE : Sta Z h0 "com/example/grebe/grebe/frame/Command" "MESSAGE" "Lcom/example/grebe/grebe/frame/Command;" (.ref w_MESSAGE)) (E_MESSAGE : Exa Z h0 w_MESSAGE "com/example/grebe/grebe/frame/Command") (S_RECEIPT : Sta Z h0 "com/example/grebe/grebe/frame/Command" "RECEIPT" "Lcom/example/grebe/grebe/frame/Command;" (.ref w_RECEIPT)) (E_RECEIPT : Exa Z h0 w_RECEIPT "com/example/grebe/grebe/frame/Command") (S_ERROR : Sta Z h0 "com/example/grebe/grebe/frame/Command" "ERROR" "Lcom/example/grebe/grebe/frame/Command;" (.ref w_ERROR)) (E_ERROR : Exa Z h0 w_ERROR "com/example/grebe/grebe/frame/Command") (ne_CONNECT_STOMP : w_CONNECT ≠ w_STOMP) (ne_CONNECT_SEND : w_CONNECT ≠ w_SEND) (ne_SEND_STOMP : w_SEND ≠ w_STOMP) (ne_CONNECTED_SEND : w_CONNECTED ≠ w_SEND) (ne_CONNECT_SUBSCRIBE : w_CONNECT ≠ w_SUBSCRIBE) (ne_STOMP_SUBSCRIBE : w_STOMP ≠ w_SUBSCRIBE) (ne_CONNECTED_SUBSCRIBE : w_CONNECTED ≠ w_SUBSCRIBE) (ne_CONNECT_UNSUBSCRIBE : w_CONNECT ≠ w_UNSUBSCRIBE) (ne_STOMP_UNSUBSCRIBE : w_STOMP ≠ w_UNSUBSCRIBE) (ne_CONNECTED_UNSUBSCRIBE : w_CONNECTED ≠ w_UNSUBSCRIBE) (ne_ACK_CONNECT : w_ACK ≠ w_CONNECT) (ne_ACK_STOMP : w_ACK ≠ w_STOMP) (ne_ACK_CONNECTED : w_ACK ≠ w_CONNECTED) (ne_CONNECT_NACK : w_CONNECT ≠ w_NACK) (ne_NACK_STOMP : w_NACK ≠ w_STOMP) (ne_CONNECTED_NACK : w_CONNECTED ≠ w_NACK) (ne_BEGIN_CONNECT : w_BEGIN ≠ w_CONNECT) (ne_BEGIN_STOMP : w_BEGIN ≠ w_STOMP) (ne_BEGIN_CONNECTED : w_BEGIN ≠ w_CONNECTED) (ne_COMMIT_CONNECT : w_COMMIT ≠ w_CONNECT) (ne_COMMIT_STOMP : w_COMMIT ≠ w_STOMP) (ne_COMMIT_CONNECTED : w_COMMIT ≠ w_CONNECTED) (ne_ABORT_CONNECT : w_ABORT ≠ w_CONNECT) (ne_ABORT_STOMP : w_ABORT ≠ w_STOMP) (ne_ABORT_CONNECTED : w_ABORT ≠ w_CONNECTED) (ne_CONNECT_DISCONNECT : w_CONNECT ≠ w_DISCONNECT) (ne_DISCONNECT_STOMP : w_DISCONNECT ≠ w_STOMP) (ne_CONNECTED_DISCONNECT : w_CONNECTED ≠ w_DISCONNECT) (ne_CONNECT_CONNECTED : w_CONNECT ≠ w_CONNECTED) (ne_CONNECTED_STOMP : w_CONNECTED ≠ w_STOMP) (ne_CONNECT_MESSAGE : w_CONNECT ≠ w_MESSAGE) (ne_MESSAGE_STOMP : w_MESSAGE ≠ w_STOMP) (ne_CONNECTED_MESSAGE : w_CONNECTED ≠ w_MESSAGE) (ne_CONNECT_RECEIPT : w_CONNECT ≠ w_RECEIPT) (ne_RECEIPT_STOMP : w_RECEIPT ≠ w_STOMP) (ne_CONNECTED_RECEIPT : w_CONNECTED ≠ w_RECEIPT) (ne_CONNECT_ERROR : w_CONNECT ≠ w_ERROR) (ne_ERROR_STOMP : w_ERROR ≠ w_STOMP) (ne_CONNECTED_ERROR : w_CONNECTED ≠ w_ERROR) :
    MetFree l x (head1 (Jvm.Cond.code x code maxLocals ret :: ws) room_1) (fun a U => a = #[(.int p1)] ∧ Z.Warmed39 U.vm ∧ U.heap = h0) (fun _ _ _ _ _ => True) (fun _ U o U' => ∃ v L, o = .returned v ∧ Q0_0 Z p1 w_CONNECT w_STOMP w_SEND w_SUBSCRIBE w_UNSUBSCRIBE w_ACK w_NACK w_BEGIN w_COMMIT w_ABORT w_DISCONNECT w_CONNECTED w_MESSAGE w_RECEIPT w_ERROR h0 n0 v U'.heap L ∧ FrameEnd U o U' L room_1.cells room_1.slots) := by
  refine MetFree.of_bodySF (plainFor_of_name pn_1) hisR ?_
  intro p e s m args below meth c s₁ Bd hml0 hP hK
  obtain ⟨rfl, hZ, hh⟩ := hP
  have hx := Bd.exec
  have hby := Bd.bytes
  have hml : c.maxLocals = 4 := hml0
  have hown : s.vm.findClass "com/example/grebe/grebe/frame/CommandEscapesHeadersPinLaw" = some m.cls := findClass_of_methodNamed Bd.named
  have hnm := (name_of_methodNamed Bd.named Bd.method).1
  have X0 : Stand p l e room_1 s m #[(.int p1)] below meth c s₁ [] 0 0 := Stand.of_body Bd
  have e0 : s₁.heap = h0 := by rw [← hh, Bd.state]; rfl
  have N0 := Fr.nil n0
  have pre0 : ∀ t, Steps p.tables e below (s₁.setTop (mkF m 0 #[.val (.int p1), .unset, .unset, .unset] [])) t → Steps p.tables e below (s₁.setTop (entryFrame m #[(.int p1)] maxLocals)) t := fun t k => castTop (ef_rm0_0 m p1) k
  obtain ⟨b2, k2, h1, T1, L1, X1, e1, N1, K1, ⟨g_b2, sz_b2⟩, O2, pf1_0, k1⟩ : ∃ (b2 : Addr) (k2 : ClassId) (h1 : Heap) (T' : State) (L' : List Loc), Stand p l e room_1 s m #[(.int p1)] below meth c T' L' 1 15 ∧ T'.heap = h1 ∧ Fr n0 L' ∧ Keep h0 h1 [] ∧ (n0 ≤ b2 ∧ h0.size ≤ b2) ∧ Ovr Z k2 "com/example/grebe/grebe/frame/Command" ∧ Arv Z h1 b2 k2 (.object "com/example/grebe/grebe/frame/Command") (15 : Int32) [(.ref w_CONNECT), (.ref w_STOMP), (.ref w_SEND), (.ref w_SUBSCRIBE), (.ref w_UNSUBSCRIBE), (.ref w_ACK), (.ref w_NACK), (.ref w_BEGIN), (.ref w_COMMIT), (.ref w_ABORT), (.ref w_DISCONNECT), (.ref w_CONNECTED), (.ref w_MESSAGE), (.ref w_RECEIPT), (.ref w_ERROR)] .null ∧ ∀ t, Steps p.tables e below (T'.setTop (mkF m 105 #[.val (.int p1), .val (.ref b2), .unset, .unset] [])) t → Steps p.tables e below (s₁.setTop (entryFrame m #[(.int p1)] maxLocals)) t := by
    obtain ⟨T2, h2, k2, X2, e2, E2, A2, O2, st2⟩ := newR X0 hx hZ hown (hw _ (List.mem_of_getElem? (i := 0) rfl)) (hw _ (List.mem_of_getElem? (i := 1) rfl)) e0 (g := (mkF m 2 #[.val (.int p1), .unset, .unset, .unset] [(.int (15 : Int32))])) rfl (hb hby at_2) rfl (by decide) (cap := 15) (by decide) (by decide) (by decide) (by decide)
    obtain ⟨b2, g2⟩ : ∃ z, z = h0.size := ⟨_, rfl⟩
    rw [← g2] at A2 st2
    have g_b2 : n0 ≤ b2 := Nat.le_trans Z0 (Nat.le_of_eq g2.symm)
    have sz_b2 : h0.size ≤ b2 := Nat.le_of_eq g2.symm
    have K2 : Keep h0 h2 [] := (Keep.refl h0 []).ext E2
    have V_b2 : Arv Z h2 b2 k2 (.object "com/example/grebe/grebe/frame/Command") (15 : Int32) [.null, .null, .null, .null, .null, .null, .null, .null, .null, .null, .null, .null, .null, .null, .null] .null := (Arv.new A2 (by decide)).pad (pad_rep [] .null 15)
    obtain ⟨T3, X3, e3, st3⟩ := getS2 X2 hx hZ hown (host := "") (Or.inl (hw _ (List.mem_of_getElem? (i := 2) rfl))) Via.refl e2 (own_staK S_CONNECT K2 all0) (g := (mkF m 7 #[.val (.int p1), .unset, .unset, .unset] [(.int (0 : Int32)), (.ref b2), (.ref b2)])) rfl (hb hby at_7)
    obtain ⟨cl4, Ar4, qq4, Sz4, Nn4, Hs4, Gs4⟩ := V_b2
    have hin4 : ¬ ((0 : Int32) < 0 ∨ cl4.slots.size ≤ ((0 : Int32)).toNatClampNeg) := inb_of Sz4 ⟨by decide, by decide⟩
    obtain ⟨T5, h5, X5, e5, W5, st5⟩ := stR X3 hx hZ e3 Ar4 (j := (0 : Int32)) hin4 rfl (Sto.ofV Ar4 qq4 O2 (Ins.self (E_CONNECT.keep K2))) (g := (mkF m 10 #[.val (.int p1), .unset, .unset, .unset] [(.ref w_CONNECT), (.int (0 : Int32)), (.ref b2), (.ref b2)])) rfl rfl (hb hby at_10)
    have K5 : Keep h0 h5 [] := K2.wr W5 (Or.inr sz_b2)
    have N5 := Fr.snoc X5 N0 g_b2
    have V_b2_5 : Arv Z h5 b2 k2 (.object "com/example/grebe/grebe/frame/Command") (15 : Int32) [(.ref w_CONNECT), .null, .null, .null, .null, .null, .null, .null, .null, .null, .null, .null, .null, .null, .null] .null := Arv.set Ar4 qq4 Sz4 Nn4 Hs4 Gs4 rfl W5 0 rfl (Nat.le_of_ble_eq_true rfl)
    obtain ⟨T6, X6, e6, st6⟩ := getS2 X5 hx hZ hown (host := "") (Or.inl (hw _ (List.mem_of_getElem? (i := 6) rfl))) Via.refl e5 (own_staK S_STOMP K5 all0) (g := (mkF m 13 #[.val (.int p1), .unset, .unset, .unset] [(.int (1 : Int32)), (.ref b2), (.ref b2)])) rfl (hb hby at_13)
    obtain ⟨cl7, Ar7, qq7, Sz7, Nn7, Hs7, Gs7⟩ := V_b2_5
    have hin7 : ¬ ((1 : Int32) < 0 ∨ cl7.slots.size ≤ ((1 : Int32)).toNatClampNeg) := inb_of Sz7 ⟨by decide, by decide⟩
    obtain ⟨T8, h8, X8, e8, W8, st8⟩ := stR X6 hx hZ e6 Ar7 (j := (1 : Int32)) hin7 rfl (Sto.ofV Ar7 qq7 O2 (Ins.self (E_STOMP.keep K5))) (g := (mkF m 16 #[.val (.int p1), .unset, .unset, .unset] [(.ref w_STOMP), (.int (1 : Int32)), (.ref b2), (.ref b2)])) rfl rfl (hb hby at_16)
    have K8 : Keep h0 h8 [] := K5.wr W8 (Or.inr sz_b2)
    have N8 := Fr.snoc X8 N5 g_b2
    have V_b2_8 : Arv Z h8 b2 k2 (.object "com/example/grebe/grebe/frame/Command") (15 : Int32) [(.ref w_CONNECT), (.ref w_STOMP), .null, .null, .null, .null, .null, .null, .null, .null, .null, .null, .null, .null, .null] .null := Arv.set Ar7 qq7 Sz7 Nn7 Hs7 Gs7 rfl W8 1 rfl (Nat.le_of_ble_eq_true rfl)
    obtain ⟨T9, X9, e9, st9⟩ := getS2 X8 hx hZ hown (host := "") (Or.inl (hw _ (List.mem_of_getElem? (i := 8) rfl))) Via.refl e8 (own_staK S_SEND K8 all0) (g := (mkF m 19 #[.val (.int p1), .unset, .unset, .unset] [(.int (2 : Int32)), (.ref b2), (.ref b2)])) rfl (hb hby at_19)
    obtain ⟨cl10, Ar10, qq10, Sz10, Nn10, Hs10, Gs10⟩ := V_b2_8
    have hin10 : ¬ ((2 : Int32) < 0 ∨ cl10.slots.size ≤ ((2 : Int32)).toNatClampNeg) := inb_of Sz10 ⟨by decide, by decide⟩
    obtain ⟨T11, h11, X11, e11, W11, st11⟩ := stR X9 hx hZ e9 Ar10 (j := (2 : Int32)) hin10 rfl (Sto.ofV Ar10 qq10 O2 (Ins.self (E_SEND.keep K8))) (g := (mkF m 22 #[.val (.int p1), .unset, .unset, .unset] [(.ref w_SEND), (.int (2 : Int32)), (.ref b2), (.ref b2)])) rfl rfl (hb hby at_22)
    have K11 : Keep h0 h11 [] := K8.wr W11 (Or.inr sz_b2)
    have N11 := Fr.snoc X11 N8 g_b2
    have V_b2_11 : Arv Z h11 b2 k2 (.object "com/example/grebe/grebe/frame/Command") (15 : Int32) [(.ref w_CONNECT), (.ref w_STOMP), (.ref w_SEND), .null, .null, .null, .null, .null, .null, .null, .null, .null, .null, .null, .null] .null := Arv.set Ar10 qq10 Sz10 Nn10 Hs10 Gs10 rfl W11 2 rfl (Nat.le_of_ble_eq_true rfl)
    obtain ⟨T12, X12, e12, st12⟩ := getS2 X11 hx hZ hown (host := "") (Or.inl (hw _ (List.mem_of_getElem? (i := 10) rfl))) Via.refl e11 (own_staK S_SUBSCRIBE K11 all0) (g := (mkF m 25 #[.val (.int p1), .unset, .unset, .unset] [(.int (3 : Int32)), (.ref b2), (.ref b2)])) rfl (hb hby at_25)
    obtain ⟨cl13, Ar13, qq13, Sz13, Nn13, Hs13, Gs13⟩ := V_b2_11
    have hin13 : ¬ ((3 : Int32) < 0 ∨ cl13.slots.size ≤ ((3 : Int32)).toNatClampNeg) := inb_of Sz13 ⟨by decide, by decide⟩
    obtain ⟨T14, h14, X14, e14, W14, st14⟩ := stR X12 hx hZ e12 Ar13 (j := (3 : Int32)) hin13 rfl (Sto.ofV Ar13 qq13 O2 (Ins.self (E_SUBSCRIBE.keep K11))) (g := (mkF m 28 #[.val (.int p1), .unset, .unset, .unset] [(.ref w_SUBSCRIBE), (.int (3 : Int32)), (.ref b2), (.ref b2)])) rfl rfl (hb hby at_28)
    have K14 : Keep h0 h14 [] := K11.wr W14 (Or.inr sz_b2)
    have N14 := Fr.snoc X14 N11 g_b2
    have V_b2_14 : Arv Z h14 b2 k2 (.object "com/example/grebe/grebe/frame/Command") (15 : Int32) [(.ref w_CONNECT), (.ref w_STOMP), (.ref w_SEND), (.ref w_SUBSCRIBE), .null, .null, .null, .null, .null, .null, .null, .null, .null, .null, .null] .null := Arv.set Ar13 qq13 Sz13 Nn13 Hs13 Gs13 rfl W14 3 rfl (Nat.le_of_ble_eq_true rfl)
    obtain ⟨T15, X15, e15, st15⟩ := getS2 X14 hx hZ hown (host := "") (Or.inl (hw _ (List.mem_of_getElem? (i := 12) rfl))) Via.refl e14 (own_staK S_UNSUBSCRIBE K14 all0) (g := (mkF m 31 #[.val (.int p1), .unset, .unset, .unset] [(.int (4 : Int32)), (.ref b2), (.ref b2)])) rfl (hb hby at_31)
    obtain ⟨cl16, Ar16, qq16, Sz16, Nn16, Hs16, Gs16⟩ := V_b2_14
    have hin16 : ¬ ((4 : Int32) < 0 ∨ cl16.slots.size ≤ ((4 : Int32)).toNatClampNeg) := inb_of Sz16 ⟨by decide, by decide⟩
    obtain ⟨T17, h17, X17, e17, W17, st17⟩ := stR X15 hx hZ e15 Ar16 (j := (4 : Int32)) hin16 rfl (Sto.ofV Ar16 qq16 O2 (Ins.self (E_UNSUBSCRIBE.keep K14))) (g := (mkF m 34 #[.val (.int p1), .unset, .unset, .unset] [(.ref w_UNSUBSCRIBE), (.int (4 : Int32)), (.ref b2), (.ref b2)])) rfl rfl (hb hby at_34)
    have K17 : Keep h0 h17 [] := K14.wr W17 (Or.inr sz_b2)
    have N17 := Fr.snoc X17 N14 g_b2
    have V_b2_17 : Arv Z h17 b2 k2 (.object "com/example/grebe/grebe/frame/Command") (15 : Int32) [(.ref w_CONNECT), (.ref w_STOMP), (.ref w_SEND), (.ref w_SUBSCRIBE), (.ref w_UNSUBSCRIBE), .null, .null, .null, .null, .null, .null, .null, .null, .null, .null] .null := Arv.set Ar16 qq16 Sz16 Nn16 Hs16 Gs16 rfl W17 4 rfl (Nat.le_of_ble_eq_true rfl)
    obtain ⟨T18, X18, e18, st18⟩ := getS2 X17 hx hZ hown (host := "") (Or.inl (hw _ (List.mem_of_getElem? (i := 14) rfl))) Via.refl e17 (own_staK S_ACK K17 all0) (g := (mkF m 37 #[.val (.int p1), .unset, .unset, .unset] [(.int (5 : Int32)), (.ref b2), (.ref b2)])) rfl (hb hby at_37)
    obtain ⟨cl19, Ar19, qq19, Sz19, Nn19, Hs19, Gs19⟩ := V_b2_17
    have hin19 : ¬ ((5 : Int32) < 0 ∨ cl19.slots.size ≤ ((5 : Int32)).toNatClampNeg) := inb_of Sz19 ⟨by decide, by decide⟩
    obtain ⟨T20, h20, X20, e20, W20, st20⟩ := stR X18 hx hZ e18 Ar19 (j := (5 : Int32)) hin19 rfl (Sto.ofV Ar19 qq19 O2 (Ins.self (E_ACK.keep K17))) (g := (mkF m 40 #[.val (.int p1), .unset, .unset, .unset] [(.ref w_ACK), (.int (5 : Int32)), (.ref b2), (.ref b2)])) rfl rfl (hb hby at_40)
    have K20 : Keep h0 h20 [] := K17.wr W20 (Or.inr sz_b2)
    have N20 := Fr.snoc X20 N17 g_b2
    have V_b2_20 : Arv Z h20 b2 k2 (.object "com/example/grebe/grebe/frame/Command") (15 : Int32) [(.ref w_CONNECT), (.ref w_STOMP), (.ref w_SEND), (.ref w_SUBSCRIBE), (.ref w_UNSUBSCRIBE), (.ref w_ACK), .null, .null, .null, .null, .null, .null, .null, .null, .null] .null := Arv.set Ar19 qq19 Sz19 Nn19 Hs19 Gs19 rfl W20 5 rfl (Nat.le_of_ble_eq_true rfl)
    obtain ⟨T21, X21, e21, st21⟩ := getS2 X20 hx hZ hown (host := "") (Or.inl (hw _ (List.mem_of_getElem? (i := 16) rfl))) Via.refl e20 (own_staK S_NACK K20 all0) (g := (mkF m 44 #[.val (.int p1), .unset, .unset, .unset] [(.int (6 : Int32)), (.ref b2), (.ref b2)])) rfl (hb hby at_44)
    obtain ⟨cl22, Ar22, qq22, Sz22, Nn22, Hs22, Gs22⟩ := V_b2_20
    have hin22 : ¬ ((6 : Int32) < 0 ∨ cl22.slots.size ≤ ((6 : Int32)).toNatClampNeg) := inb_of Sz22 ⟨by decide, by decide⟩
    obtain ⟨T23, h23, X23, e23, W23, st23⟩ := stR X21 hx hZ e21 Ar22 (j := (6 : Int32)) hin22 rfl (Sto.ofV Ar22 qq22 O2 (Ins.self (E_NACK.keep K20))) (g := (mkF m 47 #[.val (.int p1), .unset, .unset, .unset] [(.ref w_NACK), (.int (6 : Int32)), (.ref b2), (.ref b2)])) rfl rfl (hb hby at_47)
    have K23 : Keep h0 h23 [] := K20.wr W23 (Or.inr sz_b2)
    have N23 := Fr.snoc X23 N20 g_b2
    have V_b2_23 : Arv Z h23 b2 k2 (.object "com/example/grebe/grebe/frame/Command") (15 : Int32) [(.ref w_CONNECT), (.ref w_STOMP), (.ref w_SEND), (.ref w_SUBSCRIBE), (.ref w_UNSUBSCRIBE), (.ref w_ACK), (.ref w_NACK), .null, .null, .null, .null, .null, .null, .null, .null] .null := Arv.set Ar22 qq22 Sz22 Nn22 Hs22 Gs22 rfl W23 6 rfl (Nat.le_of_ble_eq_true rfl)
    obtain ⟨T24, X24, e24, st24⟩ := getS2 X23 hx hZ hown (host := "") (Or.inl (hw _ (List.mem_of_getElem? (i := 18) rfl))) Via.refl e23 (own_staK S_BEGIN K23 all0) (g := (mkF m 51 #[.val (.int p1), .unset, .unset, .unset] [(.int (7 : Int32)), (.ref b2), (.ref b2)])) rfl (hb hby at_51)
    obtain ⟨cl25, Ar25, qq25, Sz25, Nn25, Hs25, Gs25⟩ := V_b2_23
    have hin25 : ¬ ((7 : Int32) < 0 ∨ cl25.slots.size ≤ ((7 : Int32)).toNatClampNeg) := inb_of Sz25 ⟨by decide, by decide⟩
    obtain ⟨T26, h26, X26, e26, W26, st26⟩ := stR X24 hx hZ e24 Ar25 (j := (7 : Int32)) hin25 rfl (Sto.ofV Ar25 qq25 O2 (Ins.self (E_BEGIN.keep K23))) (g := (mkF m 54 #[.val (.int p1), .unset, .unset, .unset] [(.ref w_BEGIN), (.int (7 : Int32)), (.ref b2), (.ref b2)])) rfl rfl (hb hby at_54)
    have K26 : Keep h0 h26 [] := K23.wr W26 (Or.inr sz_b2)
    have N26 := Fr.snoc X26 N23 g_b2
    have V_b2_26 : Arv Z h26 b2 k2 (.object "com/example/grebe/grebe/frame/Command") (15 : Int32) [(.ref w_CONNECT), (.ref w_STOMP), (.ref w_SEND), (.ref w_SUBSCRIBE), (.ref w_UNSUBSCRIBE), (.ref w_ACK), (.ref w_NACK), (.ref w_BEGIN), .null, .null, .null, .null, .null, .null, .null] .null := Arv.set Ar25 qq25 Sz25 Nn25 Hs25 Gs25 rfl W26 7 rfl (Nat.le_of_ble_eq_true rfl)
    obtain ⟨T27, X27, e27, st27⟩ := getS2 X26 hx hZ hown (host := "") (Or.inl (hw _ (List.mem_of_getElem? (i := 20) rfl))) Via.refl e26 (own_staK S_COMMIT K26 all0) (g := (mkF m 58 #[.val (.int p1), .unset, .unset, .unset] [(.int (8 : Int32)), (.ref b2), (.ref b2)])) rfl (hb hby at_58)
    obtain ⟨cl28, Ar28, qq28, Sz28, Nn28, Hs28, Gs28⟩ := V_b2_26
    have hin28 : ¬ ((8 : Int32) < 0 ∨ cl28.slots.size ≤ ((8 : Int32)).toNatClampNeg) := inb_of Sz28 ⟨by decide, by decide⟩
    obtain ⟨T29, h29, X29, e29, W29, st29⟩ := stR X27 hx hZ e27 Ar28 (j := (8 : Int32)) hin28 rfl (Sto.ofV Ar28 qq28 O2 (Ins.self (E_COMMIT.keep K26))) (g := (mkF m 61 #[.val (.int p1), .unset, .unset, .unset] [(.ref w_COMMIT), (.int (8 : Int32)), (.ref b2), (.ref b2)])) rfl rfl (hb hby at_61)
    have K29 : Keep h0 h29 [] := K26.wr W29 (Or.inr sz_b2)
    have N29 := Fr.snoc X29 N26 g_b2
    have V_b2_29 : Arv Z h29 b2 k2 (.object "com/example/grebe/grebe/frame/Command") (15 : Int32) [(.ref w_CONNECT), (.ref w_STOMP), (.ref w_SEND), (.ref w_SUBSCRIBE), (.ref w_UNSUBSCRIBE), (.ref w_ACK), (.ref w_NACK), (.ref w_BEGIN), (.ref w_COMMIT), .null, .null, .null, .null, .null, .null] .null := Arv.set Ar28 qq28 Sz28 Nn28 Hs28 Gs28 rfl W29 8 rfl (Nat.le_of_ble_eq_true rfl)
    obtain ⟨T30, X30, e30, st30⟩ := getS2 X29 hx hZ hown (host := "") (Or.inl (hw _ (List.mem_of_getElem? (i := 22) rfl))) Via.refl e29 (own_staK S_ABORT K29 all0) (g := (mkF m 65 #[.val (.int p1), .unset, .unset, .unset] [(.int (9 : Int32)), (.ref b2), (.ref b2)])) rfl (hb hby at_65)
    obtain ⟨cl31, Ar31, qq31, Sz31, Nn31, Hs31, Gs31⟩ := V_b2_29
    have hin31 : ¬ ((9 : Int32) < 0 ∨ cl31.slots.size ≤ ((9 : Int32)).toNatClampNeg) := inb_of Sz31 ⟨by decide, by decide⟩
    obtain ⟨T32, h32, X32, e32, W32, st32⟩ := stR X30 hx hZ e30 Ar31 (j := (9 : Int32)) hin31 rfl (Sto.ofV Ar31 qq31 O2 (Ins.self (E_ABORT.keep K29))) (g := (mkF m 68 #[.val (.int p1), .unset, .unset, .unset] [(.ref w_ABORT), (.int (9 : Int32)), (.ref b2), (.ref b2)])) rfl rfl (hb hby at_68)
    have K32 : Keep h0 h32 [] := K29.wr W32 (Or.inr sz_b2)
    have N32 := Fr.snoc X32 N29 g_b2
    have V_b2_32 : Arv Z h32 b2 k2 (.object "com/example/grebe/grebe/frame/Command") (15 : Int32) [(.ref w_CONNECT), (.ref w_STOMP), (.ref w_SEND), (.ref w_SUBSCRIBE), (.ref w_UNSUBSCRIBE), (.ref w_ACK), (.ref w_NACK), (.ref w_BEGIN), (.ref w_COMMIT), (.ref w_ABORT), .null, .null, .null, .null, .null] .null := Arv.set Ar31 qq31 Sz31 Nn31 Hs31 Gs31 rfl W32 9 rfl (Nat.le_of_ble_eq_true rfl)
    obtain ⟨T33, X33, e33, st33⟩ := getS2 X32 hx hZ hown (host := "") (Or.inl (hw _ (List.mem_of_getElem? (i := 24) rfl))) Via.refl e32 (own_staK S_DISCONNECT K32 all0) (g := (mkF m 72 #[.val (.int p1), .unset, .unset, .unset] [(.int (10 : Int32)), (.ref b2), (.ref b2)])) rfl (hb hby at_72)
    obtain ⟨cl34, Ar34, qq34, Sz34, Nn34, Hs34, Gs34⟩ := V_b2_32
    have hin34 : ¬ ((10 : Int32) < 0 ∨ cl34.slots.size ≤ ((10 : Int32)).toNatClampNeg) := inb_of Sz34 ⟨by decide, by decide⟩
    obtain ⟨T35, h35, X35, e35, W35, st35⟩ := stR X33 hx hZ e33 Ar34 (j := (10 : Int32)) hin34 rfl (Sto.ofV Ar34 qq34 O2 (Ins.self (E_DISCONNECT.keep K32))) (g := (mkF m 75 #[.val (.int p1), .unset, .unset, .unset] [(.ref w_DISCONNECT), (.int (10 : Int32)), (.ref b2), (.ref b2)])) rfl rfl (hb hby at_75)
    have K35 : Keep h0 h35 [] := K32.wr W35 (Or.inr sz_b2)
    have N35 := Fr.snoc X35 N32 g_b2
    have V_b2_35 : Arv Z h35 b2 k2 (.object "com/example/grebe/grebe/frame/Command") (15 : Int32) [(.ref w_CONNECT), (.ref w_STOMP), (.ref w_SEND), (.ref w_SUBSCRIBE), (.ref w_UNSUBSCRIBE), (.ref w_ACK), (.ref w_NACK), (.ref w_BEGIN), (.ref w_COMMIT), (.ref w_ABORT), (.ref w_DISCONNECT), .null, .null, .null, .null] .null := Arv.set Ar34 qq34 Sz34 Nn34 Hs34 Gs34 rfl W35 10 rfl (Nat.le_of_ble_eq_true rfl)
    obtain ⟨T36, X36, e36, st36⟩ := getS2 X35 hx hZ hown (host := "") (Or.inl (hw _ (List.mem_of_getElem? (i := 26) rfl))) Via.refl e35 (own_staK S_CONNECTED K35 all0) (g := (mkF m 79 #[.val (.int p1), .unset, .unset, .unset] [(.int (11 : Int32)), (.ref b2), (.ref b2)])) rfl (hb hby at_79)
    obtain ⟨cl37, Ar37, qq37, Sz37, Nn37, Hs37, Gs37⟩ := V_b2_35
    have hin37 : ¬ ((11 : Int32) < 0 ∨ cl37.slots.size ≤ ((11 : Int32)).toNatClampNeg) := inb_of Sz37 ⟨by decide, by decide⟩
    obtain ⟨T38, h38, X38, e38, W38, st38⟩ := stR X36 hx hZ e36 Ar37 (j := (11 : Int32)) hin37 rfl (Sto.ofV Ar37 qq37 O2 (Ins.self (E_CONNECTED.keep K35))) (g := (mkF m 82 #[.val (.int p1), .unset, .unset, .unset] [(.ref w_CONNECTED), (.int (11 : Int32)), (.ref b2), (.ref b2)])) rfl rfl (hb hby at_82)
    have K38 : Keep h0 h38 [] := K35.wr W38 (Or.inr sz_b2)
    have N38 := Fr.snoc X38 N35 g_b2
    have V_b2_38 : Arv Z h38 b2 k2 (.object "com/example/grebe/grebe/frame/Command") (15 : Int32) [(.ref w_CONNECT), (.ref w_STOMP), (.ref w_SEND), (.ref w_SUBSCRIBE), (.ref w_UNSUBSCRIBE), (.ref w_ACK), (.ref w_NACK), (.ref w_BEGIN), (.ref w_COMMIT), (.ref w_ABORT), (.ref w_DISCONNECT), (.ref w_CONNECTED), .null, .null, .null] .null := Arv.set Ar37 qq37 Sz37 Nn37 Hs37 Gs37 rfl W38 11 rfl (Nat.le_of_ble_eq_true rfl)
    obtain ⟨T39, X39, e39, st39⟩ := getS2 X38 hx hZ hown (host := "") (Or.inl (hw _ (List.mem_of_getElem? (i := 28) rfl))) Via.refl e38 (own_staK S_MESSAGE K38 all0) (g := (mkF m 86 #[.val (.int p1), .unset, .unset, .unset] [(.int (12 : Int32)), (.ref b2), (.ref b2)])) rfl (hb hby at_86)
    obtain ⟨cl40, Ar40, qq40, Sz40, Nn40, Hs40, Gs40⟩ := V_b2_38
    have hin40 : ¬ ((12 : Int32) < 0 ∨ cl40.slots.size ≤ ((12 : Int32)).toNatClampNeg) := inb_of Sz40 ⟨by decide, by decide⟩
    obtain ⟨T41, h41, X41, e41, W41, st41⟩ := stR X39 hx hZ e39 Ar40 (j := (12 : Int32)) hin40 rfl (Sto.ofV Ar40 qq40 O2 (Ins.self (E_MESSAGE.keep K38))) (g := (mkF m 89 #[.val (.int p1), .unset, .unset, .unset] [(.ref w_MESSAGE), (.int (12 : Int32)), (.ref b2), (.ref b2)])) rfl rfl (hb hby at_89)
    have K41 : Keep h0 h41 [] := K38.wr W41 (Or.inr sz_b2)
    have N41 := Fr.snoc X41 N38 g_b2
    have V_b2_41 : Arv Z h41 b2 k2 (.object "com/example/grebe/grebe/frame/Command") (15 : Int32) [(.ref w_CONNECT), (.ref w_STOMP), (.ref w_SEND), (.ref w_SUBSCRIBE), (.ref w_UNSUBSCRIBE), (.ref w_ACK), (.ref w_NACK), (.ref w_BEGIN), (.ref w_COMMIT), (.ref w_ABORT), (.ref w_DISCONNECT), (.ref w_CONNECTED), (.ref w_MESSAGE), .null, .null] .null := Arv.set Ar40 qq40 Sz40 Nn40 Hs40 Gs40 rfl W41 12 rfl (Nat.le_of_ble_eq_true rfl)
    obtain ⟨T42, X42, e42, st42⟩ := getS2 X41 hx hZ hown (host := "") (Or.inl (hw _ (List.mem_of_getElem? (i := 30) rfl))) Via.refl e41 (own_staK S_RECEIPT K41 all0) (g := (mkF m 93 #[.val (.int p1), .unset, .unset, .unset] [(.int (13 : Int32)), (.ref b2), (.ref b2)])) rfl (hb hby at_93)
    obtain ⟨cl43, Ar43, qq43, Sz43, Nn43, Hs43, Gs43⟩ := V_b2_41
    have hin43 : ¬ ((13 : Int32) < 0 ∨ cl43.slots.size ≤ ((13 : Int32)).toNatClampNeg) := inb_of Sz43 ⟨by decide, by decide⟩
    obtain ⟨T44, h44, X44, e44, W44, st44⟩ := stR X42 hx hZ e42 Ar43 (j := (13 : Int32)) hin43 rfl (Sto.ofV Ar43 qq43 O2 (Ins.self (E_RECEIPT.keep K41))) (g := (mkF m 96 #[.val (.int p1), .unset, .unset, .unset] [(.ref w_RECEIPT), (.int (13 : Int32)), (.ref b2), (.ref b2)])) rfl rfl (hb hby at_96)
    have K44 : Keep h0 h44 [] := K41.wr W44 (Or.inr sz_b2)
    have N44 := Fr.snoc X44 N41 g_b2
    have V_b2_44 : Arv Z h44 b2 k2 (.object "com/example/grebe/grebe/frame/Command") (15 : Int32) [(.ref w_CONNECT), (.ref w_STOMP), (.ref w_SEND), (.ref w_SUBSCRIBE), (.ref w_UNSUBSCRIBE), (.ref w_ACK), (.ref w_NACK), (.ref w_BEGIN), (.ref w_COMMIT), (.ref w_ABORT), (.ref w_DISCONNECT), (.ref w_CONNECTED), (.ref w_MESSAGE), (.ref w_RECEIPT), .null] .null := Arv.set Ar43 qq43 Sz43 Nn43 Hs43 Gs43 rfl W44 13 rfl (Nat.le_of_ble_eq_true rfl)
    obtain ⟨T45, X45, e45, st45⟩ := getS2 X44 hx hZ hown (host := "") (Or.inl (hw _ (List.mem_of_getElem? (i := 32) rfl))) Via.refl e44 (own_staK S_ERROR K44 all0) (g := (mkF m 100 #[.val (.int p1), .unset, .unset, .unset] [(.int (14 : Int32)), (.ref b2), (.ref b2)])) rfl (hb hby at_100)
    obtain ⟨cl46, Ar46, qq46, Sz46, Nn46, Hs46, Gs46⟩ := V_b2_44
    have hin46 : ¬ ((14 : Int32) < 0 ∨ cl46.slots.size ≤ ((14 : Int32)).toNatClampNeg) := inb_of Sz46 ⟨by decide, by decide⟩
    obtain ⟨T47, h47, X47, e47, W47, st47⟩ := stR X45 hx hZ e45 Ar46 (j := (14 : Int32)) hin46 rfl (Sto.ofV Ar46 qq46 O2 (Ins.self (E_ERROR.keep K44))) (g := (mkF m 103 #[.val (.int p1), .unset, .unset, .unset] [(.ref w_ERROR), (.int (14 : Int32)), (.ref b2), (.ref b2)])) rfl rfl (hb hby at_103)
    have K47 : Keep h0 h47 [] := K44.wr W47 (Or.inr sz_b2)
    have N47 := Fr.snoc X47 N44 g_b2
    have V_b2_47 : Arv Z h47 b2 k2 (.object "com/example/grebe/grebe/frame/Command") (15 : Int32) [(.ref w_CONNECT), (.ref w_STOMP), (.ref w_SEND), (.ref w_SUBSCRIBE), (.ref w_UNSUBSCRIBE), (.ref w_ACK), (.ref w_NACK), (.ref w_BEGIN), (.ref w_COMMIT), (.ref w_ABORT), (.ref w_DISCONNECT), (.ref w_CONNECTED), (.ref w_MESSAGE), (.ref w_RECEIPT), (.ref w_ERROR)] .null := Arv.set Ar46 qq46 Sz46 Nn46 Hs46 Gs46 rfl W47 14 rfl (Nat.le_of_ble_eq_true rfl)
    have k48 : ∀ t, Steps p.tables e below (T47.setTop (mkF m 105 #[.val (.int p1), .val (.ref b2), .unset, .unset] [])) t → Steps p.tables e below (s₁.setTop (entryFrame m #[(.int p1)] maxLocals)) t := by
      intro t k
      refine pre0 t ?_
      show Steps p.tables e below (s₁.setTop (mkF m 0 #[.val (.int p1), .unset, .unset, .unset] [])) _
      refine XS.bipush X0.here hx rfl (hb hby at_0) ?_
      show Steps p.tables e below (s₁.setTop (mkF m 2 #[.val (.int p1), .unset, .unset, .unset] [(.int (15 : Int32))])) _
      refine st2 _ ?_
      show Steps p.tables e below (T2.setTop (mkF m 5 #[.val (.int p1), .unset, .unset, .unset] [(.ref b2)])) _
      refine XS.dup X2.here hx rfl (hb hby at_5) rfl rfl ?_
      show Steps p.tables e below (T2.setTop (mkF m 6 #[.val (.int p1), .unset, .unset, .unset] [(.ref b2), (.ref b2)])) _
      refine XS.iconst X2.here hx rfl (hb hby at_6) ?_
      show Steps p.tables e below (T2.setTop (mkF m 7 #[.val (.int p1), .unset, .unset, .unset] [(.int (0 : Int32)), (.ref b2), (.ref b2)])) _
      refine st3 _ ?_
      show Steps p.tables e below (T3.setTop (mkF m 10 #[.val (.int p1), .unset, .unset, .unset] [(.ref w_CONNECT), (.int (0 : Int32)), (.ref b2), (.ref b2)])) _
      refine st5 _ ?_
      show Steps p.tables e below (T5.setTop (mkF m 11 #[.val (.int p1), .unset, .unset, .unset] [(.ref b2)])) _
      refine XS.dup X5.here hx rfl (hb hby at_11) rfl rfl ?_
      show Steps p.tables e below (T5.setTop (mkF m 12 #[.val (.int p1), .unset, .unset, .unset] [(.ref b2), (.ref b2)])) _
      refine XS.iconst X5.here hx rfl (hb hby at_12) ?_
      show Steps p.tables e below (T5.setTop (mkF m 13 #[.val (.int p1), .unset, .unset, .unset] [(.int (1 : Int32)), (.ref b2), (.ref b2)])) _
      refine st6 _ ?_
      show Steps p.tables e below (T6.setTop (mkF m 16 #[.val (.int p1), .unset, .unset, .unset] [(.ref w_STOMP), (.int (1 : Int32)), (.ref b2), (.ref b2)])) _
      refine st8 _ ?_
      show Steps p.tables e below (T8.setTop (mkF m 17 #[.val (.int p1), .unset, .unset, .unset] [(.ref b2)])) _
      refine XS.dup X8.here hx rfl (hb hby at_17) rfl rfl ?_
      show Steps p.tables e below (T8.setTop (mkF m 18 #[.val (.int p1), .unset, .unset, .unset] [(.ref b2), (.ref b2)])) _
      refine XS.iconst X8.here hx rfl (hb hby at_18) ?_
      show Steps p.tables e below (T8.setTop (mkF m 19 #[.val (.int p1), .unset, .unset, .unset] [(.int (2 : Int32)), (.ref b2), (.ref b2)])) _
      refine st9 _ ?_
      show Steps p.tables e below (T9.setTop (mkF m 22 #[.val (.int p1), .unset, .unset, .unset] [(.ref w_SEND), (.int (2 : Int32)), (.ref b2), (.ref b2)])) _
      refine st11 _ ?_
      show Steps p.tables e below (T11.setTop (mkF m 23 #[.val (.int p1), .unset, .unset, .unset] [(.ref b2)])) _
      refine XS.dup X11.here hx rfl (hb hby at_23) rfl rfl ?_
      show Steps p.tables e below (T11.setTop (mkF m 24 #[.val (.int p1), .unset, .unset, .unset] [(.ref b2), (.ref b2)])) _
      refine XS.iconst X11.here hx rfl (hb hby at_24) ?_
      show Steps p.tables e below (T11.setTop (mkF m 25 #[.val (.int p1), .unset, .unset, .unset] [(.int (3 : Int32)), (.ref b2), (.ref b2)])) _
      refine st12 _ ?_
      show Steps p.tables e below (T12.setTop (mkF m 28 #[.val (.int p1), .unset, .unset, .unset] [(.ref w_SUBSCRIBE), (.int (3 : Int32)), (.ref b2), (.ref b2)])) _
      refine st14 _ ?_
      show Steps p.tables e below (T14.setTop (mkF m 29 #[.val (.int p1), .unset, .unset, .unset] [(.ref b2)])) _
      refine XS.dup X14.here hx rfl (hb hby at_29) rfl rfl ?_
      show Steps p.tables e below (T14.setTop (mkF m 30 #[.val (.int p1), .unset, .unset, .unset] [(.ref b2), (.ref b2)])) _
      refine XS.iconst X14.here hx rfl (hb hby at_30) ?_
      show Steps p.tables e below (T14.setTop (mkF m 31 #[.val (.int p1), .unset, .unset, .unset] [(.int (4 : Int32)), (.ref b2), (.ref b2)])) _
      refine st15 _ ?_
      show Steps p.tables e below (T15.setTop (mkF m 34 #[.val (.int p1), .unset, .unset, .unset] [(.ref w_UNSUBSCRIBE), (.int (4 : Int32)), (.ref b2), (.ref b2)])) _
      refine st17 _ ?_
      show Steps p.tables e below (T17.setTop (mkF m 35 #[.val (.int p1), .unset, .unset, .unset] [(.ref b2)])) _
      refine XS.dup X17.here hx rfl (hb hby at_35) rfl rfl ?_
      show Steps p.tables e below (T17.setTop (mkF m 36 #[.val (.int p1), .unset, .unset, .unset] [(.ref b2), (.ref b2)])) _
      refine XS.iconst X17.here hx rfl (hb hby at_36) ?_
      show Steps p.tables e below (T17.setTop (mkF m 37 #[.val (.int p1), .unset, .unset, .unset] [(.int (5 : Int32)), (.ref b2), (.ref b2)])) _
      refine st18 _ ?_
      show Steps p.tables e below (T18.setTop (mkF m 40 #[.val (.int p1), .unset, .unset, .unset] [(.ref w_ACK), (.int (5 : Int32)), (.ref b2), (.ref b2)])) _
      refine st20 _ ?_
      show Steps p.tables e below (T20.setTop (mkF m 41 #[.val (.int p1), .unset, .unset, .unset] [(.ref b2)])) _
      refine XS.dup X20.here hx rfl (hb hby at_41) rfl rfl ?_
      show Steps p.tables e below (T20.setTop (mkF m 42 #[.val (.int p1), .unset, .unset, .unset] [(.ref b2), (.ref b2)])) _
      refine XS.bipush X20.here hx rfl (hb hby at_42) ?_
      show Steps p.tables e below (T20.setTop (mkF m 44 #[.val (.int p1), .unset, .unset, .unset] [(.int (6 : Int32)), (.ref b2), (.ref b2)])) _
      refine st21 _ ?_
      show Steps p.tables e below (T21.setTop (mkF m 47 #[.val (.int p1), .unset, .unset, .unset] [(.ref w_NACK), (.int (6 : Int32)), (.ref b2), (.ref b2)])) _
      refine st23 _ ?_
      show Steps p.tables e below (T23.setTop (mkF m 48 #[.val (.int p1), .unset, .unset, .unset] [(.ref b2)])) _
      refine XS.dup X23.here hx rfl (hb hby at_48) rfl rfl ?_
      show Steps p.tables e below (T23.setTop (mkF m 49 #[.val (.int p1), .unset, .unset, .unset] [(.ref b2), (.ref b2)])) _
      refine XS.bipush X23.here hx rfl (hb hby at_49) ?_
      show Steps p.tables e below (T23.setTop (mkF m 51 #[.val (.int p1), .unset, .unset, .unset] [(.int (7 : Int32)), (.ref b2), (.ref b2)])) _
      refine st24 _ ?_
      show Steps p.tables e below (T24.setTop (mkF m 54 #[.val (.int p1), .unset, .unset, .unset] [(.ref w_BEGIN), (.int (7 : Int32)), (.ref b2), (.ref b2)])) _
      refine st26 _ ?_
      show Steps p.tables e below (T26.setTop (mkF m 55 #[.val (.int p1), .unset, .unset, .unset] [(.ref b2)])) _
      refine XS.dup X26.here hx rfl (hb hby at_55) rfl rfl ?_
      show Steps p.tables e below (T26.setTop (mkF m 56 #[.val (.int p1), .unset, .unset, .unset] [(.ref b2), (.ref b2)])) _
      refine XS.bipush X26.here hx rfl (hb hby at_56) ?_
      show Steps p.tables e below (T26.setTop (mkF m 58 #[.val (.int p1), .unset, .unset, .unset] [(.int (8 : Int32)), (.ref b2), (.ref b2)])) _
      refine st27 _ ?_
      show Steps p.tables e below (T27.setTop (mkF m 61 #[.val (.int p1), .unset, .unset, .unset] [(.ref w_COMMIT), (.int (8 : Int32)), (.ref b2), (.ref b2)])) _
      refine st29 _ ?_
      show Steps p.tables e below (T29.setTop (mkF m 62 #[.val (.int p1), .unset, .unset, .unset] [(.ref b2)])) _
      refine XS.dup X29.here hx rfl (hb hby at_62) rfl rfl ?_
      show Steps p.tables e below (T29.setTop (mkF m 63 #[.val (.int p1), .unset, .unset, .unset] [(.ref b2), (.ref b2)])) _
      refine XS.bipush X29.here hx rfl (hb hby at_63) ?_
      show Steps p.tables e below (T29.setTop (mkF m 65 #[.val (.int p1), .unset, .unset, .unset] [(.int (9 : Int32)), (.ref b2), (.ref b2)])) _
      refine st30 _ ?_
      show Steps p.tables e below (T30.setTop (mkF m 68 #[.val (.int p1), .unset, .unset, .unset] [(.ref w_ABORT), (.int (9 : Int32)), (.ref b2), (.ref b2)])) _
      refine st32 _ ?_
      show Steps p.tables e below (T32.setTop (mkF m 69 #[.val (.int p1), .unset, .unset, .unset] [(.ref b2)])) _
      refine XS.dup X32.here hx rfl (hb hby at_69) rfl rfl ?_
      show Steps p.tables e below (T32.setTop (mkF m 70 #[.val (.int p1), .unset, .unset, .unset] [(.ref b2), (.ref b2)])) _
      refine XS.bipush X32.here hx rfl (hb hby at_70) ?_
      show Steps p.tables e below (T32.setTop (mkF m 72 #[.val (.int p1), .unset, .unset, .unset] [(.int (10 : Int32)), (.ref b2), (.ref b2)])) _
      refine st33 _ ?_
      show Steps p.tables e below (T33.setTop (mkF m 75 #[.val (.int p1), .unset, .unset, .unset] [(.ref w_DISCONNECT), (.int (10 : Int32)), (.ref b2), (.ref b2)])) _
      refine st35 _ ?_
      show Steps p.tables e below (T35.setTop (mkF m 76 #[.val (.int p1), .unset, .unset, .unset] [(.ref b2)])) _
      refine XS.dup X35.here hx rfl (hb hby at_76) rfl rfl ?_
      show Steps p.tables e below (T35.setTop (mkF m 77 #[.val (.int p1), .unset, .unset, .unset] [(.ref b2), (.ref b2)])) _
      refine XS.bipush X35.here hx rfl (hb hby at_77) ?_
      show Steps p.tables e below (T35.setTop (mkF m 79 #[.val (.int p1), .unset, .unset, .unset] [(.int (11 : Int32)), (.ref b2), (.ref b2)])) _
      refine st36 _ ?_
      show Steps p.tables e below (T36.setTop (mkF m 82 #[.val (.int p1), .unset, .unset, .unset] [(.ref w_CONNECTED), (.int (11 : Int32)), (.ref b2), (.ref b2)])) _
      refine st38 _ ?_
      show Steps p.tables e below (T38.setTop (mkF m 83 #[.val (.int p1), .unset, .unset, .unset] [(.ref b2)])) _
      refine XS.dup X38.here hx rfl (hb hby at_83) rfl rfl ?_
      show Steps p.tables e below (T38.setTop (mkF m 84 #[.val (.int p1), .unset, .unset, .unset] [(.ref b2), (.ref b2)])) _
      refine XS.bipush X38.here hx rfl (hb hby at_84) ?_
      show Steps p.tables e below (T38.setTop (mkF m 86 #[.val (.int p1), .unset, .unset, .unset] [(.int (12 : Int32)), (.ref b2), (.ref b2)])) _
      refine st39 _ ?_
      show Steps p.tables e below (T39.setTop (mkF m 89 #[.val (.int p1), .unset, .unset, .unset] [(.ref w_MESSAGE), (.int (12 : Int32)), (.ref b2), (.ref b2)])) _
      refine st41 _ ?_
      show Steps p.tables e below (T41.setTop (mkF m 90 #[.val (.int p1), .unset, .unset, .unset] [(.ref b2)])) _
      refine XS.dup X41.here hx rfl (hb hby at_90) rfl rfl ?_
      show Steps p.tables e below (T41.setTop (mkF m 91 #[.val (.int p1), .unset, .unset, .unset] [(.ref b2), (.ref b2)])) _
      refine XS.bipush X41.here hx rfl (hb hby at_91) ?_
      show Steps p.tables e below (T41.setTop (mkF m 93 #[.val (.int p1), .unset, .unset, .unset] [(.int (13 : Int32)), (.ref b2), (.ref b2)])) _
      refine st42 _ ?_
      show Steps p.tables e below (T42.setTop (mkF m 96 #[.val (.int p1), .unset, .unset, .unset] [(.ref w_RECEIPT), (.int (13 : Int32)), (.ref b2), (.ref b2)])) _
      refine st44 _ ?_
      show Steps p.tables e below (T44.setTop (mkF m 97 #[.val (.int p1), .unset, .unset, .unset] [(.ref b2)])) _
      refine XS.dup X44.here hx rfl (hb hby at_97) rfl rfl ?_
      show Steps p.tables e below (T44.setTop (mkF m 98 #[.val (.int p1), .unset, .unset, .unset] [(.ref b2), (.ref b2)])) _
      refine XS.bipush X44.here hx rfl (hb hby at_98) ?_
      show Steps p.tables e below (T44.setTop (mkF m 100 #[.val (.int p1), .unset, .unset, .unset] [(.int (14 : Int32)), (.ref b2), (.ref b2)])) _
      refine st45 _ ?_
      show Steps p.tables e below (T45.setTop (mkF m 103 #[.val (.int p1), .unset, .unset, .unset] [(.ref w_ERROR), (.int (14 : Int32)), (.ref b2), (.ref b2)])) _
      refine st47 _ ?_
      show Steps p.tables e below (T47.setTop (mkF m 104 #[.val (.int p1), .unset, .unset, .unset] [(.ref b2)])) _
      refine XS.astoreN X47.here hx rfl (hb hby at_104) rfl rfl (l' := #[.val (.int p1), .val (.ref b2), .unset, .unset]) rfl ?_
      exact k
    exact ⟨b2, k2, _, T47, _, X47, e47, N47, K47, ⟨g_b2, sz_b2⟩, O2, V_b2_47, k48⟩
  obtain ⟨b50, k50, h49, T49, L49, X49, e49, N49, K49, ⟨g_b50, sz_b50⟩, ne_b2_b50, pf49_0, pf49_1, k49⟩ : ∃ (b50 : Addr) (k50 : ClassId) (h49 : Heap) (T' : State) (L' : List Loc), Stand p l e room_1 s m #[(.int p1)] below meth c T' L' 2 30 ∧ T'.heap = h49 ∧ Fr n0 L' ∧ Keep h0 h49 [] ∧ (n0 ≤ b50 ∧ h0.size ≤ b50) ∧ b2 ≠ b50 ∧ Arv Z h49 b2 k2 (.object "com/example/grebe/grebe/frame/Command") (15 : Int32) [(.ref w_CONNECT), (.ref w_STOMP), (.ref w_SEND), (.ref w_SUBSCRIBE), (.ref w_UNSUBSCRIBE), (.ref w_ACK), (.ref w_NACK), (.ref w_BEGIN), (.ref w_COMMIT), (.ref w_ABORT), (.ref w_DISCONNECT), (.ref w_CONNECTED), (.ref w_MESSAGE), (.ref w_RECEIPT), (.ref w_ERROR)] .null ∧ Arv Z h49 b50 k50 .boolean (15 : Int32) [(.int (0 : Int32)), (.int (0 : Int32)), (.int (1 : Int32)), (.int (1 : Int32)), (.int (1 : Int32)), (.int (1 : Int32)), (.int (1 : Int32)), (.int (1 : Int32)), (.int (1 : Int32)), (.int (1 : Int32)), (.int (1 : Int32)), (.int (0 : Int32)), (.int (1 : Int32)), (.int (1 : Int32)), (.int (1 : Int32))] (.int (0 : Int32)) ∧ ∀ t, Steps p.tables e below (T'.setTop (mkF m 179 #[.val (.int p1), .val (.ref b2), .val (.ref b50), .unset] [])) t → Steps p.tables e below (s₁.setTop (entryFrame m #[(.int p1)] maxLocals)) t := by
    obtain ⟨T50, h50, k50, X50, e50, E50, A50, st50⟩ := newP X1 hx hZ (hw _ (List.mem_of_getElem? (i := 34) rfl)) e1 (g := (mkF m 107 #[.val (.int p1), .val (.ref b2), .unset, .unset] [(.int (15 : Int32))])) rfl (hb hby at_107) rfl (by decide) (cap := 15) (by decide) (by decide) (by decide) (by decide)
    obtain ⟨b50, g50⟩ : ∃ z, z = h1.size := ⟨_, rfl⟩
    rw [← g50] at A50 st50
    have g_b50 : n0 ≤ b50 := Nat.le_trans (Nat.le_trans Z0 K1.1) (Nat.le_of_eq g50.symm)
    have sz_b50 : h0.size ≤ b50 := Nat.le_trans K1.1 (Nat.le_of_eq g50.symm)
    have ne_b2_b50 : b2 ≠ b50 := Nat.ne_of_lt (Nat.lt_of_lt_of_le pf1_0.lt (Nat.le_of_eq g50.symm))
    have K50 : Keep h0 h50 [] := K1.ext E50
    have V_b50 : Arv Z h50 b50 k50 .boolean (15 : Int32) [(.int (0 : Int32)), (.int (0 : Int32)), (.int (0 : Int32)), (.int (0 : Int32)), (.int (0 : Int32)), (.int (0 : Int32)), (.int (0 : Int32)), (.int (0 : Int32)), (.int (0 : Int32)), (.int (0 : Int32)), (.int (0 : Int32)), (.int (0 : Int32)), (.int (0 : Int32)), (.int (0 : Int32)), (.int (0 : Int32))] (.int (0 : Int32)) := (Arv.new A50 (by decide)).pad (pad_rep [] (.int (0 : Int32)) 15)
    obtain ⟨cl51, Ar51, qq51, Sz51, Nn51, Hs51, Gs51⟩ := V_b50
    have hin51 : ¬ ((0 : Int32) < 0 ∨ cl51.slots.size ≤ ((0 : Int32)).toNatClampNeg) := inb_of Sz51 ⟨by decide, by decide⟩
    obtain ⟨T52, h52, X52, e52, W52, st52⟩ := stZ X50 hx hZ e50 Ar51 (j := (0 : Int32)) hin51 (g := (mkF m 112 #[.val (.int p1), .val (.ref b2), .unset, .unset] [(.int (0 : Int32)), (.int (0 : Int32)), (.ref b50), (.ref b50)])) rfl rfl (hb hby at_112)
    have nr52 : nar .boolean (0 : Int32) = (0 : Int32) := by decide
    rw [nr52] at W52
    have K52 : Keep h0 h52 [] := K50.wr W52 (Or.inr sz_b50)
    have N52 := Fr.snoc X52 N1 g_b50
    have cf53 := ((pf1_0.ext E50).other W52 ne_b2_b50)
    have V_b50_52 : Arv Z h52 b50 k50 .boolean (15 : Int32) [(.int (0 : Int32)), (.int (0 : Int32)), (.int (0 : Int32)), (.int (0 : Int32)), (.int (0 : Int32)), (.int (0 : Int32)), (.int (0 : Int32)), (.int (0 : Int32)), (.int (0 : Int32)), (.int (0 : Int32)), (.int (0 : Int32)), (.int (0 : Int32)), (.int (0 : Int32)), (.int (0 : Int32)), (.int (0 : Int32))] (.int (0 : Int32)) := Arv.set Ar51 qq51 Sz51 Nn51 Hs51 Gs51 rfl W52 0 rfl (Nat.le_of_ble_eq_true rfl)
    obtain ⟨cl54, Ar54, qq54, Sz54, Nn54, Hs54, Gs54⟩ := V_b50_52
    have hin54 : ¬ ((1 : Int32) < 0 ∨ cl54.slots.size ≤ ((1 : Int32)).toNatClampNeg) := inb_of Sz54 ⟨by decide, by decide⟩
    obtain ⟨T55, h55, X55, e55, W55, st55⟩ := stZ X52 hx hZ e52 Ar54 (j := (1 : Int32)) hin54 (g := (mkF m 116 #[.val (.int p1), .val (.ref b2), .unset, .unset] [(.int (0 : Int32)), (.int (1 : Int32)), (.ref b50), (.ref b50)])) rfl rfl (hb hby at_116)
    have nr55 : nar .boolean (0 : Int32) = (0 : Int32) := by decide
    rw [nr55] at W55
    have K55 : Keep h0 h55 [] := K52.wr W55 (Or.inr sz_b50)
    have N55 := Fr.snoc X55 N52 g_b50
    have V_b50_55 : Arv Z h55 b50 k50 .boolean (15 : Int32) [(.int (0 : Int32)), (.int (0 : Int32)), (.int (0 : Int32)), (.int (0 : Int32)), (.int (0 : Int32)), (.int (0 : Int32)), (.int (0 : Int32)), (.int (0 : Int32)), (.int (0 : Int32)), (.int (0 : Int32)), (.int (0 : Int32)), (.int (0 : Int32)), (.int (0 : Int32)), (.int (0 : Int32)), (.int (0 : Int32))] (.int (0 : Int32)) := Arv.set Ar54 qq54 Sz54 Nn54 Hs54 Gs54 rfl W55 1 rfl (Nat.le_of_ble_eq_true rfl)
    obtain ⟨cl56, Ar56, qq56, Sz56, Nn56, Hs56, Gs56⟩ := V_b50_55
    have hin56 : ¬ ((2 : Int32) < 0 ∨ cl56.slots.size ≤ ((2 : Int32)).toNatClampNeg) := inb_of Sz56 ⟨by decide, by decide⟩
    obtain ⟨T57, h57, X57, e57, W57, st57⟩ := stZ X55 hx hZ e55 Ar56 (j := (2 : Int32)) hin56 (g := (mkF m 120 #[.val (.int p1), .val (.ref b2), .unset, .unset] [(.int (1 : Int32)), (.int (2 : Int32)), (.ref b50), (.ref b50)])) rfl rfl (hb hby at_120)
    have nr57 : nar .boolean (1 : Int32) = (1 : Int32) := by decide
    rw [nr57] at W57
    have K57 : Keep h0 h57 [] := K55.wr W57 (Or.inr sz_b50)
    have N57 := Fr.snoc X57 N55 g_b50
    have cf58 := ((cf53.other W55 ne_b2_b50).other W57 ne_b2_b50)
    have V_b50_57 : Arv Z h57 b50 k50 .boolean (15 : Int32) [(.int (0 : Int32)), (.int (0 : Int32)), (.int (1 : Int32)), (.int (0 : Int32)), (.int (0 : Int32)), (.int (0 : Int32)), (.int (0 : Int32)), (.int (0 : Int32)), (.int (0 : Int32)), (.int (0 : Int32)), (.int (0 : Int32)), (.int (0 : Int32)), (.int (0 : Int32)), (.int (0 : Int32)), (.int (0 : Int32))] (.int (0 : Int32)) := Arv.set Ar56 qq56 Sz56 Nn56 Hs56 Gs56 rfl W57 2 rfl (Nat.le_of_ble_eq_true rfl)
    obtain ⟨cl59, Ar59, qq59, Sz59, Nn59, Hs59, Gs59⟩ := V_b50_57
    have hin59 : ¬ ((3 : Int32) < 0 ∨ cl59.slots.size ≤ ((3 : Int32)).toNatClampNeg) := inb_of Sz59 ⟨by decide, by decide⟩
    obtain ⟨T60, h60, X60, e60, W60, st60⟩ := stZ X57 hx hZ e57 Ar59 (j := (3 : Int32)) hin59 (g := (mkF m 124 #[.val (.int p1), .val (.ref b2), .unset, .unset] [(.int (1 : Int32)), (.int (3 : Int32)), (.ref b50), (.ref b50)])) rfl rfl (hb hby at_124)
    have nr60 : nar .boolean (1 : Int32) = (1 : Int32) := by decide
    rw [nr60] at W60
    have K60 : Keep h0 h60 [] := K57.wr W60 (Or.inr sz_b50)
    have N60 := Fr.snoc X60 N57 g_b50
    have V_b50_60 : Arv Z h60 b50 k50 .boolean (15 : Int32) [(.int (0 : Int32)), (.int (0 : Int32)), (.int (1 : Int32)), (.int (1 : Int32)), (.int (0 : Int32)), (.int (0 : Int32)), (.int (0 : Int32)), (.int (0 : Int32)), (.int (0 : Int32)), (.int (0 : Int32)), (.int (0 : Int32)), (.int (0 : Int32)), (.int (0 : Int32)), (.int (0 : Int32)), (.int (0 : Int32))] (.int (0 : Int32)) := Arv.set Ar59 qq59 Sz59 Nn59 Hs59 Gs59 rfl W60 3 rfl (Nat.le_of_ble_eq_true rfl)
    obtain ⟨cl61, Ar61, qq61, Sz61, Nn61, Hs61, Gs61⟩ := V_b50_60
    have hin61 : ¬ ((4 : Int32) < 0 ∨ cl61.slots.size ≤ ((4 : Int32)).toNatClampNeg) := inb_of Sz61 ⟨by decide, by decide⟩
    obtain ⟨T62, h62, X62, e62, W62, st62⟩ := stZ X60 hx hZ e60 Ar61 (j := (4 : Int32)) hin61 (g := (mkF m 128 #[.val (.int p1), .val (.ref b2), .unset, .unset] [(.int (1 : Int32)), (.int (4 : Int32)), (.ref b50), (.ref b50)])) rfl rfl (hb hby at_128)
    have nr62 : nar .boolean (1 : Int32) = (1 : Int32) := by decide
    rw [nr62] at W62
    have K62 : Keep h0 h62 [] := K60.wr W62 (Or.inr sz_b50)
    have N62 := Fr.snoc X62 N60 g_b50
    have cf63 := ((cf58.other W60 ne_b2_b50).other W62 ne_b2_b50)
    have V_b50_62 : Arv Z h62 b50 k50 .boolean (15 : Int32) [(.int (0 : Int32)), (.int (0 : Int32)), (.int (1 : Int32)), (.int (1 : Int32)), (.int (1 : Int32)), (.int (0 : Int32)), (.int (0 : Int32)), (.int (0 : Int32)), (.int (0 : Int32)), (.int (0 : Int32)), (.int (0 : Int32)), (.int (0 : Int32)), (.int (0 : Int32)), (.int (0 : Int32)), (.int (0 : Int32))] (.int (0 : Int32)) := Arv.set Ar61 qq61 Sz61 Nn61 Hs61 Gs61 rfl W62 4 rfl (Nat.le_of_ble_eq_true rfl)
    obtain ⟨cl64, Ar64, qq64, Sz64, Nn64, Hs64, Gs64⟩ := V_b50_62
    have hin64 : ¬ ((5 : Int32) < 0 ∨ cl64.slots.size ≤ ((5 : Int32)).toNatClampNeg) := inb_of Sz64 ⟨by decide, by decide⟩
    obtain ⟨T65, h65, X65, e65, W65, st65⟩ := stZ X62 hx hZ e62 Ar64 (j := (5 : Int32)) hin64 (g := (mkF m 132 #[.val (.int p1), .val (.ref b2), .unset, .unset] [(.int (1 : Int32)), (.int (5 : Int32)), (.ref b50), (.ref b50)])) rfl rfl (hb hby at_132)
    have nr65 : nar .boolean (1 : Int32) = (1 : Int32) := by decide
    rw [nr65] at W65
    have K65 : Keep h0 h65 [] := K62.wr W65 (Or.inr sz_b50)
    have N65 := Fr.snoc X65 N62 g_b50
    have V_b50_65 : Arv Z h65 b50 k50 .boolean (15 : Int32) [(.int (0 : Int32)), (.int (0 : Int32)), (.int (1 : Int32)), (.int (1 : Int32)), (.int (1 : Int32)), (.int (1 : Int32)), (.int (0 : Int32)), (.int (0 : Int32)), (.int (0 : Int32)), (.int (0 : Int32)), (.int (0 : Int32)), (.int (0 : Int32)), (.int (0 : Int32)), (.int (0 : Int32)), (.int (0 : Int32))] (.int (0 : Int32)) := Arv.set Ar64 qq64 Sz64 Nn64 Hs64 Gs64 rfl W65 5 rfl (Nat.le_of_ble_eq_true rfl)
    obtain ⟨cl66, Ar66, qq66, Sz66, Nn66, Hs66, Gs66⟩ := V_b50_65
    have hin66 : ¬ ((6 : Int32) < 0 ∨ cl66.slots.size ≤ ((6 : Int32)).toNatClampNeg) := inb_of Sz66 ⟨by decide, by decide⟩
    obtain ⟨T67, h67, X67, e67, W67, st67⟩ := stZ X65 hx hZ e65 Ar66 (j := (6 : Int32)) hin66 (g := (mkF m 137 #[.val (.int p1), .val (.ref b2), .unset, .unset] [(.int (1 : Int32)), (.int (6 : Int32)), (.ref b50), (.ref b50)])) rfl rfl (hb hby at_137)
    have nr67 : nar .boolean (1 : Int32) = (1 : Int32) := by decide
    rw [nr67] at W67
    have K67 : Keep h0 h67 [] := K65.wr W67 (Or.inr sz_b50)
    have N67 := Fr.snoc X67 N65 g_b50
    have cf68 := ((cf63.other W65 ne_b2_b50).other W67 ne_b2_b50)
    have V_b50_67 : Arv Z h67 b50 k50 .boolean (15 : Int32) [(.int (0 : Int32)), (.int (0 : Int32)), (.int (1 : Int32)), (.int (1 : Int32)), (.int (1 : Int32)), (.int (1 : Int32)), (.int (1 : Int32)), (.int (0 : Int32)), (.int (0 : Int32)), (.int (0 : Int32)), (.int (0 : Int32)), (.int (0 : Int32)), (.int (0 : Int32)), (.int (0 : Int32)), (.int (0 : Int32))] (.int (0 : Int32)) := Arv.set Ar66 qq66 Sz66 Nn66 Hs66 Gs66 rfl W67 6 rfl (Nat.le_of_ble_eq_true rfl)
    obtain ⟨cl69, Ar69, qq69, Sz69, Nn69, Hs69, Gs69⟩ := V_b50_67
    have hin69 : ¬ ((7 : Int32) < 0 ∨ cl69.slots.size ≤ ((7 : Int32)).toNatClampNeg) := inb_of Sz69 ⟨by decide, by decide⟩
    obtain ⟨T70, h70, X70, e70, W70, st70⟩ := stZ X67 hx hZ e67 Ar69 (j := (7 : Int32)) hin69 (g := (mkF m 142 #[.val (.int p1), .val (.ref b2), .unset, .unset] [(.int (1 : Int32)), (.int (7 : Int32)), (.ref b50), (.ref b50)])) rfl rfl (hb hby at_142)
    have nr70 : nar .boolean (1 : Int32) = (1 : Int32) := by decide
    rw [nr70] at W70
    have K70 : Keep h0 h70 [] := K67.wr W70 (Or.inr sz_b50)
    have N70 := Fr.snoc X70 N67 g_b50
    have V_b50_70 : Arv Z h70 b50 k50 .boolean (15 : Int32) [(.int (0 : Int32)), (.int (0 : Int32)), (.int (1 : Int32)), (.int (1 : Int32)), (.int (1 : Int32)), (.int (1 : Int32)), (.int (1 : Int32)), (.int (1 : Int32)), (.int (0 : Int32)), (.int (0 : Int32)), (.int (0 : Int32)), (.int (0 : Int32)), (.int (0 : Int32)), (.int (0 : Int32)), (.int (0 : Int32))] (.int (0 : Int32)) := Arv.set Ar69 qq69 Sz69 Nn69 Hs69 Gs69 rfl W70 7 rfl (Nat.le_of_ble_eq_true rfl)
    obtain ⟨cl71, Ar71, qq71, Sz71, Nn71, Hs71, Gs71⟩ := V_b50_70
    have hin71 : ¬ ((8 : Int32) < 0 ∨ cl71.slots.size ≤ ((8 : Int32)).toNatClampNeg) := inb_of Sz71 ⟨by decide, by decide⟩
    obtain ⟨T72, h72, X72, e72, W72, st72⟩ := stZ X70 hx hZ e70 Ar71 (j := (8 : Int32)) hin71 (g := (mkF m 147 #[.val (.int p1), .val (.ref b2), .unset, .unset] [(.int (1 : Int32)), (.int (8 : Int32)), (.ref b50), (.ref b50)])) rfl rfl (hb hby at_147)
    have nr72 : nar .boolean (1 : Int32) = (1 : Int32) := by decide
    rw [nr72] at W72
    have K72 : Keep h0 h72 [] := K70.wr W72 (Or.inr sz_b50)
    have N72 := Fr.snoc X72 N70 g_b50
    have cf73 := ((cf68.other W70 ne_b2_b50).other W72 ne_b2_b50)
    have V_b50_72 : Arv Z h72 b50 k50 .boolean (15 : Int32) [(.int (0 : Int32)), (.int (0 : Int32)), (.int (1 : Int32)), (.int (1 : Int32)), (.int (1 : Int32)), (.int (1 : Int32)), (.int (1 : Int32)), (.int (1 : Int32)), (.int (1 : Int32)), (.int (0 : Int32)), (.int (0 : Int32)), (.int (0 : Int32)), (.int (0 : Int32)), (.int (0 : Int32)), (.int (0 : Int32))] (.int (0 : Int32)) := Arv.set Ar71 qq71 Sz71 Nn71 Hs71 Gs71 rfl W72 8 rfl (Nat.le_of_ble_eq_true rfl)
    obtain ⟨cl74, Ar74, qq74, Sz74, Nn74, Hs74, Gs74⟩ := V_b50_72
    have hin74 : ¬ ((9 : Int32) < 0 ∨ cl74.slots.size ≤ ((9 : Int32)).toNatClampNeg) := inb_of Sz74 ⟨by decide, by decide⟩
    obtain ⟨T75, h75, X75, e75, W75, st75⟩ := stZ X72 hx hZ e72 Ar74 (j := (9 : Int32)) hin74 (g := (mkF m 152 #[.val (.int p1), .val (.ref b2), .unset, .unset] [(.int (1 : Int32)), (.int (9 : Int32)), (.ref b50), (.ref b50)])) rfl rfl (hb hby at_152)
    have nr75 : nar .boolean (1 : Int32) = (1 : Int32) := by decide
    rw [nr75] at W75
    have K75 : Keep h0 h75 [] := K72.wr W75 (Or.inr sz_b50)
    have N75 := Fr.snoc X75 N72 g_b50
    have V_b50_75 : Arv Z h75 b50 k50 .boolean (15 : Int32) [(.int (0 : Int32)), (.int (0 : Int32)), (.int (1 : Int32)), (.int (1 : Int32)), (.int (1 : Int32)), (.int (1 : Int32)), (.int (1 : Int32)), (.int (1 : Int32)), (.int (1 : Int32)), (.int (1 : Int32)), (.int (0 : Int32)), (.int (0 : Int32)), (.int (0 : Int32)), (.int (0 : Int32)), (.int (0 : Int32))] (.int (0 : Int32)) := Arv.set Ar74 qq74 Sz74 Nn74 Hs74 Gs74 rfl W75 9 rfl (Nat.le_of_ble_eq_true rfl)
    obtain ⟨cl76, Ar76, qq76, Sz76, Nn76, Hs76, Gs76⟩ := V_b50_75
    have hin76 : ¬ ((10 : Int32) < 0 ∨ cl76.slots.size ≤ ((10 : Int32)).toNatClampNeg) := inb_of Sz76 ⟨by decide, by decide⟩
    obtain ⟨T77, h77, X77, e77, W77, st77⟩ := stZ X75 hx hZ e75 Ar76 (j := (10 : Int32)) hin76 (g := (mkF m 157 #[.val (.int p1), .val (.ref b2), .unset, .unset] [(.int (1 : Int32)), (.int (10 : Int32)), (.ref b50), (.ref b50)])) rfl rfl (hb hby at_157)
    have nr77 : nar .boolean (1 : Int32) = (1 : Int32) := by decide
    rw [nr77] at W77
    have K77 : Keep h0 h77 [] := K75.wr W77 (Or.inr sz_b50)
    have N77 := Fr.snoc X77 N75 g_b50
    have cf78 := ((cf73.other W75 ne_b2_b50).other W77 ne_b2_b50)
    have V_b50_77 : Arv Z h77 b50 k50 .boolean (15 : Int32) [(.int (0 : Int32)), (.int (0 : Int32)), (.int (1 : Int32)), (.int (1 : Int32)), (.int (1 : Int32)), (.int (1 : Int32)), (.int (1 : Int32)), (.int (1 : Int32)), (.int (1 : Int32)), (.int (1 : Int32)), (.int (1 : Int32)), (.int (0 : Int32)), (.int (0 : Int32)), (.int (0 : Int32)), (.int (0 : Int32))] (.int (0 : Int32)) := Arv.set Ar76 qq76 Sz76 Nn76 Hs76 Gs76 rfl W77 10 rfl (Nat.le_of_ble_eq_true rfl)
    obtain ⟨cl79, Ar79, qq79, Sz79, Nn79, Hs79, Gs79⟩ := V_b50_77
    have hin79 : ¬ ((11 : Int32) < 0 ∨ cl79.slots.size ≤ ((11 : Int32)).toNatClampNeg) := inb_of Sz79 ⟨by decide, by decide⟩
    obtain ⟨T80, h80, X80, e80, W80, st80⟩ := stZ X77 hx hZ e77 Ar79 (j := (11 : Int32)) hin79 (g := (mkF m 162 #[.val (.int p1), .val (.ref b2), .unset, .unset] [(.int (0 : Int32)), (.int (11 : Int32)), (.ref b50), (.ref b50)])) rfl rfl (hb hby at_162)
    have nr80 : nar .boolean (0 : Int32) = (0 : Int32) := by decide
    rw [nr80] at W80
    have K80 : Keep h0 h80 [] := K77.wr W80 (Or.inr sz_b50)
    have N80 := Fr.snoc X80 N77 g_b50
    have V_b50_80 : Arv Z h80 b50 k50 .boolean (15 : Int32) [(.int (0 : Int32)), (.int (0 : Int32)), (.int (1 : Int32)), (.int (1 : Int32)), (.int (1 : Int32)), (.int (1 : Int32)), (.int (1 : Int32)), (.int (1 : Int32)), (.int (1 : Int32)), (.int (1 : Int32)), (.int (1 : Int32)), (.int (0 : Int32)), (.int (0 : Int32)), (.int (0 : Int32)), (.int (0 : Int32))] (.int (0 : Int32)) := Arv.set Ar79 qq79 Sz79 Nn79 Hs79 Gs79 rfl W80 11 rfl (Nat.le_of_ble_eq_true rfl)
    obtain ⟨cl81, Ar81, qq81, Sz81, Nn81, Hs81, Gs81⟩ := V_b50_80
    have hin81 : ¬ ((12 : Int32) < 0 ∨ cl81.slots.size ≤ ((12 : Int32)).toNatClampNeg) := inb_of Sz81 ⟨by decide, by decide⟩
    obtain ⟨T82, h82, X82, e82, W82, st82⟩ := stZ X80 hx hZ e80 Ar81 (j := (12 : Int32)) hin81 (g := (mkF m 167 #[.val (.int p1), .val (.ref b2), .unset, .unset] [(.int (1 : Int32)), (.int (12 : Int32)), (.ref b50), (.ref b50)])) rfl rfl (hb hby at_167)
    have nr82 : nar .boolean (1 : Int32) = (1 : Int32) := by decide
    rw [nr82] at W82
    have K82 : Keep h0 h82 [] := K80.wr W82 (Or.inr sz_b50)
    have N82 := Fr.snoc X82 N80 g_b50
    have cf83 := ((cf78.other W80 ne_b2_b50).other W82 ne_b2_b50)
    have V_b50_82 : Arv Z h82 b50 k50 .boolean (15 : Int32) [(.int (0 : Int32)), (.int (0 : Int32)), (.int (1 : Int32)), (.int (1 : Int32)), (.int (1 : Int32)), (.int (1 : Int32)), (.int (1 : Int32)), (.int (1 : Int32)), (.int (1 : Int32)), (.int (1 : Int32)), (.int (1 : Int32)), (.int (0 : Int32)), (.int (1 : Int32)), (.int (0 : Int32)), (.int (0 : Int32))] (.int (0 : Int32)) := Arv.set Ar81 qq81 Sz81 Nn81 Hs81 Gs81 rfl W82 12 rfl (Nat.le_of_ble_eq_true rfl)
    obtain ⟨cl84, Ar84, qq84, Sz84, Nn84, Hs84, Gs84⟩ := V_b50_82
    have hin84 : ¬ ((13 : Int32) < 0 ∨ cl84.slots.size ≤ ((13 : Int32)).toNatClampNeg) := inb_of Sz84 ⟨by decide, by decide⟩
    obtain ⟨T85, h85, X85, e85, W85, st85⟩ := stZ X82 hx hZ e82 Ar84 (j := (13 : Int32)) hin84 (g := (mkF m 172 #[.val (.int p1), .val (.ref b2), .unset, .unset] [(.int (1 : Int32)), (.int (13 : Int32)), (.ref b50), (.ref b50)])) rfl rfl (hb hby at_172)
    have nr85 : nar .boolean (1 : Int32) = (1 : Int32) := by decide
    rw [nr85] at W85
    have K85 : Keep h0 h85 [] := K82.wr W85 (Or.inr sz_b50)
    have N85 := Fr.snoc X85 N82 g_b50
    have V_b50_85 : Arv Z h85 b50 k50 .boolean (15 : Int32) [(.int (0 : Int32)), (.int (0 : Int32)), (.int (1 : Int32)), (.int (1 : Int32)), (.int (1 : Int32)), (.int (1 : Int32)), (.int (1 : Int32)), (.int (1 : Int32)), (.int (1 : Int32)), (.int (1 : Int32)), (.int (1 : Int32)), (.int (0 : Int32)), (.int (1 : Int32)), (.int (1 : Int32)), (.int (0 : Int32))] (.int (0 : Int32)) := Arv.set Ar84 qq84 Sz84 Nn84 Hs84 Gs84 rfl W85 13 rfl (Nat.le_of_ble_eq_true rfl)
    obtain ⟨cl86, Ar86, qq86, Sz86, Nn86, Hs86, Gs86⟩ := V_b50_85
    have hin86 : ¬ ((14 : Int32) < 0 ∨ cl86.slots.size ≤ ((14 : Int32)).toNatClampNeg) := inb_of Sz86 ⟨by decide, by decide⟩
    obtain ⟨T87, h87, X87, e87, W87, st87⟩ := stZ X85 hx hZ e85 Ar86 (j := (14 : Int32)) hin86 (g := (mkF m 177 #[.val (.int p1), .val (.ref b2), .unset, .unset] [(.int (1 : Int32)), (.int (14 : Int32)), (.ref b50), (.ref b50)])) rfl rfl (hb hby at_177)
    have nr87 : nar .boolean (1 : Int32) = (1 : Int32) := by decide
    rw [nr87] at W87
    have K87 : Keep h0 h87 [] := K85.wr W87 (Or.inr sz_b50)
    have N87 := Fr.snoc X87 N85 g_b50
    have cf88 := ((cf83.other W85 ne_b2_b50).other W87 ne_b2_b50)
    have V_b50_87 : Arv Z h87 b50 k50 .boolean (15 : Int32) [(.int (0 : Int32)), (.int (0 : Int32)), (.int (1 : Int32)), (.int (1 : Int32)), (.int (1 : Int32)), (.int (1 : Int32)), (.int (1 : Int32)), (.int (1 : Int32)), (.int (1 : Int32)), (.int (1 : Int32)), (.int (1 : Int32)), (.int (0 : Int32)), (.int (1 : Int32)), (.int (1 : Int32)), (.int (1 : Int32))] (.int (0 : Int32)) := Arv.set Ar86 qq86 Sz86 Nn86 Hs86 Gs86 rfl W87 14 rfl (Nat.le_of_ble_eq_true rfl)
    have k89 : ∀ t, Steps p.tables e below (T87.setTop (mkF m 179 #[.val (.int p1), .val (.ref b2), .val (.ref b50), .unset] [])) t → Steps p.tables e below (s₁.setTop (entryFrame m #[(.int p1)] maxLocals)) t := by
      intro t k
      refine k1 t ?_
      show Steps p.tables e below (T1.setTop (mkF m 105 #[.val (.int p1), .val (.ref b2), .unset, .unset] [])) _
      refine XS.bipush X1.here hx rfl (hb hby at_105) ?_
      show Steps p.tables e below (T1.setTop (mkF m 107 #[.val (.int p1), .val (.ref b2), .unset, .unset] [(.int (15 : Int32))])) _
      refine st50 _ ?_
      show Steps p.tables e below (T50.setTop (mkF m 109 #[.val (.int p1), .val (.ref b2), .unset, .unset] [(.ref b50)])) _
      refine XS.dup X50.here hx rfl (hb hby at_109) rfl rfl ?_
      show Steps p.tables e below (T50.setTop (mkF m 110 #[.val (.int p1), .val (.ref b2), .unset, .unset] [(.ref b50), (.ref b50)])) _
      refine XS.iconst X50.here hx rfl (hb hby at_110) ?_
      show Steps p.tables e below (T50.setTop (mkF m 111 #[.val (.int p1), .val (.ref b2), .unset, .unset] [(.int (0 : Int32)), (.ref b50), (.ref b50)])) _
      refine XS.iconst X50.here hx rfl (hb hby at_111) ?_
      show Steps p.tables e below (T50.setTop (mkF m 112 #[.val (.int p1), .val (.ref b2), .unset, .unset] [(.int (0 : Int32)), (.int (0 : Int32)), (.ref b50), (.ref b50)])) _
      refine st52 _ ?_
      show Steps p.tables e below (T52.setTop (mkF m 113 #[.val (.int p1), .val (.ref b2), .unset, .unset] [(.ref b50)])) _
      refine XS.dup X52.here hx rfl (hb hby at_113) rfl rfl ?_
      show Steps p.tables e below (T52.setTop (mkF m 114 #[.val (.int p1), .val (.ref b2), .unset, .unset] [(.ref b50), (.ref b50)])) _
      refine XS.iconst X52.here hx rfl (hb hby at_114) ?_
      show Steps p.tables e below (T52.setTop (mkF m 115 #[.val (.int p1), .val (.ref b2), .unset, .unset] [(.int (1 : Int32)), (.ref b50), (.ref b50)])) _
      refine XS.iconst X52.here hx rfl (hb hby at_115) ?_
      show Steps p.tables e below (T52.setTop (mkF m 116 #[.val (.int p1), .val (.ref b2), .unset, .unset] [(.int (0 : Int32)), (.int (1 : Int32)), (.ref b50), (.ref b50)])) _
      refine st55 _ ?_
      show Steps p.tables e below (T55.setTop (mkF m 117 #[.val (.int p1), .val (.ref b2), .unset, .unset] [(.ref b50)])) _
      refine XS.dup X55.here hx rfl (hb hby at_117) rfl rfl ?_
      show Steps p.tables e below (T55.setTop (mkF m 118 #[.val (.int p1), .val (.ref b2), .unset, .unset] [(.ref b50), (.ref b50)])) _
      refine XS.iconst X55.here hx rfl (hb hby at_118) ?_
      show Steps p.tables e below (T55.setTop (mkF m 119 #[.val (.int p1), .val (.ref b2), .unset, .unset] [(.int (2 : Int32)), (.ref b50), (.ref b50)])) _
      refine XS.iconst X55.here hx rfl (hb hby at_119) ?_
      show Steps p.tables e below (T55.setTop (mkF m 120 #[.val (.int p1), .val (.ref b2), .unset, .unset] [(.int (1 : Int32)), (.int (2 : Int32)), (.ref b50), (.ref b50)])) _
      refine st57 _ ?_
      show Steps p.tables e below (T57.setTop (mkF m 121 #[.val (.int p1), .val (.ref b2), .unset, .unset] [(.ref b50)])) _
      refine XS.dup X57.here hx rfl (hb hby at_121) rfl rfl ?_
      show Steps p.tables e below (T57.setTop (mkF m 122 #[.val (.int p1), .val (.ref b2), .unset, .unset] [(.ref b50), (.ref b50)])) _
      refine XS.iconst X57.here hx rfl (hb hby at_122) ?_
      show Steps p.tables e below (T57.setTop (mkF m 123 #[.val (.int p1), .val (.ref b2), .unset, .unset] [(.int (3 : Int32)), (.ref b50), (.ref b50)])) _
      refine XS.iconst X57.here hx rfl (hb hby at_123) ?_
      show Steps p.tables e below (T57.setTop (mkF m 124 #[.val (.int p1), .val (.ref b2), .unset, .unset] [(.int (1 : Int32)), (.int (3 : Int32)), (.ref b50), (.ref b50)])) _
      refine st60 _ ?_
      show Steps p.tables e below (T60.setTop (mkF m 125 #[.val (.int p1), .val (.ref b2), .unset, .unset] [(.ref b50)])) _
      refine XS.dup X60.here hx rfl (hb hby at_125) rfl rfl ?_
      show Steps p.tables e below (T60.setTop (mkF m 126 #[.val (.int p1), .val (.ref b2), .unset, .unset] [(.ref b50), (.ref b50)])) _
      refine XS.iconst X60.here hx rfl (hb hby at_126) ?_
      show Steps p.tables e below (T60.setTop (mkF m 127 #[.val (.int p1), .val (.ref b2), .unset, .unset] [(.int (4 : Int32)), (.ref b50), (.ref b50)])) _
      refine XS.iconst X60.here hx rfl (hb hby at_127) ?_
      show Steps p.tables e below (T60.setTop (mkF m 128 #[.val (.int p1), .val (.ref b2), .unset, .unset] [(.int (1 : Int32)), (.int (4 : Int32)), (.ref b50), (.ref b50)])) _
      refine st62 _ ?_
      show Steps p.tables e below (T62.setTop (mkF m 129 #[.val (.int p1), .val (.ref b2), .unset, .unset] [(.ref b50)])) _
      refine XS.dup X62.here hx rfl (hb hby at_129) rfl rfl ?_
      show Steps p.tables e below (T62.setTop (mkF m 130 #[.val (.int p1), .val (.ref b2), .unset, .unset] [(.ref b50), (.ref b50)])) _
      refine XS.iconst X62.here hx rfl (hb hby at_130) ?_
      show Steps p.tables e below (T62.setTop (mkF m 131 #[.val (.int p1), .val (.ref b2), .unset, .unset] [(.int (5 : Int32)), (.ref b50), (.ref b50)])) _
      refine XS.iconst X62.here hx rfl (hb hby at_131) ?_
      show Steps p.tables e below (T62.setTop (mkF m 132 #[.val (.int p1), .val (.ref b2), .unset, .unset] [(.int (1 : Int32)), (.int (5 : Int32)), (.ref b50), (.ref b50)])) _
      refine st65 _ ?_
      show Steps p.tables e below (T65.setTop (mkF m 133 #[.val (.int p1), .val (.ref b2), .unset, .unset] [(.ref b50)])) _
      refine XS.dup X65.here hx rfl (hb hby at_133) rfl rfl ?_
      show Steps p.tables e below (T65.setTop (mkF m 134 #[.val (.int p1), .val (.ref b2), .unset, .unset] [(.ref b50), (.ref b50)])) _
      refine XS.bipush X65.here hx rfl (hb hby at_134) ?_
      show Steps p.tables e below (T65.setTop (mkF m 136 #[.val (.int p1), .val (.ref b2), .unset, .unset] [(.int (6 : Int32)), (.ref b50), (.ref b50)])) _
      refine XS.iconst X65.here hx rfl (hb hby at_136) ?_
      show Steps p.tables e below (T65.setTop (mkF m 137 #[.val (.int p1), .val (.ref b2), .unset, .unset] [(.int (1 : Int32)), (.int (6 : Int32)), (.ref b50), (.ref b50)])) _
      refine st67 _ ?_
      show Steps p.tables e below (T67.setTop (mkF m 138 #[.val (.int p1), .val (.ref b2), .unset, .unset] [(.ref b50)])) _
      refine XS.dup X67.here hx rfl (hb hby at_138) rfl rfl ?_
      show Steps p.tables e below (T67.setTop (mkF m 139 #[.val (.int p1), .val (.ref b2), .unset, .unset] [(.ref b50), (.ref b50)])) _
      refine XS.bipush X67.here hx rfl (hb hby at_139) ?_
      show Steps p.tables e below (T67.setTop (mkF m 141 #[.val (.int p1), .val (.ref b2), .unset, .unset] [(.int (7 : Int32)), (.ref b50), (.ref b50)])) _
      refine XS.iconst X67.here hx rfl (hb hby at_141) ?_
      show Steps p.tables e below (T67.setTop (mkF m 142 #[.val (.int p1), .val (.ref b2), .unset, .unset] [(.int (1 : Int32)), (.int (7 : Int32)), (.ref b50), (.ref b50)])) _
      refine st70 _ ?_
      show Steps p.tables e below (T70.setTop (mkF m 143 #[.val (.int p1), .val (.ref b2), .unset, .unset] [(.ref b50)])) _
      refine XS.dup X70.here hx rfl (hb hby at_143) rfl rfl ?_
      show Steps p.tables e below (T70.setTop (mkF m 144 #[.val (.int p1), .val (.ref b2), .unset, .unset] [(.ref b50), (.ref b50)])) _
      refine XS.bipush X70.here hx rfl (hb hby at_144) ?_
      show Steps p.tables e below (T70.setTop (mkF m 146 #[.val (.int p1), .val (.ref b2), .unset, .unset] [(.int (8 : Int32)), (.ref b50), (.ref b50)])) _
      refine XS.iconst X70.here hx rfl (hb hby at_146) ?_
      show Steps p.tables e below (T70.setTop (mkF m 147 #[.val (.int p1), .val (.ref b2), .unset, .unset] [(.int (1 : Int32)), (.int (8 : Int32)), (.ref b50), (.ref b50)])) _
      refine st72 _ ?_
      show Steps p.tables e below (T72.setTop (mkF m 148 #[.val (.int p1), .val (.ref b2), .unset, .unset] [(.ref b50)])) _
      refine XS.dup X72.here hx rfl (hb hby at_148) rfl rfl ?_
      show Steps p.tables e below (T72.setTop (mkF m 149 #[.val (.int p1), .val (.ref b2), .unset, .unset] [(.ref b50), (.ref b50)])) _
      refine XS.bipush X72.here hx rfl (hb hby at_149) ?_
      show Steps p.tables e below (T72.setTop (mkF m 151 #[.val (.int p1), .val (.ref b2), .unset, .unset] [(.int (9 : Int32)), (.ref b50), (.ref b50)])) _
      refine XS.iconst X72.here hx rfl (hb hby at_151) ?_
      show Steps p.tables e below (T72.setTop (mkF m 152 #[.val (.int p1), .val (.ref b2), .unset, .unset] [(.int (1 : Int32)), (.int (9 : Int32)), (.ref b50), (.ref b50)])) _
      refine st75 _ ?_
      show Steps p.tables e below (T75.setTop (mkF m 153 #[.val (.int p1), .val (.ref b2), .unset, .unset] [(.ref b50)])) _
      refine XS.dup X75.here hx rfl (hb hby at_153) rfl rfl ?_
      show Steps p.tables e below (T75.setTop (mkF m 154 #[.val (.int p1), .val (.ref b2), .unset, .unset] [(.ref b50), (.ref b50)])) _
      refine XS.bipush X75.here hx rfl (hb hby at_154) ?_
      show Steps p.tables e below (T75.setTop (mkF m 156 #[.val (.int p1), .val (.ref b2), .unset, .unset] [(.int (10 : Int32)), (.ref b50), (.ref b50)])) _
      refine XS.iconst X75.here hx rfl (hb hby at_156) ?_
      show Steps p.tables e below (T75.setTop (mkF m 157 #[.val (.int p1), .val (.ref b2), .unset, .unset] [(.int (1 : Int32)), (.int (10 : Int32)), (.ref b50), (.ref b50)])) _
      refine st77 _ ?_
      show Steps p.tables e below (T77.setTop (mkF m 158 #[.val (.int p1), .val (.ref b2), .unset, .unset] [(.ref b50)])) _
      refine XS.dup X77.here hx rfl (hb hby at_158) rfl rfl ?_
      show Steps p.tables e below (T77.setTop (mkF m 159 #[.val (.int p1), .val (.ref b2), .unset, .unset] [(.ref b50), (.ref b50)])) _
      refine XS.bipush X77.here hx rfl (hb hby at_159) ?_
      show Steps p.tables e below (T77.setTop (mkF m 161 #[.val (.int p1), .val (.ref b2), .unset, .unset] [(.int (11 : Int32)), (.ref b50), (.ref b50)])) _
      refine XS.iconst X77.here hx rfl (hb hby at_161) ?_
      show Steps p.tables e below (T77.setTop (mkF m 162 #[.val (.int p1), .val (.ref b2), .unset, .unset] [(.int (0 : Int32)), (.int (11 : Int32)), (.ref b50), (.ref b50)])) _
      refine st80 _ ?_
      show Steps p.tables e below (T80.setTop (mkF m 163 #[.val (.int p1), .val (.ref b2), .unset, .unset] [(.ref b50)])) _
      refine XS.dup X80.here hx rfl (hb hby at_163) rfl rfl ?_
      show Steps p.tables e below (T80.setTop (mkF m 164 #[.val (.int p1), .val (.ref b2), .unset, .unset] [(.ref b50), (.ref b50)])) _
      refine XS.bipush X80.here hx rfl (hb hby at_164) ?_
      show Steps p.tables e below (T80.setTop (mkF m 166 #[.val (.int p1), .val (.ref b2), .unset, .unset] [(.int (12 : Int32)), (.ref b50), (.ref b50)])) _
      refine XS.iconst X80.here hx rfl (hb hby at_166) ?_
      show Steps p.tables e below (T80.setTop (mkF m 167 #[.val (.int p1), .val (.ref b2), .unset, .unset] [(.int (1 : Int32)), (.int (12 : Int32)), (.ref b50), (.ref b50)])) _
      refine st82 _ ?_
      show Steps p.tables e below (T82.setTop (mkF m 168 #[.val (.int p1), .val (.ref b2), .unset, .unset] [(.ref b50)])) _
      refine XS.dup X82.here hx rfl (hb hby at_168) rfl rfl ?_
      show Steps p.tables e below (T82.setTop (mkF m 169 #[.val (.int p1), .val (.ref b2), .unset, .unset] [(.ref b50), (.ref b50)])) _
      refine XS.bipush X82.here hx rfl (hb hby at_169) ?_
      show Steps p.tables e below (T82.setTop (mkF m 171 #[.val (.int p1), .val (.ref b2), .unset, .unset] [(.int (13 : Int32)), (.ref b50), (.ref b50)])) _
      refine XS.iconst X82.here hx rfl (hb hby at_171) ?_
      show Steps p.tables e below (T82.setTop (mkF m 172 #[.val (.int p1), .val (.ref b2), .unset, .unset] [(.int (1 : Int32)), (.int (13 : Int32)), (.ref b50), (.ref b50)])) _
      refine st85 _ ?_
      show Steps p.tables e below (T85.setTop (mkF m 173 #[.val (.int p1), .val (.ref b2), .unset, .unset] [(.ref b50)])) _
      refine XS.dup X85.here hx rfl (hb hby at_173) rfl rfl ?_
      show Steps p.tables e below (T85.setTop (mkF m 174 #[.val (.int p1), .val (.ref b2), .unset, .unset] [(.ref b50), (.ref b50)])) _
      refine XS.bipush X85.here hx rfl (hb hby at_174) ?_
      show Steps p.tables e below (T85.setTop (mkF m 176 #[.val (.int p1), .val (.ref b2), .unset, .unset] [(.int (14 : Int32)), (.ref b50), (.ref b50)])) _
      refine XS.iconst X85.here hx rfl (hb hby at_176) ?_
      show Steps p.tables e below (T85.setTop (mkF m 177 #[.val (.int p1), .val (.ref b2), .unset, .unset] [(.int (1 : Int32)), (.int (14 : Int32)), (.ref b50), (.ref b50)])) _
      refine st87 _ ?_
      show Steps p.tables e below (T87.setTop (mkF m 178 #[.val (.int p1), .val (.ref b2), .unset, .unset] [(.ref b50)])) _
      refine XS.astoreN X87.here hx rfl (hb hby at_178) rfl rfl (l' := #[.val (.int p1), .val (.ref b2), .val (.ref b50), .unset]) rfl ?_
      exact k
    exact ⟨b50, k50, _, T87, _, X87, e87, N87, K87, ⟨g_b50, sz_b50⟩, ne_b2_b50, cf88, V_b50_87, k89⟩
  have k90 : ∀ t, Steps p.tables e below (T49.setTop (mkF m 186 #[.val (.int p1), .val (.ref b2), .val (.ref b50), .unset] [(.int ((p1 &&& (2147483647 : Int32)) % (15 : Int32)))])) t → Steps p.tables e below (s₁.setTop (entryFrame m #[(.int p1)] maxLocals)) t := by
    intro t k
    refine k49 t ?_
    show Steps p.tables e below (T49.setTop (mkF m 179 #[.val (.int p1), .val (.ref b2), .val (.ref b50), .unset] [])) _
    refine XS.iloadN X49.here hx rfl (hb hby at_179) rfl ?_
    show Steps p.tables e below (T49.setTop (mkF m 180 #[.val (.int p1), .val (.ref b2), .val (.ref b50), .unset] [(.int p1)])) _
    refine X49.ldcInt hx hown (mvT hZ (hw _ (List.mem_of_getElem? (i := 35) rfl))) (g := (mkF m 180 #[.val (.int p1), .val (.ref b2), .val (.ref b50), .unset] [(.int p1)])) rfl (hb hby at_180) _ ?_
    show Steps p.tables e below (T49.setTop (mkF m 182 #[.val (.int p1), .val (.ref b2), .val (.ref b50), .unset] [(.int (2147483647 : Int32)), (.int p1)])) _
    refine XS.iand X49.here hx rfl (hb hby at_182) rfl ?_
    show Steps p.tables e below (T49.setTop (mkF m 183 #[.val (.int p1), .val (.ref b2), .val (.ref b50), .unset] [(.int (p1 &&& (2147483647 : Int32)))])) _
    refine XS.bipush X49.here hx rfl (hb hby at_183) ?_
    show Steps p.tables e below (T49.setTop (mkF m 185 #[.val (.int p1), .val (.ref b2), .val (.ref b50), .unset] [(.int (15 : Int32)), (.int (p1 &&& (2147483647 : Int32)))])) _
    refine iremM X49 hx rfl (hb hby at_185) rfl (by decide) ?_
    show Steps p.tables e below (T49.setTop (mkF m 186 #[.val (.int p1), .val (.ref b2), .val (.ref b50), .unset] [(.int ((p1 &&& (2147483647 : Int32)) % (15 : Int32)))])) _
    exact k
  rcases (own_c0 p1) with hk91_0 | hk92_1 | hk93_2 | hk94_3 | hk95_4 | hk96_5 | hk97_6 | hk98_7 | hk99_8 | hk100_9 | hk101_10 | hk102_11 | hk103_12 | hk104_13 | hk105_14
  ·
    obtain ⟨cl106, Ar106, qq106, Sz106, Nn106, Hs106, Gs106⟩ := pf49_0
    have hin106 : ¬ ((0 : Int32) < 0 ∨ cl106.slots.size ≤ ((0 : Int32)).toNatClampNeg) := inb_of Sz106 ⟨by decide, by decide⟩
    have hat106 : cl106.slots[((0 : Int32)).toNatClampNeg]? = some (.ref w_CONNECT) := Has.at Hs106 hin106 rfl
    obtain ⟨cq107, kq107, q107a, q107b, q107c⟩ := isOf hZ e49 (E_CONNECT.keep K49)
    obtain ⟨_, _, ⟨T107, L107, k107, n107⟩, -, X107, ⟨Lc107, hQ107, l107, y107, z107⟩, st107⟩ := X49.virtualBack hx (y := (⟨"com/example/grebe/grebe/frame/Command", "escapesHeaders", "()Z"⟩ : MethodName)) (z := (⟨"com/example/grebe/grebe/frame/Command", "escapesHeaders", "()Z"⟩ : MethodName)) hown (mvT hZ (hw _ (List.mem_of_getElem? (i := 36) rfl))) (mvT hZ (hw _ (List.mem_of_getElem? (i := 37) rfl))) (notFace_of_selects (args := #[]) (mvT hZ (hw _ (List.mem_of_getElem? (i := 39) rfl)))) (mvT hZ (hw _ (List.mem_of_getElem? (i := 39) rfl))) (mvT hZ (hw _ (List.mem_of_getElem? (i := 38) rfl))) (by decide) (backOf (W := 0) (rm1_0 l Z a0 hw [] w_CONNECT h49 n0 (Nat.le_trans Z0 K49.1) (own_staK S_CONNECT K49 all0)) hZ (hw _ (List.mem_of_getElem? (i := 40) rfl)) (hw _ (List.mem_of_getElem? (i := 3) rfl)) (by decide) (by decide)) q107a q107c (g := (mkF m 190 #[.val (.int p1), .val (.ref b2), .val (.ref b50), .val (.int (0 : Int32))] [(.ref w_CONNECT)])) rfl (by rw [hml]; rfl) (Steps.refl _) (argsL := []) (rest := []) (lenOf pd_0 rfl) rfl (by show 2 * 0 + _ ≤ _; exact Nat.le_of_eq rfl) (hb hby at_190) (fun _ _ => ⟨rfl, e49, (by decide : 2 + 0 ≤ _), (by decide : 30 + 0 ≤ _)⟩)
    dsimp only [Pt.U, Pt.locs, Pt.cells, Pt.slots] at X107 l107 y107 z107 st107 hQ107
    subst l107 y107 z107
    obtain ⟨rfl, N107q, e107⟩ := hQ107
    have N107 := Fr.app N49 N107q
    obtain ⟨cl108, Ar108, qq108, Sz108, Nn108, Hs108, Gs108⟩ := pf49_1
    have hin108 : ¬ ((0 : Int32) < 0 ∨ cl108.slots.size ≤ ((0 : Int32)).toNatClampNeg) := inb_of Sz108 ⟨by decide, by decide⟩
    have hat108 : cl108.slots[((0 : Int32)).toNatClampNeg]? = some (.int (0 : Int32)) := Has.at Hs108 hin108 rfl
    obtain ⟨fs, hr, hrun, hended, hW, hsame⟩ := X107.leave (v := some (.int (1 : Int32))) (fun h => by rw [Bd.returns] at h; cases h)
    refine ⟨_, _, k90 _ ?_, hrun, hended, _, _, rfl, ?_, ⟨_, rfl⟩, hW, hsame.mono (by decide) (by decide)⟩
    ·
      show Steps p.tables e below (T49.setTop (mkF m 186 #[.val (.int p1), .val (.ref b2), .val (.ref b50), .unset] [(.int ((p1 &&& (2147483647 : Int32)) % (15 : Int32)))])) _
      rewrite [hk91_0]
      show Steps p.tables e below (T49.setTop (mkF m 186 #[.val (.int p1), .val (.ref b2), .val (.ref b50), .unset] [(.int (0 : Int32))])) _
      refine XS.istoreN X49.here hx rfl (hb hby at_186) rfl (l' := #[.val (.int p1), .val (.ref b2), .val (.ref b50), .val (.int (0 : Int32))]) rfl ?_
      show Steps p.tables e below (T49.setTop (mkF m 187 #[.val (.int p1), .val (.ref b2), .val (.ref b50), .val (.int (0 : Int32))] [])) _
      refine XS.aloadN X49.here hx rfl (hb hby at_187) rfl rfl ?_
      show Steps p.tables e below (T49.setTop (mkF m 188 #[.val (.int p1), .val (.ref b2), .val (.ref b50), .val (.int (0 : Int32))] [(.ref b2)])) _
      refine XS.iloadN X49.here hx rfl (hb hby at_188) rfl ?_
      show Steps p.tables e below (T49.setTop (mkF m 189 #[.val (.int p1), .val (.ref b2), .val (.ref b50), .val (.int (0 : Int32))] [(.int (0 : Int32)), (.ref b2)])) _
      refine X49.aaload hx (j := (0 : Int32)) (v := (.ref w_CONNECT)) (by rw [e49]; exact Ar106.1) (State.isArrayOf_alike hZ.alike Ar106.2.1) rfl Ar106.2.2 hin106 hat106 (g := (mkF m 189 #[.val (.int p1), .val (.ref b2), .val (.ref b50), .val (.int (0 : Int32))] [(.int (0 : Int32)), (.ref b2)])) rfl rfl (hb hby at_189) _ ?_
      show Steps p.tables e below (T49.setTop (mkF m 190 #[.val (.int p1), .val (.ref b2), .val (.ref b50), .val (.int (0 : Int32))] [(.ref w_CONNECT)])) _
      refine st107.trans ?_
      show Steps p.tables e below (T107.setTop (mkF m 193 #[.val (.int p1), .val (.ref b2), .val (.ref b50), .val (.int (0 : Int32))] [(.int (0 : Int32))])) _
      refine XS.aloadN X107.here hx rfl (hb hby at_193) rfl rfl ?_
      show Steps p.tables e below (T107.setTop (mkF m 194 #[.val (.int p1), .val (.ref b2), .val (.ref b50), .val (.int (0 : Int32))] [(.ref b50), (.int (0 : Int32))])) _
      refine XS.iloadN X107.here hx rfl (hb hby at_194) rfl ?_
      show Steps p.tables e below (T107.setTop (mkF m 195 #[.val (.int p1), .val (.ref b2), .val (.ref b50), .val (.int (0 : Int32))] [(.int (0 : Int32)), (.ref b50), (.int (0 : Int32))])) _
      refine X107.baloadBooleans hx (j := (0 : Int32)) (v := (.int (0 : Int32))) (by rw [e107]; exact Ar108.1) (State.isArrayOf_alike hZ.alike Ar108.2.1) Ar108.2.2 hin108 hat108 (g := (mkF m 195 #[.val (.int p1), .val (.ref b2), .val (.ref b50), .val (.int (0 : Int32))] [(.int (0 : Int32)), (.ref b50), (.int (0 : Int32))])) rfl rfl (hb hby at_195) _ ?_
      show Steps p.tables e below (T107.setTop (mkF m 196 #[.val (.int p1), .val (.ref b2), .val (.ref b50), .val (.int (0 : Int32))] [(.int (0 : Int32)), (.int (0 : Int32))])) _
      refine XS.icmpNo X107.here hx rfl (hb hby at_196) rfl (teq (by decide : (0 : Int32) = (0 : Int32))).2 ?_
      show Steps p.tables e below (T107.setTop (mkF m 199 #[.val (.int p1), .val (.ref b2), .val (.ref b50), .val (.int (0 : Int32))] [])) _
      refine XS.iconst X107.here hx rfl (hb hby at_199) ?_
      show Steps p.tables e below (T107.setTop (mkF m 200 #[.val (.int p1), .val (.ref b2), .val (.ref b50), .val (.int (0 : Int32))] [(.int (1 : Int32))])) _
      refine XS.goto X107.here hx rfl (pc0 := 200) (pc' := 204) rfl (hb hby at_200) (by decide) (by decide) ?_
      show Steps p.tables e below (T107.setTop (mkF m 204 #[.val (.int p1), .val (.ref b2), .val (.ref b50), .val (.int (0 : Int32))] [(.int (1 : Int32))])) _
      exact retN X107 hx (t := .boolean) Bd.returns (by simp) (hb hby at_204) hr
    · show Q0_0 Z p1 w_CONNECT w_STOMP w_SEND w_SUBSCRIBE w_UNSUBSCRIBE w_ACK w_NACK w_BEGIN w_COMMIT w_ABORT w_DISCONNECT w_CONNECTED w_MESSAGE w_RECEIPT w_ERROR h0 n0 _ T107.heap _
      rw [e107]
      exact ⟨rfl, N107⟩
  ·
    obtain ⟨cl109, Ar109, qq109, Sz109, Nn109, Hs109, Gs109⟩ := pf49_0
    have hin109 : ¬ ((1 : Int32) < 0 ∨ cl109.slots.size ≤ ((1 : Int32)).toNatClampNeg) := inb_of Sz109 ⟨by decide, by decide⟩
    have hat109 : cl109.slots[((1 : Int32)).toNatClampNeg]? = some (.ref w_STOMP) := Has.at Hs109 hin109 rfl
    obtain ⟨cq110, kq110, q110a, q110b, q110c⟩ := isOf hZ e49 (E_STOMP.keep K49)
    obtain ⟨_, _, ⟨T110, L110, k110, n110⟩, -, X110, ⟨Lc110, hQ110, l110, y110, z110⟩, st110⟩ := X49.virtualBack hx (y := (⟨"com/example/grebe/grebe/frame/Command", "escapesHeaders", "()Z"⟩ : MethodName)) (z := (⟨"com/example/grebe/grebe/frame/Command", "escapesHeaders", "()Z"⟩ : MethodName)) hown (mvT hZ (hw _ (List.mem_of_getElem? (i := 36) rfl))) (mvT hZ (hw _ (List.mem_of_getElem? (i := 37) rfl))) (notFace_of_selects (args := #[]) (mvT hZ (hw _ (List.mem_of_getElem? (i := 39) rfl)))) (mvT hZ (hw _ (List.mem_of_getElem? (i := 39) rfl))) (mvT hZ (hw _ (List.mem_of_getElem? (i := 38) rfl))) (by decide) (backOf (W := 0) (rm1_1 l Z a0 hw [] w_CONNECT w_STOMP h49 n0 (Nat.le_trans Z0 K49.1) (own_staK S_CONNECT K49 all0) ne_CONNECT_STOMP (own_staK S_STOMP K49 all0)) hZ (hw _ (List.mem_of_getElem? (i := 40) rfl)) (hw _ (List.mem_of_getElem? (i := 3) rfl)) (by decide) (by decide)) q110a q110c (g := (mkF m 190 #[.val (.int p1), .val (.ref b2), .val (.ref b50), .val (.int (1 : Int32))] [(.ref w_STOMP)])) rfl (by rw [hml]; rfl) (Steps.refl _) (argsL := []) (rest := []) (lenOf pd_0 rfl) rfl (by show 2 * 0 + _ ≤ _; exact Nat.le_of_eq rfl) (hb hby at_190) (fun _ _ => ⟨rfl, e49, (by decide : 2 + 0 ≤ _), (by decide : 30 + 0 ≤ _)⟩)
    dsimp only [Pt.U, Pt.locs, Pt.cells, Pt.slots] at X110 l110 y110 z110 st110 hQ110
    subst l110 y110 z110
    obtain ⟨rfl, N110q, e110⟩ := hQ110
    have N110 := Fr.app N49 N110q
    obtain ⟨cl111, Ar111, qq111, Sz111, Nn111, Hs111, Gs111⟩ := pf49_1
    have hin111 : ¬ ((1 : Int32) < 0 ∨ cl111.slots.size ≤ ((1 : Int32)).toNatClampNeg) := inb_of Sz111 ⟨by decide, by decide⟩
    have hat111 : cl111.slots[((1 : Int32)).toNatClampNeg]? = some (.int (0 : Int32)) := Has.at Hs111 hin111 rfl
    obtain ⟨fs, hr, hrun, hended, hW, hsame⟩ := X110.leave (v := some (.int (1 : Int32))) (fun h => by rw [Bd.returns] at h; cases h)
    refine ⟨_, _, k90 _ ?_, hrun, hended, _, _, rfl, ?_, ⟨_, rfl⟩, hW, hsame.mono (by decide) (by decide)⟩
    ·
      show Steps p.tables e below (T49.setTop (mkF m 186 #[.val (.int p1), .val (.ref b2), .val (.ref b50), .unset] [(.int ((p1 &&& (2147483647 : Int32)) % (15 : Int32)))])) _
      rewrite [hk92_1]
      show Steps p.tables e below (T49.setTop (mkF m 186 #[.val (.int p1), .val (.ref b2), .val (.ref b50), .unset] [(.int (1 : Int32))])) _
      refine XS.istoreN X49.here hx rfl (hb hby at_186) rfl (l' := #[.val (.int p1), .val (.ref b2), .val (.ref b50), .val (.int (1 : Int32))]) rfl ?_
      show Steps p.tables e below (T49.setTop (mkF m 187 #[.val (.int p1), .val (.ref b2), .val (.ref b50), .val (.int (1 : Int32))] [])) _
      refine XS.aloadN X49.here hx rfl (hb hby at_187) rfl rfl ?_
      show Steps p.tables e below (T49.setTop (mkF m 188 #[.val (.int p1), .val (.ref b2), .val (.ref b50), .val (.int (1 : Int32))] [(.ref b2)])) _
      refine XS.iloadN X49.here hx rfl (hb hby at_188) rfl ?_
      show Steps p.tables e below (T49.setTop (mkF m 189 #[.val (.int p1), .val (.ref b2), .val (.ref b50), .val (.int (1 : Int32))] [(.int (1 : Int32)), (.ref b2)])) _
      refine X49.aaload hx (j := (1 : Int32)) (v := (.ref w_STOMP)) (by rw [e49]; exact Ar109.1) (State.isArrayOf_alike hZ.alike Ar109.2.1) rfl Ar109.2.2 hin109 hat109 (g := (mkF m 189 #[.val (.int p1), .val (.ref b2), .val (.ref b50), .val (.int (1 : Int32))] [(.int (1 : Int32)), (.ref b2)])) rfl rfl (hb hby at_189) _ ?_
      show Steps p.tables e below (T49.setTop (mkF m 190 #[.val (.int p1), .val (.ref b2), .val (.ref b50), .val (.int (1 : Int32))] [(.ref w_STOMP)])) _
      refine st110.trans ?_
      show Steps p.tables e below (T110.setTop (mkF m 193 #[.val (.int p1), .val (.ref b2), .val (.ref b50), .val (.int (1 : Int32))] [(.int (0 : Int32))])) _
      refine XS.aloadN X110.here hx rfl (hb hby at_193) rfl rfl ?_
      show Steps p.tables e below (T110.setTop (mkF m 194 #[.val (.int p1), .val (.ref b2), .val (.ref b50), .val (.int (1 : Int32))] [(.ref b50), (.int (0 : Int32))])) _
      refine XS.iloadN X110.here hx rfl (hb hby at_194) rfl ?_
      show Steps p.tables e below (T110.setTop (mkF m 195 #[.val (.int p1), .val (.ref b2), .val (.ref b50), .val (.int (1 : Int32))] [(.int (1 : Int32)), (.ref b50), (.int (0 : Int32))])) _
      refine X110.baloadBooleans hx (j := (1 : Int32)) (v := (.int (0 : Int32))) (by rw [e110]; exact Ar111.1) (State.isArrayOf_alike hZ.alike Ar111.2.1) Ar111.2.2 hin111 hat111 (g := (mkF m 195 #[.val (.int p1), .val (.ref b2), .val (.ref b50), .val (.int (1 : Int32))] [(.int (1 : Int32)), (.ref b50), (.int (0 : Int32))])) rfl rfl (hb hby at_195) _ ?_
      show Steps p.tables e below (T110.setTop (mkF m 196 #[.val (.int p1), .val (.ref b2), .val (.ref b50), .val (.int (1 : Int32))] [(.int (0 : Int32)), (.int (0 : Int32))])) _
      refine XS.icmpNo X110.here hx rfl (hb hby at_196) rfl (teq (by decide : (0 : Int32) = (0 : Int32))).2 ?_
      show Steps p.tables e below (T110.setTop (mkF m 199 #[.val (.int p1), .val (.ref b2), .val (.ref b50), .val (.int (1 : Int32))] [])) _
      refine XS.iconst X110.here hx rfl (hb hby at_199) ?_
      show Steps p.tables e below (T110.setTop (mkF m 200 #[.val (.int p1), .val (.ref b2), .val (.ref b50), .val (.int (1 : Int32))] [(.int (1 : Int32))])) _
      refine XS.goto X110.here hx rfl (pc0 := 200) (pc' := 204) rfl (hb hby at_200) (by decide) (by decide) ?_
      show Steps p.tables e below (T110.setTop (mkF m 204 #[.val (.int p1), .val (.ref b2), .val (.ref b50), .val (.int (1 : Int32))] [(.int (1 : Int32))])) _
      exact retN X110 hx (t := .boolean) Bd.returns (by simp) (hb hby at_204) hr
    · show Q0_0 Z p1 w_CONNECT w_STOMP w_SEND w_SUBSCRIBE w_UNSUBSCRIBE w_ACK w_NACK w_BEGIN w_COMMIT w_ABORT w_DISCONNECT w_CONNECTED w_MESSAGE w_RECEIPT w_ERROR h0 n0 _ T110.heap _
      rw [e110]
      exact ⟨rfl, N110⟩
  ·
    obtain ⟨cl112, Ar112, qq112, Sz112, Nn112, Hs112, Gs112⟩ := pf49_0
    have hin112 : ¬ ((2 : Int32) < 0 ∨ cl112.slots.size ≤ ((2 : Int32)).toNatClampNeg) := inb_of Sz112 ⟨by decide, by decide⟩
    have hat112 : cl112.slots[((2 : Int32)).toNatClampNeg]? = some (.ref w_SEND) := Has.at Hs112 hin112 rfl
    obtain ⟨cq113, kq113, q113a, q113b, q113c⟩ := isOf hZ e49 (E_SEND.keep K49)
    obtain ⟨_, _, ⟨T113, L113, k113, n113⟩, -, X113, ⟨Lc113, hQ113, l113, y113, z113⟩, st113⟩ := X49.virtualBack hx (y := (⟨"com/example/grebe/grebe/frame/Command", "escapesHeaders", "()Z"⟩ : MethodName)) (z := (⟨"com/example/grebe/grebe/frame/Command", "escapesHeaders", "()Z"⟩ : MethodName)) hown (mvT hZ (hw _ (List.mem_of_getElem? (i := 36) rfl))) (mvT hZ (hw _ (List.mem_of_getElem? (i := 37) rfl))) (notFace_of_selects (args := #[]) (mvT hZ (hw _ (List.mem_of_getElem? (i := 39) rfl)))) (mvT hZ (hw _ (List.mem_of_getElem? (i := 39) rfl))) (mvT hZ (hw _ (List.mem_of_getElem? (i := 38) rfl))) (by decide) (backOf (W := 0) (rm1_2 l Z a0 hw [] w_CONNECT w_STOMP w_SEND w_CONNECTED h49 n0 (Nat.le_trans Z0 K49.1) (own_staK S_CONNECT K49 all0) ne_CONNECT_SEND (own_staK S_STOMP K49 all0) ne_SEND_STOMP (own_staK S_CONNECTED K49 all0) ne_CONNECTED_SEND) hZ (hw _ (List.mem_of_getElem? (i := 40) rfl)) (hw _ (List.mem_of_getElem? (i := 3) rfl)) (by decide) (by decide)) q113a q113c (g := (mkF m 190 #[.val (.int p1), .val (.ref b2), .val (.ref b50), .val (.int (2 : Int32))] [(.ref w_SEND)])) rfl (by rw [hml]; rfl) (Steps.refl _) (argsL := []) (rest := []) (lenOf pd_0 rfl) rfl (by show 2 * 0 + _ ≤ _; exact Nat.le_of_eq rfl) (hb hby at_190) (fun _ _ => ⟨rfl, e49, (by decide : 2 + 0 ≤ _), (by decide : 30 + 0 ≤ _)⟩)
    dsimp only [Pt.U, Pt.locs, Pt.cells, Pt.slots] at X113 l113 y113 z113 st113 hQ113
    subst l113 y113 z113
    obtain ⟨rfl, N113q, e113⟩ := hQ113
    have N113 := Fr.app N49 N113q
    obtain ⟨cl114, Ar114, qq114, Sz114, Nn114, Hs114, Gs114⟩ := pf49_1
    have hin114 : ¬ ((2 : Int32) < 0 ∨ cl114.slots.size ≤ ((2 : Int32)).toNatClampNeg) := inb_of Sz114 ⟨by decide, by decide⟩
    have hat114 : cl114.slots[((2 : Int32)).toNatClampNeg]? = some (.int (1 : Int32)) := Has.at Hs114 hin114 rfl
    obtain ⟨fs, hr, hrun, hended, hW, hsame⟩ := X113.leave (v := some (.int (1 : Int32))) (fun h => by rw [Bd.returns] at h; cases h)
    refine ⟨_, _, k90 _ ?_, hrun, hended, _, _, rfl, ?_, ⟨_, rfl⟩, hW, hsame.mono (by decide) (by decide)⟩
    ·
      show Steps p.tables e below (T49.setTop (mkF m 186 #[.val (.int p1), .val (.ref b2), .val (.ref b50), .unset] [(.int ((p1 &&& (2147483647 : Int32)) % (15 : Int32)))])) _
      rewrite [hk93_2]
      show Steps p.tables e below (T49.setTop (mkF m 186 #[.val (.int p1), .val (.ref b2), .val (.ref b50), .unset] [(.int (2 : Int32))])) _
      refine XS.istoreN X49.here hx rfl (hb hby at_186) rfl (l' := #[.val (.int p1), .val (.ref b2), .val (.ref b50), .val (.int (2 : Int32))]) rfl ?_
      show Steps p.tables e below (T49.setTop (mkF m 187 #[.val (.int p1), .val (.ref b2), .val (.ref b50), .val (.int (2 : Int32))] [])) _
      refine XS.aloadN X49.here hx rfl (hb hby at_187) rfl rfl ?_
      show Steps p.tables e below (T49.setTop (mkF m 188 #[.val (.int p1), .val (.ref b2), .val (.ref b50), .val (.int (2 : Int32))] [(.ref b2)])) _
      refine XS.iloadN X49.here hx rfl (hb hby at_188) rfl ?_
      show Steps p.tables e below (T49.setTop (mkF m 189 #[.val (.int p1), .val (.ref b2), .val (.ref b50), .val (.int (2 : Int32))] [(.int (2 : Int32)), (.ref b2)])) _
      refine X49.aaload hx (j := (2 : Int32)) (v := (.ref w_SEND)) (by rw [e49]; exact Ar112.1) (State.isArrayOf_alike hZ.alike Ar112.2.1) rfl Ar112.2.2 hin112 hat112 (g := (mkF m 189 #[.val (.int p1), .val (.ref b2), .val (.ref b50), .val (.int (2 : Int32))] [(.int (2 : Int32)), (.ref b2)])) rfl rfl (hb hby at_189) _ ?_
      show Steps p.tables e below (T49.setTop (mkF m 190 #[.val (.int p1), .val (.ref b2), .val (.ref b50), .val (.int (2 : Int32))] [(.ref w_SEND)])) _
      refine st113.trans ?_
      show Steps p.tables e below (T113.setTop (mkF m 193 #[.val (.int p1), .val (.ref b2), .val (.ref b50), .val (.int (2 : Int32))] [(.int (1 : Int32))])) _
      refine XS.aloadN X113.here hx rfl (hb hby at_193) rfl rfl ?_
      show Steps p.tables e below (T113.setTop (mkF m 194 #[.val (.int p1), .val (.ref b2), .val (.ref b50), .val (.int (2 : Int32))] [(.ref b50), (.int (1 : Int32))])) _
      refine XS.iloadN X113.here hx rfl (hb hby at_194) rfl ?_
      show Steps p.tables e below (T113.setTop (mkF m 195 #[.val (.int p1), .val (.ref b2), .val (.ref b50), .val (.int (2 : Int32))] [(.int (2 : Int32)), (.ref b50), (.int (1 : Int32))])) _
      refine X113.baloadBooleans hx (j := (2 : Int32)) (v := (.int (1 : Int32))) (by rw [e113]; exact Ar114.1) (State.isArrayOf_alike hZ.alike Ar114.2.1) Ar114.2.2 hin114 hat114 (g := (mkF m 195 #[.val (.int p1), .val (.ref b2), .val (.ref b50), .val (.int (2 : Int32))] [(.int (2 : Int32)), (.ref b50), (.int (1 : Int32))])) rfl rfl (hb hby at_195) _ ?_
      show Steps p.tables e below (T113.setTop (mkF m 196 #[.val (.int p1), .val (.ref b2), .val (.ref b50), .val (.int (2 : Int32))] [(.int (1 : Int32)), (.int (1 : Int32))])) _
      refine XS.icmpNo X113.here hx rfl (hb hby at_196) rfl (teq (by decide : (1 : Int32) = (1 : Int32))).2 ?_
      show Steps p.tables e below (T113.setTop (mkF m 199 #[.val (.int p1), .val (.ref b2), .val (.ref b50), .val (.int (2 : Int32))] [])) _
      refine XS.iconst X113.here hx rfl (hb hby at_199) ?_
      show Steps p.tables e below (T113.setTop (mkF m 200 #[.val (.int p1), .val (.ref b2), .val (.ref b50), .val (.int (2 : Int32))] [(.int (1 : Int32))])) _
      refine XS.goto X113.here hx rfl (pc0 := 200) (pc' := 204) rfl (hb hby at_200) (by decide) (by decide) ?_
      show Steps p.tables e below (T113.setTop (mkF m 204 #[.val (.int p1), .val (.ref b2), .val (.ref b50), .val (.int (2 : Int32))] [(.int (1 : Int32))])) _
      exact retN X113 hx (t := .boolean) Bd.returns (by simp) (hb hby at_204) hr
    · show Q0_0 Z p1 w_CONNECT w_STOMP w_SEND w_SUBSCRIBE w_UNSUBSCRIBE w_ACK w_NACK w_BEGIN w_COMMIT w_ABORT w_DISCONNECT w_CONNECTED w_MESSAGE w_RECEIPT w_ERROR h0 n0 _ T113.heap _
      rw [e113]
      exact ⟨rfl, N113⟩
  ·
    obtain ⟨cl115, Ar115, qq115, Sz115, Nn115, Hs115, Gs115⟩ := pf49_0
    have hin115 : ¬ ((3 : Int32) < 0 ∨ cl115.slots.size ≤ ((3 : Int32)).toNatClampNeg) := inb_of Sz115 ⟨by decide, by decide⟩
    have hat115 : cl115.slots[((3 : Int32)).toNatClampNeg]? = some (.ref w_SUBSCRIBE) := Has.at Hs115 hin115 rfl
    obtain ⟨cq116, kq116, q116a, q116b, q116c⟩ := isOf hZ e49 (E_SUBSCRIBE.keep K49)
    obtain ⟨_, _, ⟨T116, L116, k116, n116⟩, -, X116, ⟨Lc116, hQ116, l116, y116, z116⟩, st116⟩ := X49.virtualBack hx (y := (⟨"com/example/grebe/grebe/frame/Command", "escapesHeaders", "()Z"⟩ : MethodName)) (z := (⟨"com/example/grebe/grebe/frame/Command", "escapesHeaders", "()Z"⟩ : MethodName)) hown (mvT hZ (hw _ (List.mem_of_getElem? (i := 36) rfl))) (mvT hZ (hw _ (List.mem_of_getElem? (i := 37) rfl))) (notFace_of_selects (args := #[]) (mvT hZ (hw _ (List.mem_of_getElem? (i := 39) rfl)))) (mvT hZ (hw _ (List.mem_of_getElem? (i := 39) rfl))) (mvT hZ (hw _ (List.mem_of_getElem? (i := 38) rfl))) (by decide) (backOf (W := 0) (rm1_3 l Z a0 hw [] w_CONNECT w_STOMP w_SUBSCRIBE w_CONNECTED h49 n0 (Nat.le_trans Z0 K49.1) (own_staK S_CONNECT K49 all0) ne_CONNECT_SUBSCRIBE (own_staK S_STOMP K49 all0) ne_STOMP_SUBSCRIBE (own_staK S_CONNECTED K49 all0) ne_CONNECTED_SUBSCRIBE) hZ (hw _ (List.mem_of_getElem? (i := 40) rfl)) (hw _ (List.mem_of_getElem? (i := 3) rfl)) (by decide) (by decide)) q116a q116c (g := (mkF m 190 #[.val (.int p1), .val (.ref b2), .val (.ref b50), .val (.int (3 : Int32))] [(.ref w_SUBSCRIBE)])) rfl (by rw [hml]; rfl) (Steps.refl _) (argsL := []) (rest := []) (lenOf pd_0 rfl) rfl (by show 2 * 0 + _ ≤ _; exact Nat.le_of_eq rfl) (hb hby at_190) (fun _ _ => ⟨rfl, e49, (by decide : 2 + 0 ≤ _), (by decide : 30 + 0 ≤ _)⟩)
    dsimp only [Pt.U, Pt.locs, Pt.cells, Pt.slots] at X116 l116 y116 z116 st116 hQ116
    subst l116 y116 z116
    obtain ⟨rfl, N116q, e116⟩ := hQ116
    have N116 := Fr.app N49 N116q
    obtain ⟨cl117, Ar117, qq117, Sz117, Nn117, Hs117, Gs117⟩ := pf49_1
    have hin117 : ¬ ((3 : Int32) < 0 ∨ cl117.slots.size ≤ ((3 : Int32)).toNatClampNeg) := inb_of Sz117 ⟨by decide, by decide⟩
    have hat117 : cl117.slots[((3 : Int32)).toNatClampNeg]? = some (.int (1 : Int32)) := Has.at Hs117 hin117 rfl
    obtain ⟨fs, hr, hrun, hended, hW, hsame⟩ := X116.leave (v := some (.int (1 : Int32))) (fun h => by rw [Bd.returns] at h; cases h)
    refine ⟨_, _, k90 _ ?_, hrun, hended, _, _, rfl, ?_, ⟨_, rfl⟩, hW, hsame.mono (by decide) (by decide)⟩
    ·
      show Steps p.tables e below (T49.setTop (mkF m 186 #[.val (.int p1), .val (.ref b2), .val (.ref b50), .unset] [(.int ((p1 &&& (2147483647 : Int32)) % (15 : Int32)))])) _
      rewrite [hk94_3]
      show Steps p.tables e below (T49.setTop (mkF m 186 #[.val (.int p1), .val (.ref b2), .val (.ref b50), .unset] [(.int (3 : Int32))])) _
      refine XS.istoreN X49.here hx rfl (hb hby at_186) rfl (l' := #[.val (.int p1), .val (.ref b2), .val (.ref b50), .val (.int (3 : Int32))]) rfl ?_
      show Steps p.tables e below (T49.setTop (mkF m 187 #[.val (.int p1), .val (.ref b2), .val (.ref b50), .val (.int (3 : Int32))] [])) _
      refine XS.aloadN X49.here hx rfl (hb hby at_187) rfl rfl ?_
      show Steps p.tables e below (T49.setTop (mkF m 188 #[.val (.int p1), .val (.ref b2), .val (.ref b50), .val (.int (3 : Int32))] [(.ref b2)])) _
      refine XS.iloadN X49.here hx rfl (hb hby at_188) rfl ?_
      show Steps p.tables e below (T49.setTop (mkF m 189 #[.val (.int p1), .val (.ref b2), .val (.ref b50), .val (.int (3 : Int32))] [(.int (3 : Int32)), (.ref b2)])) _
      refine X49.aaload hx (j := (3 : Int32)) (v := (.ref w_SUBSCRIBE)) (by rw [e49]; exact Ar115.1) (State.isArrayOf_alike hZ.alike Ar115.2.1) rfl Ar115.2.2 hin115 hat115 (g := (mkF m 189 #[.val (.int p1), .val (.ref b2), .val (.ref b50), .val (.int (3 : Int32))] [(.int (3 : Int32)), (.ref b2)])) rfl rfl (hb hby at_189) _ ?_
      show Steps p.tables e below (T49.setTop (mkF m 190 #[.val (.int p1), .val (.ref b2), .val (.ref b50), .val (.int (3 : Int32))] [(.ref w_SUBSCRIBE)])) _
      refine st116.trans ?_
      show Steps p.tables e below (T116.setTop (mkF m 193 #[.val (.int p1), .val (.ref b2), .val (.ref b50), .val (.int (3 : Int32))] [(.int (1 : Int32))])) _
      refine XS.aloadN X116.here hx rfl (hb hby at_193) rfl rfl ?_
      show Steps p.tables e below (T116.setTop (mkF m 194 #[.val (.int p1), .val (.ref b2), .val (.ref b50), .val (.int (3 : Int32))] [(.ref b50), (.int (1 : Int32))])) _
      refine XS.iloadN X116.here hx rfl (hb hby at_194) rfl ?_
      show Steps p.tables e below (T116.setTop (mkF m 195 #[.val (.int p1), .val (.ref b2), .val (.ref b50), .val (.int (3 : Int32))] [(.int (3 : Int32)), (.ref b50), (.int (1 : Int32))])) _
      refine X116.baloadBooleans hx (j := (3 : Int32)) (v := (.int (1 : Int32))) (by rw [e116]; exact Ar117.1) (State.isArrayOf_alike hZ.alike Ar117.2.1) Ar117.2.2 hin117 hat117 (g := (mkF m 195 #[.val (.int p1), .val (.ref b2), .val (.ref b50), .val (.int (3 : Int32))] [(.int (3 : Int32)), (.ref b50), (.int (1 : Int32))])) rfl rfl (hb hby at_195) _ ?_
      show Steps p.tables e below (T116.setTop (mkF m 196 #[.val (.int p1), .val (.ref b2), .val (.ref b50), .val (.int (3 : Int32))] [(.int (1 : Int32)), (.int (1 : Int32))])) _
      refine XS.icmpNo X116.here hx rfl (hb hby at_196) rfl (teq (by decide : (1 : Int32) = (1 : Int32))).2 ?_
      show Steps p.tables e below (T116.setTop (mkF m 199 #[.val (.int p1), .val (.ref b2), .val (.ref b50), .val (.int (3 : Int32))] [])) _
      refine XS.iconst X116.here hx rfl (hb hby at_199) ?_
      show Steps p.tables e below (T116.setTop (mkF m 200 #[.val (.int p1), .val (.ref b2), .val (.ref b50), .val (.int (3 : Int32))] [(.int (1 : Int32))])) _
      refine XS.goto X116.here hx rfl (pc0 := 200) (pc' := 204) rfl (hb hby at_200) (by decide) (by decide) ?_
      show Steps p.tables e below (T116.setTop (mkF m 204 #[.val (.int p1), .val (.ref b2), .val (.ref b50), .val (.int (3 : Int32))] [(.int (1 : Int32))])) _
      exact retN X116 hx (t := .boolean) Bd.returns (by simp) (hb hby at_204) hr
    · show Q0_0 Z p1 w_CONNECT w_STOMP w_SEND w_SUBSCRIBE w_UNSUBSCRIBE w_ACK w_NACK w_BEGIN w_COMMIT w_ABORT w_DISCONNECT w_CONNECTED w_MESSAGE w_RECEIPT w_ERROR h0 n0 _ T116.heap _
      rw [e116]
      exact ⟨rfl, N116⟩
  ·
    obtain ⟨cl118, Ar118, qq118, Sz118, Nn118, Hs118, Gs118⟩ := pf49_0
    have hin118 : ¬ ((4 : Int32) < 0 ∨ cl118.slots.size ≤ ((4 : Int32)).toNatClampNeg) := inb_of Sz118 ⟨by decide, by decide⟩
    have hat118 : cl118.slots[((4 : Int32)).toNatClampNeg]? = some (.ref w_UNSUBSCRIBE) := Has.at Hs118 hin118 rfl
    obtain ⟨cq119, kq119, q119a, q119b, q119c⟩ := isOf hZ e49 (E_UNSUBSCRIBE.keep K49)
    obtain ⟨_, _, ⟨T119, L119, k119, n119⟩, -, X119, ⟨Lc119, hQ119, l119, y119, z119⟩, st119⟩ := X49.virtualBack hx (y := (⟨"com/example/grebe/grebe/frame/Command", "escapesHeaders", "()Z"⟩ : MethodName)) (z := (⟨"com/example/grebe/grebe/frame/Command", "escapesHeaders", "()Z"⟩ : MethodName)) hown (mvT hZ (hw _ (List.mem_of_getElem? (i := 36) rfl))) (mvT hZ (hw _ (List.mem_of_getElem? (i := 37) rfl))) (notFace_of_selects (args := #[]) (mvT hZ (hw _ (List.mem_of_getElem? (i := 39) rfl)))) (mvT hZ (hw _ (List.mem_of_getElem? (i := 39) rfl))) (mvT hZ (hw _ (List.mem_of_getElem? (i := 38) rfl))) (by decide) (backOf (W := 0) (rm1_4 l Z a0 hw [] w_CONNECT w_STOMP w_UNSUBSCRIBE w_CONNECTED h49 n0 (Nat.le_trans Z0 K49.1) (own_staK S_CONNECT K49 all0) ne_CONNECT_UNSUBSCRIBE (own_staK S_STOMP K49 all0) ne_STOMP_UNSUBSCRIBE (own_staK S_CONNECTED K49 all0) ne_CONNECTED_UNSUBSCRIBE) hZ (hw _ (List.mem_of_getElem? (i := 40) rfl)) (hw _ (List.mem_of_getElem? (i := 3) rfl)) (by decide) (by decide)) q119a q119c (g := (mkF m 190 #[.val (.int p1), .val (.ref b2), .val (.ref b50), .val (.int (4 : Int32))] [(.ref w_UNSUBSCRIBE)])) rfl (by rw [hml]; rfl) (Steps.refl _) (argsL := []) (rest := []) (lenOf pd_0 rfl) rfl (by show 2 * 0 + _ ≤ _; exact Nat.le_of_eq rfl) (hb hby at_190) (fun _ _ => ⟨rfl, e49, (by decide : 2 + 0 ≤ _), (by decide : 30 + 0 ≤ _)⟩)
    dsimp only [Pt.U, Pt.locs, Pt.cells, Pt.slots] at X119 l119 y119 z119 st119 hQ119
    subst l119 y119 z119
    obtain ⟨rfl, N119q, e119⟩ := hQ119
    have N119 := Fr.app N49 N119q
    obtain ⟨cl120, Ar120, qq120, Sz120, Nn120, Hs120, Gs120⟩ := pf49_1
    have hin120 : ¬ ((4 : Int32) < 0 ∨ cl120.slots.size ≤ ((4 : Int32)).toNatClampNeg) := inb_of Sz120 ⟨by decide, by decide⟩
    have hat120 : cl120.slots[((4 : Int32)).toNatClampNeg]? = some (.int (1 : Int32)) := Has.at Hs120 hin120 rfl
    obtain ⟨fs, hr, hrun, hended, hW, hsame⟩ := X119.leave (v := some (.int (1 : Int32))) (fun h => by rw [Bd.returns] at h; cases h)
    refine ⟨_, _, k90 _ ?_, hrun, hended, _, _, rfl, ?_, ⟨_, rfl⟩, hW, hsame.mono (by decide) (by decide)⟩
    ·
      show Steps p.tables e below (T49.setTop (mkF m 186 #[.val (.int p1), .val (.ref b2), .val (.ref b50), .unset] [(.int ((p1 &&& (2147483647 : Int32)) % (15 : Int32)))])) _
      rewrite [hk95_4]
      show Steps p.tables e below (T49.setTop (mkF m 186 #[.val (.int p1), .val (.ref b2), .val (.ref b50), .unset] [(.int (4 : Int32))])) _
      refine XS.istoreN X49.here hx rfl (hb hby at_186) rfl (l' := #[.val (.int p1), .val (.ref b2), .val (.ref b50), .val (.int (4 : Int32))]) rfl ?_
      show Steps p.tables e below (T49.setTop (mkF m 187 #[.val (.int p1), .val (.ref b2), .val (.ref b50), .val (.int (4 : Int32))] [])) _
      refine XS.aloadN X49.here hx rfl (hb hby at_187) rfl rfl ?_
      show Steps p.tables e below (T49.setTop (mkF m 188 #[.val (.int p1), .val (.ref b2), .val (.ref b50), .val (.int (4 : Int32))] [(.ref b2)])) _
      refine XS.iloadN X49.here hx rfl (hb hby at_188) rfl ?_
      show Steps p.tables e below (T49.setTop (mkF m 189 #[.val (.int p1), .val (.ref b2), .val (.ref b50), .val (.int (4 : Int32))] [(.int (4 : Int32)), (.ref b2)])) _
      refine X49.aaload hx (j := (4 : Int32)) (v := (.ref w_UNSUBSCRIBE)) (by rw [e49]; exact Ar118.1) (State.isArrayOf_alike hZ.alike Ar118.2.1) rfl Ar118.2.2 hin118 hat118 (g := (mkF m 189 #[.val (.int p1), .val (.ref b2), .val (.ref b50), .val (.int (4 : Int32))] [(.int (4 : Int32)), (.ref b2)])) rfl rfl (hb hby at_189) _ ?_
      show Steps p.tables e below (T49.setTop (mkF m 190 #[.val (.int p1), .val (.ref b2), .val (.ref b50), .val (.int (4 : Int32))] [(.ref w_UNSUBSCRIBE)])) _
      refine st119.trans ?_
      show Steps p.tables e below (T119.setTop (mkF m 193 #[.val (.int p1), .val (.ref b2), .val (.ref b50), .val (.int (4 : Int32))] [(.int (1 : Int32))])) _
      refine XS.aloadN X119.here hx rfl (hb hby at_193) rfl rfl ?_
      show Steps p.tables e below (T119.setTop (mkF m 194 #[.val (.int p1), .val (.ref b2), .val (.ref b50), .val (.int (4 : Int32))] [(.ref b50), (.int (1 : Int32))])) _
      refine XS.iloadN X119.here hx rfl (hb hby at_194) rfl ?_
      show Steps p.tables e below (T119.setTop (mkF m 195 #[.val (.int p1), .val (.ref b2), .val (.ref b50), .val (.int (4 : Int32))] [(.int (4 : Int32)), (.ref b50), (.int (1 : Int32))])) _
      refine X119.baloadBooleans hx (j := (4 : Int32)) (v := (.int (1 : Int32))) (by rw [e119]; exact Ar120.1) (State.isArrayOf_alike hZ.alike Ar120.2.1) Ar120.2.2 hin120 hat120 (g := (mkF m 195 #[.val (.int p1), .val (.ref b2), .val (.ref b50), .val (.int (4 : Int32))] [(.int (4 : Int32)), (.ref b50), (.int (1 : Int32))])) rfl rfl (hb hby at_195) _ ?_
      show Steps p.tables e below (T119.setTop (mkF m 196 #[.val (.int p1), .val (.ref b2), .val (.ref b50), .val (.int (4 : Int32))] [(.int (1 : Int32)), (.int (1 : Int32))])) _
      refine XS.icmpNo X119.here hx rfl (hb hby at_196) rfl (teq (by decide : (1 : Int32) = (1 : Int32))).2 ?_
      show Steps p.tables e below (T119.setTop (mkF m 199 #[.val (.int p1), .val (.ref b2), .val (.ref b50), .val (.int (4 : Int32))] [])) _
      refine XS.iconst X119.here hx rfl (hb hby at_199) ?_
      show Steps p.tables e below (T119.setTop (mkF m 200 #[.val (.int p1), .val (.ref b2), .val (.ref b50), .val (.int (4 : Int32))] [(.int (1 : Int32))])) _
      refine XS.goto X119.here hx rfl (pc0 := 200) (pc' := 204) rfl (hb hby at_200) (by decide) (by decide) ?_
      show Steps p.tables e below (T119.setTop (mkF m 204 #[.val (.int p1), .val (.ref b2), .val (.ref b50), .val (.int (4 : Int32))] [(.int (1 : Int32))])) _
      exact retN X119 hx (t := .boolean) Bd.returns (by simp) (hb hby at_204) hr
    · show Q0_0 Z p1 w_CONNECT w_STOMP w_SEND w_SUBSCRIBE w_UNSUBSCRIBE w_ACK w_NACK w_BEGIN w_COMMIT w_ABORT w_DISCONNECT w_CONNECTED w_MESSAGE w_RECEIPT w_ERROR h0 n0 _ T119.heap _
      rw [e119]
      exact ⟨rfl, N119⟩
  ·
    obtain ⟨cl121, Ar121, qq121, Sz121, Nn121, Hs121, Gs121⟩ := pf49_0
    have hin121 : ¬ ((5 : Int32) < 0 ∨ cl121.slots.size ≤ ((5 : Int32)).toNatClampNeg) := inb_of Sz121 ⟨by decide, by decide⟩
    have hat121 : cl121.slots[((5 : Int32)).toNatClampNeg]? = some (.ref w_ACK) := Has.at Hs121 hin121 rfl
    obtain ⟨cq122, kq122, q122a, q122b, q122c⟩ := isOf hZ e49 (E_ACK.keep K49)
    obtain ⟨_, _, ⟨T122, L122, k122, n122⟩, -, X122, ⟨Lc122, hQ122, l122, y122, z122⟩, st122⟩ := X49.virtualBack hx (y := (⟨"com/example/grebe/grebe/frame/Command", "escapesHeaders", "()Z"⟩ : MethodName)) (z := (⟨"com/example/grebe/grebe/frame/Command", "escapesHeaders", "()Z"⟩ : MethodName)) hown (mvT hZ (hw _ (List.mem_of_getElem? (i := 36) rfl))) (mvT hZ (hw _ (List.mem_of_getElem? (i := 37) rfl))) (notFace_of_selects (args := #[]) (mvT hZ (hw _ (List.mem_of_getElem? (i := 39) rfl)))) (mvT hZ (hw _ (List.mem_of_getElem? (i := 39) rfl))) (mvT hZ (hw _ (List.mem_of_getElem? (i := 38) rfl))) (by decide) (backOf (W := 0) (rm1_5 l Z a0 hw [] w_CONNECT w_STOMP w_ACK w_CONNECTED h49 n0 (Nat.le_trans Z0 K49.1) (own_staK S_CONNECT K49 all0) ne_ACK_CONNECT (own_staK S_STOMP K49 all0) ne_ACK_STOMP (own_staK S_CONNECTED K49 all0) ne_ACK_CONNECTED) hZ (hw _ (List.mem_of_getElem? (i := 40) rfl)) (hw _ (List.mem_of_getElem? (i := 3) rfl)) (by decide) (by decide)) q122a q122c (g := (mkF m 190 #[.val (.int p1), .val (.ref b2), .val (.ref b50), .val (.int (5 : Int32))] [(.ref w_ACK)])) rfl (by rw [hml]; rfl) (Steps.refl _) (argsL := []) (rest := []) (lenOf pd_0 rfl) rfl (by show 2 * 0 + _ ≤ _; exact Nat.le_of_eq rfl) (hb hby at_190) (fun _ _ => ⟨rfl, e49, (by decide : 2 + 0 ≤ _), (by decide : 30 + 0 ≤ _)⟩)
    dsimp only [Pt.U, Pt.locs, Pt.cells, Pt.slots] at X122 l122 y122 z122 st122 hQ122
    subst l122 y122 z122
    obtain ⟨rfl, N122q, e122⟩ := hQ122
    have N122 := Fr.app N49 N122q
    obtain ⟨cl123, Ar123, qq123, Sz123, Nn123, Hs123, Gs123⟩ := pf49_1
    have hin123 : ¬ ((5 : Int32) < 0 ∨ cl123.slots.size ≤ ((5 : Int32)).toNatClampNeg) := inb_of Sz123 ⟨by decide, by decide⟩
    have hat123 : cl123.slots[((5 : Int32)).toNatClampNeg]? = some (.int (1 : Int32)) := Has.at Hs123 hin123 rfl
    obtain ⟨fs, hr, hrun, hended, hW, hsame⟩ := X122.leave (v := some (.int (1 : Int32))) (fun h => by rw [Bd.returns] at h; cases h)
    refine ⟨_, _, k90 _ ?_, hrun, hended, _, _, rfl, ?_, ⟨_, rfl⟩, hW, hsame.mono (by decide) (by decide)⟩
    ·
      show Steps p.tables e below (T49.setTop (mkF m 186 #[.val (.int p1), .val (.ref b2), .val (.ref b50), .unset] [(.int ((p1 &&& (2147483647 : Int32)) % (15 : Int32)))])) _
      rewrite [hk96_5]
      show Steps p.tables e below (T49.setTop (mkF m 186 #[.val (.int p1), .val (.ref b2), .val (.ref b50), .unset] [(.int (5 : Int32))])) _
      refine XS.istoreN X49.here hx rfl (hb hby at_186) rfl (l' := #[.val (.int p1), .val (.ref b2), .val (.ref b50), .val (.int (5 : Int32))]) rfl ?_
      show Steps p.tables e below (T49.setTop (mkF m 187 #[.val (.int p1), .val (.ref b2), .val (.ref b50), .val (.int (5 : Int32))] [])) _
      refine XS.aloadN X49.here hx rfl (hb hby at_187) rfl rfl ?_
      show Steps p.tables e below (T49.setTop (mkF m 188 #[.val (.int p1), .val (.ref b2), .val (.ref b50), .val (.int (5 : Int32))] [(.ref b2)])) _
      refine XS.iloadN X49.here hx rfl (hb hby at_188) rfl ?_
      show Steps p.tables e below (T49.setTop (mkF m 189 #[.val (.int p1), .val (.ref b2), .val (.ref b50), .val (.int (5 : Int32))] [(.int (5 : Int32)), (.ref b2)])) _
      refine X49.aaload hx (j := (5 : Int32)) (v := (.ref w_ACK)) (by rw [e49]; exact Ar121.1) (State.isArrayOf_alike hZ.alike Ar121.2.1) rfl Ar121.2.2 hin121 hat121 (g := (mkF m 189 #[.val (.int p1), .val (.ref b2), .val (.ref b50), .val (.int (5 : Int32))] [(.int (5 : Int32)), (.ref b2)])) rfl rfl (hb hby at_189) _ ?_
      show Steps p.tables e below (T49.setTop (mkF m 190 #[.val (.int p1), .val (.ref b2), .val (.ref b50), .val (.int (5 : Int32))] [(.ref w_ACK)])) _
      refine st122.trans ?_
      show Steps p.tables e below (T122.setTop (mkF m 193 #[.val (.int p1), .val (.ref b2), .val (.ref b50), .val (.int (5 : Int32))] [(.int (1 : Int32))])) _
      refine XS.aloadN X122.here hx rfl (hb hby at_193) rfl rfl ?_
      show Steps p.tables e below (T122.setTop (mkF m 194 #[.val (.int p1), .val (.ref b2), .val (.ref b50), .val (.int (5 : Int32))] [(.ref b50), (.int (1 : Int32))])) _
      refine XS.iloadN X122.here hx rfl (hb hby at_194) rfl ?_
      show Steps p.tables e below (T122.setTop (mkF m 195 #[.val (.int p1), .val (.ref b2), .val (.ref b50), .val (.int (5 : Int32))] [(.int (5 : Int32)), (.ref b50), (.int (1 : Int32))])) _
      refine X122.baloadBooleans hx (j := (5 : Int32)) (v := (.int (1 : Int32))) (by rw [e122]; exact Ar123.1) (State.isArrayOf_alike hZ.alike Ar123.2.1) Ar123.2.2 hin123 hat123 (g := (mkF m 195 #[.val (.int p1), .val (.ref b2), .val (.ref b50), .val (.int (5 : Int32))] [(.int (5 : Int32)), (.ref b50), (.int (1 : Int32))])) rfl rfl (hb hby at_195) _ ?_
      show Steps p.tables e below (T122.setTop (mkF m 196 #[.val (.int p1), .val (.ref b2), .val (.ref b50), .val (.int (5 : Int32))] [(.int (1 : Int32)), (.int (1 : Int32))])) _
      refine XS.icmpNo X122.here hx rfl (hb hby at_196) rfl (teq (by decide : (1 : Int32) = (1 : Int32))).2 ?_
      show Steps p.tables e below (T122.setTop (mkF m 199 #[.val (.int p1), .val (.ref b2), .val (.ref b50), .val (.int (5 : Int32))] [])) _
      refine XS.iconst X122.here hx rfl (hb hby at_199) ?_
      show Steps p.tables e below (T122.setTop (mkF m 200 #[.val (.int p1), .val (.ref b2), .val (.ref b50), .val (.int (5 : Int32))] [(.int (1 : Int32))])) _
      refine XS.goto X122.here hx rfl (pc0 := 200) (pc' := 204) rfl (hb hby at_200) (by decide) (by decide) ?_
      show Steps p.tables e below (T122.setTop (mkF m 204 #[.val (.int p1), .val (.ref b2), .val (.ref b50), .val (.int (5 : Int32))] [(.int (1 : Int32))])) _
      exact retN X122 hx (t := .boolean) Bd.returns (by simp) (hb hby at_204) hr
    · show Q0_0 Z p1 w_CONNECT w_STOMP w_SEND w_SUBSCRIBE w_UNSUBSCRIBE w_ACK w_NACK w_BEGIN w_COMMIT w_ABORT w_DISCONNECT w_CONNECTED w_MESSAGE w_RECEIPT w_ERROR h0 n0 _ T122.heap _
      rw [e122]
      exact ⟨rfl, N122⟩
  ·
    obtain ⟨cl124, Ar124, qq124, Sz124, Nn124, Hs124, Gs124⟩ := pf49_0
    have hin124 : ¬ ((6 : Int32) < 0 ∨ cl124.slots.size ≤ ((6 : Int32)).toNatClampNeg) := inb_of Sz124 ⟨by decide, by decide⟩
    have hat124 : cl124.slots[((6 : Int32)).toNatClampNeg]? = some (.ref w_NACK) := Has.at Hs124 hin124 rfl
    obtain ⟨cq125, kq125, q125a, q125b, q125c⟩ := isOf hZ e49 (E_NACK.keep K49)
    obtain ⟨_, _, ⟨T125, L125, k125, n125⟩, -, X125, ⟨Lc125, hQ125, l125, y125, z125⟩, st125⟩ := X49.virtualBack hx (y := (⟨"com/example/grebe/grebe/frame/Command", "escapesHeaders", "()Z"⟩ : MethodName)) (z := (⟨"com/example/grebe/grebe/frame/Command", "escapesHeaders", "()Z"⟩ : MethodName)) hown (mvT hZ (hw _ (List.mem_of_getElem? (i := 36) rfl))) (mvT hZ (hw _ (List.mem_of_getElem? (i := 37) rfl))) (notFace_of_selects (args := #[]) (mvT hZ (hw _ (List.mem_of_getElem? (i := 39) rfl)))) (mvT hZ (hw _ (List.mem_of_getElem? (i := 39) rfl))) (mvT hZ (hw _ (List.mem_of_getElem? (i := 38) rfl))) (by decide) (backOf (W := 0) (rm1_6 l Z a0 hw [] w_CONNECT w_STOMP w_NACK w_CONNECTED h49 n0 (Nat.le_trans Z0 K49.1) (own_staK S_CONNECT K49 all0) ne_CONNECT_NACK (own_staK S_STOMP K49 all0) ne_NACK_STOMP (own_staK S_CONNECTED K49 all0) ne_CONNECTED_NACK) hZ (hw _ (List.mem_of_getElem? (i := 40) rfl)) (hw _ (List.mem_of_getElem? (i := 3) rfl)) (by decide) (by decide)) q125a q125c (g := (mkF m 190 #[.val (.int p1), .val (.ref b2), .val (.ref b50), .val (.int (6 : Int32))] [(.ref w_NACK)])) rfl (by rw [hml]; rfl) (Steps.refl _) (argsL := []) (rest := []) (lenOf pd_0 rfl) rfl (by show 2 * 0 + _ ≤ _; exact Nat.le_of_eq rfl) (hb hby at_190) (fun _ _ => ⟨rfl, e49, (by decide : 2 + 0 ≤ _), (by decide : 30 + 0 ≤ _)⟩)
    dsimp only [Pt.U, Pt.locs, Pt.cells, Pt.slots] at X125 l125 y125 z125 st125 hQ125
    subst l125 y125 z125
    obtain ⟨rfl, N125q, e125⟩ := hQ125
    have N125 := Fr.app N49 N125q
    obtain ⟨cl126, Ar126, qq126, Sz126, Nn126, Hs126, Gs126⟩ := pf49_1
    have hin126 : ¬ ((6 : Int32) < 0 ∨ cl126.slots.size ≤ ((6 : Int32)).toNatClampNeg) := inb_of Sz126 ⟨by decide, by decide⟩
    have hat126 : cl126.slots[((6 : Int32)).toNatClampNeg]? = some (.int (1 : Int32)) := Has.at Hs126 hin126 rfl
    obtain ⟨fs, hr, hrun, hended, hW, hsame⟩ := X125.leave (v := some (.int (1 : Int32))) (fun h => by rw [Bd.returns] at h; cases h)
    refine ⟨_, _, k90 _ ?_, hrun, hended, _, _, rfl, ?_, ⟨_, rfl⟩, hW, hsame.mono (by decide) (by decide)⟩
    ·
      show Steps p.tables e below (T49.setTop (mkF m 186 #[.val (.int p1), .val (.ref b2), .val (.ref b50), .unset] [(.int ((p1 &&& (2147483647 : Int32)) % (15 : Int32)))])) _
      rewrite [hk97_6]
      show Steps p.tables e below (T49.setTop (mkF m 186 #[.val (.int p1), .val (.ref b2), .val (.ref b50), .unset] [(.int (6 : Int32))])) _
      refine XS.istoreN X49.here hx rfl (hb hby at_186) rfl (l' := #[.val (.int p1), .val (.ref b2), .val (.ref b50), .val (.int (6 : Int32))]) rfl ?_
      show Steps p.tables e below (T49.setTop (mkF m 187 #[.val (.int p1), .val (.ref b2), .val (.ref b50), .val (.int (6 : Int32))] [])) _
      refine XS.aloadN X49.here hx rfl (hb hby at_187) rfl rfl ?_
      show Steps p.tables e below (T49.setTop (mkF m 188 #[.val (.int p1), .val (.ref b2), .val (.ref b50), .val (.int (6 : Int32))] [(.ref b2)])) _
      refine XS.iloadN X49.here hx rfl (hb hby at_188) rfl ?_
      show Steps p.tables e below (T49.setTop (mkF m 189 #[.val (.int p1), .val (.ref b2), .val (.ref b50), .val (.int (6 : Int32))] [(.int (6 : Int32)), (.ref b2)])) _
      refine X49.aaload hx (j := (6 : Int32)) (v := (.ref w_NACK)) (by rw [e49]; exact Ar124.1) (State.isArrayOf_alike hZ.alike Ar124.2.1) rfl Ar124.2.2 hin124 hat124 (g := (mkF m 189 #[.val (.int p1), .val (.ref b2), .val (.ref b50), .val (.int (6 : Int32))] [(.int (6 : Int32)), (.ref b2)])) rfl rfl (hb hby at_189) _ ?_
      show Steps p.tables e below (T49.setTop (mkF m 190 #[.val (.int p1), .val (.ref b2), .val (.ref b50), .val (.int (6 : Int32))] [(.ref w_NACK)])) _
      refine st125.trans ?_
      show Steps p.tables e below (T125.setTop (mkF m 193 #[.val (.int p1), .val (.ref b2), .val (.ref b50), .val (.int (6 : Int32))] [(.int (1 : Int32))])) _
      refine XS.aloadN X125.here hx rfl (hb hby at_193) rfl rfl ?_
      show Steps p.tables e below (T125.setTop (mkF m 194 #[.val (.int p1), .val (.ref b2), .val (.ref b50), .val (.int (6 : Int32))] [(.ref b50), (.int (1 : Int32))])) _
      refine XS.iloadN X125.here hx rfl (hb hby at_194) rfl ?_
      show Steps p.tables e below (T125.setTop (mkF m 195 #[.val (.int p1), .val (.ref b2), .val (.ref b50), .val (.int (6 : Int32))] [(.int (6 : Int32)), (.ref b50), (.int (1 : Int32))])) _
      refine X125.baloadBooleans hx (j := (6 : Int32)) (v := (.int (1 : Int32))) (by rw [e125]; exact Ar126.1) (State.isArrayOf_alike hZ.alike Ar126.2.1) Ar126.2.2 hin126 hat126 (g := (mkF m 195 #[.val (.int p1), .val (.ref b2), .val (.ref b50), .val (.int (6 : Int32))] [(.int (6 : Int32)), (.ref b50), (.int (1 : Int32))])) rfl rfl (hb hby at_195) _ ?_
      show Steps p.tables e below (T125.setTop (mkF m 196 #[.val (.int p1), .val (.ref b2), .val (.ref b50), .val (.int (6 : Int32))] [(.int (1 : Int32)), (.int (1 : Int32))])) _
      refine XS.icmpNo X125.here hx rfl (hb hby at_196) rfl (teq (by decide : (1 : Int32) = (1 : Int32))).2 ?_
      show Steps p.tables e below (T125.setTop (mkF m 199 #[.val (.int p1), .val (.ref b2), .val (.ref b50), .val (.int (6 : Int32))] [])) _
      refine XS.iconst X125.here hx rfl (hb hby at_199) ?_
      show Steps p.tables e below (T125.setTop (mkF m 200 #[.val (.int p1), .val (.ref b2), .val (.ref b50), .val (.int (6 : Int32))] [(.int (1 : Int32))])) _
      refine XS.goto X125.here hx rfl (pc0 := 200) (pc' := 204) rfl (hb hby at_200) (by decide) (by decide) ?_
      show Steps p.tables e below (T125.setTop (mkF m 204 #[.val (.int p1), .val (.ref b2), .val (.ref b50), .val (.int (6 : Int32))] [(.int (1 : Int32))])) _
      exact retN X125 hx (t := .boolean) Bd.returns (by simp) (hb hby at_204) hr
    · show Q0_0 Z p1 w_CONNECT w_STOMP w_SEND w_SUBSCRIBE w_UNSUBSCRIBE w_ACK w_NACK w_BEGIN w_COMMIT w_ABORT w_DISCONNECT w_CONNECTED w_MESSAGE w_RECEIPT w_ERROR h0 n0 _ T125.heap _
      rw [e125]
      exact ⟨rfl, N125⟩
  ·
    obtain ⟨cl127, Ar127, qq127, Sz127, Nn127, Hs127, Gs127⟩ := pf49_0
    have hin127 : ¬ ((7 : Int32) < 0 ∨ cl127.slots.size ≤ ((7 : Int32)).toNatClampNeg) := inb_of Sz127 ⟨by decide, by decide⟩
    have hat127 : cl127.slots[((7 : Int32)).toNatClampNeg]? = some (.ref w_BEGIN) := Has.at Hs127 hin127 rfl
    obtain ⟨cq128, kq128, q128a, q128b, q128c⟩ := isOf hZ e49 (E_BEGIN.keep K49)
    obtain ⟨_, _, ⟨T128, L128, k128, n128⟩, -, X128, ⟨Lc128, hQ128, l128, y128, z128⟩, st128⟩ := X49.virtualBack hx (y := (⟨"com/example/grebe/grebe/frame/Command", "escapesHeaders", "()Z"⟩ : MethodName)) (z := (⟨"com/example/grebe/grebe/frame/Command", "escapesHeaders", "()Z"⟩ : MethodName)) hown (mvT hZ (hw _ (List.mem_of_getElem? (i := 36) rfl))) (mvT hZ (hw _ (List.mem_of_getElem? (i := 37) rfl))) (notFace_of_selects (args := #[]) (mvT hZ (hw _ (List.mem_of_getElem? (i := 39) rfl)))) (mvT hZ (hw _ (List.mem_of_getElem? (i := 39) rfl))) (mvT hZ (hw _ (List.mem_of_getElem? (i := 38) rfl))) (by decide) (backOf (W := 0) (rm1_7 l Z a0 hw [] w_CONNECT w_STOMP w_BEGIN w_CONNECTED h49 n0 (Nat.le_trans Z0 K49.1) (own_staK S_CONNECT K49 all0) ne_BEGIN_CONNECT (own_staK S_STOMP K49 all0) ne_BEGIN_STOMP (own_staK S_CONNECTED K49 all0) ne_BEGIN_CONNECTED) hZ (hw _ (List.mem_of_getElem? (i := 40) rfl)) (hw _ (List.mem_of_getElem? (i := 3) rfl)) (by decide) (by decide)) q128a q128c (g := (mkF m 190 #[.val (.int p1), .val (.ref b2), .val (.ref b50), .val (.int (7 : Int32))] [(.ref w_BEGIN)])) rfl (by rw [hml]; rfl) (Steps.refl _) (argsL := []) (rest := []) (lenOf pd_0 rfl) rfl (by show 2 * 0 + _ ≤ _; exact Nat.le_of_eq rfl) (hb hby at_190) (fun _ _ => ⟨rfl, e49, (by decide : 2 + 0 ≤ _), (by decide : 30 + 0 ≤ _)⟩)
    dsimp only [Pt.U, Pt.locs, Pt.cells, Pt.slots] at X128 l128 y128 z128 st128 hQ128
    subst l128 y128 z128
    obtain ⟨rfl, N128q, e128⟩ := hQ128
    have N128 := Fr.app N49 N128q
    obtain ⟨cl129, Ar129, qq129, Sz129, Nn129, Hs129, Gs129⟩ := pf49_1
    have hin129 : ¬ ((7 : Int32) < 0 ∨ cl129.slots.size ≤ ((7 : Int32)).toNatClampNeg) := inb_of Sz129 ⟨by decide, by decide⟩
    have hat129 : cl129.slots[((7 : Int32)).toNatClampNeg]? = some (.int (1 : Int32)) := Has.at Hs129 hin129 rfl
    obtain ⟨fs, hr, hrun, hended, hW, hsame⟩ := X128.leave (v := some (.int (1 : Int32))) (fun h => by rw [Bd.returns] at h; cases h)
    refine ⟨_, _, k90 _ ?_, hrun, hended, _, _, rfl, ?_, ⟨_, rfl⟩, hW, hsame.mono (by decide) (by decide)⟩
    ·
      show Steps p.tables e below (T49.setTop (mkF m 186 #[.val (.int p1), .val (.ref b2), .val (.ref b50), .unset] [(.int ((p1 &&& (2147483647 : Int32)) % (15 : Int32)))])) _
      rewrite [hk98_7]
      show Steps p.tables e below (T49.setTop (mkF m 186 #[.val (.int p1), .val (.ref b2), .val (.ref b50), .unset] [(.int (7 : Int32))])) _
      refine XS.istoreN X49.here hx rfl (hb hby at_186) rfl (l' := #[.val (.int p1), .val (.ref b2), .val (.ref b50), .val (.int (7 : Int32))]) rfl ?_
      show Steps p.tables e below (T49.setTop (mkF m 187 #[.val (.int p1), .val (.ref b2), .val (.ref b50), .val (.int (7 : Int32))] [])) _
      refine XS.aloadN X49.here hx rfl (hb hby at_187) rfl rfl ?_
      show Steps p.tables e below (T49.setTop (mkF m 188 #[.val (.int p1), .val (.ref b2), .val (.ref b50), .val (.int (7 : Int32))] [(.ref b2)])) _
      refine XS.iloadN X49.here hx rfl (hb hby at_188) rfl ?_
      show Steps p.tables e below (T49.setTop (mkF m 189 #[.val (.int p1), .val (.ref b2), .val (.ref b50), .val (.int (7 : Int32))] [(.int (7 : Int32)), (.ref b2)])) _
      refine X49.aaload hx (j := (7 : Int32)) (v := (.ref w_BEGIN)) (by rw [e49]; exact Ar127.1) (State.isArrayOf_alike hZ.alike Ar127.2.1) rfl Ar127.2.2 hin127 hat127 (g := (mkF m 189 #[.val (.int p1), .val (.ref b2), .val (.ref b50), .val (.int (7 : Int32))] [(.int (7 : Int32)), (.ref b2)])) rfl rfl (hb hby at_189) _ ?_
      show Steps p.tables e below (T49.setTop (mkF m 190 #[.val (.int p1), .val (.ref b2), .val (.ref b50), .val (.int (7 : Int32))] [(.ref w_BEGIN)])) _
      refine st128.trans ?_
      show Steps p.tables e below (T128.setTop (mkF m 193 #[.val (.int p1), .val (.ref b2), .val (.ref b50), .val (.int (7 : Int32))] [(.int (1 : Int32))])) _
      refine XS.aloadN X128.here hx rfl (hb hby at_193) rfl rfl ?_
      show Steps p.tables e below (T128.setTop (mkF m 194 #[.val (.int p1), .val (.ref b2), .val (.ref b50), .val (.int (7 : Int32))] [(.ref b50), (.int (1 : Int32))])) _
      refine XS.iloadN X128.here hx rfl (hb hby at_194) rfl ?_
      show Steps p.tables e below (T128.setTop (mkF m 195 #[.val (.int p1), .val (.ref b2), .val (.ref b50), .val (.int (7 : Int32))] [(.int (7 : Int32)), (.ref b50), (.int (1 : Int32))])) _
      refine X128.baloadBooleans hx (j := (7 : Int32)) (v := (.int (1 : Int32))) (by rw [e128]; exact Ar129.1) (State.isArrayOf_alike hZ.alike Ar129.2.1) Ar129.2.2 hin129 hat129 (g := (mkF m 195 #[.val (.int p1), .val (.ref b2), .val (.ref b50), .val (.int (7 : Int32))] [(.int (7 : Int32)), (.ref b50), (.int (1 : Int32))])) rfl rfl (hb hby at_195) _ ?_
      show Steps p.tables e below (T128.setTop (mkF m 196 #[.val (.int p1), .val (.ref b2), .val (.ref b50), .val (.int (7 : Int32))] [(.int (1 : Int32)), (.int (1 : Int32))])) _
      refine XS.icmpNo X128.here hx rfl (hb hby at_196) rfl (teq (by decide : (1 : Int32) = (1 : Int32))).2 ?_
      show Steps p.tables e below (T128.setTop (mkF m 199 #[.val (.int p1), .val (.ref b2), .val (.ref b50), .val (.int (7 : Int32))] [])) _
      refine XS.iconst X128.here hx rfl (hb hby at_199) ?_
      show Steps p.tables e below (T128.setTop (mkF m 200 #[.val (.int p1), .val (.ref b2), .val (.ref b50), .val (.int (7 : Int32))] [(.int (1 : Int32))])) _
      refine XS.goto X128.here hx rfl (pc0 := 200) (pc' := 204) rfl (hb hby at_200) (by decide) (by decide) ?_
      show Steps p.tables e below (T128.setTop (mkF m 204 #[.val (.int p1), .val (.ref b2), .val (.ref b50), .val (.int (7 : Int32))] [(.int (1 : Int32))])) _
      exact retN X128 hx (t := .boolean) Bd.returns (by simp) (hb hby at_204) hr
    · show Q0_0 Z p1 w_CONNECT w_STOMP w_SEND w_SUBSCRIBE w_UNSUBSCRIBE w_ACK w_NACK w_BEGIN w_COMMIT w_ABORT w_DISCONNECT w_CONNECTED w_MESSAGE w_RECEIPT w_ERROR h0 n0 _ T128.heap _
      rw [e128]
      exact ⟨rfl, N128⟩
  ·
    obtain ⟨cl130, Ar130, qq130, Sz130, Nn130, Hs130, Gs130⟩ := pf49_0
    have hin130 : ¬ ((8 : Int32) < 0 ∨ cl130.slots.size ≤ ((8 : Int32)).toNatClampNeg) := inb_of Sz130 ⟨by decide, by decide⟩
    have hat130 : cl130.slots[((8 : Int32)).toNatClampNeg]? = some (.ref w_COMMIT) := Has.at Hs130 hin130 rfl
    obtain ⟨cq131, kq131, q131a, q131b, q131c⟩ := isOf hZ e49 (E_COMMIT.keep K49)
    obtain ⟨_, _, ⟨T131, L131, k131, n131⟩, -, X131, ⟨Lc131, hQ131, l131, y131, z131⟩, st131⟩ := X49.virtualBack hx (y := (⟨"com/example/grebe/grebe/frame/Command", "escapesHeaders", "()Z"⟩ : MethodName)) (z := (⟨"com/example/grebe/grebe/frame/Command", "escapesHeaders", "()Z"⟩ : MethodName)) hown (mvT hZ (hw _ (List.mem_of_getElem? (i := 36) rfl))) (mvT hZ (hw _ (List.mem_of_getElem? (i := 37) rfl))) (notFace_of_selects (args := #[]) (mvT hZ (hw _ (List.mem_of_getElem? (i := 39) rfl)))) (mvT hZ (hw _ (List.mem_of_getElem? (i := 39) rfl))) (mvT hZ (hw _ (List.mem_of_getElem? (i := 38) rfl))) (by decide) (backOf (W := 0) (rm1_8 l Z a0 hw [] w_CONNECT w_STOMP w_COMMIT w_CONNECTED h49 n0 (Nat.le_trans Z0 K49.1) (own_staK S_CONNECT K49 all0) ne_COMMIT_CONNECT (own_staK S_STOMP K49 all0) ne_COMMIT_STOMP (own_staK S_CONNECTED K49 all0) ne_COMMIT_CONNECTED) hZ (hw _ (List.mem_of_getElem? (i := 40) rfl)) (hw _ (List.mem_of_getElem? (i := 3) rfl)) (by decide) (by decide)) q131a q131c (g := (mkF m 190 #[.val (.int p1), .val (.ref b2), .val (.ref b50), .val (.int (8 : Int32))] [(.ref w_COMMIT)])) rfl (by rw [hml]; rfl) (Steps.refl _) (argsL := []) (rest := []) (lenOf pd_0 rfl) rfl (by show 2 * 0 + _ ≤ _; exact Nat.le_of_eq rfl) (hb hby at_190) (fun _ _ => ⟨rfl, e49, (by decide : 2 + 0 ≤ _), (by decide : 30 + 0 ≤ _)⟩)
    dsimp only [Pt.U, Pt.locs, Pt.cells, Pt.slots] at X131 l131 y131 z131 st131 hQ131
    subst l131 y131 z131
    obtain ⟨rfl, N131q, e131⟩ := hQ131
    have N131 := Fr.app N49 N131q
    obtain ⟨cl132, Ar132, qq132, Sz132, Nn132, Hs132, Gs132⟩ := pf49_1
    have hin132 : ¬ ((8 : Int32) < 0 ∨ cl132.slots.size ≤ ((8 : Int32)).toNatClampNeg) := inb_of Sz132 ⟨by decide, by decide⟩
    have hat132 : cl132.slots[((8 : Int32)).toNatClampNeg]? = some (.int (1 : Int32)) := Has.at Hs132 hin132 rfl
    obtain ⟨fs, hr, hrun, hended, hW, hsame⟩ := X131.leave (v := some (.int (1 : Int32))) (fun h => by rw [Bd.returns] at h; cases h)
    refine ⟨_, _, k90 _ ?_, hrun, hended, _, _, rfl, ?_, ⟨_, rfl⟩, hW, hsame.mono (by decide) (by decide)⟩
    ·
      show Steps p.tables e below (T49.setTop (mkF m 186 #[.val (.int p1), .val (.ref b2), .val (.ref b50), .unset] [(.int ((p1 &&& (2147483647 : Int32)) % (15 : Int32)))])) _
      rewrite [hk99_8]
      show Steps p.tables e below (T49.setTop (mkF m 186 #[.val (.int p1), .val (.ref b2), .val (.ref b50), .unset] [(.int (8 : Int32))])) _
      refine XS.istoreN X49.here hx rfl (hb hby at_186) rfl (l' := #[.val (.int p1), .val (.ref b2), .val (.ref b50), .val (.int (8 : Int32))]) rfl ?_
      show Steps p.tables e below (T49.setTop (mkF m 187 #[.val (.int p1), .val (.ref b2), .val (.ref b50), .val (.int (8 : Int32))] [])) _
      refine XS.aloadN X49.here hx rfl (hb hby at_187) rfl rfl ?_
      show Steps p.tables e below (T49.setTop (mkF m 188 #[.val (.int p1), .val (.ref b2), .val (.ref b50), .val (.int (8 : Int32))] [(.ref b2)])) _
      refine XS.iloadN X49.here hx rfl (hb hby at_188) rfl ?_
      show Steps p.tables e below (T49.setTop (mkF m 189 #[.val (.int p1), .val (.ref b2), .val (.ref b50), .val (.int (8 : Int32))] [(.int (8 : Int32)), (.ref b2)])) _
      refine X49.aaload hx (j := (8 : Int32)) (v := (.ref w_COMMIT)) (by rw [e49]; exact Ar130.1) (State.isArrayOf_alike hZ.alike Ar130.2.1) rfl Ar130.2.2 hin130 hat130 (g := (mkF m 189 #[.val (.int p1), .val (.ref b2), .val (.ref b50), .val (.int (8 : Int32))] [(.int (8 : Int32)), (.ref b2)])) rfl rfl (hb hby at_189) _ ?_
      show Steps p.tables e below (T49.setTop (mkF m 190 #[.val (.int p1), .val (.ref b2), .val (.ref b50), .val (.int (8 : Int32))] [(.ref w_COMMIT)])) _
      refine st131.trans ?_
      show Steps p.tables e below (T131.setTop (mkF m 193 #[.val (.int p1), .val (.ref b2), .val (.ref b50), .val (.int (8 : Int32))] [(.int (1 : Int32))])) _
      refine XS.aloadN X131.here hx rfl (hb hby at_193) rfl rfl ?_
      show Steps p.tables e below (T131.setTop (mkF m 194 #[.val (.int p1), .val (.ref b2), .val (.ref b50), .val (.int (8 : Int32))] [(.ref b50), (.int (1 : Int32))])) _
      refine XS.iloadN X131.here hx rfl (hb hby at_194) rfl ?_
      show Steps p.tables e below (T131.setTop (mkF m 195 #[.val (.int p1), .val (.ref b2), .val (.ref b50), .val (.int (8 : Int32))] [(.int (8 : Int32)), (.ref b50), (.int (1 : Int32))])) _
      refine X131.baloadBooleans hx (j := (8 : Int32)) (v := (.int (1 : Int32))) (by rw [e131]; exact Ar132.1) (State.isArrayOf_alike hZ.alike Ar132.2.1) Ar132.2.2 hin132 hat132 (g := (mkF m 195 #[.val (.int p1), .val (.ref b2), .val (.ref b50), .val (.int (8 : Int32))] [(.int (8 : Int32)), (.ref b50), (.int (1 : Int32))])) rfl rfl (hb hby at_195) _ ?_
      show Steps p.tables e below (T131.setTop (mkF m 196 #[.val (.int p1), .val (.ref b2), .val (.ref b50), .val (.int (8 : Int32))] [(.int (1 : Int32)), (.int (1 : Int32))])) _
      refine XS.icmpNo X131.here hx rfl (hb hby at_196) rfl (teq (by decide : (1 : Int32) = (1 : Int32))).2 ?_
      show Steps p.tables e below (T131.setTop (mkF m 199 #[.val (.int p1), .val (.ref b2), .val (.ref b50), .val (.int (8 : Int32))] [])) _
      refine XS.iconst X131.here hx rfl (hb hby at_199) ?_
      show Steps p.tables e below (T131.setTop (mkF m 200 #[.val (.int p1), .val (.ref b2), .val (.ref b50), .val (.int (8 : Int32))] [(.int (1 : Int32))])) _
      refine XS.goto X131.here hx rfl (pc0 := 200) (pc' := 204) rfl (hb hby at_200) (by decide) (by decide) ?_
      show Steps p.tables e below (T131.setTop (mkF m 204 #[.val (.int p1), .val (.ref b2), .val (.ref b50), .val (.int (8 : Int32))] [(.int (1 : Int32))])) _
      exact retN X131 hx (t := .boolean) Bd.returns (by simp) (hb hby at_204) hr
    · show Q0_0 Z p1 w_CONNECT w_STOMP w_SEND w_SUBSCRIBE w_UNSUBSCRIBE w_ACK w_NACK w_BEGIN w_COMMIT w_ABORT w_DISCONNECT w_CONNECTED w_MESSAGE w_RECEIPT w_ERROR h0 n0 _ T131.heap _
      rw [e131]
      exact ⟨rfl, N131⟩
  ·
    obtain ⟨cl133, Ar133, qq133, Sz133, Nn133, Hs133, Gs133⟩ := pf49_0
    have hin133 : ¬ ((9 : Int32) < 0 ∨ cl133.slots.size ≤ ((9 : Int32)).toNatClampNeg) := inb_of Sz133 ⟨by decide, by decide⟩
    have hat133 : cl133.slots[((9 : Int32)).toNatClampNeg]? = some (.ref w_ABORT) := Has.at Hs133 hin133 rfl
    obtain ⟨cq134, kq134, q134a, q134b, q134c⟩ := isOf hZ e49 (E_ABORT.keep K49)
    obtain ⟨_, _, ⟨T134, L134, k134, n134⟩, -, X134, ⟨Lc134, hQ134, l134, y134, z134⟩, st134⟩ := X49.virtualBack hx (y := (⟨"com/example/grebe/grebe/frame/Command", "escapesHeaders", "()Z"⟩ : MethodName)) (z := (⟨"com/example/grebe/grebe/frame/Command", "escapesHeaders", "()Z"⟩ : MethodName)) hown (mvT hZ (hw _ (List.mem_of_getElem? (i := 36) rfl))) (mvT hZ (hw _ (List.mem_of_getElem? (i := 37) rfl))) (notFace_of_selects (args := #[]) (mvT hZ (hw _ (List.mem_of_getElem? (i := 39) rfl)))) (mvT hZ (hw _ (List.mem_of_getElem? (i := 39) rfl))) (mvT hZ (hw _ (List.mem_of_getElem? (i := 38) rfl))) (by decide) (backOf (W := 0) (rm1_9 l Z a0 hw [] w_CONNECT w_STOMP w_ABORT w_CONNECTED h49 n0 (Nat.le_trans Z0 K49.1) (own_staK S_CONNECT K49 all0) ne_ABORT_CONNECT (own_staK S_STOMP K49 all0) ne_ABORT_STOMP (own_staK S_CONNECTED K49 all0) ne_ABORT_CONNECTED) hZ (hw _ (List.mem_of_getElem? (i := 40) rfl)) (hw _ (List.mem_of_getElem? (i := 3) rfl)) (by decide) (by decide)) q134a q134c (g := (mkF m 190 #[.val (.int p1), .val (.ref b2), .val (.ref b50), .val (.int (9 : Int32))] [(.ref w_ABORT)])) rfl (by rw [hml]; rfl) (Steps.refl _) (argsL := []) (rest := []) (lenOf pd_0 rfl) rfl (by show 2 * 0 + _ ≤ _; exact Nat.le_of_eq rfl) (hb hby at_190) (fun _ _ => ⟨rfl, e49, (by decide : 2 + 0 ≤ _), (by decide : 30 + 0 ≤ _)⟩)
    dsimp only [Pt.U, Pt.locs, Pt.cells, Pt.slots] at X134 l134 y134 z134 st134 hQ134
    subst l134 y134 z134
    obtain ⟨rfl, N134q, e134⟩ := hQ134
    have N134 := Fr.app N49 N134q
    obtain ⟨cl135, Ar135, qq135, Sz135, Nn135, Hs135, Gs135⟩ := pf49_1
    have hin135 : ¬ ((9 : Int32) < 0 ∨ cl135.slots.size ≤ ((9 : Int32)).toNatClampNeg) := inb_of Sz135 ⟨by decide, by decide⟩
    have hat135 : cl135.slots[((9 : Int32)).toNatClampNeg]? = some (.int (1 : Int32)) := Has.at Hs135 hin135 rfl
    obtain ⟨fs, hr, hrun, hended, hW, hsame⟩ := X134.leave (v := some (.int (1 : Int32))) (fun h => by rw [Bd.returns] at h; cases h)
    refine ⟨_, _, k90 _ ?_, hrun, hended, _, _, rfl, ?_, ⟨_, rfl⟩, hW, hsame.mono (by decide) (by decide)⟩
    ·
      show Steps p.tables e below (T49.setTop (mkF m 186 #[.val (.int p1), .val (.ref b2), .val (.ref b50), .unset] [(.int ((p1 &&& (2147483647 : Int32)) % (15 : Int32)))])) _
      rewrite [hk100_9]
      show Steps p.tables e below (T49.setTop (mkF m 186 #[.val (.int p1), .val (.ref b2), .val (.ref b50), .unset] [(.int (9 : Int32))])) _
      refine XS.istoreN X49.here hx rfl (hb hby at_186) rfl (l' := #[.val (.int p1), .val (.ref b2), .val (.ref b50), .val (.int (9 : Int32))]) rfl ?_
      show Steps p.tables e below (T49.setTop (mkF m 187 #[.val (.int p1), .val (.ref b2), .val (.ref b50), .val (.int (9 : Int32))] [])) _
      refine XS.aloadN X49.here hx rfl (hb hby at_187) rfl rfl ?_
      show Steps p.tables e below (T49.setTop (mkF m 188 #[.val (.int p1), .val (.ref b2), .val (.ref b50), .val (.int (9 : Int32))] [(.ref b2)])) _
      refine XS.iloadN X49.here hx rfl (hb hby at_188) rfl ?_
      show Steps p.tables e below (T49.setTop (mkF m 189 #[.val (.int p1), .val (.ref b2), .val (.ref b50), .val (.int (9 : Int32))] [(.int (9 : Int32)), (.ref b2)])) _
      refine X49.aaload hx (j := (9 : Int32)) (v := (.ref w_ABORT)) (by rw [e49]; exact Ar133.1) (State.isArrayOf_alike hZ.alike Ar133.2.1) rfl Ar133.2.2 hin133 hat133 (g := (mkF m 189 #[.val (.int p1), .val (.ref b2), .val (.ref b50), .val (.int (9 : Int32))] [(.int (9 : Int32)), (.ref b2)])) rfl rfl (hb hby at_189) _ ?_
      show Steps p.tables e below (T49.setTop (mkF m 190 #[.val (.int p1), .val (.ref b2), .val (.ref b50), .val (.int (9 : Int32))] [(.ref w_ABORT)])) _
      refine st134.trans ?_
      show Steps p.tables e below (T134.setTop (mkF m 193 #[.val (.int p1), .val (.ref b2), .val (.ref b50), .val (.int (9 : Int32))] [(.int (1 : Int32))])) _
      refine XS.aloadN X134.here hx rfl (hb hby at_193) rfl rfl ?_
      show Steps p.tables e below (T134.setTop (mkF m 194 #[.val (.int p1), .val (.ref b2), .val (.ref b50), .val (.int (9 : Int32))] [(.ref b50), (.int (1 : Int32))])) _
      refine XS.iloadN X134.here hx rfl (hb hby at_194) rfl ?_
      show Steps p.tables e below (T134.setTop (mkF m 195 #[.val (.int p1), .val (.ref b2), .val (.ref b50), .val (.int (9 : Int32))] [(.int (9 : Int32)), (.ref b50), (.int (1 : Int32))])) _
      refine X134.baloadBooleans hx (j := (9 : Int32)) (v := (.int (1 : Int32))) (by rw [e134]; exact Ar135.1) (State.isArrayOf_alike hZ.alike Ar135.2.1) Ar135.2.2 hin135 hat135 (g := (mkF m 195 #[.val (.int p1), .val (.ref b2), .val (.ref b50), .val (.int (9 : Int32))] [(.int (9 : Int32)), (.ref b50), (.int (1 : Int32))])) rfl rfl (hb hby at_195) _ ?_
      show Steps p.tables e below (T134.setTop (mkF m 196 #[.val (.int p1), .val (.ref b2), .val (.ref b50), .val (.int (9 : Int32))] [(.int (1 : Int32)), (.int (1 : Int32))])) _
      refine XS.icmpNo X134.here hx rfl (hb hby at_196) rfl (teq (by decide : (1 : Int32) = (1 : Int32))).2 ?_
      show Steps p.tables e below (T134.setTop (mkF m 199 #[.val (.int p1), .val (.ref b2), .val (.ref b50), .val (.int (9 : Int32))] [])) _
      refine XS.iconst X134.here hx rfl (hb hby at_199) ?_
      show Steps p.tables e below (T134.setTop (mkF m 200 #[.val (.int p1), .val (.ref b2), .val (.ref b50), .val (.int (9 : Int32))] [(.int (1 : Int32))])) _
      refine XS.goto X134.here hx rfl (pc0 := 200) (pc' := 204) rfl (hb hby at_200) (by decide) (by decide) ?_
      show Steps p.tables e below (T134.setTop (mkF m 204 #[.val (.int p1), .val (.ref b2), .val (.ref b50), .val (.int (9 : Int32))] [(.int (1 : Int32))])) _
      exact retN X134 hx (t := .boolean) Bd.returns (by simp) (hb hby at_204) hr
    · show Q0_0 Z p1 w_CONNECT w_STOMP w_SEND w_SUBSCRIBE w_UNSUBSCRIBE w_ACK w_NACK w_BEGIN w_COMMIT w_ABORT w_DISCONNECT w_CONNECTED w_MESSAGE w_RECEIPT w_ERROR h0 n0 _ T134.heap _
      rw [e134]
      exact ⟨rfl, N134⟩
  ·
    obtain ⟨cl136, Ar136, qq136, Sz136, Nn136, Hs136, Gs136⟩ := pf49_0
    have hin136 : ¬ ((10 : Int32) < 0 ∨ cl136.slots.size ≤ ((10 : Int32)).toNatClampNeg) := inb_of Sz136 ⟨by decide, by decide⟩
    have hat136 : cl136.slots[((10 : Int32)).toNatClampNeg]? = some (.ref w_DISCONNECT) := Has.at Hs136 hin136 rfl
    obtain ⟨cq137, kq137, q137a, q137b, q137c⟩ := isOf hZ e49 (E_DISCONNECT.keep K49)
    obtain ⟨_, _, ⟨T137, L137, k137, n137⟩, -, X137, ⟨Lc137, hQ137, l137, y137, z137⟩, st137⟩ := X49.virtualBack hx (y := (⟨"com/example/grebe/grebe/frame/Command", "escapesHeaders", "()Z"⟩ : MethodName)) (z := (⟨"com/example/grebe/grebe/frame/Command", "escapesHeaders", "()Z"⟩ : MethodName)) hown (mvT hZ (hw _ (List.mem_of_getElem? (i := 36) rfl))) (mvT hZ (hw _ (List.mem_of_getElem? (i := 37) rfl))) (notFace_of_selects (args := #[]) (mvT hZ (hw _ (List.mem_of_getElem? (i := 39) rfl)))) (mvT hZ (hw _ (List.mem_of_getElem? (i := 39) rfl))) (mvT hZ (hw _ (List.mem_of_getElem? (i := 38) rfl))) (by decide) (backOf (W := 0) (rm1_10 l Z a0 hw [] w_CONNECT w_STOMP w_DISCONNECT w_CONNECTED h49 n0 (Nat.le_trans Z0 K49.1) (own_staK S_CONNECT K49 all0) ne_CONNECT_DISCONNECT (own_staK S_STOMP K49 all0) ne_DISCONNECT_STOMP (own_staK S_CONNECTED K49 all0) ne_CONNECTED_DISCONNECT) hZ (hw _ (List.mem_of_getElem? (i := 40) rfl)) (hw _ (List.mem_of_getElem? (i := 3) rfl)) (by decide) (by decide)) q137a q137c (g := (mkF m 190 #[.val (.int p1), .val (.ref b2), .val (.ref b50), .val (.int (10 : Int32))] [(.ref w_DISCONNECT)])) rfl (by rw [hml]; rfl) (Steps.refl _) (argsL := []) (rest := []) (lenOf pd_0 rfl) rfl (by show 2 * 0 + _ ≤ _; exact Nat.le_of_eq rfl) (hb hby at_190) (fun _ _ => ⟨rfl, e49, (by decide : 2 + 0 ≤ _), (by decide : 30 + 0 ≤ _)⟩)
    dsimp only [Pt.U, Pt.locs, Pt.cells, Pt.slots] at X137 l137 y137 z137 st137 hQ137
    subst l137 y137 z137
    obtain ⟨rfl, N137q, e137⟩ := hQ137
    have N137 := Fr.app N49 N137q
    obtain ⟨cl138, Ar138, qq138, Sz138, Nn138, Hs138, Gs138⟩ := pf49_1
    have hin138 : ¬ ((10 : Int32) < 0 ∨ cl138.slots.size ≤ ((10 : Int32)).toNatClampNeg) := inb_of Sz138 ⟨by decide, by decide⟩
    have hat138 : cl138.slots[((10 : Int32)).toNatClampNeg]? = some (.int (1 : Int32)) := Has.at Hs138 hin138 rfl
    obtain ⟨fs, hr, hrun, hended, hW, hsame⟩ := X137.leave (v := some (.int (1 : Int32))) (fun h => by rw [Bd.returns] at h; cases h)
    refine ⟨_, _, k90 _ ?_, hrun, hended, _, _, rfl, ?_, ⟨_, rfl⟩, hW, hsame.mono (by decide) (by decide)⟩
    ·
      show Steps p.tables e below (T49.setTop (mkF m 186 #[.val (.int p1), .val (.ref b2), .val (.ref b50), .unset] [(.int ((p1 &&& (2147483647 : Int32)) % (15 : Int32)))])) _
      rewrite [hk101_10]
      show Steps p.tables e below (T49.setTop (mkF m 186 #[.val (.int p1), .val (.ref b2), .val (.ref b50), .unset] [(.int (10 : Int32))])) _
      refine XS.istoreN X49.here hx rfl (hb hby at_186) rfl (l' := #[.val (.int p1), .val (.ref b2), .val (.ref b50), .val (.int (10 : Int32))]) rfl ?_
      show Steps p.tables e below (T49.setTop (mkF m 187 #[.val (.int p1), .val (.ref b2), .val (.ref b50), .val (.int (10 : Int32))] [])) _
      refine XS.aloadN X49.here hx rfl (hb hby at_187) rfl rfl ?_
      show Steps p.tables e below (T49.setTop (mkF m 188 #[.val (.int p1), .val (.ref b2), .val (.ref b50), .val (.int (10 : Int32))] [(.ref b2)])) _
      refine XS.iloadN X49.here hx rfl (hb hby at_188) rfl ?_
      show Steps p.tables e below (T49.setTop (mkF m 189 #[.val (.int p1), .val (.ref b2), .val (.ref b50), .val (.int (10 : Int32))] [(.int (10 : Int32)), (.ref b2)])) _
      refine X49.aaload hx (j := (10 : Int32)) (v := (.ref w_DISCONNECT)) (by rw [e49]; exact Ar136.1) (State.isArrayOf_alike hZ.alike Ar136.2.1) rfl Ar136.2.2 hin136 hat136 (g := (mkF m 189 #[.val (.int p1), .val (.ref b2), .val (.ref b50), .val (.int (10 : Int32))] [(.int (10 : Int32)), (.ref b2)])) rfl rfl (hb hby at_189) _ ?_
      show Steps p.tables e below (T49.setTop (mkF m 190 #[.val (.int p1), .val (.ref b2), .val (.ref b50), .val (.int (10 : Int32))] [(.ref w_DISCONNECT)])) _
      refine st137.trans ?_
      show Steps p.tables e below (T137.setTop (mkF m 193 #[.val (.int p1), .val (.ref b2), .val (.ref b50), .val (.int (10 : Int32))] [(.int (1 : Int32))])) _
      refine XS.aloadN X137.here hx rfl (hb hby at_193) rfl rfl ?_
      show Steps p.tables e below (T137.setTop (mkF m 194 #[.val (.int p1), .val (.ref b2), .val (.ref b50), .val (.int (10 : Int32))] [(.ref b50), (.int (1 : Int32))])) _
      refine XS.iloadN X137.here hx rfl (hb hby at_194) rfl ?_
      show Steps p.tables e below (T137.setTop (mkF m 195 #[.val (.int p1), .val (.ref b2), .val (.ref b50), .val (.int (10 : Int32))] [(.int (10 : Int32)), (.ref b50), (.int (1 : Int32))])) _
      refine X137.baloadBooleans hx (j := (10 : Int32)) (v := (.int (1 : Int32))) (by rw [e137]; exact Ar138.1) (State.isArrayOf_alike hZ.alike Ar138.2.1) Ar138.2.2 hin138 hat138 (g := (mkF m 195 #[.val (.int p1), .val (.ref b2), .val (.ref b50), .val (.int (10 : Int32))] [(.int (10 : Int32)), (.ref b50), (.int (1 : Int32))])) rfl rfl (hb hby at_195) _ ?_
      show Steps p.tables e below (T137.setTop (mkF m 196 #[.val (.int p1), .val (.ref b2), .val (.ref b50), .val (.int (10 : Int32))] [(.int (1 : Int32)), (.int (1 : Int32))])) _
      refine XS.icmpNo X137.here hx rfl (hb hby at_196) rfl (teq (by decide : (1 : Int32) = (1 : Int32))).2 ?_
      show Steps p.tables e below (T137.setTop (mkF m 199 #[.val (.int p1), .val (.ref b2), .val (.ref b50), .val (.int (10 : Int32))] [])) _
      refine XS.iconst X137.here hx rfl (hb hby at_199) ?_
      show Steps p.tables e below (T137.setTop (mkF m 200 #[.val (.int p1), .val (.ref b2), .val (.ref b50), .val (.int (10 : Int32))] [(.int (1 : Int32))])) _
      refine XS.goto X137.here hx rfl (pc0 := 200) (pc' := 204) rfl (hb hby at_200) (by decide) (by decide) ?_
      show Steps p.tables e below (T137.setTop (mkF m 204 #[.val (.int p1), .val (.ref b2), .val (.ref b50), .val (.int (10 : Int32))] [(.int (1 : Int32))])) _
      exact retN X137 hx (t := .boolean) Bd.returns (by simp) (hb hby at_204) hr
    · show Q0_0 Z p1 w_CONNECT w_STOMP w_SEND w_SUBSCRIBE w_UNSUBSCRIBE w_ACK w_NACK w_BEGIN w_COMMIT w_ABORT w_DISCONNECT w_CONNECTED w_MESSAGE w_RECEIPT w_ERROR h0 n0 _ T137.heap _
      rw [e137]
      exact ⟨rfl, N137⟩
  ·
    obtain ⟨cl139, Ar139, qq139, Sz139, Nn139, Hs139, Gs139⟩ := pf49_0
    have hin139 : ¬ ((11 : Int32) < 0 ∨ cl139.slots.size ≤ ((11 : Int32)).toNatClampNeg) := inb_of Sz139 ⟨by decide, by decide⟩
    have hat139 : cl139.slots[((11 : Int32)).toNatClampNeg]? = some (.ref w_CONNECTED) := Has.at Hs139 hin139 rfl
    obtain ⟨cq140, kq140, q140a, q140b, q140c⟩ := isOf hZ e49 (E_CONNECTED.keep K49)
    obtain ⟨_, _, ⟨T140, L140, k140, n140⟩, -, X140, ⟨Lc140, hQ140, l140, y140, z140⟩, st140⟩ := X49.virtualBack hx (y := (⟨"com/example/grebe/grebe/frame/Command", "escapesHeaders", "()Z"⟩ : MethodName)) (z := (⟨"com/example/grebe/grebe/frame/Command", "escapesHeaders", "()Z"⟩ : MethodName)) hown (mvT hZ (hw _ (List.mem_of_getElem? (i := 36) rfl))) (mvT hZ (hw _ (List.mem_of_getElem? (i := 37) rfl))) (notFace_of_selects (args := #[]) (mvT hZ (hw _ (List.mem_of_getElem? (i := 39) rfl)))) (mvT hZ (hw _ (List.mem_of_getElem? (i := 39) rfl))) (mvT hZ (hw _ (List.mem_of_getElem? (i := 38) rfl))) (by decide) (backOf (W := 0) (rm1_11 l Z a0 hw [] w_CONNECT w_STOMP w_CONNECTED h49 n0 (Nat.le_trans Z0 K49.1) (own_staK S_CONNECT K49 all0) ne_CONNECT_CONNECTED (own_staK S_STOMP K49 all0) ne_CONNECTED_STOMP (own_staK S_CONNECTED K49 all0)) hZ (hw _ (List.mem_of_getElem? (i := 40) rfl)) (hw _ (List.mem_of_getElem? (i := 3) rfl)) (by decide) (by decide)) q140a q140c (g := (mkF m 190 #[.val (.int p1), .val (.ref b2), .val (.ref b50), .val (.int (11 : Int32))] [(.ref w_CONNECTED)])) rfl (by rw [hml]; rfl) (Steps.refl _) (argsL := []) (rest := []) (lenOf pd_0 rfl) rfl (by show 2 * 0 + _ ≤ _; exact Nat.le_of_eq rfl) (hb hby at_190) (fun _ _ => ⟨rfl, e49, (by decide : 2 + 0 ≤ _), (by decide : 30 + 0 ≤ _)⟩)
    dsimp only [Pt.U, Pt.locs, Pt.cells, Pt.slots] at X140 l140 y140 z140 st140 hQ140
    subst l140 y140 z140
    obtain ⟨rfl, N140q, e140⟩ := hQ140
    have N140 := Fr.app N49 N140q
    obtain ⟨cl141, Ar141, qq141, Sz141, Nn141, Hs141, Gs141⟩ := pf49_1
    have hin141 : ¬ ((11 : Int32) < 0 ∨ cl141.slots.size ≤ ((11 : Int32)).toNatClampNeg) := inb_of Sz141 ⟨by decide, by decide⟩
    have hat141 : cl141.slots[((11 : Int32)).toNatClampNeg]? = some (.int (0 : Int32)) := Has.at Hs141 hin141 rfl
    obtain ⟨fs, hr, hrun, hended, hW, hsame⟩ := X140.leave (v := some (.int (1 : Int32))) (fun h => by rw [Bd.returns] at h; cases h)
    refine ⟨_, _, k90 _ ?_, hrun, hended, _, _, rfl, ?_, ⟨_, rfl⟩, hW, hsame.mono (by decide) (by decide)⟩
    ·
      show Steps p.tables e below (T49.setTop (mkF m 186 #[.val (.int p1), .val (.ref b2), .val (.ref b50), .unset] [(.int ((p1 &&& (2147483647 : Int32)) % (15 : Int32)))])) _
      rewrite [hk102_11]
      show Steps p.tables e below (T49.setTop (mkF m 186 #[.val (.int p1), .val (.ref b2), .val (.ref b50), .unset] [(.int (11 : Int32))])) _
      refine XS.istoreN X49.here hx rfl (hb hby at_186) rfl (l' := #[.val (.int p1), .val (.ref b2), .val (.ref b50), .val (.int (11 : Int32))]) rfl ?_
      show Steps p.tables e below (T49.setTop (mkF m 187 #[.val (.int p1), .val (.ref b2), .val (.ref b50), .val (.int (11 : Int32))] [])) _
      refine XS.aloadN X49.here hx rfl (hb hby at_187) rfl rfl ?_
      show Steps p.tables e below (T49.setTop (mkF m 188 #[.val (.int p1), .val (.ref b2), .val (.ref b50), .val (.int (11 : Int32))] [(.ref b2)])) _
      refine XS.iloadN X49.here hx rfl (hb hby at_188) rfl ?_
      show Steps p.tables e below (T49.setTop (mkF m 189 #[.val (.int p1), .val (.ref b2), .val (.ref b50), .val (.int (11 : Int32))] [(.int (11 : Int32)), (.ref b2)])) _
      refine X49.aaload hx (j := (11 : Int32)) (v := (.ref w_CONNECTED)) (by rw [e49]; exact Ar139.1) (State.isArrayOf_alike hZ.alike Ar139.2.1) rfl Ar139.2.2 hin139 hat139 (g := (mkF m 189 #[.val (.int p1), .val (.ref b2), .val (.ref b50), .val (.int (11 : Int32))] [(.int (11 : Int32)), (.ref b2)])) rfl rfl (hb hby at_189) _ ?_
      show Steps p.tables e below (T49.setTop (mkF m 190 #[.val (.int p1), .val (.ref b2), .val (.ref b50), .val (.int (11 : Int32))] [(.ref w_CONNECTED)])) _
      refine st140.trans ?_
      show Steps p.tables e below (T140.setTop (mkF m 193 #[.val (.int p1), .val (.ref b2), .val (.ref b50), .val (.int (11 : Int32))] [(.int (0 : Int32))])) _
      refine XS.aloadN X140.here hx rfl (hb hby at_193) rfl rfl ?_
      show Steps p.tables e below (T140.setTop (mkF m 194 #[.val (.int p1), .val (.ref b2), .val (.ref b50), .val (.int (11 : Int32))] [(.ref b50), (.int (0 : Int32))])) _
      refine XS.iloadN X140.here hx rfl (hb hby at_194) rfl ?_
      show Steps p.tables e below (T140.setTop (mkF m 195 #[.val (.int p1), .val (.ref b2), .val (.ref b50), .val (.int (11 : Int32))] [(.int (11 : Int32)), (.ref b50), (.int (0 : Int32))])) _
      refine X140.baloadBooleans hx (j := (11 : Int32)) (v := (.int (0 : Int32))) (by rw [e140]; exact Ar141.1) (State.isArrayOf_alike hZ.alike Ar141.2.1) Ar141.2.2 hin141 hat141 (g := (mkF m 195 #[.val (.int p1), .val (.ref b2), .val (.ref b50), .val (.int (11 : Int32))] [(.int (11 : Int32)), (.ref b50), (.int (0 : Int32))])) rfl rfl (hb hby at_195) _ ?_
      show Steps p.tables e below (T140.setTop (mkF m 196 #[.val (.int p1), .val (.ref b2), .val (.ref b50), .val (.int (11 : Int32))] [(.int (0 : Int32)), (.int (0 : Int32))])) _
      refine XS.icmpNo X140.here hx rfl (hb hby at_196) rfl (teq (by decide : (0 : Int32) = (0 : Int32))).2 ?_
      show Steps p.tables e below (T140.setTop (mkF m 199 #[.val (.int p1), .val (.ref b2), .val (.ref b50), .val (.int (11 : Int32))] [])) _
      refine XS.iconst X140.here hx rfl (hb hby at_199) ?_
      show Steps p.tables e below (T140.setTop (mkF m 200 #[.val (.int p1), .val (.ref b2), .val (.ref b50), .val (.int (11 : Int32))] [(.int (1 : Int32))])) _
      refine XS.goto X140.here hx rfl (pc0 := 200) (pc' := 204) rfl (hb hby at_200) (by decide) (by decide) ?_
      show Steps p.tables e below (T140.setTop (mkF m 204 #[.val (.int p1), .val (.ref b2), .val (.ref b50), .val (.int (11 : Int32))] [(.int (1 : Int32))])) _
      exact retN X140 hx (t := .boolean) Bd.returns (by simp) (hb hby at_204) hr
    · show Q0_0 Z p1 w_CONNECT w_STOMP w_SEND w_SUBSCRIBE w_UNSUBSCRIBE w_ACK w_NACK w_BEGIN w_COMMIT w_ABORT w_DISCONNECT w_CONNECTED w_MESSAGE w_RECEIPT w_ERROR h0 n0 _ T140.heap _
      rw [e140]
      exact ⟨rfl, N140⟩
  ·
    obtain ⟨cl142, Ar142, qq142, Sz142, Nn142, Hs142, Gs142⟩ := pf49_0
    have hin142 : ¬ ((12 : Int32) < 0 ∨ cl142.slots.size ≤ ((12 : Int32)).toNatClampNeg) := inb_of Sz142 ⟨by decide, by decide⟩
    have hat142 : cl142.slots[((12 : Int32)).toNatClampNeg]? = some (.ref w_MESSAGE) := Has.at Hs142 hin142 rfl
    obtain ⟨cq143, kq143, q143a, q143b, q143c⟩ := isOf hZ e49 (E_MESSAGE.keep K49)
    obtain ⟨_, _, ⟨T143, L143, k143, n143⟩, -, X143, ⟨Lc143, hQ143, l143, y143, z143⟩, st143⟩ := X49.virtualBack hx (y := (⟨"com/example/grebe/grebe/frame/Command", "escapesHeaders", "()Z"⟩ : MethodName)) (z := (⟨"com/example/grebe/grebe/frame/Command", "escapesHeaders", "()Z"⟩ : MethodName)) hown (mvT hZ (hw _ (List.mem_of_getElem? (i := 36) rfl))) (mvT hZ (hw _ (List.mem_of_getElem? (i := 37) rfl))) (notFace_of_selects (args := #[]) (mvT hZ (hw _ (List.mem_of_getElem? (i := 39) rfl)))) (mvT hZ (hw _ (List.mem_of_getElem? (i := 39) rfl))) (mvT hZ (hw _ (List.mem_of_getElem? (i := 38) rfl))) (by decide) (backOf (W := 0) (rm1_12 l Z a0 hw [] w_CONNECT w_STOMP w_CONNECTED w_MESSAGE h49 n0 (Nat.le_trans Z0 K49.1) (own_staK S_CONNECT K49 all0) ne_CONNECT_MESSAGE (own_staK S_STOMP K49 all0) ne_MESSAGE_STOMP (own_staK S_CONNECTED K49 all0) ne_CONNECTED_MESSAGE) hZ (hw _ (List.mem_of_getElem? (i := 40) rfl)) (hw _ (List.mem_of_getElem? (i := 3) rfl)) (by decide) (by decide)) q143a q143c (g := (mkF m 190 #[.val (.int p1), .val (.ref b2), .val (.ref b50), .val (.int (12 : Int32))] [(.ref w_MESSAGE)])) rfl (by rw [hml]; rfl) (Steps.refl _) (argsL := []) (rest := []) (lenOf pd_0 rfl) rfl (by show 2 * 0 + _ ≤ _; exact Nat.le_of_eq rfl) (hb hby at_190) (fun _ _ => ⟨rfl, e49, (by decide : 2 + 0 ≤ _), (by decide : 30 + 0 ≤ _)⟩)
    dsimp only [Pt.U, Pt.locs, Pt.cells, Pt.slots] at X143 l143 y143 z143 st143 hQ143
    subst l143 y143 z143
    obtain ⟨rfl, N143q, e143⟩ := hQ143
    have N143 := Fr.app N49 N143q
    obtain ⟨cl144, Ar144, qq144, Sz144, Nn144, Hs144, Gs144⟩ := pf49_1
    have hin144 : ¬ ((12 : Int32) < 0 ∨ cl144.slots.size ≤ ((12 : Int32)).toNatClampNeg) := inb_of Sz144 ⟨by decide, by decide⟩
    have hat144 : cl144.slots[((12 : Int32)).toNatClampNeg]? = some (.int (1 : Int32)) := Has.at Hs144 hin144 rfl
    obtain ⟨fs, hr, hrun, hended, hW, hsame⟩ := X143.leave (v := some (.int (1 : Int32))) (fun h => by rw [Bd.returns] at h; cases h)
    refine ⟨_, _, k90 _ ?_, hrun, hended, _, _, rfl, ?_, ⟨_, rfl⟩, hW, hsame.mono (by decide) (by decide)⟩
    ·
      show Steps p.tables e below (T49.setTop (mkF m 186 #[.val (.int p1), .val (.ref b2), .val (.ref b50), .unset] [(.int ((p1 &&& (2147483647 : Int32)) % (15 : Int32)))])) _
      rewrite [hk103_12]
      show Steps p.tables e below (T49.setTop (mkF m 186 #[.val (.int p1), .val (.ref b2), .val (.ref b50), .unset] [(.int (12 : Int32))])) _
      refine XS.istoreN X49.here hx rfl (hb hby at_186) rfl (l' := #[.val (.int p1), .val (.ref b2), .val (.ref b50), .val (.int (12 : Int32))]) rfl ?_
      show Steps p.tables e below (T49.setTop (mkF m 187 #[.val (.int p1), .val (.ref b2), .val (.ref b50), .val (.int (12 : Int32))] [])) _
      refine XS.aloadN X49.here hx rfl (hb hby at_187) rfl rfl ?_
      show Steps p.tables e below (T49.setTop (mkF m 188 #[.val (.int p1), .val (.ref b2), .val (.ref b50), .val (.int (12 : Int32))] [(.ref b2)])) _
      refine XS.iloadN X49.here hx rfl (hb hby at_188) rfl ?_
      show Steps p.tables e below (T49.setTop (mkF m 189 #[.val (.int p1), .val (.ref b2), .val (.ref b50), .val (.int (12 : Int32))] [(.int (12 : Int32)), (.ref b2)])) _
      refine X49.aaload hx (j := (12 : Int32)) (v := (.ref w_MESSAGE)) (by rw [e49]; exact Ar142.1) (State.isArrayOf_alike hZ.alike Ar142.2.1) rfl Ar142.2.2 hin142 hat142 (g := (mkF m 189 #[.val (.int p1), .val (.ref b2), .val (.ref b50), .val (.int (12 : Int32))] [(.int (12 : Int32)), (.ref b2)])) rfl rfl (hb hby at_189) _ ?_
      show Steps p.tables e below (T49.setTop (mkF m 190 #[.val (.int p1), .val (.ref b2), .val (.ref b50), .val (.int (12 : Int32))] [(.ref w_MESSAGE)])) _
      refine st143.trans ?_
      show Steps p.tables e below (T143.setTop (mkF m 193 #[.val (.int p1), .val (.ref b2), .val (.ref b50), .val (.int (12 : Int32))] [(.int (1 : Int32))])) _
      refine XS.aloadN X143.here hx rfl (hb hby at_193) rfl rfl ?_
      show Steps p.tables e below (T143.setTop (mkF m 194 #[.val (.int p1), .val (.ref b2), .val (.ref b50), .val (.int (12 : Int32))] [(.ref b50), (.int (1 : Int32))])) _
      refine XS.iloadN X143.here hx rfl (hb hby at_194) rfl ?_
      show Steps p.tables e below (T143.setTop (mkF m 195 #[.val (.int p1), .val (.ref b2), .val (.ref b50), .val (.int (12 : Int32))] [(.int (12 : Int32)), (.ref b50), (.int (1 : Int32))])) _
      refine X143.baloadBooleans hx (j := (12 : Int32)) (v := (.int (1 : Int32))) (by rw [e143]; exact Ar144.1) (State.isArrayOf_alike hZ.alike Ar144.2.1) Ar144.2.2 hin144 hat144 (g := (mkF m 195 #[.val (.int p1), .val (.ref b2), .val (.ref b50), .val (.int (12 : Int32))] [(.int (12 : Int32)), (.ref b50), (.int (1 : Int32))])) rfl rfl (hb hby at_195) _ ?_
      show Steps p.tables e below (T143.setTop (mkF m 196 #[.val (.int p1), .val (.ref b2), .val (.ref b50), .val (.int (12 : Int32))] [(.int (1 : Int32)), (.int (1 : Int32))])) _
      refine XS.icmpNo X143.here hx rfl (hb hby at_196) rfl (teq (by decide : (1 : Int32) = (1 : Int32))).2 ?_
      show Steps p.tables e below (T143.setTop (mkF m 199 #[.val (.int p1), .val (.ref b2), .val (.ref b50), .val (.int (12 : Int32))] [])) _
      refine XS.iconst X143.here hx rfl (hb hby at_199) ?_
      show Steps p.tables e below (T143.setTop (mkF m 200 #[.val (.int p1), .val (.ref b2), .val (.ref b50), .val (.int (12 : Int32))] [(.int (1 : Int32))])) _
      refine XS.goto X143.here hx rfl (pc0 := 200) (pc' := 204) rfl (hb hby at_200) (by decide) (by decide) ?_
      show Steps p.tables e below (T143.setTop (mkF m 204 #[.val (.int p1), .val (.ref b2), .val (.ref b50), .val (.int (12 : Int32))] [(.int (1 : Int32))])) _
      exact retN X143 hx (t := .boolean) Bd.returns (by simp) (hb hby at_204) hr
    · show Q0_0 Z p1 w_CONNECT w_STOMP w_SEND w_SUBSCRIBE w_UNSUBSCRIBE w_ACK w_NACK w_BEGIN w_COMMIT w_ABORT w_DISCONNECT w_CONNECTED w_MESSAGE w_RECEIPT w_ERROR h0 n0 _ T143.heap _
      rw [e143]
      exact ⟨rfl, N143⟩
  ·
    obtain ⟨cl145, Ar145, qq145, Sz145, Nn145, Hs145, Gs145⟩ := pf49_0
    have hin145 : ¬ ((13 : Int32) < 0 ∨ cl145.slots.size ≤ ((13 : Int32)).toNatClampNeg) := inb_of Sz145 ⟨by decide, by decide⟩
    have hat145 : cl145.slots[((13 : Int32)).toNatClampNeg]? = some (.ref w_RECEIPT) := Has.at Hs145 hin145 rfl
    obtain ⟨cq146, kq146, q146a, q146b, q146c⟩ := isOf hZ e49 (E_RECEIPT.keep K49)
    obtain ⟨_, _, ⟨T146, L146, k146, n146⟩, -, X146, ⟨Lc146, hQ146, l146, y146, z146⟩, st146⟩ := X49.virtualBack hx (y := (⟨"com/example/grebe/grebe/frame/Command", "escapesHeaders", "()Z"⟩ : MethodName)) (z := (⟨"com/example/grebe/grebe/frame/Command", "escapesHeaders", "()Z"⟩ : MethodName)) hown (mvT hZ (hw _ (List.mem_of_getElem? (i := 36) rfl))) (mvT hZ (hw _ (List.mem_of_getElem? (i := 37) rfl))) (notFace_of_selects (args := #[]) (mvT hZ (hw _ (List.mem_of_getElem? (i := 39) rfl)))) (mvT hZ (hw _ (List.mem_of_getElem? (i := 39) rfl))) (mvT hZ (hw _ (List.mem_of_getElem? (i := 38) rfl))) (by decide) (backOf (W := 0) (rm1_13 l Z a0 hw [] w_CONNECT w_STOMP w_CONNECTED w_RECEIPT h49 n0 (Nat.le_trans Z0 K49.1) (own_staK S_CONNECT K49 all0) ne_CONNECT_RECEIPT (own_staK S_STOMP K49 all0) ne_RECEIPT_STOMP (own_staK S_CONNECTED K49 all0) ne_CONNECTED_RECEIPT) hZ (hw _ (List.mem_of_getElem? (i := 40) rfl)) (hw _ (List.mem_of_getElem? (i := 3) rfl)) (by decide) (by decide)) q146a q146c (g := (mkF m 190 #[.val (.int p1), .val (.ref b2), .val (.ref b50), .val (.int (13 : Int32))] [(.ref w_RECEIPT)])) rfl (by rw [hml]; rfl) (Steps.refl _) (argsL := []) (rest := []) (lenOf pd_0 rfl) rfl (by show 2 * 0 + _ ≤ _; exact Nat.le_of_eq rfl) (hb hby at_190) (fun _ _ => ⟨rfl, e49, (by decide : 2 + 0 ≤ _), (by decide : 30 + 0 ≤ _)⟩)
    dsimp only [Pt.U, Pt.locs, Pt.cells, Pt.slots] at X146 l146 y146 z146 st146 hQ146
    subst l146 y146 z146
    obtain ⟨rfl, N146q, e146⟩ := hQ146
    have N146 := Fr.app N49 N146q
    obtain ⟨cl147, Ar147, qq147, Sz147, Nn147, Hs147, Gs147⟩ := pf49_1
    have hin147 : ¬ ((13 : Int32) < 0 ∨ cl147.slots.size ≤ ((13 : Int32)).toNatClampNeg) := inb_of Sz147 ⟨by decide, by decide⟩
    have hat147 : cl147.slots[((13 : Int32)).toNatClampNeg]? = some (.int (1 : Int32)) := Has.at Hs147 hin147 rfl
    obtain ⟨fs, hr, hrun, hended, hW, hsame⟩ := X146.leave (v := some (.int (1 : Int32))) (fun h => by rw [Bd.returns] at h; cases h)
    refine ⟨_, _, k90 _ ?_, hrun, hended, _, _, rfl, ?_, ⟨_, rfl⟩, hW, hsame.mono (by decide) (by decide)⟩
    ·
      show Steps p.tables e below (T49.setTop (mkF m 186 #[.val (.int p1), .val (.ref b2), .val (.ref b50), .unset] [(.int ((p1 &&& (2147483647 : Int32)) % (15 : Int32)))])) _
      rewrite [hk104_13]
      show Steps p.tables e below (T49.setTop (mkF m 186 #[.val (.int p1), .val (.ref b2), .val (.ref b50), .unset] [(.int (13 : Int32))])) _
      refine XS.istoreN X49.here hx rfl (hb hby at_186) rfl (l' := #[.val (.int p1), .val (.ref b2), .val (.ref b50), .val (.int (13 : Int32))]) rfl ?_
      show Steps p.tables e below (T49.setTop (mkF m 187 #[.val (.int p1), .val (.ref b2), .val (.ref b50), .val (.int (13 : Int32))] [])) _
      refine XS.aloadN X49.here hx rfl (hb hby at_187) rfl rfl ?_
      show Steps p.tables e below (T49.setTop (mkF m 188 #[.val (.int p1), .val (.ref b2), .val (.ref b50), .val (.int (13 : Int32))] [(.ref b2)])) _
      refine XS.iloadN X49.here hx rfl (hb hby at_188) rfl ?_
      show Steps p.tables e below (T49.setTop (mkF m 189 #[.val (.int p1), .val (.ref b2), .val (.ref b50), .val (.int (13 : Int32))] [(.int (13 : Int32)), (.ref b2)])) _
      refine X49.aaload hx (j := (13 : Int32)) (v := (.ref w_RECEIPT)) (by rw [e49]; exact Ar145.1) (State.isArrayOf_alike hZ.alike Ar145.2.1) rfl Ar145.2.2 hin145 hat145 (g := (mkF m 189 #[.val (.int p1), .val (.ref b2), .val (.ref b50), .val (.int (13 : Int32))] [(.int (13 : Int32)), (.ref b2)])) rfl rfl (hb hby at_189) _ ?_
      show Steps p.tables e below (T49.setTop (mkF m 190 #[.val (.int p1), .val (.ref b2), .val (.ref b50), .val (.int (13 : Int32))] [(.ref w_RECEIPT)])) _
      refine st146.trans ?_
      show Steps p.tables e below (T146.setTop (mkF m 193 #[.val (.int p1), .val (.ref b2), .val (.ref b50), .val (.int (13 : Int32))] [(.int (1 : Int32))])) _
      refine XS.aloadN X146.here hx rfl (hb hby at_193) rfl rfl ?_
      show Steps p.tables e below (T146.setTop (mkF m 194 #[.val (.int p1), .val (.ref b2), .val (.ref b50), .val (.int (13 : Int32))] [(.ref b50), (.int (1 : Int32))])) _
      refine XS.iloadN X146.here hx rfl (hb hby at_194) rfl ?_
      show Steps p.tables e below (T146.setTop (mkF m 195 #[.val (.int p1), .val (.ref b2), .val (.ref b50), .val (.int (13 : Int32))] [(.int (13 : Int32)), (.ref b50), (.int (1 : Int32))])) _
      refine X146.baloadBooleans hx (j := (13 : Int32)) (v := (.int (1 : Int32))) (by rw [e146]; exact Ar147.1) (State.isArrayOf_alike hZ.alike Ar147.2.1) Ar147.2.2 hin147 hat147 (g := (mkF m 195 #[.val (.int p1), .val (.ref b2), .val (.ref b50), .val (.int (13 : Int32))] [(.int (13 : Int32)), (.ref b50), (.int (1 : Int32))])) rfl rfl (hb hby at_195) _ ?_
      show Steps p.tables e below (T146.setTop (mkF m 196 #[.val (.int p1), .val (.ref b2), .val (.ref b50), .val (.int (13 : Int32))] [(.int (1 : Int32)), (.int (1 : Int32))])) _
      refine XS.icmpNo X146.here hx rfl (hb hby at_196) rfl (teq (by decide : (1 : Int32) = (1 : Int32))).2 ?_
      show Steps p.tables e below (T146.setTop (mkF m 199 #[.val (.int p1), .val (.ref b2), .val (.ref b50), .val (.int (13 : Int32))] [])) _
      refine XS.iconst X146.here hx rfl (hb hby at_199) ?_
      show Steps p.tables e below (T146.setTop (mkF m 200 #[.val (.int p1), .val (.ref b2), .val (.ref b50), .val (.int (13 : Int32))] [(.int (1 : Int32))])) _
      refine XS.goto X146.here hx rfl (pc0 := 200) (pc' := 204) rfl (hb hby at_200) (by decide) (by decide) ?_
      show Steps p.tables e below (T146.setTop (mkF m 204 #[.val (.int p1), .val (.ref b2), .val (.ref b50), .val (.int (13 : Int32))] [(.int (1 : Int32))])) _
      exact retN X146 hx (t := .boolean) Bd.returns (by simp) (hb hby at_204) hr
    · show Q0_0 Z p1 w_CONNECT w_STOMP w_SEND w_SUBSCRIBE w_UNSUBSCRIBE w_ACK w_NACK w_BEGIN w_COMMIT w_ABORT w_DISCONNECT w_CONNECTED w_MESSAGE w_RECEIPT w_ERROR h0 n0 _ T146.heap _
      rw [e146]
      exact ⟨rfl, N146⟩
  ·
    obtain ⟨cl148, Ar148, qq148, Sz148, Nn148, Hs148, Gs148⟩ := pf49_0
    have hin148 : ¬ ((14 : Int32) < 0 ∨ cl148.slots.size ≤ ((14 : Int32)).toNatClampNeg) := inb_of Sz148 ⟨by decide, by decide⟩
    have hat148 : cl148.slots[((14 : Int32)).toNatClampNeg]? = some (.ref w_ERROR) := Has.at Hs148 hin148 rfl
    obtain ⟨cq149, kq149, q149a, q149b, q149c⟩ := isOf hZ e49 (E_ERROR.keep K49)
    obtain ⟨_, _, ⟨T149, L149, k149, n149⟩, -, X149, ⟨Lc149, hQ149, l149, y149, z149⟩, st149⟩ := X49.virtualBack hx (y := (⟨"com/example/grebe/grebe/frame/Command", "escapesHeaders", "()Z"⟩ : MethodName)) (z := (⟨"com/example/grebe/grebe/frame/Command", "escapesHeaders", "()Z"⟩ : MethodName)) hown (mvT hZ (hw _ (List.mem_of_getElem? (i := 36) rfl))) (mvT hZ (hw _ (List.mem_of_getElem? (i := 37) rfl))) (notFace_of_selects (args := #[]) (mvT hZ (hw _ (List.mem_of_getElem? (i := 39) rfl)))) (mvT hZ (hw _ (List.mem_of_getElem? (i := 39) rfl))) (mvT hZ (hw _ (List.mem_of_getElem? (i := 38) rfl))) (by decide) (backOf (W := 0) (rm1_14 l Z a0 hw [] w_CONNECT w_STOMP w_CONNECTED w_ERROR h49 n0 (Nat.le_trans Z0 K49.1) (own_staK S_CONNECT K49 all0) ne_CONNECT_ERROR (own_staK S_STOMP K49 all0) ne_ERROR_STOMP (own_staK S_CONNECTED K49 all0) ne_CONNECTED_ERROR) hZ (hw _ (List.mem_of_getElem? (i := 40) rfl)) (hw _ (List.mem_of_getElem? (i := 3) rfl)) (by decide) (by decide)) q149a q149c (g := (mkF m 190 #[.val (.int p1), .val (.ref b2), .val (.ref b50), .val (.int (14 : Int32))] [(.ref w_ERROR)])) rfl (by rw [hml]; rfl) (Steps.refl _) (argsL := []) (rest := []) (lenOf pd_0 rfl) rfl (by show 2 * 0 + _ ≤ _; exact Nat.le_of_eq rfl) (hb hby at_190) (fun _ _ => ⟨rfl, e49, (by decide : 2 + 0 ≤ _), (by decide : 30 + 0 ≤ _)⟩)
    dsimp only [Pt.U, Pt.locs, Pt.cells, Pt.slots] at X149 l149 y149 z149 st149 hQ149
    subst l149 y149 z149
    obtain ⟨rfl, N149q, e149⟩ := hQ149
    have N149 := Fr.app N49 N149q
    obtain ⟨cl150, Ar150, qq150, Sz150, Nn150, Hs150, Gs150⟩ := pf49_1
    have hin150 : ¬ ((14 : Int32) < 0 ∨ cl150.slots.size ≤ ((14 : Int32)).toNatClampNeg) := inb_of Sz150 ⟨by decide, by decide⟩
    have hat150 : cl150.slots[((14 : Int32)).toNatClampNeg]? = some (.int (1 : Int32)) := Has.at Hs150 hin150 rfl
    obtain ⟨fs, hr, hrun, hended, hW, hsame⟩ := X149.leave (v := some (.int (1 : Int32))) (fun h => by rw [Bd.returns] at h; cases h)
    refine ⟨_, _, k90 _ ?_, hrun, hended, _, _, rfl, ?_, ⟨_, rfl⟩, hW, hsame.mono (by decide) (by decide)⟩
    ·
      show Steps p.tables e below (T49.setTop (mkF m 186 #[.val (.int p1), .val (.ref b2), .val (.ref b50), .unset] [(.int ((p1 &&& (2147483647 : Int32)) % (15 : Int32)))])) _
      rewrite [hk105_14]
      show Steps p.tables e below (T49.setTop (mkF m 186 #[.val (.int p1), .val (.ref b2), .val (.ref b50), .unset] [(.int (14 : Int32))])) _
      refine XS.istoreN X49.here hx rfl (hb hby at_186) rfl (l' := #[.val (.int p1), .val (.ref b2), .val (.ref b50), .val (.int (14 : Int32))]) rfl ?_
      show Steps p.tables e below (T49.setTop (mkF m 187 #[.val (.int p1), .val (.ref b2), .val (.ref b50), .val (.int (14 : Int32))] [])) _
      refine XS.aloadN X49.here hx rfl (hb hby at_187) rfl rfl ?_
      show Steps p.tables e below (T49.setTop (mkF m 188 #[.val (.int p1), .val (.ref b2), .val (.ref b50), .val (.int (14 : Int32))] [(.ref b2)])) _
      refine XS.iloadN X49.here hx rfl (hb hby at_188) rfl ?_
      show Steps p.tables e below (T49.setTop (mkF m 189 #[.val (.int p1), .val (.ref b2), .val (.ref b50), .val (.int (14 : Int32))] [(.int (14 : Int32)), (.ref b2)])) _
      refine X49.aaload hx (j := (14 : Int32)) (v := (.ref w_ERROR)) (by rw [e49]; exact Ar148.1) (State.isArrayOf_alike hZ.alike Ar148.2.1) rfl Ar148.2.2 hin148 hat148 (g := (mkF m 189 #[.val (.int p1), .val (.ref b2), .val (.ref b50), .val (.int (14 : Int32))] [(.int (14 : Int32)), (.ref b2)])) rfl rfl (hb hby at_189) _ ?_
      show Steps p.tables e below (T49.setTop (mkF m 190 #[.val (.int p1), .val (.ref b2), .val (.ref b50), .val (.int (14 : Int32))] [(.ref w_ERROR)])) _
      refine st149.trans ?_
      show Steps p.tables e below (T149.setTop (mkF m 193 #[.val (.int p1), .val (.ref b2), .val (.ref b50), .val (.int (14 : Int32))] [(.int (1 : Int32))])) _
      refine XS.aloadN X149.here hx rfl (hb hby at_193) rfl rfl ?_
      show Steps p.tables e below (T149.setTop (mkF m 194 #[.val (.int p1), .val (.ref b2), .val (.ref b50), .val (.int (14 : Int32))] [(.ref b50), (.int (1 : Int32))])) _
      refine XS.iloadN X149.here hx rfl (hb hby at_194) rfl ?_
      show Steps p.tables e below (T149.setTop (mkF m 195 #[.val (.int p1), .val (.ref b2), .val (.ref b50), .val (.int (14 : Int32))] [(.int (14 : Int32)), (.ref b50), (.int (1 : Int32))])) _
      refine X149.baloadBooleans hx (j := (14 : Int32)) (v := (.int (1 : Int32))) (by rw [e149]; exact Ar150.1) (State.isArrayOf_alike hZ.alike Ar150.2.1) Ar150.2.2 hin150 hat150 (g := (mkF m 195 #[.val (.int p1), .val (.ref b2), .val (.ref b50), .val (.int (14 : Int32))] [(.int (14 : Int32)), (.ref b50), (.int (1 : Int32))])) rfl rfl (hb hby at_195) _ ?_
      show Steps p.tables e below (T149.setTop (mkF m 196 #[.val (.int p1), .val (.ref b2), .val (.ref b50), .val (.int (14 : Int32))] [(.int (1 : Int32)), (.int (1 : Int32))])) _
      refine XS.icmpNo X149.here hx rfl (hb hby at_196) rfl (teq (by decide : (1 : Int32) = (1 : Int32))).2 ?_
      show Steps p.tables e below (T149.setTop (mkF m 199 #[.val (.int p1), .val (.ref b2), .val (.ref b50), .val (.int (14 : Int32))] [])) _
      refine XS.iconst X149.here hx rfl (hb hby at_199) ?_
      show Steps p.tables e below (T149.setTop (mkF m 200 #[.val (.int p1), .val (.ref b2), .val (.ref b50), .val (.int (14 : Int32))] [(.int (1 : Int32))])) _
      refine XS.goto X149.here hx rfl (pc0 := 200) (pc' := 204) rfl (hb hby at_200) (by decide) (by decide) ?_
      show Steps p.tables e below (T149.setTop (mkF m 204 #[.val (.int p1), .val (.ref b2), .val (.ref b50), .val (.int (14 : Int32))] [(.int (1 : Int32))])) _
      exact retN X149 hx (t := .boolean) Bd.returns (by simp) (hb hby at_204) hr
    · show Q0_0 Z p1 w_CONNECT w_STOMP w_SEND w_SUBSCRIBE w_UNSUBSCRIBE w_ACK w_NACK w_BEGIN w_COMMIT w_ABORT w_DISCONNECT w_CONNECTED w_MESSAGE w_RECEIPT w_ERROR h0 n0 _ T149.heap _
      rw [e149]
      exact ⟨rfl, N149⟩
set_option maxRecDepth 65536 in
set_option maxHeartbeats 40000000 in
theorem comes_1 {Post : Tables → Env → Array Value → State → Outcome → State → Prop} (hpost : ∀ tb e args s v u, (limb_1_1.after args s (.returned v) u = true ∧ limb_1_2.after args s (.returned v) u = true ∧ True) → FrameEnd s (.returned v) u (Jvm.fieldLocs frame_1_writes args s ++ Jvm.arrayLocs frame_1_arrays args s ++ Jvm.staticLocs frame_1_statics s) 16 128 → Post tb e args s (.returned v) u) :
    ArmFor flags0 classFile x code maxLocals ret World_1 tables_1 room_1 Calls_1 rest_1 Pre_1 Post := by
  intro l hfl _ _ p e ha hc hk s m args below hf hA hF happ hP
  obtain ⟨hcalls, hrest, hpre⟩ := hP
  obtain ⟨-, -, -, hnamed, -, -, -, hat⟩ := (Spec.applies_iff hf).mp happ
  obtain ⟨hg, hn⟩ := and_e (Cond.before_iff.mp (show (Jvm.Cond.and given_1 narrow_1).before args s = true from hpre))
  obtain ⟨g1a, g1b⟩ := and_e hg
  obtain ⟨a0w, rfl⟩ : ∃ a0w : Value, args = #[a0w] := by
    have hs : args.size = 1 := by simpa [Cond.value, given_1] using g1a
    obtain ⟨L⟩ := args
    match L, hs with
    | [a0w], _ => exact ⟨a0w, rfl⟩
  have hw := fun d (hd : d ∈ tables_1) => atoms_spec (ws := Jvm.Cond.code x code maxLocals ret :: tables_1) hat d (List.mem_cons_of_mem _ hd)
  have hfit : Fit s := fun {y c} hc i hi => by
    obtain ⟨ha, rfl⟩ := Array.getElem?_eq_some_iff.mp hc
    have q := List.all_eq_true.mp ((Array.all_eq_true_iff_forall_mem.mp hF) _ (Array.getElem_mem ha)) i (List.mem_range.mpr hi)
    simpa [Array.getElem?_eq_getElem hi] using q
  obtain ⟨i0, ei0⟩ := is_v g1b
  obtain rfl : a0w = (.int i0) := Option.some.inj ei0
  obtain ⟨hn0, hm0⟩ := and_e hn
  obtain ⟨hn1, hm1⟩ := and_e hm0
  obtain ⟨hn2, hm2⟩ := and_e hm1
  obtain ⟨hn3, hm3⟩ := and_e hm2
  obtain ⟨hn4, hm4⟩ := and_e hm3
  obtain ⟨hn5, hm5⟩ := and_e hm4
  obtain ⟨hn6, hm6⟩ := and_e hm5
  obtain ⟨hn7, hm7⟩ := and_e hm6
  obtain ⟨hn8, hm8⟩ := and_e hm7
  obtain ⟨hn9, hm9⟩ := and_e hm8
  obtain ⟨hn10, hm10⟩ := and_e hm9
  obtain ⟨hn11, hm11⟩ := and_e hm10
  obtain ⟨hn12, hm12⟩ := and_e hm11
  obtain ⟨hn13, hm13⟩ := and_e hm12
  obtain ⟨hn14, hm14⟩ := and_e hm13
  obtain ⟨hn15, hm15⟩ := and_e hm14
  obtain ⟨hn16, hm16⟩ := and_e hm15
  obtain ⟨hn17, hm17⟩ := and_e hm16
  obtain ⟨hn18, hm18⟩ := and_e hm17
  obtain ⟨hn19, hm19⟩ := and_e hm18
  obtain ⟨hn20, hm20⟩ := and_e hm19
  obtain ⟨hn21, hm21⟩ := and_e hm20
  obtain ⟨hn22, hm22⟩ := and_e hm21
  obtain ⟨hn23, hm23⟩ := and_e hm22
  obtain ⟨hn24, hm24⟩ := and_e hm23
  obtain ⟨hn25, hm25⟩ := and_e hm24
  obtain ⟨hn26, hm26⟩ := and_e hm25
  obtain ⟨hn27, hm27⟩ := and_e hm26
  obtain ⟨hn28, hm28⟩ := and_e hm27
  obtain ⟨w_CONNECT, v_CONNECT⟩ := exa_v hn0
  have S_CONNECT := Sta.start v_CONNECT (Or.inr ⟨(hw _ (List.mem_of_getElem? (i := 3) rfl)), (hw _ (List.mem_of_getElem? (i := 4) rfl))⟩)
  have E_CONNECT := Exa.start v_CONNECT hn0
  obtain ⟨w_STOMP, v_STOMP⟩ := exa_v hn1
  have S_STOMP := Sta.start v_STOMP (Or.inr ⟨(hw _ (List.mem_of_getElem? (i := 3) rfl)), (hw _ (List.mem_of_getElem? (i := 7) rfl))⟩)
  have E_STOMP := Exa.start v_STOMP hn1
  obtain ⟨w_SEND, v_SEND⟩ := exa_v hn2
  have S_SEND := Sta.start v_SEND (Or.inr ⟨(hw _ (List.mem_of_getElem? (i := 3) rfl)), (hw _ (List.mem_of_getElem? (i := 9) rfl))⟩)
  have E_SEND := Exa.start v_SEND hn2
  obtain ⟨w_SUBSCRIBE, v_SUBSCRIBE⟩ := exa_v hn3
  have S_SUBSCRIBE := Sta.start v_SUBSCRIBE (Or.inr ⟨(hw _ (List.mem_of_getElem? (i := 3) rfl)), (hw _ (List.mem_of_getElem? (i := 11) rfl))⟩)
  have E_SUBSCRIBE := Exa.start v_SUBSCRIBE hn3
  obtain ⟨w_UNSUBSCRIBE, v_UNSUBSCRIBE⟩ := exa_v hn4
  have S_UNSUBSCRIBE := Sta.start v_UNSUBSCRIBE (Or.inr ⟨(hw _ (List.mem_of_getElem? (i := 3) rfl)), (hw _ (List.mem_of_getElem? (i := 13) rfl))⟩)
  have E_UNSUBSCRIBE := Exa.start v_UNSUBSCRIBE hn4
  obtain ⟨w_ACK, v_ACK⟩ := exa_v hn5
  have S_ACK := Sta.start v_ACK (Or.inr ⟨(hw _ (List.mem_of_getElem? (i := 3) rfl)), (hw _ (List.mem_of_getElem? (i := 15) rfl))⟩)
  have E_ACK := Exa.start v_ACK hn5
  obtain ⟨w_NACK, v_NACK⟩ := exa_v hn6
  have S_NACK := Sta.start v_NACK (Or.inr ⟨(hw _ (List.mem_of_getElem? (i := 3) rfl)), (hw _ (List.mem_of_getElem? (i := 17) rfl))⟩)
  have E_NACK := Exa.start v_NACK hn6
  obtain ⟨w_BEGIN, v_BEGIN⟩ := exa_v hn7
  have S_BEGIN := Sta.start v_BEGIN (Or.inr ⟨(hw _ (List.mem_of_getElem? (i := 3) rfl)), (hw _ (List.mem_of_getElem? (i := 19) rfl))⟩)
  have E_BEGIN := Exa.start v_BEGIN hn7
  obtain ⟨w_COMMIT, v_COMMIT⟩ := exa_v hn8
  have S_COMMIT := Sta.start v_COMMIT (Or.inr ⟨(hw _ (List.mem_of_getElem? (i := 3) rfl)), (hw _ (List.mem_of_getElem? (i := 21) rfl))⟩)
  have E_COMMIT := Exa.start v_COMMIT hn8
  obtain ⟨w_ABORT, v_ABORT⟩ := exa_v hn9
  have S_ABORT := Sta.start v_ABORT (Or.inr ⟨(hw _ (List.mem_of_getElem? (i := 3) rfl)), (hw _ (List.mem_of_getElem? (i := 23) rfl))⟩)
  have E_ABORT := Exa.start v_ABORT hn9
  obtain ⟨w_DISCONNECT, v_DISCONNECT⟩ := exa_v hn10
  have S_DISCONNECT := Sta.start v_DISCONNECT (Or.inr ⟨(hw _ (List.mem_of_getElem? (i := 3) rfl)), (hw _ (List.mem_of_getElem? (i := 25) rfl))⟩)
  have E_DISCONNECT := Exa.start v_DISCONNECT hn10
  obtain ⟨w_CONNECTED, v_CONNECTED⟩ := exa_v hn11
  have S_CONNECTED := Sta.start v_CONNECTED (Or.inr ⟨(hw _ (List.mem_of_getElem? (i := 3) rfl)), (hw _ (List.mem_of_getElem? (i := 27) rfl))⟩)
  have E_CONNECTED := Exa.start v_CONNECTED hn11
  obtain ⟨w_MESSAGE, v_MESSAGE⟩ := exa_v hn12
  have S_MESSAGE := Sta.start v_MESSAGE (Or.inr ⟨(hw _ (List.mem_of_getElem? (i := 3) rfl)), (hw _ (List.mem_of_getElem? (i := 29) rfl))⟩)
  have E_MESSAGE := Exa.start v_MESSAGE hn12
  obtain ⟨w_RECEIPT, v_RECEIPT⟩ := exa_v hn13
  have S_RECEIPT := Sta.start v_RECEIPT (Or.inr ⟨(hw _ (List.mem_of_getElem? (i := 3) rfl)), (hw _ (List.mem_of_getElem? (i := 31) rfl))⟩)
  have E_RECEIPT := Exa.start v_RECEIPT hn13
  obtain ⟨w_ERROR, v_ERROR⟩ := exa_v hn14
  have S_ERROR := Sta.start v_ERROR (Or.inr ⟨(hw _ (List.mem_of_getElem? (i := 3) rfl)), (hw _ (List.mem_of_getElem? (i := 33) rfl))⟩)
  have E_ERROR := Exa.start v_ERROR hn14
  have F_ordinal_SUBSCRIBE := Fld.start ((fld_at v_SUBSCRIBE).symm.trans (own_eqI hn15))
  have F_ordinal_CONNECT := Fld.start ((fld_at v_CONNECT).symm.trans (own_eqI hn16))
  have F_ordinal_STOMP := Fld.start ((fld_at v_STOMP).symm.trans (own_eqI hn17))
  have F_ordinal_CONNECTED := Fld.start ((fld_at v_CONNECTED).symm.trans (own_eqI hn18))
  have F_ordinal_ACK := Fld.start ((fld_at v_ACK).symm.trans (own_eqI hn19))
  have F_ordinal_RECEIPT := Fld.start ((fld_at v_RECEIPT).symm.trans (own_eqI hn20))
  have F_ordinal_NACK := Fld.start ((fld_at v_NACK).symm.trans (own_eqI hn21))
  have F_ordinal_ERROR := Fld.start ((fld_at v_ERROR).symm.trans (own_eqI hn22))
  have F_ordinal_BEGIN := Fld.start ((fld_at v_BEGIN).symm.trans (own_eqI hn23))
  have F_ordinal_SEND := Fld.start ((fld_at v_SEND).symm.trans (own_eqI hn24))
  have F_ordinal_DISCONNECT := Fld.start ((fld_at v_DISCONNECT).symm.trans (own_eqI hn25))
  have F_ordinal_COMMIT := Fld.start ((fld_at v_COMMIT).symm.trans (own_eqI hn26))
  have F_ordinal_MESSAGE := Fld.start ((fld_at v_MESSAGE).symm.trans (own_eqI hn27))
  have F_ordinal_UNSUBSCRIBE := Fld.start ((fld_at v_UNSUBSCRIBE).symm.trans (own_eqI hn28))
  have F_ordinal_ABORT := Fld.start ((fld_at v_ABORT).symm.trans (own_eqI hm28))
  have ne_CONNECT_STOMP := Fld.ne F_ordinal_CONNECT F_ordinal_STOMP (fun q => absurd (Value.int.inj q) (by decide))
  have ne_CONNECT_SEND := Fld.ne F_ordinal_CONNECT F_ordinal_SEND (fun q => absurd (Value.int.inj q) (by decide))
  have ne_SEND_STOMP := Fld.ne F_ordinal_SEND F_ordinal_STOMP (fun q => absurd (Value.int.inj q) (by decide))
  have ne_CONNECTED_SEND := Fld.ne F_ordinal_CONNECTED F_ordinal_SEND (fun q => absurd (Value.int.inj q) (by decide))
  have ne_CONNECT_SUBSCRIBE := Fld.ne F_ordinal_CONNECT F_ordinal_SUBSCRIBE (fun q => absurd (Value.int.inj q) (by decide))
  have ne_STOMP_SUBSCRIBE := Fld.ne F_ordinal_STOMP F_ordinal_SUBSCRIBE (fun q => absurd (Value.int.inj q) (by decide))
  have ne_CONNECTED_SUBSCRIBE := Fld.ne F_ordinal_CONNECTED F_ordinal_SUBSCRIBE (fun q => absurd (Value.int.inj q) (by decide))
  have ne_CONNECT_UNSUBSCRIBE := Fld.ne F_ordinal_CONNECT F_ordinal_UNSUBSCRIBE (fun q => absurd (Value.int.inj q) (by decide))
  have ne_STOMP_UNSUBSCRIBE := Fld.ne F_ordinal_STOMP F_ordinal_UNSUBSCRIBE (fun q => absurd (Value.int.inj q) (by decide))
  have ne_CONNECTED_UNSUBSCRIBE := Fld.ne F_ordinal_CONNECTED F_ordinal_UNSUBSCRIBE (fun q => absurd (Value.int.inj q) (by decide))
  have ne_ACK_CONNECT := Fld.ne F_ordinal_ACK F_ordinal_CONNECT (fun q => absurd (Value.int.inj q) (by decide))
  have ne_ACK_STOMP := Fld.ne F_ordinal_ACK F_ordinal_STOMP (fun q => absurd (Value.int.inj q) (by decide))
  have ne_ACK_CONNECTED := Fld.ne F_ordinal_ACK F_ordinal_CONNECTED (fun q => absurd (Value.int.inj q) (by decide))
  have ne_CONNECT_NACK := Fld.ne F_ordinal_CONNECT F_ordinal_NACK (fun q => absurd (Value.int.inj q) (by decide))
  have ne_NACK_STOMP := Fld.ne F_ordinal_NACK F_ordinal_STOMP (fun q => absurd (Value.int.inj q) (by decide))
  have ne_CONNECTED_NACK := Fld.ne F_ordinal_CONNECTED F_ordinal_NACK (fun q => absurd (Value.int.inj q) (by decide))
  have ne_BEGIN_CONNECT := Fld.ne F_ordinal_BEGIN F_ordinal_CONNECT (fun q => absurd (Value.int.inj q) (by decide))
  have ne_BEGIN_STOMP := Fld.ne F_ordinal_BEGIN F_ordinal_STOMP (fun q => absurd (Value.int.inj q) (by decide))
  have ne_BEGIN_CONNECTED := Fld.ne F_ordinal_BEGIN F_ordinal_CONNECTED (fun q => absurd (Value.int.inj q) (by decide))
  have ne_COMMIT_CONNECT := Fld.ne F_ordinal_COMMIT F_ordinal_CONNECT (fun q => absurd (Value.int.inj q) (by decide))
  have ne_COMMIT_STOMP := Fld.ne F_ordinal_COMMIT F_ordinal_STOMP (fun q => absurd (Value.int.inj q) (by decide))
  have ne_COMMIT_CONNECTED := Fld.ne F_ordinal_COMMIT F_ordinal_CONNECTED (fun q => absurd (Value.int.inj q) (by decide))
  have ne_ABORT_CONNECT := Fld.ne F_ordinal_ABORT F_ordinal_CONNECT (fun q => absurd (Value.int.inj q) (by decide))
  have ne_ABORT_STOMP := Fld.ne F_ordinal_ABORT F_ordinal_STOMP (fun q => absurd (Value.int.inj q) (by decide))
  have ne_ABORT_CONNECTED := Fld.ne F_ordinal_ABORT F_ordinal_CONNECTED (fun q => absurd (Value.int.inj q) (by decide))
  have ne_CONNECT_DISCONNECT := Fld.ne F_ordinal_CONNECT F_ordinal_DISCONNECT (fun q => absurd (Value.int.inj q) (by decide))
  have ne_DISCONNECT_STOMP := Fld.ne F_ordinal_DISCONNECT F_ordinal_STOMP (fun q => absurd (Value.int.inj q) (by decide))
  have ne_CONNECTED_DISCONNECT := Fld.ne F_ordinal_CONNECTED F_ordinal_DISCONNECT (fun q => absurd (Value.int.inj q) (by decide))
  have ne_CONNECT_CONNECTED := Fld.ne F_ordinal_CONNECT F_ordinal_CONNECTED (fun q => absurd (Value.int.inj q) (by decide))
  have ne_CONNECTED_STOMP := Fld.ne F_ordinal_CONNECTED F_ordinal_STOMP (fun q => absurd (Value.int.inj q) (by decide))
  have ne_CONNECT_MESSAGE := Fld.ne F_ordinal_CONNECT F_ordinal_MESSAGE (fun q => absurd (Value.int.inj q) (by decide))
  have ne_MESSAGE_STOMP := Fld.ne F_ordinal_MESSAGE F_ordinal_STOMP (fun q => absurd (Value.int.inj q) (by decide))
  have ne_CONNECTED_MESSAGE := Fld.ne F_ordinal_CONNECTED F_ordinal_MESSAGE (fun q => absurd (Value.int.inj q) (by decide))
  have ne_CONNECT_RECEIPT := Fld.ne F_ordinal_CONNECT F_ordinal_RECEIPT (fun q => absurd (Value.int.inj q) (by decide))
  have ne_RECEIPT_STOMP := Fld.ne F_ordinal_RECEIPT F_ordinal_STOMP (fun q => absurd (Value.int.inj q) (by decide))
  have ne_CONNECTED_RECEIPT := Fld.ne F_ordinal_CONNECTED F_ordinal_RECEIPT (fun q => absurd (Value.int.inj q) (by decide))
  have ne_CONNECT_ERROR := Fld.ne F_ordinal_CONNECT F_ordinal_ERROR (fun q => absurd (Value.int.inj q) (by decide))
  have ne_ERROR_STOMP := Fld.ne F_ordinal_ERROR F_ordinal_STOMP (fun q => absurd (Value.int.inj q) (by decide))
  have ne_CONNECTED_ERROR := Fld.ne F_ordinal_CONNECTED F_ordinal_ERROR (fun q => absurd (Value.int.inj q) (by decide))
  obtain ⟨n, o, h1, h2, h3, _, L, rfl, ⟨rfl, N⟩, hq⟩ := rm0_0 l s _ hw tables_1 i0 w_CONNECT w_STOMP w_SEND w_SUBSCRIBE w_UNSUBSCRIBE w_ACK w_NACK w_BEGIN w_COMMIT w_ABORT w_DISCONNECT w_CONNECTED w_MESSAGE w_RECEIPT w_ERROR s.heap s.heap.size (Nat.le_refl _) S_CONNECT E_CONNECT S_STOMP E_STOMP S_SEND E_SEND S_SUBSCRIBE E_SUBSCRIBE S_UNSUBSCRIBE E_UNSUBSCRIBE S_ACK E_ACK S_NACK E_NACK S_BEGIN E_BEGIN S_COMMIT E_COMMIT S_ABORT E_ABORT S_DISCONNECT E_DISCONNECT S_CONNECTED E_CONNECTED S_MESSAGE E_MESSAGE S_RECEIPT E_RECEIPT S_ERROR E_ERROR ne_CONNECT_STOMP ne_CONNECT_SEND ne_SEND_STOMP ne_CONNECTED_SEND ne_CONNECT_SUBSCRIBE ne_STOMP_SUBSCRIBE ne_CONNECTED_SUBSCRIBE ne_CONNECT_UNSUBSCRIBE ne_STOMP_UNSUBSCRIBE ne_CONNECTED_UNSUBSCRIBE ne_ACK_CONNECT ne_ACK_STOMP ne_ACK_CONNECTED ne_CONNECT_NACK ne_NACK_STOMP ne_CONNECTED_NACK ne_BEGIN_CONNECT ne_BEGIN_STOMP ne_BEGIN_CONNECTED ne_COMMIT_CONNECT ne_COMMIT_STOMP ne_COMMIT_CONNECTED ne_ABORT_CONNECT ne_ABORT_STOMP ne_ABORT_CONNECTED ne_CONNECT_DISCONNECT ne_DISCONNECT_STOMP ne_CONNECTED_DISCONNECT ne_CONNECT_CONNECTED ne_CONNECTED_STOMP ne_CONNECT_MESSAGE ne_MESSAGE_STOMP ne_CONNECTED_MESSAGE ne_CONNECT_RECEIPT ne_RECEIPT_STOMP ne_CONNECTED_RECEIPT ne_CONNECT_ERROR ne_ERROR_STOMP ne_CONNECTED_ERROR p e ha hc hk s m _ below hf ((Spec.applies_iff_loose hf).mp happ).1 ⟨rfl, State.Warmed39.refl s, rfl⟩ trivial
  refine ⟨n, _, h1, h2, h3, hpost _ _ _ _ _ _ ⟨Cond.after_iff.mpr rfl, Cond.after_iff.mpr (eq_i res_at (Term.int_eval (1)) rfl), trivial⟩ ⟨hq.1, hq.2.1, (hq.2.2.sift fun y hy => Or.inr (N y hy)).mono (by decide) (by decide)⟩⟩
theorem main_1_1 : Claimed_1_1 := comes_1 fun _ _ _ _ _ _ h hF => ⟨h.1, hF⟩
theorem main_1_2 : Claimed_1_2 := comes_1 fun _ _ _ _ _ _ h hF => ⟨h.2.1, hF⟩
end Jvm.Pilot.@@N@@
namespace Jvm.Pilot.@@N@@
open Jvm Jvm.ClassFile Sem Op Lib Jvm.Free Jvm.Stand Jvm.Pilot.@@N@@.Jvm.D
/-! MADE BY PROGRAM (witnessworld.py) out of the Statement's table words and the real class files: 15 classes; the members and pool entries that the words name. The judged class is class 1, her method 1. -/
namespace start1
open Jvm.ClassFile
def u (s : String) : CpInfo := .utf8 (stringToUtf16 s)
/-- a pool by its gaps: so many unusable entries, then the entry; so many at the end -/
def gap : Nat → List CpInfo → List CpInfo
  | 0, r => r
  | n + 1, r => .unusable :: gap n r
def poolList (es : List (Nat × CpInfo)) (last : Nat) : List CpInfo := es.foldr (fun e r => gap e.1 (e.2 :: r)) (gap last [])
def pool (es : List (Nat × CpInfo)) (last : Nat) : Array CpInfo := ⟨poolList es last⟩
def fileOf (pool : Array CpInfo) (this : Nat) (attrs : Array Attribute := #[]) (ms : Array MethodInfo := #[]) (fl : Nat := 33) (sup : Nat := 0) (ifs : Array Nat := #[]) (fds : Array FieldInfo := #[]) : ClassFile where
  minorVersion := 0
  majorVersion := 65
  constantPool := pool
  accessFlags := fl
  thisClass := this
  superClass := sup
  interfaces := ifs
  fields := fds
  methods := ms
  attributes := attrs
def plain (name : String) (sup : Option ClassId) : Class where
  name := name
  kind := .ordinary
  loader := none
  accessFlags := 33
  super := sup
  interfaces := #[]
  cf := none
  fields := #[]
  methods := #[]
  instanceTypes := #[]
  staticTypes := #[]
  resolved := #[]
  callSites := []
  init := .initialized
  statics := none
  mirror := none

def pool0 : Array CpInfo := pool [(5, u "<init>"), (0, u "()V"), (1, .class_ 10), (1, u "java/lang/Object")] 113

def k0m0 : Method := { name := "<init>", desc := "()V", sig := { parameters := [], returnType := none }, accessFlags := 1, code := none }
/-- java/lang/Object -/
def k0 : Class := { plain "java/lang/Object" none with
  accessFlags := 33
  interfaces := #[]
  cf := some (fileOf pool0 8 #[] #[{ accessFlags := 1, nameIndex := 5, descriptorIndex := 6, attributes := #[] }] 33 0 #[] #[])
  fields := #[]
  methods := #[k0m0]
  instanceTypes := #[]
  staticTypes := #[]
  resolved := Array.replicate 124 none
  statics := none }

def pool1 : Array CpInfo := pool [(2, .class_ 4), (1, u "java/lang/Object"), (0, u "<init>"), (0, u "()V"), (0, .class_ 8), (0, u "com/example/grebe/grebe/frame/Command"), (0, .fieldref 7 10), (0, .nameAndType 11 12), (0, u "CONNECT"), (0, u "Lcom/example/grebe/grebe/frame/Command;"), (0, .fieldref 7 14), (0, .nameAndType 15 12), (0, u "STOMP"), (0, .fieldref 7 17), (0, .nameAndType 18 12), (0, u "SEND"), (0, .fieldref 7 20), (0, .nameAndType 21 12), (0, u "SUBSCRIBE"), (0, .fieldref 7 23), (0, .nameAndType 24 12), (0, u "UNSUBSCRIBE"), (0, .fieldref 7 26), (0, .nameAndType 27 12), (0, u "ACK"), (0, .fieldref 7 29), (0, .nameAndType 30 12), (0, u "NACK"), (0, .fieldref 7 32), (0, .nameAndType 33 12), (0, u "BEGIN"), (0, .fieldref 7 35), (0, .nameAndType 36 12), (0, u "COMMIT"), (0, .fieldref 7 38), (0, .nameAndType 39 12), (0, u "ABORT"), (0, .fieldref 7 41), (0, .nameAndType 42 12), (0, u "DISCONNECT"), (0, .fieldref 7 44), (0, .nameAndType 45 12), (0, u "CONNECTED"), (0, .fieldref 7 47), (0, .nameAndType 48 12), (0, u "MESSAGE"), (0, .fieldref 7 50), (0, .nameAndType 51 12), (0, u "RECEIPT"), (0, .fieldref 7 53), (0, .nameAndType 54 12), (0, u "ERROR"), (0, .integer 2147483647), (0, .methodref 7 57), (0, .nameAndType 58 59), (0, u "escapesHeaders"), (0, u "()Z"), (0, .class_ 61), (0, u "com/example/grebe/grebe/frame/CommandEscapesHeadersPinLaw"), (2, u "law"), (0, u "(I)Z")] 7

def k1m0 : Method := { name := "<init>", desc := "()V", sig := { parameters := [], returnType := none }, accessFlags := 2, code := none }
def k1c1 : Code := { maxStack := 4, maxLocals := 4, code := code, exceptionTable := #[], attributes := #[] }
def k1m1 : Method := { name := "law", desc := "(I)Z", sig := { parameters := [.int], returnType := some .boolean }, accessFlags := 9, code := some k1c1 }
/-- com/example/grebe/grebe/frame/CommandEscapesHeadersPinLaw -/
def k1 : Class := { plain "com/example/grebe/grebe/frame/CommandEscapesHeadersPinLaw" (some 0) with
  accessFlags := 49
  interfaces := #[]
  cf := some (fileOf pool1 60 #[] #[{ accessFlags := 2, nameIndex := 5, descriptorIndex := 6, attributes := #[] }, { accessFlags := 9, nameIndex := 64, descriptorIndex := 65, attributes := #[] }] 49 2 #[] #[])
  fields := #[]
  methods := #[k1m0, k1m1]
  instanceTypes := #[]
  staticTypes := #[]
  resolved := Array.replicate 73 none
  statics := none }

def pool2 : Array CpInfo := pool [(1, .class_ 2), (0, u "java/lang/constant/Constable"), (0, .class_ 4), (0, u "java/lang/Object")] 6

/-- java/lang/constant/Constable -/
def k2 : Class := { plain "java/lang/constant/Constable" (some 0) with
  accessFlags := 1537
  interfaces := #[]
  cf := some (fileOf pool2 1 #[] #[] 1537 3 #[] #[])
  fields := #[]
  methods := #[]
  instanceTypes := #[]
  staticTypes := #[]
  resolved := Array.replicate 11 none
  statics := none }

def pool3 : Array CpInfo := pool [(1, .class_ 2), (0, u "java/lang/Comparable"), (0, .class_ 4), (0, u "java/lang/Object")] 7

/-- java/lang/Comparable -/
def k3 : Class := { plain "java/lang/Comparable" (some 0) with
  accessFlags := 1537
  interfaces := #[]
  cf := some (fileOf pool3 1 #[] #[] 1537 3 #[] #[])
  fields := #[]
  methods := #[]
  instanceTypes := #[]
  staticTypes := #[]
  resolved := Array.replicate 12 none
  statics := none }

def pool4 : Array CpInfo := pool [(1, .class_ 2), (0, u "java/io/Serializable"), (0, .class_ 4), (0, u "java/lang/Object")] 2

/-- java/io/Serializable -/
def k4 : Class := { plain "java/io/Serializable" (some 0) with
  accessFlags := 1537
  interfaces := #[]
  cf := some (fileOf pool4 1 #[] #[] 1537 3 #[] #[])
  fields := #[]
  methods := #[]
  instanceTypes := #[]
  staticTypes := #[]
  resolved := Array.replicate 7 none
  statics := none }

def pool5 : Array CpInfo := pool [(2, .class_ 4), (1, u "java/lang/Enum"), (0, u "name"), (0, u "Ljava/lang/String;"), (2, u "ordinal"), (0, u "I"), (1, .class_ 14), (1, u "java/lang/Object"), (4, u "hash"), (86, .class_ 108), (1, u "java/lang/Enum$EnumDesc"), (2, .class_ 112), (0, u "java/lang/constant/Constable"), (0, .class_ 114), (0, u "java/lang/Comparable"), (0, .class_ 116), (0, u "java/io/Serializable")] 87

/-- java/lang/Enum -/
def k5 : Class := { plain "java/lang/Enum" (some 0) with
  accessFlags := 1057
  interfaces := #[2, 3, 4]
  cf := some (fileOf pool5 2 #[.nestMembers #[106]] #[] 1057 12 #[111, 113, 115] #[{ accessFlags := 18, nameIndex := 5, descriptorIndex := 6, attributes := #[] }, { accessFlags := 18, nameIndex := 9, descriptorIndex := 10, attributes := #[] }, { accessFlags := 2, nameIndex := 19, descriptorIndex := 10, attributes := #[] }])
  fields := #[{ name := "name", type := (.object "java/lang/String"), accessFlags := 18, slot := 0, constantValue := 0 }, { name := "ordinal", type := .int, accessFlags := 18, slot := 1, constantValue := 0 }, { name := "hash", type := .int, accessFlags := 2, slot := 2, constantValue := 0 }]
  methods := #[]
  instanceTypes := #[(.object "java/lang/String"), .int, .int]
  staticTypes := #[]
  resolved := Array.replicate 204 none
  statics := none }

def pool6 : Array CpInfo := pool [(1, .class_ 2), (0, u "com/example/grebe/grebe/frame/Command"), (0, .fieldref 1 4), (0, .nameAndType 5 6), (0, u "CONNECT"), (0, u "Lcom/example/grebe/grebe/frame/Command;"), (0, .fieldref 1 8), (0, .nameAndType 9 6), (0, u "STOMP"), (2, u "SEND"), (2, u "SUBSCRIBE"), (2, u "UNSUBSCRIBE"), (2, u "ACK"), (2, u "NACK"), (2, u "BEGIN"), (2, u "COMMIT"), (2, u "ABORT"), (2, u "DISCONNECT"), (0, .fieldref 1 38), (0, .nameAndType 39 6), (0, u "CONNECTED"), (2, u "MESSAGE"), (2, u "RECEIPT"), (2, u "ERROR"), (2, u "$VALUES"), (0, u "[Lcom/example/grebe/grebe/frame/Command;"), (6, .class_ 61), (1, u "java/lang/Enum"), (33, u "escapesHeaders"), (0, u "()Z")] 5

def k6c0 : Code := { maxStack := 2, maxLocals := 1, code := prog_8_method_4_code, exceptionTable := #[], attributes := #[] }
def k6m0 : Method := { name := "escapesHeaders", desc := "()Z", sig := { parameters := [], returnType := some .boolean }, accessFlags := 1, code := some k6c0 }
/-- com/example/grebe/grebe/frame/Command -/
def k6 : Class := { plain "com/example/grebe/grebe/frame/Command" (some 5) with
  accessFlags := 16433
  interfaces := #[]
  cf := some (fileOf pool6 1 #[] #[{ accessFlags := 1, nameIndex := 95, descriptorIndex := 96, attributes := #[] }] 16433 59 #[] #[{ accessFlags := 16409, nameIndex := 5, descriptorIndex := 6, attributes := #[] }, { accessFlags := 16409, nameIndex := 9, descriptorIndex := 6, attributes := #[] }, { accessFlags := 16409, nameIndex := 12, descriptorIndex := 6, attributes := #[] }, { accessFlags := 16409, nameIndex := 15, descriptorIndex := 6, attributes := #[] }, { accessFlags := 16409, nameIndex := 18, descriptorIndex := 6, attributes := #[] }, { accessFlags := 16409, nameIndex := 21, descriptorIndex := 6, attributes := #[] }, { accessFlags := 16409, nameIndex := 24, descriptorIndex := 6, attributes := #[] }, { accessFlags := 16409, nameIndex := 27, descriptorIndex := 6, attributes := #[] }, { accessFlags := 16409, nameIndex := 30, descriptorIndex := 6, attributes := #[] }, { accessFlags := 16409, nameIndex := 33, descriptorIndex := 6, attributes := #[] }, { accessFlags := 16409, nameIndex := 36, descriptorIndex := 6, attributes := #[] }, { accessFlags := 16409, nameIndex := 39, descriptorIndex := 6, attributes := #[] }, { accessFlags := 16409, nameIndex := 42, descriptorIndex := 6, attributes := #[] }, { accessFlags := 16409, nameIndex := 45, descriptorIndex := 6, attributes := #[] }, { accessFlags := 16409, nameIndex := 48, descriptorIndex := 6, attributes := #[] }, { accessFlags := 4122, nameIndex := 51, descriptorIndex := 52, attributes := #[] }])
  fields := #[{ name := "CONNECT", type := (.object "com/example/grebe/grebe/frame/Command"), accessFlags := 16409, slot := 0, constantValue := 0 }, { name := "STOMP", type := (.object "com/example/grebe/grebe/frame/Command"), accessFlags := 16409, slot := 1, constantValue := 0 }, { name := "SEND", type := (.object "com/example/grebe/grebe/frame/Command"), accessFlags := 16409, slot := 2, constantValue := 0 }, { name := "SUBSCRIBE", type := (.object "com/example/grebe/grebe/frame/Command"), accessFlags := 16409, slot := 3, constantValue := 0 }, { name := "UNSUBSCRIBE", type := (.object "com/example/grebe/grebe/frame/Command"), accessFlags := 16409, slot := 4, constantValue := 0 }, { name := "ACK", type := (.object "com/example/grebe/grebe/frame/Command"), accessFlags := 16409, slot := 5, constantValue := 0 }, { name := "NACK", type := (.object "com/example/grebe/grebe/frame/Command"), accessFlags := 16409, slot := 6, constantValue := 0 }, { name := "BEGIN", type := (.object "com/example/grebe/grebe/frame/Command"), accessFlags := 16409, slot := 7, constantValue := 0 }, { name := "COMMIT", type := (.object "com/example/grebe/grebe/frame/Command"), accessFlags := 16409, slot := 8, constantValue := 0 }, { name := "ABORT", type := (.object "com/example/grebe/grebe/frame/Command"), accessFlags := 16409, slot := 9, constantValue := 0 }, { name := "DISCONNECT", type := (.object "com/example/grebe/grebe/frame/Command"), accessFlags := 16409, slot := 10, constantValue := 0 }, { name := "CONNECTED", type := (.object "com/example/grebe/grebe/frame/Command"), accessFlags := 16409, slot := 11, constantValue := 0 }, { name := "MESSAGE", type := (.object "com/example/grebe/grebe/frame/Command"), accessFlags := 16409, slot := 12, constantValue := 0 }, { name := "RECEIPT", type := (.object "com/example/grebe/grebe/frame/Command"), accessFlags := 16409, slot := 13, constantValue := 0 }, { name := "ERROR", type := (.object "com/example/grebe/grebe/frame/Command"), accessFlags := 16409, slot := 14, constantValue := 0 }, { name := "$VALUES", type := (.array (.object "com/example/grebe/grebe/frame/Command")), accessFlags := 4122, slot := 15, constantValue := 0 }]
  methods := #[k6m0]
  instanceTypes := #[(.object "java/lang/String"), .int, .int]
  staticTypes := #[(.object "com/example/grebe/grebe/frame/Command"), (.object "com/example/grebe/grebe/frame/Command"), (.object "com/example/grebe/grebe/frame/Command"), (.object "com/example/grebe/grebe/frame/Command"), (.object "com/example/grebe/grebe/frame/Command"), (.object "com/example/grebe/grebe/frame/Command"), (.object "com/example/grebe/grebe/frame/Command"), (.object "com/example/grebe/grebe/frame/Command"), (.object "com/example/grebe/grebe/frame/Command"), (.object "com/example/grebe/grebe/frame/Command"), (.object "com/example/grebe/grebe/frame/Command"), (.object "com/example/grebe/grebe/frame/Command"), (.object "com/example/grebe/grebe/frame/Command"), (.object "com/example/grebe/grebe/frame/Command"), (.object "com/example/grebe/grebe/frame/Command"), (.array (.object "com/example/grebe/grebe/frame/Command"))]
  resolved := Array.replicate 102 none
  statics := some 0 }

def pool7 : Array CpInfo := pool [(1, u "java/lang/Cloneable"), (0, .class_ 1), (0, u "java/lang/Object"), (0, .class_ 3)] 3

/-- java/lang/Cloneable -/
def k7 : Class := { plain "java/lang/Cloneable" (some 0) with
  accessFlags := 1537
  interfaces := #[]
  cf := some (fileOf pool7 2 #[] #[] 1537 4 #[] #[])
  fields := #[]
  methods := #[]
  instanceTypes := #[]
  staticTypes := #[]
  resolved := Array.replicate 8 none
  statics := none }

/-- the primitive boolean -/
def k8 : Class := { plain "boolean" none with kind := .primitive 'Z', accessFlags := 0x411 }
/-- [Z -/
def k9 : Class := { plain "[Z" (some 0) with kind := .array 8 .boolean, interfaces := #[7, 4], accessFlags := 1041 }

/-- the primitive byte -/
def k10 : Class := { plain "byte" none with kind := .primitive 'B', accessFlags := 0x411 }
/-- [B -/
def k11 : Class := { plain "[B" (some 0) with kind := .array 10 .byte, interfaces := #[7, 4], accessFlags := 1041 }

/-- the primitive int -/
def k12 : Class := { plain "int" none with kind := .primitive 'I', accessFlags := 0x411 }
/-- [I -/
def k13 : Class := { plain "[I" (some 0) with kind := .array 12 .int, interfaces := #[7, 4], accessFlags := 1041 }

/-- [Lcom/example/grebe/grebe/frame/Command; -/
def k14 : Class := { plain "[Lcom/example/grebe/grebe/frame/Command;" (some 0) with kind := .array 6 (.object "com/example/grebe/grebe/frame/Command"), interfaces := #[7, 4], accessFlags := 1041 }

def heap : Heap := #[{ cls := 6, slots := #[.ref 1, .ref 2, .ref 3, .ref 4, .ref 5, .ref 6, .ref 7, .ref 8, .ref 9, .ref 10, .ref 11, .ref 12, .ref 13, .ref 14, .ref 15, .null], vm := .statics 6 },
  { cls := 6, slots := #[.null, .int 0, .int 0], vm := .none },
  { cls := 6, slots := #[.null, .int 1, .int 0], vm := .none },
  { cls := 6, slots := #[.null, .int 2, .int 0], vm := .none },
  { cls := 6, slots := #[.null, .int 3, .int 0], vm := .none },
  { cls := 6, slots := #[.null, .int 4, .int 0], vm := .none },
  { cls := 6, slots := #[.null, .int 5, .int 0], vm := .none },
  { cls := 6, slots := #[.null, .int 6, .int 0], vm := .none },
  { cls := 6, slots := #[.null, .int 7, .int 0], vm := .none },
  { cls := 6, slots := #[.null, .int 8, .int 0], vm := .none },
  { cls := 6, slots := #[.null, .int 9, .int 0], vm := .none },
  { cls := 6, slots := #[.null, .int 10, .int 0], vm := .none },
  { cls := 6, slots := #[.null, .int 11, .int 0], vm := .none },
  { cls := 6, slots := #[.null, .int 12, .int 0], vm := .none },
  { cls := 6, slots := #[.null, .int 13, .int 0], vm := .none },
  { cls := 6, slots := #[.null, .int 14, .int 0], vm := .none }]
def classes : Array Class := #[k0, k1, k2, k3, k4, k5, k6, k7, k8, k9, k10, k11, k12, k13, k14]
def interned : List (Array UInt16 × Addr) := []
def slotsUsed : Nat := 61
def theMethod : MethodId := ⟨1, 1⟩
def args0 : Array Value := #[.int 5]
def aboutOver (below : List Frame) : State where
  vm := { classes := classes, interned := interned.toArray }
  heap := heap
  slotsUsed := slotsUsed
  threads := #[{ frames := .invoking theMethod args0 :: below }]
def below0 : List Frame := [.native { method := ⟨0, 0⟩, args := #[] }]
def about1 : State := aboutOver below0
def p0 : Program := .bare "" "" ""
def e0 : Env := launch0.env 0 0 0
theorem w_frames : about1.frames = Frame.invoking theMethod args0 :: below0 := rfl
set_option maxRecDepth 65536 in
theorem w_args : argsFit about1.vm theMethod args0 = true := by decide +kernel
set_option maxRecDepth 65536 in
theorem w_heap : heapFits about1 = true := by decide +kernel
set_option maxRecDepth 65536 in
theorem w_runnable : about1.curStatus? = some .runnable := by decide +kernel
set_option maxRecDepth 65536 in
theorem w_alone : about1.alone = true := by decide +kernel
set_option maxRecDepth 65536 in
theorem w_named : about1.methodNamed? x = some theMethod := by decide +kernel
set_option maxRecDepth 65536 in
theorem w_hears : about1.hears theMethod below0 = true := by decide +kernel
set_option maxRecDepth 65536 in
theorem w_ripe : about1.ripe theMethod args0 below0 = true := by decide +kernel
theorem w_running : about1.status = .running := rfl
set_option maxRecDepth 65536 in
theorem w_room : about1.hasRoom e0.platform room_1 = true :=
  launch0.hasRoom_least _ room_1 (by decide +kernel) (by decide +kernel) (by decide +kernel) (by decide +kernel) (by decide +kernel) (by decide +kernel)
theorem allAtoms_all (ts : List Jvm.Cond) (a : Array Jvm.Value) (st : Jvm.State) : (allAtoms ts).before a st = ts.all (fun c => c.before a st) := by
  induction ts with
  | nil => rfl
  | cons c t ih =>
    show (Jvm.Cond.and c (allAtoms t)).before a st = _
    rw [Jvm.Cond.before_and, ih, List.all_cons]
def words1 : List Jvm.Cond := Jvm.Cond.code x code maxLocals ret :: tables_1
/-- a 'code' word, met by the world's own term for the bytes: nothing is compared byte by byte -/
theorem code_word {y : MethodName} {bytes : ByteArray} {mx : Nat} {rt : Option FieldType} {a : Array Value} {s : State} {m : MethodId} {meth : Method} {c : Code} (h1 : s.methodNamed? y = some m) (h2 : s.vm.method? m = some meth) (h3 : meth.code = some c) (h4 : c.code = bytes)
    (h5 : (c.maxLocals == mx && c.exceptionTable.isEmpty && decide (c.maxStack ≤ mostOperands) && decide (meth.sig.returnType = rt) && !meth.locks && decide (parseMethodDescriptor y.desc = some meth.sig)) = true) : (Jvm.Cond.code y bytes mx rt).before a s = true := by
  simp only [Bool.and_eq_true, beq_iff_eq, Bool.not_eq_true', decide_eq_true_eq] at h5
  obtain ⟨⟨⟨⟨⟨g1, g2⟩, g3⟩, g4⟩, g5⟩, g6⟩ := h5
  simp [Cond.before, Cond.holds, Cond.value, h1, h2, h3, h4, g1, g2, g3, g4, g5, g6]
def isCode : Jvm.Cond → Bool
  | .code _ _ _ _ => true
  | _ => false
theorem all_split {L : List Jvm.Cond} {P : Jvm.Cond → Bool} (h1 : L.all (fun c => isCode c || P c) = true) (h2 : ∀ c ∈ L.filter isCode, P c = true) : L.all P = true := by
  refine List.all_eq_true.mpr fun c hc => ?_
  have h := List.all_eq_true.mp h1 c hc
  rcases Bool.eq_false_or_eq_true (isCode c) with hi | hi
  · exact h2 c (List.mem_filter.mpr ⟨hc, hi⟩)
  · simpa [hi] using h
set_option maxRecDepth 65536 in
theorem w_c0 : (Jvm.Cond.code x code maxLocals ret).before args0 about1 = true := code_word (m := ⟨1, 1⟩) (meth := k1m1) (c := k1c1) (by decide +kernel) rfl rfl rfl (by decide +kernel)
set_option maxRecDepth 65536 in
theorem w_c1 : (Jvm.Cond.code ({ cls := "com/example/grebe/grebe/frame/Command", name := "escapesHeaders", desc := "()Z" } : Jvm.MethodName) prog_8_method_4_code (1 : Nat) (Option.some Jvm.ClassFile.FieldType.boolean)).before args0 about1 = true := code_word (m := ⟨6, 0⟩) (meth := k6m0) (c := k6c0) (by decide +kernel) rfl rfl rfl (by decide +kernel)
def codes1 : List Jvm.Cond := [Jvm.Cond.code x code maxLocals ret, Jvm.Cond.code ({ cls := "com/example/grebe/grebe/frame/Command", name := "escapesHeaders", desc := "()Z" } : Jvm.MethodName) prog_8_method_4_code (1 : Nat) (Option.some Jvm.ClassFile.FieldType.boolean)]
set_option maxRecDepth 65536 in
theorem codes_eq : words1.filter isCode = codes1 := rfl
theorem w_codes : ∀ c ∈ words1.filter isCode, c.before args0 about1 = true := by
  rw [codes_eq]
  intro c hc
  simp only [codes1, List.mem_cons, List.not_mem_nil, or_false] at hc
  rcases hc with rfl | rfl
  · exact w_c0
  · exact w_c1
set_option maxRecDepth 65536 in
theorem w_t1 : (words1.take 24).all (fun c => isCode c || c.before args0 about1) = true := by decide +kernel
set_option maxRecDepth 65536 in
theorem w_t2 : (words1.drop 24).all (fun c => isCode c || c.before args0 about1) = true := by decide +kernel
theorem w_tables : (allAtoms (Jvm.Cond.code x code maxLocals ret :: tables_1)).before args0 about1 = true := by
  rw [allAtoms_all]
  show words1.all (fun c => c.before args0 about1) = true
  refine all_split ?_ w_codes
  rw [← List.take_append_drop 24 words1, List.all_append, w_t1, w_t2]
  rfl
set_option maxRecDepth 65536 in
theorem w_case : (Jvm.Cond.and given_1 narrow_1).before args0 about1 = true := by decide +kernel
theorem w_applies : (headSpec (Jvm.Cond.code x code maxLocals ret :: tables_1) room_1).applies x e0.platform about1 = true :=
  (Spec.applies_iff w_frames).mpr ⟨w_running, w_runnable, w_alone, w_named, w_hears, w_ripe, w_room, w_tables⟩
theorem atStart : AtStart classFile x code maxLocals ret World_1 tables_1 room_1 Calls_1 rest_1 Pre_1 launch0 p0 e0 about1 theMethod args0 below0 :=
  ⟨lists_1, trivial, launch0.admits_env _ _ _, launch0.least_env, fairChoices_fair.cas, fairChoices_fair.clock, w_frames, w_args, w_heap, w_applies, trivial, trivial, w_case⟩
end start1
theorem witness_1 : WitnessClaimed_1 := ⟨start1.p0, start1.e0, start1.about1, start1.theMethod, start1.args0, start1.below0, start1.atStart⟩
end Jvm.Pilot.@@N@@
