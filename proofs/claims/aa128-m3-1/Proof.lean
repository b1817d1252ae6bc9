import JvmDerived
import JvmDerived.Pilot.@@N@@Statement
import JvmDerived.Pilot.@@N@@Code
set_option linter.unusedVariables false
set_option linter.unusedSimpArgs false
namespace Jvm.RoadKit
open Sem ClassFile Op Lib Jvm.Stand Jvm.Free Jvm.LawKit
section New
variable {p : Program} {l : Launch} {e : Env} {R : Room} {s : State} {m : MethodId} {args : Array Value} {below : List Frame} {meth : Method} {c : Code} {T : State} {locs : List Loc} {cells slots : Nat}
theorem retI (X : Stand p l e R s m args below meth c T locs cells slots) (hx : p.tables.exec = Jvm.exec) {pc : Nat} {Ls : Array Slot} {z : Int32} {rest : List Value} (hret : meth.sig.returnType = some .int) (hd : decode c.code pc = .ok (.ireturn, 1)) {fs : List Frame}
    (hl : ∀ (f : JFrame) (acts : List Action), f.method = m → f.locked = none → f.entered = [] → (doReturn e (T.setTop f) acts (some (.int z))).1 = T.setFrames fs) : Steps p.tables e below (T.setTop (mkF m pc Ls (.int z :: rest))) (T.setFrames fs) := by
  have hm' : T.vm.method? m = some meth := X.method'
  have hn : narrow .int (.int z) = .int z := rfl
  show Steps p.tables e below (T.setTop { method := m, pc := pc, locals := Ls, stack := _ :: rest, locked := none }) _
  jvm_step X.here [X.here.top, hx, hd, hm', hret, hn]
  first | (intro acts; rw [hl _ acts rfl rfl rfl]) | rw [hl _ _ rfl rfl rfl]
  exact Steps.refl _
end New
end Jvm.RoadKit
namespace Jvm.Pilot.@@N@@
open Jvm Jvm.ClassFile Sem Op Lib Jvm.Free Jvm.Stand Jvm.LawKit Jvm.RoadKit Bundle Jvm.Pilot.@@N@@.Jvm.D
/-- the run from frame g of state T ends, returns w, leaves heap h and writes new cells alone -/
def oEnd (p : Program) (e : Env) (s : State) (below : List Frame) (T : State) (g : JFrame) (n0 : Nat) (h : Heap) (cells slots : Nat) (w : Option Value) : Prop :=
  ∃ t L, Steps p.tables e below (T.setTop g) t ∧ t.status = .running ∧ Ended t below (.returned w) ∧ s.WarmedH t.vm ∧ s.sameButNew ({ t with vm := s.vm } : State) L cells slots ∧ Fr n0 L ∧ t.heap = h
theorem oPre {p : Program} {e : Env} {s : State} {below : List Frame} {T T' : State} {g g' : JFrame} {n0 : Nat} {h : Heap} {cells slots : Nat} {w : Option Value}
    (k : ∀ target, Steps p.tables e below (T'.setTop g') target → Steps p.tables e below (T.setTop g) target) (q : oEnd p e s below T' g' n0 h cells slots w) : oEnd p e s below T g n0 h cells slots w := by
  obtain ⟨t, L, hs, r⟩ := q
  exact ⟨t, L, k t hs, r⟩
/-- what a pure body leaves -/
def oQp (r : Option Value) (h0 : Heap) (n0 : Nat) (v : Option Value) (h : Heap) (L : List Loc) : Prop := v = r ∧ Fr n0 L ∧ h = h0
def oI2c (x : Int32) : Int32 := x.toUInt32.toUInt16.toUInt32.toInt32
/-- a static stays where an object's cell alone was written -/
theorem oStaK {Z : State} {h h' : Heap} {b : Addr} {K C n d : String} {w : Value} (Kp : Keep h h' [b]) (E : Exa Z h b K) (F : Sta Z h C n d w) : Sta Z h' C n d w := by
  obtain ⟨cf, i, k, f, st, cell, h1, h2, h3, h4, h5, h6, r⟩ := F
  refine ⟨cf, i, k, f, st, cell, h1, h2, h3, h4, Kp.2.1 _ _ h5 (fun q => ?_), h6, r⟩
  obtain ⟨cell', k', g1, -, -, g4, -⟩ := E
  cases List.mem_singleton.mp q
  cases g1.symm.trans h5
  rw [h6] at g4
  cases g4
theorem oKeep1 {h0 h h' : Heap} {a b : Addr} (K : Keep h0 h [a]) (K' : Keep h h' [b]) (q : h0.size ≤ b) : Keep h0 h' [a] :=
  K.trans K' fun x hx => Or.inr (by cases List.mem_singleton.mp hx; exact q)
theorem oNi {a b : Addr} (h : a ≠ b) : a ∉ [b] := fun q => h (List.mem_singleton.mp q)
theorem d6_0 : decode jdk_22_method_1_code 0 = .ok (.aload_n 0, 1) := by decide +kernel
theorem d6_1 : decode jdk_22_method_1_code 1 = .ok (.invokespecial 1, 3) := by decide +kernel
theorem d6_4 : decode jdk_22_method_1_code 4 = .ok (.return_, 1) := by decide +kernel
theorem pn_6 : plainName "java/util/AbstractCollection" = true := by first | (simp [plainName, overriddenIn]; done) | decide +kernel
theorem ef_6 (m : MethodId) (x0 : Addr) : entryFrame m #[(.ref x0)] 1 = mkF m 0 #[.val (.ref x0)] [] := by first | (simp [entryFrame, mkF, argsToLocals, Value.category]; done) | rfl
def Q6 (Z : State) (a1 : Addr) (h0 : Heap) (n0 : Nat) (v : Option Value) (h : Heap) (L : List Loc) : Prop := v = none ∧ Fr n0 L ∧ h = h0
set_option maxRecDepth 65536 in
set_option maxHeartbeats 40000000 in
theorem rm6 (l : Launch) (Z : State) (a0 : Array Value) (hw : ∀ d ∈ tables_1, d.before a0 Z = true) (ws : List Jvm.Cond) (a1 : Addr) (h0 : Heap) (n0 : Nat) (Z0 : n0 ≤ h0.size) :
    MetFree l (⟨"java/util/AbstractCollection", "<init>", "()V"⟩ : MethodName) (head1 (Jvm.Cond.code (⟨"java/util/AbstractCollection", "<init>", "()V"⟩ : MethodName) jdk_22_method_1_code 1 none :: ws) ({ frames := 1, cells := 0, slots := 0, locals := 12 } : Room)) (fun a U => a = #[(.ref a1)] ∧ Z.Warmed39 U.vm ∧ U.heap = h0) (fun _ _ _ _ _ => True) (fun _ U o U' => ∃ v L, o = .returned v ∧ Q6 Z a1 h0 n0 v U'.heap L ∧ FrameEnd U o U' L ({ frames := 1, cells := 0, slots := 0, locals := 12 } : Room).cells ({ frames := 1, cells := 0, slots := 0, locals := 12 } : Room).slots) := by
  refine MetFree.of_bodySF (plainFor_of_name pn_6) hisR ?_
  intro p e s m args below meth c s₁ Bd hml0 hP hK
  obtain ⟨rfl, hZ, hh⟩ := hP
  have hx := Bd.exec
  have hby := Bd.bytes
  have hml : c.maxLocals = 1 := hml0
  have hown : s.vm.findClass "java/util/AbstractCollection" = some m.cls := findClass_of_methodNamed Bd.named
  have hnm := (name_of_methodNamed Bd.named Bd.method).1
  have X0 : Stand p l e ({ frames := 1, cells := 0, slots := 0, locals := 12 } : Room) s m #[(.ref a1)] below meth c s₁ [] 0 0 := Stand.of_body Bd
  have e0 : s₁.heap = h0 := by rw [← hh, Bd.state]; rfl
  have N0 := Fr.nil n0
  have pre0 : ∀ t, Steps p.tables e below (s₁.setTop (mkF m 0 #[.val (.ref a1)] [])) t → Steps p.tables e below (s₁.setTop (entryFrame m #[(.ref a1)] 1)) t := fun t k => castTop (ef_6 m a1) k
  obtain ⟨T2, X2, e2, st2⟩ := initO X0 hx hZ hown (hw _ (List.mem_of_getElem? (i := 36) rfl)) (hw _ (List.mem_of_getElem? (i := 7) rfl)) (hw _ (List.mem_of_getElem? (i := 8) rfl)) e0 (g := (mkF m 1 #[.val (.ref a1)] [(.ref a1)])) rfl (by rw [hml]; rfl) rfl (hb hby d6_1) (by decide) (W := 0) (by show 2 * 0 + _ ≤ _; exact Nat.le_of_eq rfl) (by decide)
  obtain ⟨fs, hr, hrun, hended, hW, hsame⟩ := X2.leave (v := none) (fun _ => rfl)
  refine ⟨_, _, pre0 _ ?_, hrun, hended, _, _, rfl, ?_, ⟨_, rfl⟩, hW, hsame.mono (by decide) (by decide)⟩
  · show Steps p.tables e below (s₁.setTop (mkF m 0 #[.val (.ref a1)] [])) _
    refine XS.aloadN X0.here hx rfl (hb hby d6_0) rfl rfl ?_
    show Steps p.tables e below (s₁.setTop (mkF m 1 #[.val (.ref a1)] [(.ref a1)])) _
    refine st2 _ ?_
    show Steps p.tables e below (T2.setTop (mkF m 4 #[.val (.ref a1)] [])) _
    exact X2.returnOut hx Bd.returns (hb hby d6_4) hr
  · show Q6 Z a1 h0 n0 _ T2.heap _
    rw [e2]
    exact ⟨rfl, N0, rfl⟩
theorem d5_0 : decode jdk_39_method_1_code 0 = .ok (.aload_n 0, 1) := by decide +kernel
theorem d5_1 : decode jdk_39_method_1_code 1 = .ok (.invokespecial 1, 3) := by decide +kernel
theorem d5_4 : decode jdk_39_method_1_code 4 = .ok (.aload_n 0, 1) := by decide +kernel
theorem d5_5 : decode jdk_39_method_1_code 5 = .ok (.iconst 0, 1) := by decide +kernel
theorem d5_6 : decode jdk_39_method_1_code 6 = .ok (.putfield 7, 3) := by decide +kernel
theorem d5_9 : decode jdk_39_method_1_code 9 = .ok (.return_, 1) := by decide +kernel
theorem pn_5 : plainName "java/util/AbstractList" = true := by first | (simp [plainName, overriddenIn]; done) | decide +kernel
theorem pd_5_0 : parseMethodDescriptor "()V" = some ⟨[], none⟩ := by decide +kernel
theorem ef_5 (m : MethodId) (x0 : Addr) : entryFrame m #[(.ref x0)] 1 = mkF m 0 #[.val (.ref x0)] [] := by first | (simp [entryFrame, mkF, argsToLocals, Value.category]; done) | rfl
def Q5 (Z : State) (a1 : Addr) (u_modCount_a1 : Value) (h0 : Heap) (n0 : Nat) (v : Option Value) (h : Heap) (L : List Loc) : Prop := v = none ∧ Fr n0 L ∧ Wr h0 h a1 (Jvm.RoadKit.slotOf Z "java/util/AbstractList" "modCount" "I") (.int 0)
set_option maxRecDepth 65536 in
set_option maxHeartbeats 40000000 in
theorem rm5 (l : Launch) (Z : State) (a0 : Array Value) (hw : ∀ d ∈ tables_1, d.before a0 Z = true) (ws : List Jvm.Cond) (a1 : Addr) (u_modCount_a1 : Value) (h0 : Heap) (n0 : Nat) (Z0 : n0 ≤ h0.size) (E_a1 : Exa Z h0 a1 "java/util/ArrayList") (F_modCount_a1 : Fld Z h0 a1 "java/util/AbstractList" "modCount" "I" u_modCount_a1) (g_a1 : n0 ≤ a1) :
    MetFree l (⟨"java/util/AbstractList", "<init>", "()V"⟩ : MethodName) (head1 (Jvm.Cond.code (⟨"java/util/AbstractList", "<init>", "()V"⟩ : MethodName) jdk_39_method_1_code 1 none :: ws) ({ frames := 2, cells := 0, slots := 0, locals := 24 } : Room)) (fun a U => a = #[(.ref a1)] ∧ Z.Warmed39 U.vm ∧ U.heap = h0) (fun _ _ _ _ _ => True) (fun _ U o U' => ∃ v L, o = .returned v ∧ Q5 Z a1 u_modCount_a1 h0 n0 v U'.heap L ∧ FrameEnd U o U' L ({ frames := 2, cells := 0, slots := 0, locals := 24 } : Room).cells ({ frames := 2, cells := 0, slots := 0, locals := 24 } : Room).slots) := by
  refine MetFree.of_bodySF (plainFor_of_name pn_5) hisR ?_
  intro p e s m args below meth c s₁ Bd hml0 hP hK
  obtain ⟨rfl, hZ, hh⟩ := hP
  have hx := Bd.exec
  have hby := Bd.bytes
  have hml : c.maxLocals = 1 := hml0
  have hown : s.vm.findClass "java/util/AbstractList" = some m.cls := findClass_of_methodNamed Bd.named
  have hnm := (name_of_methodNamed Bd.named Bd.method).1
  have X0 : Stand p l e ({ frames := 2, cells := 0, slots := 0, locals := 24 } : Room) s m #[(.ref a1)] below meth c s₁ [] 0 0 := Stand.of_body Bd
  have e0 : s₁.heap = h0 := by rw [← hh, Bd.state]; rfl
  have N0 := Fr.nil n0
  have pre0 : ∀ t, Steps p.tables e below (s₁.setTop (mkF m 0 #[.val (.ref a1)] [])) t → Steps p.tables e below (s₁.setTop (entryFrame m #[(.ref a1)] 1)) t := fun t k => castTop (ef_5 m a1) k
  obtain ⟨_, _, ⟨T2, L2, k2, n2⟩, -, X2, ⟨Lc2, hQ2, l2, y2, z2⟩, st2⟩ := X0.specialBack hx (y := (⟨"java/util/AbstractCollection", "<init>", "()V"⟩ : MethodName)) rfl hown (mvT hZ (hw _ (List.mem_of_getElem? (i := 30) rfl))) (mvT hZ (hw _ (List.mem_of_getElem? (i := 31) rfl))) (mvT hZ (hw _ (List.mem_of_getElem? (i := 35) rfl))) (by decide) (backOf (W := 0) (rm6 l Z a0 hw [] a1 h0 n0 Z0) hZ (hw _ (List.mem_of_getElem? (i := 35) rfl)) (hw _ (List.mem_of_getElem? (i := 34) rfl)) (by decide) (by decide)) (g := (mkF m 1 #[.val (.ref a1)] [(.ref a1)])) rfl (by rw [hml]; rfl) (Steps.refl _) (a := a1) (argsL := []) (rest := []) (lenOf pd_5_0 rfl) rfl (by show 2 * 0 + _ ≤ _; exact Nat.le_of_eq rfl) (hb hby d5_1) (fun _ _ => ⟨rfl, e0, (by decide : 0 + 0 ≤ _), (by decide : 0 + 0 ≤ _)⟩)
  dsimp only [Pt.U, Pt.locs, Pt.cells, Pt.slots] at X2 l2 y2 z2 st2 hQ2
  subst l2 y2 z2
  obtain ⟨rfl, N2q, e2⟩ := hQ2
  have N2 := Fr.app N0 N2q
  obtain ⟨T3, h3, X3, e3, W3, st3⟩ := putF X2 hx hZ hown (host := "") (Or.inl (hw _ (List.mem_of_getElem? (i := 37) rfl))) Via.refl e2 F_modCount_a1 E_a1 (Or.inl (hw _ (List.mem_of_getElem? (i := 38) rfl))) (hw _ (List.mem_of_getElem? (i := 19) rfl)) (ty := .int) (by decide) rfl rfl (g := (mkF m 6 #[.val (.ref a1)] [(.int (0 : Int32)), (.ref a1)])) rfl rfl (hb hby d5_6)
  have Fw3 := F_modCount_a1.same W3
  have K3 : Keep h0 h3 [a1] := (Keep.refl h0 [a1]).wr W3 (Or.inl (List.mem_of_getElem? (i := 0) rfl))
  have N3 := Fr.snoc X3 N2 g_a1
  obtain ⟨fs, hr, hrun, hended, hW, hsame⟩ := X3.leave (v := none) (fun _ => rfl)
  refine ⟨_, _, pre0 _ ?_, hrun, hended, _, _, rfl, ?_, ⟨_, rfl⟩, hW, hsame.mono (by decide) (by decide)⟩
  · show Steps p.tables e below (s₁.setTop (mkF m 0 #[.val (.ref a1)] [])) _
    refine XS.aloadN X0.here hx rfl (hb hby d5_0) rfl rfl ?_
    show Steps p.tables e below (s₁.setTop (mkF m 1 #[.val (.ref a1)] [(.ref a1)])) _
    refine st2.trans ?_
    show Steps p.tables e below (T2.setTop (mkF m 4 #[.val (.ref a1)] [])) _
    refine XS.aloadN X2.here hx rfl (hb hby d5_4) rfl rfl ?_
    show Steps p.tables e below (T2.setTop (mkF m 5 #[.val (.ref a1)] [(.ref a1)])) _
    refine XS.iconst X2.here hx rfl (hb hby d5_5) ?_
    show Steps p.tables e below (T2.setTop (mkF m 6 #[.val (.ref a1)] [(.int (0 : Int32)), (.ref a1)])) _
    refine st3 _ ?_
    show Steps p.tables e below (T3.setTop (mkF m 9 #[.val (.ref a1)] [])) _
    exact X3.returnOut hx Bd.returns (hb hby d5_9) hr
  · show Q5 Z a1 u_modCount_a1 h0 n0 _ T3.heap _
    rw [e3]
    exact ⟨rfl, N3, W3⟩
theorem d4_0 : decode jdk_38_method_2_code 0 = .ok (.aload_n 0, 1) := by decide +kernel
theorem d4_1 : decode jdk_38_method_2_code 1 = .ok (.invokespecial 1, 3) := by decide +kernel
theorem d4_4 : decode jdk_38_method_2_code 4 = .ok (.aload_n 0, 1) := by decide +kernel
theorem d4_5 : decode jdk_38_method_2_code 5 = .ok (.getstatic 39, 3) := by decide +kernel
theorem d4_8 : decode jdk_38_method_2_code 8 = .ok (.putfield 9, 3) := by decide +kernel
theorem d4_11 : decode jdk_38_method_2_code 11 = .ok (.return_, 1) := by decide +kernel
theorem pn_4 : plainName "java/util/ArrayList" = true := by first | (simp [plainName, overriddenIn]; done) | decide +kernel
theorem pd_4_0 : parseMethodDescriptor "()V" = some ⟨[], none⟩ := by decide +kernel
theorem ef_4 (m : MethodId) (x0 : Addr) : entryFrame m #[(.ref x0)] 1 = mkF m 0 #[.val (.ref x0)] [] := by first | (simp [entryFrame, mkF, argsToLocals, Value.category]; done) | rfl
def Q4 (Z : State) (a1 : Addr) (w3 : Addr) (u_elementData_a1 : Value) (h0 : Heap) (n0 : Nat) (v : Option Value) (h : Heap) (L : List Loc) : Prop := v = none ∧ Fr n0 L ∧ Keep h0 h [a1] ∧ Exa Z h a1 "java/util/ArrayList" ∧ Fld Z h a1 "java/util/ArrayList" "size" "I" (.int 0)
set_option maxRecDepth 65536 in
set_option maxHeartbeats 40000000 in
theorem rm4 (l : Launch) (Z : State) (a0 : Array Value) (hw : ∀ d ∈ tables_1, d.before a0 Z = true) (ws : List Jvm.Cond) (a1 : Addr) (w3 : Addr) (u_elementData_a1 : Value) (h0 : Heap) (n0 : Nat) (Z0 : n0 ≤ h0.size) (S_DEFAULTCAPACITY_EMPTY_ELEMENTDATA : Sta Z h0 "java/util/ArrayList" "DEFAULTCAPACITY_EMPTY_ELEMENTDATA" "[Ljava/lang/Object;" (.ref w3)) (E_a1 : Exa Z h0 a1 "java/util/ArrayList") (F_elementData_a1 : Fld Z h0 a1 "java/util/ArrayList" "elementData" "[Ljava/lang/Object;" u_elementData_a1) (g_a1 : n0 ≤ a1) {u_modCount_a1 : Value} (F_size_a1 : Fld Z h0 a1 "java/util/ArrayList" "size" "I" (.int 0)) (F_modCount_a1 : Fld Z h0 a1 "java/util/AbstractList" "modCount" "I" u_modCount_a1) :
    MetFree l (⟨"java/util/ArrayList", "<init>", "()V"⟩ : MethodName) (head1 (Jvm.Cond.code (⟨"java/util/ArrayList", "<init>", "()V"⟩ : MethodName) jdk_38_method_2_code 1 none :: ws) ({ frames := 3, cells := 0, slots := 0, locals := 36 } : Room)) (fun a U => a = #[(.ref a1)] ∧ Z.Warmed39 U.vm ∧ U.heap = h0) (fun _ _ _ _ _ => True) (fun _ U o U' => ∃ v L, o = .returned v ∧ Q4 Z a1 w3 u_elementData_a1 h0 n0 v U'.heap L ∧ FrameEnd U o U' L ({ frames := 3, cells := 0, slots := 0, locals := 36 } : Room).cells ({ frames := 3, cells := 0, slots := 0, locals := 36 } : Room).slots) := by
  refine MetFree.of_bodySF (plainFor_of_name pn_4) hisR ?_
  intro p e s m args below meth c s₁ Bd hml0 hP hK
  obtain ⟨rfl, hZ, hh⟩ := hP
  have hx := Bd.exec
  have hby := Bd.bytes
  have hml : c.maxLocals = 1 := hml0
  have hown : s.vm.findClass "java/util/ArrayList" = some m.cls := findClass_of_methodNamed Bd.named
  have hnm := (name_of_methodNamed Bd.named Bd.method).1
  have X0 : Stand p l e ({ frames := 3, cells := 0, slots := 0, locals := 36 } : Room) s m #[(.ref a1)] below meth c s₁ [] 0 0 := Stand.of_body Bd
  have e0 : s₁.heap = h0 := by rw [← hh, Bd.state]; rfl
  have N0 := Fr.nil n0
  have pre0 : ∀ t, Steps p.tables e below (s₁.setTop (mkF m 0 #[.val (.ref a1)] [])) t → Steps p.tables e below (s₁.setTop (entryFrame m #[(.ref a1)] 1)) t := fun t k => castTop (ef_4 m a1) k
  obtain ⟨_, _, ⟨T2, L2, k2, n2⟩, -, X2, ⟨Lc2, hQ2, l2, y2, z2⟩, st2⟩ := X0.specialBack hx (y := (⟨"java/util/AbstractList", "<init>", "()V"⟩ : MethodName)) rfl hown (mvT hZ (hw _ (List.mem_of_getElem? (i := 24) rfl))) (mvT hZ (hw _ (List.mem_of_getElem? (i := 25) rfl))) (mvT hZ (hw _ (List.mem_of_getElem? (i := 29) rfl))) (by decide) (backOf (W := 0) (rm5 l Z a0 hw [] a1 _ h0 n0 Z0 E_a1 F_modCount_a1 g_a1) hZ (hw _ (List.mem_of_getElem? (i := 29) rfl)) (hw _ (List.mem_of_getElem? (i := 28) rfl)) (by decide) (by decide)) (g := (mkF m 1 #[.val (.ref a1)] [(.ref a1)])) rfl (by rw [hml]; rfl) (Steps.refl _) (a := a1) (argsL := []) (rest := []) (lenOf pd_4_0 rfl) rfl (by show 2 * 0 + _ ≤ _; exact Nat.le_of_eq rfl) (hb hby d4_1) (fun _ _ => ⟨rfl, e0, (by decide : 0 + 0 ≤ _), (by decide : 0 + 0 ≤ _)⟩)
  dsimp only [Pt.U, Pt.locs, Pt.cells, Pt.slots] at X2 l2 y2 z2 st2 hQ2
  subst l2 y2 z2
  obtain ⟨rfl, N2q, W2⟩ := hQ2
  have N2 := Fr.app N0 N2q
  obtain ⟨T4, X4, e4, st4⟩ := getS2 X2 hx hZ hown (host := "") (Or.inl (hw _ (List.mem_of_getElem? (i := 39) rfl))) Via.refl rfl (S_DEFAULTCAPACITY_EMPTY_ELEMENTDATA.wr W2) (g := (mkF m 5 #[.val (.ref a1)] [(.ref a1)])) rfl (hb hby d4_5)
  obtain ⟨T5, h5, X5, e5, W5, st5⟩ := putF X4 hx hZ hown (host := "") (Or.inl (hw _ (List.mem_of_getElem? (i := 40) rfl))) Via.refl e4 (F_elementData_a1.other W2 (Or.inr (slot_ne (Or.inl (hw _ (List.mem_of_getElem? (i := 41) rfl))) (Or.inl (hw _ (List.mem_of_getElem? (i := 38) rfl))) (by decide) (t := (.array (.object "java/lang/Object"))) (t' := .int) (by decide) (by decide)))) (E_a1.wr W2) (Or.inl (hw _ (List.mem_of_getElem? (i := 41) rfl))) (hw _ (List.mem_of_getElem? (i := 19) rfl)) (ty := (.array (.object "java/lang/Object"))) (by decide) rfl rfl (g := (mkF m 8 #[.val (.ref a1)] [(.ref w3), (.ref a1)])) rfl rfl (hb hby d4_8)
  have Fw5 := (F_elementData_a1.other W2 (Or.inr (slot_ne (Or.inl (hw _ (List.mem_of_getElem? (i := 41) rfl))) (Or.inl (hw _ (List.mem_of_getElem? (i := 38) rfl))) (by decide) (t := (.array (.object "java/lang/Object"))) (t' := .int) (by decide) (by decide)))).same W5
  have K5 : Keep h0 h5 [a1] := ((Keep.refl h0 [a1]).wr W2 (Or.inl (List.mem_of_getElem? (i := 0) rfl))).wr W5 (Or.inl (List.mem_of_getElem? (i := 0) rfl))
  have N5 := Fr.snoc X5 N2 g_a1
  obtain ⟨fs, hr, hrun, hended, hW, hsame⟩ := X5.leave (v := none) (fun _ => rfl)
  refine ⟨_, _, pre0 _ ?_, hrun, hended, _, _, rfl, ?_, ⟨_, rfl⟩, hW, hsame.mono (by decide) (by decide)⟩
  · show Steps p.tables e below (s₁.setTop (mkF m 0 #[.val (.ref a1)] [])) _
    refine XS.aloadN X0.here hx rfl (hb hby d4_0) rfl rfl ?_
    show Steps p.tables e below (s₁.setTop (mkF m 1 #[.val (.ref a1)] [(.ref a1)])) _
    refine st2.trans ?_
    show Steps p.tables e below (T2.setTop (mkF m 4 #[.val (.ref a1)] [])) _
    refine XS.aloadN X2.here hx rfl (hb hby d4_4) rfl rfl ?_
    show Steps p.tables e below (T2.setTop (mkF m 5 #[.val (.ref a1)] [(.ref a1)])) _
    refine st4 _ ?_
    show Steps p.tables e below (T4.setTop (mkF m 8 #[.val (.ref a1)] [(.ref w3), (.ref a1)])) _
    refine st5 _ ?_
    show Steps p.tables e below (T5.setTop (mkF m 11 #[.val (.ref a1)] [])) _
    exact X5.returnOut hx Bd.returns (hb hby d4_11) hr
  · show Q4 Z a1 w3 u_elementData_a1 h0 n0 _ T5.heap _
    rw [e5]
    exact ⟨rfl, N5, K5, (E_a1.wr W2).wr W5, (F_size_a1.other W2 (Or.inr (slot_ne (Or.inl (hw _ (List.mem_of_getElem? (i := 87) rfl))) (Or.inl (hw _ (List.mem_of_getElem? (i := 38) rfl))) (by decide) (t := .int) (t' := .int) (by decide) (by decide)))).other W5 (Or.inr (slot_ne (Or.inl (hw _ (List.mem_of_getElem? (i := 87) rfl))) (Or.inl (hw _ (List.mem_of_getElem? (i := 41) rfl))) (by decide) (t := .int) (t' := (.array (.object "java/lang/Object"))) (by decide) (by decide)))⟩
theorem d3_0 : decode prog_4_method_1_code 0 = .ok (.aload_n 0, 1) := by decide +kernel
theorem d3_1 : decode prog_4_method_1_code 1 = .ok (.invokespecial 1, 3) := by decide +kernel
theorem d3_4 : decode prog_4_method_1_code 4 = .ok (.aload_n 0, 1) := by decide +kernel
theorem d3_5 : decode prog_4_method_1_code 5 = .ok (.new 7, 3) := by decide +kernel
theorem d3_8 : decode prog_4_method_1_code 8 = .ok (.dup, 1) := by decide +kernel
theorem d3_9 : decode prog_4_method_1_code 9 = .ok (.invokespecial 9, 3) := by decide +kernel
theorem d3_12 : decode prog_4_method_1_code 12 = .ok (.putfield 10, 3) := by decide +kernel
theorem d3_15 : decode prog_4_method_1_code 15 = .ok (.aload_n 0, 1) := by decide +kernel
theorem d3_16 : decode prog_4_method_1_code 16 = .ok (.new 7, 3) := by decide +kernel
theorem d3_19 : decode prog_4_method_1_code 19 = .ok (.dup, 1) := by decide +kernel
theorem d3_20 : decode prog_4_method_1_code 20 = .ok (.invokespecial 9, 3) := by decide +kernel
theorem d3_23 : decode prog_4_method_1_code 23 = .ok (.putfield 16, 3) := by decide +kernel
theorem d3_26 : decode prog_4_method_1_code 26 = .ok (.return_, 1) := by decide +kernel
theorem pn_3 : plainName "com/example/anansi/anansi/Fields" = true := by first | (simp [plainName, overriddenIn]; done) | decide +kernel
theorem pd_3_0 : parseMethodDescriptor "()V" = some ⟨[], none⟩ := by decide +kernel
theorem ef_3 (m : MethodId) (x0 : Addr) : entryFrame m #[(.ref x0)] 1 = mkF m 0 #[.val (.ref x0)] [] := by first | (simp [entryFrame, mkF, argsToLocals, Value.category]; done) | rfl
def Q3 (Z : State) (a1 : Addr) (u_names_a1 : Value) (u_values_a1 : Value) (h0 : Heap) (n0 : Nat) (v : Option Value) (h : Heap) (L : List Loc) : Prop := v = none ∧ Fr n0 L ∧ Keep h0 h [a1] ∧ Exa Z h a1 "com/example/anansi/anansi/Fields" ∧ ∃ b, Fld Z h a1 "com/example/anansi/anansi/Fields" "names" "Ljava/util/List;" (.ref b) ∧ Exa Z h b "java/util/ArrayList" ∧ Fld Z h b "java/util/ArrayList" "size" "I" (.int 0) ∧ h0.size ≤ b
set_option maxRecDepth 65536 in
set_option maxHeartbeats 40000000 in
theorem rm3 (l : Launch) (Z : State) (a0 : Array Value) (hw : ∀ d ∈ tables_1, d.before a0 Z = true) (ws : List Jvm.Cond) (a1 : Addr) (u_names_a1 : Value) (u_values_a1 : Value) (h0 : Heap) (n0 : Nat) (Z0 : n0 ≤ h0.size) (E_a1 : Exa Z h0 a1 "com/example/anansi/anansi/Fields") (F_names_a1 : Fld Z h0 a1 "com/example/anansi/anansi/Fields" "names" "Ljava/util/List;" u_names_a1) (g_a1 : n0 ≤ a1) (F_values_a1 : Fld Z h0 a1 "com/example/anansi/anansi/Fields" "values" "Ljava/util/List;" u_values_a1) {w3 : Addr} (S_D : Sta Z h0 "java/util/ArrayList" "DEFAULTCAPACITY_EMPTY_ELEMENTDATA" "[Ljava/lang/Object;" (.ref w3)) (l_a1 : a1 < h0.size) :
    MetFree l (⟨"com/example/anansi/anansi/Fields", "<init>", "()V"⟩ : MethodName) (head1 (Jvm.Cond.code (⟨"com/example/anansi/anansi/Fields", "<init>", "()V"⟩ : MethodName) prog_4_method_1_code 1 none :: ws) ({ frames := 4, cells := 2, slots := 6, locals := 50 } : Room)) (fun a U => a = #[(.ref a1)] ∧ Z.Warmed39 U.vm ∧ U.heap = h0) (fun _ _ _ _ _ => True) (fun _ U o U' => ∃ v L, o = .returned v ∧ Q3 Z a1 u_names_a1 u_values_a1 h0 n0 v U'.heap L ∧ FrameEnd U o U' L ({ frames := 4, cells := 2, slots := 6, locals := 50 } : Room).cells ({ frames := 4, cells := 2, slots := 6, locals := 50 } : Room).slots) := by
  refine MetFree.of_bodySF (plainFor_of_name pn_3) hisR ?_
  intro p e s m args below meth c s₁ Bd hml0 hP hK
  obtain ⟨rfl, hZ, hh⟩ := hP
  have hx := Bd.exec
  have hby := Bd.bytes
  have hml : c.maxLocals = 1 := hml0
  have hown : s.vm.findClass "com/example/anansi/anansi/Fields" = some m.cls := findClass_of_methodNamed Bd.named
  have hnm := (name_of_methodNamed Bd.named Bd.method).1
  have X0 : Stand p l e ({ frames := 4, cells := 2, slots := 6, locals := 50 } : Room) s m #[(.ref a1)] below meth c s₁ [] 0 0 := Stand.of_body Bd
  have e0 : s₁.heap = h0 := by rw [← hh, Bd.state]; rfl
  have N0 := Fr.nil n0
  have pre0 : ∀ t, Steps p.tables e below (s₁.setTop (mkF m 0 #[.val (.ref a1)] [])) t → Steps p.tables e below (s₁.setTop (entryFrame m #[(.ref a1)] 1)) t := fun t k => castTop (ef_3 m a1) k
  obtain ⟨T2, X2, e2, st2⟩ := initO X0 hx hZ hown (hw _ (List.mem_of_getElem? (i := 17) rfl)) (hw _ (List.mem_of_getElem? (i := 7) rfl)) (hw _ (List.mem_of_getElem? (i := 8) rfl)) e0 (g := (mkF m 1 #[.val (.ref a1)] [(.ref a1)])) rfl (by rw [hml]; rfl) rfl (hb hby d3_1) (by decide) (W := 0) (by show 2 * 0 + _ ≤ _; exact Nat.le_of_eq rfl) (by decide)
  obtain ⟨T3, h3, X3, e3, E3, A3, D3, -, st3⟩ := newO X2 hx hZ hown (hw _ (List.mem_of_getElem? (i := 18) rfl)) (hw _ (List.mem_of_getElem? (i := 19) rfl)) (hw _ (List.mem_of_getElem? (i := 20) rfl)) e2 (g := (mkF m 5 #[.val (.ref a1)] [(.ref a1)])) rfl (hb hby d3_5) (by decide) (by decide)
  obtain ⟨b3, g3⟩ : ∃ z, z = h0.size := ⟨_, rfl⟩
  rw [← g3] at A3 D3 st3
  have F_modCount_b3 : Fld Z h3 b3 "java/util/AbstractList" "modCount" "I" (.int (0 : Int32)) := D3 (Or.inl (hw _ (List.mem_of_getElem? (i := 38) rfl))) (ty := .int) (by decide)
  have F_elementData_b3 : Fld Z h3 b3 "java/util/ArrayList" "elementData" "[Ljava/lang/Object;" .null := D3 (Or.inl (hw _ (List.mem_of_getElem? (i := 41) rfl))) (ty := (.array (.object "java/lang/Object"))) (by decide)
  have F_size_b3 : Fld Z h3 b3 "java/util/ArrayList" "size" "I" (.int (0 : Int32)) := D3 (Or.inl (hw _ (List.mem_of_getElem? (i := 87) rfl))) (ty := .int) (by decide)
  have E_b3 := A3
  have g_b3 : n0 ≤ b3 := Nat.le_trans Z0 (Nat.le_of_eq g3.symm)
  have sz_b3 : h0.size ≤ b3 := (Nat.le_trans (Keep.refl h0 [a1]).1 (Nat.le_of_eq g3.symm))
  have K3 : Keep h0 h3 [a1] := (Keep.refl h0 [a1]).ext E3
  obtain ⟨_, _, ⟨T4, L4, k4, n4⟩, -, X4, ⟨Lc4, hQ4, l4, y4, z4⟩, st4⟩ := X3.specialBack hx (y := (⟨"java/util/ArrayList", "<init>", "()V"⟩ : MethodName)) rfl hown (mvT hZ (hw _ (List.mem_of_getElem? (i := 21) rfl))) (mvT hZ (hw _ (List.mem_of_getElem? (i := 22) rfl))) (mvT hZ (hw _ (List.mem_of_getElem? (i := 23) rfl))) (by decide) (backOf (W := 2) (rm4 l Z a0 hw [] b3 w3 .null h3 n0 (Nat.le_trans Z0 E3.1) (S_D.ext E3) A3 F_elementData_b3 g_b3 F_size_b3 F_modCount_b3) hZ (hw _ (List.mem_of_getElem? (i := 23) rfl)) (hw _ (List.mem_of_getElem? (i := 20) rfl)) (by decide) (by decide)) (g := (mkF m 9 #[.val (.ref a1)] [(.ref b3), (.ref b3), (.ref a1)])) rfl (by rw [hml]; rfl) (Steps.refl _) (a := b3) (argsL := []) (rest := [(.ref b3), (.ref a1)]) (lenOf pd_3_0 rfl) rfl (by show 2 * 0 + _ ≤ _; exact Nat.le_of_eq rfl) (hb hby d3_9) (fun _ _ => ⟨rfl, e3, (by decide : 1 + 0 ≤ _), (by decide : 3 + 0 ≤ _)⟩)
  dsimp only [Pt.U, Pt.locs, Pt.cells, Pt.slots] at X4 l4 y4 z4 st4 hQ4
  subst l4 y4 z4
  obtain ⟨rfl, N4q, K4c, E4c, F4c⟩ := hQ4
  have ne3 : a1 ≠ b3 := Nat.ne_of_lt (Nat.lt_of_lt_of_le l_a1 sz_b3)
  have na_3 : a1 ∉ [b3] := oNi ne3
  have N4 := Fr.app N0 N4q
  obtain ⟨T5, h5, X5, e5, W5, st5⟩ := putF X4 hx hZ hown (host := "") (Or.inl (hw _ (List.mem_of_getElem? (i := 42) rfl))) Via.refl rfl ((F_names_a1.ext E3).keep K4c na_3) ((E_a1.ext E3).keep K4c) (Or.inr ⟨(hw _ (List.mem_of_getElem? (i := 43) rfl)), rfl, hnm⟩) (hw _ (List.mem_of_getElem? (i := 12) rfl)) (ty := (.object "java/util/List")) (by decide) rfl rfl (g := (mkF m 12 #[.val (.ref a1)] [(.ref b3), (.ref a1)])) rfl rfl (hb hby d3_12)
  have Fw5 := ((F_names_a1.ext E3).keep K4c na_3).same W5
  have K5 : Keep h0 h5 [a1] := (oKeep1 K3 K4c sz_b3).wr W5 (Or.inl (List.mem_of_getElem? (i := 0) rfl))
  have N5 := Fr.snoc X5 N4 g_a1
  obtain ⟨T6, h6, X6, e6, E6, A6, D6, -, st6⟩ := newO X5 hx hZ hown (hw _ (List.mem_of_getElem? (i := 18) rfl)) (hw _ (List.mem_of_getElem? (i := 19) rfl)) (hw _ (List.mem_of_getElem? (i := 20) rfl)) e5 (g := (mkF m 16 #[.val (.ref a1)] [(.ref a1)])) rfl (hb hby d3_16) (by decide) (by decide)
  obtain ⟨b6, g6⟩ : ∃ z, z = h5.size := ⟨_, rfl⟩
  rw [← g6] at A6 D6 st6
  have F_modCount_b6 : Fld Z h6 b6 "java/util/AbstractList" "modCount" "I" (.int (0 : Int32)) := D6 (Or.inl (hw _ (List.mem_of_getElem? (i := 38) rfl))) (ty := .int) (by decide)
  have F_elementData_b6 : Fld Z h6 b6 "java/util/ArrayList" "elementData" "[Ljava/lang/Object;" .null := D6 (Or.inl (hw _ (List.mem_of_getElem? (i := 41) rfl))) (ty := (.array (.object "java/lang/Object"))) (by decide)
  have F_size_b6 : Fld Z h6 b6 "java/util/ArrayList" "size" "I" (.int (0 : Int32)) := D6 (Or.inl (hw _ (List.mem_of_getElem? (i := 87) rfl))) (ty := .int) (by decide)
  have E_b6 := A6
  have g_b6 : n0 ≤ b6 := Nat.le_trans (Nat.le_trans (Nat.le_trans (Nat.le_trans Z0 E3.1) K4c.1) (Keep.of_wr W5).1) (Nat.le_of_eq g6.symm)
  have sz_b6 : h0.size ≤ b6 := (Nat.le_trans K5.1 (Nat.le_of_eq g6.symm))
  have K6 : Keep h0 h6 [a1] := K5.ext E6
  obtain ⟨_, _, ⟨T7, L7, k7, n7⟩, -, X7, ⟨Lc7, hQ7, l7, y7, z7⟩, st7⟩ := X6.specialBack hx (y := (⟨"java/util/ArrayList", "<init>", "()V"⟩ : MethodName)) rfl hown (mvT hZ (hw _ (List.mem_of_getElem? (i := 21) rfl))) (mvT hZ (hw _ (List.mem_of_getElem? (i := 22) rfl))) (mvT hZ (hw _ (List.mem_of_getElem? (i := 23) rfl))) (by decide) (backOf (W := 2) (rm4 l Z a0 hw [] b6 w3 .null h6 n0 (Nat.le_trans Z0 K6.1) (((oStaK K4c A3 (S_D.ext E3)).wr W5).ext E6) A6 F_elementData_b6 g_b6 F_size_b6 F_modCount_b6) hZ (hw _ (List.mem_of_getElem? (i := 23) rfl)) (hw _ (List.mem_of_getElem? (i := 20) rfl)) (by decide) (by decide)) (g := (mkF m 20 #[.val (.ref a1)] [(.ref b6), (.ref b6), (.ref a1)])) rfl (by rw [hml]; rfl) (Steps.refl _) (a := b6) (argsL := []) (rest := [(.ref b6), (.ref a1)]) (lenOf pd_3_0 rfl) rfl (by show 2 * 0 + _ ≤ _; exact Nat.le_of_eq rfl) (hb hby d3_20) (fun _ _ => ⟨rfl, e6, (by decide : 2 + 0 ≤ _), (by decide : 6 + 0 ≤ _)⟩)
  dsimp only [Pt.U, Pt.locs, Pt.cells, Pt.slots] at X7 l7 y7 z7 st7 hQ7
  subst l7 y7 z7
  obtain ⟨rfl, N7q, K7c, E7c, F7c⟩ := hQ7
  have ne6 : a1 ≠ b6 := Nat.ne_of_lt (Nat.lt_of_lt_of_le l_a1 sz_b6)
  have na_6 : a1 ∉ [b6] := oNi ne6
  have ne36 : b3 ≠ b6 := Nat.ne_of_lt (by rw [g6]; exact (E4c.wr W5).lt)
  have N7 := Fr.app N5 N7q
  obtain ⟨T8, h8, X8, e8, W8, st8⟩ := putF X7 hx hZ hown (host := "") (Or.inl (hw _ (List.mem_of_getElem? (i := 44) rfl))) Via.refl rfl (((((F_values_a1.ext E3).keep K4c na_3).other W5 (Or.inr (slot_ne (Or.inr (hw _ (List.mem_of_getElem? (i := 45) rfl))) (Or.inr (hw _ (List.mem_of_getElem? (i := 43) rfl))) (by decide) (t := (.object "java/util/List")) (t' := (.object "java/util/List")) (by decide) (by decide)))).ext E6).keep K7c na_6) (((((E_a1.ext E3).keep K4c).wr W5).ext E6).keep K7c) (Or.inr ⟨(hw _ (List.mem_of_getElem? (i := 45) rfl)), rfl, hnm⟩) (hw _ (List.mem_of_getElem? (i := 12) rfl)) (ty := (.object "java/util/List")) (by decide) rfl rfl (g := (mkF m 23 #[.val (.ref a1)] [(.ref b6), (.ref a1)])) rfl rfl (hb hby d3_23)
  have Fw8 := (((((F_values_a1.ext E3).keep K4c na_3).other W5 (Or.inr (slot_ne (Or.inr (hw _ (List.mem_of_getElem? (i := 45) rfl))) (Or.inr (hw _ (List.mem_of_getElem? (i := 43) rfl))) (by decide) (t := (.object "java/util/List")) (t' := (.object "java/util/List")) (by decide) (by decide)))).ext E6).keep K7c na_6).same W8
  have K8 : Keep h0 h8 [a1] := (oKeep1 K6 K7c sz_b6).wr W8 (Or.inl (List.mem_of_getElem? (i := 0) rfl))
  have N8 := Fr.snoc X8 N7 g_a1
  obtain ⟨fs, hr, hrun, hended, hW, hsame⟩ := X8.leave (v := none) (fun _ => rfl)
  refine ⟨_, _, pre0 _ ?_, hrun, hended, _, _, rfl, ?_, ⟨_, rfl⟩, hW, hsame.mono (by decide) (by decide)⟩
  · show Steps p.tables e below (s₁.setTop (mkF m 0 #[.val (.ref a1)] [])) _
    refine XS.aloadN X0.here hx rfl (hb hby d3_0) rfl rfl ?_
    show Steps p.tables e below (s₁.setTop (mkF m 1 #[.val (.ref a1)] [(.ref a1)])) _
    refine st2 _ ?_
    show Steps p.tables e below (T2.setTop (mkF m 4 #[.val (.ref a1)] [])) _
    refine XS.aloadN X2.here hx rfl (hb hby d3_4) rfl rfl ?_
    show Steps p.tables e below (T2.setTop (mkF m 5 #[.val (.ref a1)] [(.ref a1)])) _
    refine st3 _ ?_
    show Steps p.tables e below (T3.setTop (mkF m 8 #[.val (.ref a1)] [(.ref b3), (.ref a1)])) _
    refine XS.dup X3.here hx rfl (hb hby d3_8) rfl rfl ?_
    show Steps p.tables e below (T3.setTop (mkF m 9 #[.val (.ref a1)] [(.ref b3), (.ref b3), (.ref a1)])) _
    refine st4.trans ?_
    show Steps p.tables e below (T4.setTop (mkF m 12 #[.val (.ref a1)] [(.ref b3), (.ref a1)])) _
    refine st5 _ ?_
    show Steps p.tables e below (T5.setTop (mkF m 15 #[.val (.ref a1)] [])) _
    refine XS.aloadN X5.here hx rfl (hb hby d3_15) rfl rfl ?_
    show Steps p.tables e below (T5.setTop (mkF m 16 #[.val (.ref a1)] [(.ref a1)])) _
    refine st6 _ ?_
    show Steps p.tables e below (T6.setTop (mkF m 19 #[.val (.ref a1)] [(.ref b6), (.ref a1)])) _
    refine XS.dup X6.here hx rfl (hb hby d3_19) rfl rfl ?_
    show Steps p.tables e below (T6.setTop (mkF m 20 #[.val (.ref a1)] [(.ref b6), (.ref b6), (.ref a1)])) _
    refine st7.trans ?_
    show Steps p.tables e below (T7.setTop (mkF m 23 #[.val (.ref a1)] [(.ref b6), (.ref a1)])) _
    refine st8 _ ?_
    show Steps p.tables e below (T8.setTop (mkF m 26 #[.val (.ref a1)] [])) _
    exact X8.returnOut hx Bd.returns (hb hby d3_26) hr
  · show Q3 Z a1 u_names_a1 u_values_a1 h0 n0 _ T8.heap _
    rw [e8]
    exact ⟨rfl, N8, K8, (((((E_a1.ext E3).keep K4c).wr W5).ext E6).keep K7c).wr W8, b3, ((Fw5.ext E6).keep K7c na_6).other W8 (Or.inr (slot_ne (Or.inr (hw _ (List.mem_of_getElem? (i := 43) rfl))) (Or.inr (hw _ (List.mem_of_getElem? (i := 45) rfl))) (by decide) (t := (.object "java/util/List")) (t' := (.object "java/util/List")) (by decide) (by decide))), (((E4c.wr W5).ext E6).keep K7c).wr W8, (((F4c.other W5 (Or.inl ne3.symm)).ext E6).keep K7c (oNi ne36)).other W8 (Or.inl ne3.symm), sz_b3⟩
/-- the Response at a: its status, its empty Fields, its body -/
def oRs (Z : State) (h : Heap) (a w7 : Addr) (k : Int32) (f bb : Addr) : Prop := Exa Z h a "com/example/anansi/anansi/Response" ∧ Fld Z h a "com/example/anansi/anansi/Response" "status" "I" (.int k) ∧ Fld Z h a "com/example/anansi/anansi/Response" "fields" "Lcom/example/anansi/anansi/Fields;" (.ref f) ∧ Exa Z h f "com/example/anansi/anansi/Fields" ∧ Fld Z h f "com/example/anansi/anansi/Fields" "names" "Ljava/util/List;" (.ref bb) ∧ Exa Z h bb "java/util/ArrayList" ∧ Fld Z h bb "java/util/ArrayList" "size" "I" (.int 0) ∧ Fld Z h a "com/example/anansi/anansi/Response" "body" "[B" (.ref w7) ∧ f ≠ a ∧ bb ≠ a
theorem oRs_set {Z : State} {a0 : Array Value} (hw : ∀ d ∈ tables_1, d.before a0 Z = true) {h h' : Heap} {a w7 f bb : Addr} {k k' : Int32} (R : oRs Z h a w7 k f bb) (W : Wr h h' a (Jvm.RoadKit.slotOf Z "com/example/anansi/anansi/Response" "status" "I") (.int k')) : oRs Z h' a w7 k' f bb := by
  obtain ⟨r1, r2, r3, r4, r5, r6, r7, r8, r9, r10⟩ := R
  exact ⟨r1.wr W, r2.same W, r3.other W (Or.inr (slot_ne (Or.inr (hw _ (List.mem_of_getElem? (i := 47) rfl))) (Or.inl (hw _ (List.mem_of_getElem? (i := 10) rfl))) (by decide) (t := (.object "com/example/anansi/anansi/Fields")) (t' := .int) (by decide) (by decide))), r4.wr W, r5.other W (Or.inl r9), r6.wr W, r7.other W (Or.inl r10), r8.other W (Or.inr (slot_ne (Or.inl (hw _ (List.mem_of_getElem? (i := 51) rfl))) (Or.inl (hw _ (List.mem_of_getElem? (i := 10) rfl))) (by decide) (t := (.array .byte)) (t' := .int) (by decide) (by decide))), r9, r10⟩
theorem d1_0 : decode prog_30_method_1_code 0 = .ok (.aload_n 0, 1) := by decide +kernel
theorem d1_1 : decode prog_30_method_1_code 1 = .ok (.invokespecial 1, 3) := by decide +kernel
theorem d1_4 : decode prog_30_method_1_code 4 = .ok (.aload_n 0, 1) := by decide +kernel
theorem d1_5 : decode prog_30_method_1_code 5 = .ok (.sipush 200, 3) := by decide +kernel
theorem d1_8 : decode prog_30_method_1_code 8 = .ok (.putfield 7, 3) := by decide +kernel
theorem d1_11 : decode prog_30_method_1_code 11 = .ok (.aload_n 0, 1) := by decide +kernel
theorem d1_12 : decode prog_30_method_1_code 12 = .ok (.new 13, 3) := by decide +kernel
theorem d1_15 : decode prog_30_method_1_code 15 = .ok (.dup, 1) := by decide +kernel
theorem d1_16 : decode prog_30_method_1_code 16 = .ok (.invokespecial 15, 3) := by decide +kernel
theorem d1_19 : decode prog_30_method_1_code 19 = .ok (.putfield 16, 3) := by decide +kernel
theorem d1_22 : decode prog_30_method_1_code 22 = .ok (.aload_n 0, 1) := by decide +kernel
theorem d1_23 : decode prog_30_method_1_code 23 = .ok (.getstatic 20, 3) := by decide +kernel
theorem d1_26 : decode prog_30_method_1_code 26 = .ok (.putfield 24, 3) := by decide +kernel
theorem d1_29 : decode prog_30_method_1_code 29 = .ok (.return_, 1) := by decide +kernel
theorem pn_1 : plainName "com/example/anansi/anansi/Response" = true := by first | (simp [plainName, overriddenIn]; done) | decide +kernel
theorem pd_1_0 : parseMethodDescriptor "()V" = some ⟨[], none⟩ := by decide +kernel
theorem ef_1 (m : MethodId) (x0 : Addr) : entryFrame m #[(.ref x0)] 1 = mkF m 0 #[.val (.ref x0)] [] := by first | (simp [entryFrame, mkF, argsToLocals, Value.category]; done) | rfl
def Q1 (Z : State) (a1 : Addr) (u_status_a1 : Value) (u_fields_a1 : Value) (w7 : Addr) (u_body_a1 : Value) (h0 : Heap) (n0 : Nat) (v : Option Value) (h : Heap) (L : List Loc) : Prop := v = none ∧ Fr n0 L ∧ Keep h0 h [a1] ∧ ∃ f bb, oRs Z h a1 w7 200 f bb
set_option maxRecDepth 65536 in
set_option maxHeartbeats 40000000 in
theorem rm1 (l : Launch) (Z : State) (a0 : Array Value) (hw : ∀ d ∈ tables_1, d.before a0 Z = true) (ws : List Jvm.Cond) (a1 : Addr) (u_status_a1 : Value) (u_fields_a1 : Value) (w7 : Addr) (u_body_a1 : Value) (h0 : Heap) (n0 : Nat) (Z0 : n0 ≤ h0.size) (E_a1 : Exa Z h0 a1 "com/example/anansi/anansi/Response") (F_status_a1 : Fld Z h0 a1 "com/example/anansi/anansi/Response" "status" "I" u_status_a1) (g_a1 : n0 ≤ a1) (F_fields_a1 : Fld Z h0 a1 "com/example/anansi/anansi/Response" "fields" "Lcom/example/anansi/anansi/Fields;" u_fields_a1) (S_NO_BODY : Sta Z h0 "com/example/anansi/anansi/Response" "NO_BODY" "[B" (.ref w7)) (F_body_a1 : Fld Z h0 a1 "com/example/anansi/anansi/Response" "body" "[B" u_body_a1) {w3 : Addr} (S_D : Sta Z h0 "java/util/ArrayList" "DEFAULTCAPACITY_EMPTY_ELEMENTDATA" "[Ljava/lang/Object;" (.ref w3)) (l_a1 : a1 < h0.size) :
    MetFree l (⟨"com/example/anansi/anansi/Response", "<init>", "()V"⟩ : MethodName) (head1 (Jvm.Cond.code (⟨"com/example/anansi/anansi/Response", "<init>", "()V"⟩ : MethodName) prog_30_method_1_code 1 none :: ws) ({ frames := 5, cells := 3, slots := 8, locals := 64 } : Room)) (fun a U => a = #[(.ref a1)] ∧ Z.Warmed39 U.vm ∧ U.heap = h0) (fun _ _ _ _ _ => True) (fun _ U o U' => ∃ v L, o = .returned v ∧ Q1 Z a1 u_status_a1 u_fields_a1 w7 u_body_a1 h0 n0 v U'.heap L ∧ FrameEnd U o U' L ({ frames := 5, cells := 3, slots := 8, locals := 64 } : Room).cells ({ frames := 5, cells := 3, slots := 8, locals := 64 } : Room).slots) := by
  refine MetFree.of_bodySF (plainFor_of_name pn_1) hisR ?_
  intro p e s m args below meth c s₁ Bd hml0 hP hK
  obtain ⟨rfl, hZ, hh⟩ := hP
  have hx := Bd.exec
  have hby := Bd.bytes
  have hml : c.maxLocals = 1 := hml0
  have hown : s.vm.findClass "com/example/anansi/anansi/Response" = some m.cls := findClass_of_methodNamed Bd.named
  have hnm := (name_of_methodNamed Bd.named Bd.method).1
  have X0 : Stand p l e ({ frames := 5, cells := 3, slots := 8, locals := 64 } : Room) s m #[(.ref a1)] below meth c s₁ [] 0 0 := Stand.of_body Bd
  have e0 : s₁.heap = h0 := by rw [← hh, Bd.state]; rfl
  have N0 := Fr.nil n0
  have pre0 : ∀ t, Steps p.tables e below (s₁.setTop (mkF m 0 #[.val (.ref a1)] [])) t → Steps p.tables e below (s₁.setTop (entryFrame m #[(.ref a1)] 1)) t := fun t k => castTop (ef_1 m a1) k
  obtain ⟨T2, X2, e2, st2⟩ := initO X0 hx hZ hown (hw _ (List.mem_of_getElem? (i := 6) rfl)) (hw _ (List.mem_of_getElem? (i := 7) rfl)) (hw _ (List.mem_of_getElem? (i := 8) rfl)) e0 (g := (mkF m 1 #[.val (.ref a1)] [(.ref a1)])) rfl (by rw [hml]; rfl) rfl (hb hby d1_1) (by decide) (W := 0) (by show 2 * 0 + _ ≤ _; exact Nat.le_of_eq rfl) (by decide)
  obtain ⟨T3, h3, X3, e3, W3, st3⟩ := putF X2 hx hZ hown (host := "") (Or.inl (hw _ (List.mem_of_getElem? (i := 9) rfl))) Via.refl e2 F_status_a1 E_a1 (Or.inl (hw _ (List.mem_of_getElem? (i := 10) rfl))) (hw _ (List.mem_of_getElem? (i := 1) rfl)) (ty := .int) (by decide) rfl rfl (g := (mkF m 8 #[.val (.ref a1)] [(.int (200 : Int32)), (.ref a1)])) rfl rfl (hb hby d1_8)
  have Fw3 := F_status_a1.same W3
  have K3 : Keep h0 h3 [a1] := (Keep.refl h0 [a1]).wr W3 (Or.inl (List.mem_of_getElem? (i := 0) rfl))
  have N3 := Fr.snoc X3 N0 g_a1
  obtain ⟨T4, h4, X4, e4, E4, A4, D4, -, st4⟩ := newO X3 hx hZ hown (hw _ (List.mem_of_getElem? (i := 11) rfl)) (hw _ (List.mem_of_getElem? (i := 12) rfl)) (hw _ (List.mem_of_getElem? (i := 13) rfl)) e3 (g := (mkF m 12 #[.val (.ref a1)] [(.ref a1)])) rfl (hb hby d1_12) (by decide) (by decide)
  obtain ⟨b4, g4⟩ : ∃ z, z = h3.size := ⟨_, rfl⟩
  rw [← g4] at A4 D4 st4
  have F_names_b4 : Fld Z h4 b4 "com/example/anansi/anansi/Fields" "names" "Ljava/util/List;" .null := D4 (Or.inr (hw _ (List.mem_of_getElem? (i := 43) rfl))) (ty := (.object "java/util/List")) (by decide)
  have F_values_b4 : Fld Z h4 b4 "com/example/anansi/anansi/Fields" "values" "Ljava/util/List;" .null := D4 (Or.inr (hw _ (List.mem_of_getElem? (i := 45) rfl))) (ty := (.object "java/util/List")) (by decide)
  have E_b4 := A4
  have g_b4 : n0 ≤ b4 := Nat.le_trans (Nat.le_trans Z0 (Keep.of_wr W3).1) (Nat.le_of_eq g4.symm)
  have sz_b4 : h0.size ≤ b4 := (Nat.le_trans K3.1 (Nat.le_of_eq g4.symm))
  have K4 : Keep h0 h4 [a1] := K3.ext E4
  obtain ⟨_, _, ⟨T5, L5, k5, n5⟩, -, X5, ⟨Lc5, hQ5, l5, y5, z5⟩, st5⟩ := X4.specialBack hx (y := (⟨"com/example/anansi/anansi/Fields", "<init>", "()V"⟩ : MethodName)) rfl hown (mvT hZ (hw _ (List.mem_of_getElem? (i := 14) rfl))) (mvT hZ (hw _ (List.mem_of_getElem? (i := 15) rfl))) (mvT hZ (hw _ (List.mem_of_getElem? (i := 16) rfl))) (by decide) (backOf (W := 2) (rm3 l Z a0 hw [] b4 .null .null h4 n0 (Nat.le_trans Z0 K4.1) A4 F_names_b4 g_b4 F_values_b4 ((S_D.wr W3).ext E4) A4.lt) hZ (hw _ (List.mem_of_getElem? (i := 16) rfl)) (hw _ (List.mem_of_getElem? (i := 13) rfl)) (by decide) (by decide)) (g := (mkF m 16 #[.val (.ref a1)] [(.ref b4), (.ref b4), (.ref a1)])) rfl (by rw [hml]; rfl) (Steps.refl _) (a := b4) (argsL := []) (rest := [(.ref b4), (.ref a1)]) (lenOf pd_1_0 rfl) rfl (by show 2 * 0 + _ ≤ _; exact Nat.le_of_eq rfl) (hb hby d1_16) (fun _ _ => ⟨rfl, e4, (by decide : 1 + 2 ≤ _), (by decide : 2 + 6 ≤ _)⟩)
  dsimp only [Pt.U, Pt.locs, Pt.cells, Pt.slots] at X5 l5 y5 z5 st5 hQ5
  subst l5 y5 z5
  obtain ⟨rfl, N5q, K5c, E5c, bb, Fn5, Eb5, Fs5, hb5⟩ := hQ5
  have ne4 : a1 ≠ b4 := Nat.ne_of_lt (Nat.lt_of_lt_of_le l_a1 sz_b4)
  have na_4 : a1 ∉ [b4] := oNi ne4
  have neb : bb ≠ a1 := (Nat.ne_of_lt (Nat.lt_of_lt_of_le l_a1 (Nat.le_trans K4.1 hb5))).symm
  have N5 := Fr.app N3 N5q
  obtain ⟨T6, h6, X6, e6, W6, st6⟩ := putF X5 hx hZ hown (host := "") (Or.inl (hw _ (List.mem_of_getElem? (i := 46) rfl))) Via.refl rfl (((F_fields_a1.other W3 (Or.inr (slot_ne (Or.inr (hw _ (List.mem_of_getElem? (i := 47) rfl))) (Or.inl (hw _ (List.mem_of_getElem? (i := 10) rfl))) (by decide) (t := (.object "com/example/anansi/anansi/Fields")) (t' := .int) (by decide) (by decide)))).ext E4).keep K5c na_4) (((E_a1.wr W3).ext E4).keep K5c) (Or.inr ⟨(hw _ (List.mem_of_getElem? (i := 47) rfl)), rfl, hnm⟩) (hw _ (List.mem_of_getElem? (i := 1) rfl)) (ty := (.object "com/example/anansi/anansi/Fields")) (by decide) rfl rfl (g := (mkF m 19 #[.val (.ref a1)] [(.ref b4), (.ref a1)])) rfl rfl (hb hby d1_19)
  have Fw6 := (((F_fields_a1.other W3 (Or.inr (slot_ne (Or.inr (hw _ (List.mem_of_getElem? (i := 47) rfl))) (Or.inl (hw _ (List.mem_of_getElem? (i := 10) rfl))) (by decide) (t := (.object "com/example/anansi/anansi/Fields")) (t' := .int) (by decide) (by decide)))).ext E4).keep K5c na_4).same W6
  have K6 : Keep h0 h6 [a1] := (oKeep1 K4 K5c sz_b4).wr W6 (Or.inl (List.mem_of_getElem? (i := 0) rfl))
  have N6 := Fr.snoc X6 N5 g_a1
  obtain ⟨T8, X8, e8, st8⟩ := getS2 X6 hx hZ hown (host := "") (Or.inl (hw _ (List.mem_of_getElem? (i := 48) rfl))) Via.refl e6 ((oStaK K5c A4 ((S_NO_BODY.wr W3).ext E4)).wr W6) (g := (mkF m 23 #[.val (.ref a1)] [(.ref a1)])) rfl (hb hby d1_23)
  obtain ⟨T9, h9, X9, e9, W9, st9⟩ := putF X8 hx hZ hown (host := "") (Or.inl (hw _ (List.mem_of_getElem? (i := 50) rfl))) Via.refl e8 ((((F_body_a1.other W3 (Or.inr (slot_ne (Or.inl (hw _ (List.mem_of_getElem? (i := 51) rfl))) (Or.inl (hw _ (List.mem_of_getElem? (i := 10) rfl))) (by decide) (t := (.array .byte)) (t' := .int) (by decide) (by decide)))).ext E4).keep K5c na_4).other W6 (Or.inr (slot_ne (Or.inl (hw _ (List.mem_of_getElem? (i := 51) rfl))) (Or.inr (hw _ (List.mem_of_getElem? (i := 47) rfl))) (by decide) (t := (.array .byte)) (t' := (.object "com/example/anansi/anansi/Fields")) (by decide) (by decide)))) ((((E_a1.wr W3).ext E4).keep K5c).wr W6) (Or.inl (hw _ (List.mem_of_getElem? (i := 51) rfl))) (hw _ (List.mem_of_getElem? (i := 1) rfl)) (ty := (.array .byte)) (by decide) rfl rfl (g := (mkF m 26 #[.val (.ref a1)] [(.ref w7), (.ref a1)])) rfl rfl (hb hby d1_26)
  have Fw9 := ((((F_body_a1.other W3 (Or.inr (slot_ne (Or.inl (hw _ (List.mem_of_getElem? (i := 51) rfl))) (Or.inl (hw _ (List.mem_of_getElem? (i := 10) rfl))) (by decide) (t := (.array .byte)) (t' := .int) (by decide) (by decide)))).ext E4).keep K5c na_4).other W6 (Or.inr (slot_ne (Or.inl (hw _ (List.mem_of_getElem? (i := 51) rfl))) (Or.inr (hw _ (List.mem_of_getElem? (i := 47) rfl))) (by decide) (t := (.array .byte)) (t' := (.object "com/example/anansi/anansi/Fields")) (by decide) (by decide)))).same W9
  have K9 : Keep h0 h9 [a1] := K6.wr W9 (Or.inl (List.mem_of_getElem? (i := 0) rfl))
  have N9 := Fr.snoc X9 N6 g_a1
  obtain ⟨fs, hr, hrun, hended, hW, hsame⟩ := X9.leave (v := none) (fun _ => rfl)
  refine ⟨_, _, pre0 _ ?_, hrun, hended, _, _, rfl, ?_, ⟨_, rfl⟩, hW, hsame.mono (by decide) (by decide)⟩
  · show Steps p.tables e below (s₁.setTop (mkF m 0 #[.val (.ref a1)] [])) _
    refine XS.aloadN X0.here hx rfl (hb hby d1_0) rfl rfl ?_
    show Steps p.tables e below (s₁.setTop (mkF m 1 #[.val (.ref a1)] [(.ref a1)])) _
    refine st2 _ ?_
    show Steps p.tables e below (T2.setTop (mkF m 4 #[.val (.ref a1)] [])) _
    refine XS.aloadN X2.here hx rfl (hb hby d1_4) rfl rfl ?_
    show Steps p.tables e below (T2.setTop (mkF m 5 #[.val (.ref a1)] [(.ref a1)])) _
    refine XS.sipush X2.here hx rfl (hb hby d1_5) ?_
    show Steps p.tables e below (T2.setTop (mkF m 8 #[.val (.ref a1)] [(.int (200 : Int32)), (.ref a1)])) _
    refine st3 _ ?_
    show Steps p.tables e below (T3.setTop (mkF m 11 #[.val (.ref a1)] [])) _
    refine XS.aloadN X3.here hx rfl (hb hby d1_11) rfl rfl ?_
    show Steps p.tables e below (T3.setTop (mkF m 12 #[.val (.ref a1)] [(.ref a1)])) _
    refine st4 _ ?_
    show Steps p.tables e below (T4.setTop (mkF m 15 #[.val (.ref a1)] [(.ref b4), (.ref a1)])) _
    refine XS.dup X4.here hx rfl (hb hby d1_15) rfl rfl ?_
    show Steps p.tables e below (T4.setTop (mkF m 16 #[.val (.ref a1)] [(.ref b4), (.ref b4), (.ref a1)])) _
    refine st5.trans ?_
    show Steps p.tables e below (T5.setTop (mkF m 19 #[.val (.ref a1)] [(.ref b4), (.ref a1)])) _
    refine st6 _ ?_
    show Steps p.tables e below (T6.setTop (mkF m 22 #[.val (.ref a1)] [])) _
    refine XS.aloadN X6.here hx rfl (hb hby d1_22) rfl rfl ?_
    show Steps p.tables e below (T6.setTop (mkF m 23 #[.val (.ref a1)] [(.ref a1)])) _
    refine st8 _ ?_
    show Steps p.tables e below (T8.setTop (mkF m 26 #[.val (.ref a1)] [(.ref w7), (.ref a1)])) _
    refine st9 _ ?_
    show Steps p.tables e below (T9.setTop (mkF m 29 #[.val (.ref a1)] [])) _
    exact X9.returnOut hx Bd.returns (hb hby d1_29) hr
  · show Q1 Z a1 u_status_a1 u_fields_a1 w7 u_body_a1 h0 n0 _ T9.heap _
    rw [e9]
    exact ⟨rfl, N9, K9, b4, bb, ((((E_a1.wr W3).ext E4).keep K5c).wr W6).wr W9, (((Fw3.ext E4).keep K5c na_4).other W6 (Or.inr (slot_ne (Or.inl (hw _ (List.mem_of_getElem? (i := 10) rfl))) (Or.inr (hw _ (List.mem_of_getElem? (i := 47) rfl))) (by decide) (t := .int) (t' := (.object "com/example/anansi/anansi/Fields")) (by decide) (by decide)))).other W9 (Or.inr (slot_ne (Or.inl (hw _ (List.mem_of_getElem? (i := 10) rfl))) (Or.inl (hw _ (List.mem_of_getElem? (i := 51) rfl))) (by decide) (t := .int) (t' := (.array .byte)) (by decide) (by decide))), Fw6.other W9 (Or.inr (slot_ne (Or.inr (hw _ (List.mem_of_getElem? (i := 47) rfl))) (Or.inl (hw _ (List.mem_of_getElem? (i := 51) rfl))) (by decide) (t := (.object "com/example/anansi/anansi/Fields")) (t' := (.array .byte)) (by decide) (by decide))), (E5c.wr W6).wr W9, (Fn5.other W6 (Or.inl ne4.symm)).other W9 (Or.inl ne4.symm), (Eb5.wr W6).wr W9, (Fs5.other W6 (Or.inl neb)).other W9 (Or.inl neb), Fw9, ne4.symm, neb⟩
theorem d12_0 : decode jdk_38_method_8_code 0 = .ok (.aload_n 0, 1) := by decide +kernel
theorem d12_1 : decode jdk_38_method_8_code 1 = .ok (.getfield 48, 3) := by decide +kernel
theorem d12_4 : decode jdk_38_method_8_code 4 = .ok (.ireturn, 1) := by decide +kernel
theorem pn_12 : plainName "java/util/ArrayList" = true := by first | (simp [plainName, overriddenIn]; done) | decide +kernel
theorem ef_12 (m : MethodId) (x0 : Addr) : entryFrame m #[(.ref x0)] 1 = mkF m 0 #[.val (.ref x0)] [] := by first | (simp [entryFrame, mkF, argsToLocals, Value.category]; done) | rfl
def Q12 (Z : State) (a1 : Addr) (w2 : Int32) (h0 : Heap) (n0 : Nat) (v : Option Value) (h : Heap) (L : List Loc) : Prop := v = some (.int w2) ∧ Fr n0 L ∧ h = h0
set_option maxRecDepth 65536 in
set_option maxHeartbeats 40000000 in
theorem rm12 (l : Launch) (Z : State) (a0 : Array Value) (hw : ∀ d ∈ tables_1, d.before a0 Z = true) (ws : List Jvm.Cond) (a1 : Addr) (w2 : Int32) (h0 : Heap) (n0 : Nat) (Z0 : n0 ≤ h0.size) (F_size_a1 : Fld Z h0 a1 "java/util/ArrayList" "size" "I" (.int w2)) :
    MetFree l (⟨"java/util/ArrayList", "size", "()I"⟩ : MethodName) (head1 (Jvm.Cond.code (⟨"java/util/ArrayList", "size", "()I"⟩ : MethodName) jdk_38_method_8_code 1 (some .int) :: ws) ({ frames := 0, cells := 0, slots := 0, locals := 0 } : Room)) (fun a U => a = #[(.ref a1)] ∧ Z.Warmed39 U.vm ∧ U.heap = h0) (fun _ _ _ _ _ => True) (fun _ U o U' => ∃ v L, o = .returned v ∧ Q12 Z a1 w2 h0 n0 v U'.heap L ∧ FrameEnd U o U' L ({ frames := 0, cells := 0, slots := 0, locals := 0 } : Room).cells ({ frames := 0, cells := 0, slots := 0, locals := 0 } : Room).slots) := by
  refine MetFree.of_bodySF (plainFor_of_name pn_12) hisR ?_
  intro p e s m args below meth c s₁ Bd hml0 hP hK
  obtain ⟨rfl, hZ, hh⟩ := hP
  have hx := Bd.exec
  have hby := Bd.bytes
  have hml : c.maxLocals = 1 := hml0
  have hown : s.vm.findClass "java/util/ArrayList" = some m.cls := findClass_of_methodNamed Bd.named
  have hnm := (name_of_methodNamed Bd.named Bd.method).1
  have X0 : Stand p l e ({ frames := 0, cells := 0, slots := 0, locals := 0 } : Room) s m #[(.ref a1)] below meth c s₁ [] 0 0 := Stand.of_body Bd
  have e0 : s₁.heap = h0 := by rw [← hh, Bd.state]; rfl
  have N0 := Fr.nil n0
  have pre0 : ∀ t, Steps p.tables e below (s₁.setTop (mkF m 0 #[.val (.ref a1)] [])) t → Steps p.tables e below (s₁.setTop (entryFrame m #[(.ref a1)] 1)) t := fun t k => castTop (ef_12 m a1) k
  obtain ⟨T3, X3, e3, st3⟩ := getF X0 hx hZ hown (host := "") (Or.inl (hw _ (List.mem_of_getElem? (i := 86) rfl))) Via.refl e0 F_size_a1 (g := (mkF m 1 #[.val (.ref a1)] [(.ref a1)])) rfl rfl (hb hby d12_1)
  obtain ⟨fs, hr, hrun, hended, hW, hsame⟩ := X3.leave (v := some (.int w2)) (fun h => by rw [Bd.returns] at h; cases h)
  refine ⟨_, _, pre0 _ ?_, hrun, hended, _, _, rfl, ?_, ⟨_, rfl⟩, hW, hsame.mono (by decide) (by decide)⟩
  · show Steps p.tables e below (s₁.setTop (mkF m 0 #[.val (.ref a1)] [])) _
    refine XS.aloadN X0.here hx rfl (hb hby d12_0) rfl rfl ?_
    show Steps p.tables e below (s₁.setTop (mkF m 1 #[.val (.ref a1)] [(.ref a1)])) _
    refine st3 _ ?_
    show Steps p.tables e below (T3.setTop (mkF m 4 #[.val (.ref a1)] [(.int w2)])) _
    exact retI X3 hx Bd.returns (hb hby d12_4) hr
  · show Q12 Z a1 w2 h0 n0 _ T3.heap _
    rw [e3]
    exact ⟨rfl, N0, rfl⟩
theorem d11_0 : decode prog_4_method_10_code 0 = .ok (.aload_n 0, 1) := by decide +kernel
theorem d11_1 : decode prog_4_method_10_code 1 = .ok (.getfield 10, 3) := by decide +kernel
theorem d11_4 : decode prog_4_method_10_code 4 = .ok (.invokeinterface 25 1, 5) := by decide +kernel
theorem d11_9 : decode prog_4_method_10_code 9 = .ok (.ireturn, 1) := by decide +kernel
theorem pn_11 : plainName "com/example/anansi/anansi/Fields" = true := by first | (simp [plainName, overriddenIn]; done) | decide +kernel
theorem pd_11_1 : parseMethodDescriptor "()I" = some ⟨[], some .int⟩ := by decide +kernel
theorem ef_11 (m : MethodId) (x0 : Addr) : entryFrame m #[(.ref x0)] 1 = mkF m 0 #[.val (.ref x0)] [] := by first | (simp [entryFrame, mkF, argsToLocals, Value.category]; done) | rfl
def Q11 (Z : State) (a1 : Addr) (w2 : Addr) (h0 : Heap) (n0 : Nat) (v : Option Value) (h : Heap) (L : List Loc) : Prop := v = some (.int 0) ∧ Fr n0 L ∧ h = h0
set_option maxRecDepth 65536 in
set_option maxHeartbeats 40000000 in
theorem rm11 (l : Launch) (Z : State) (a0 : Array Value) (hw : ∀ d ∈ tables_1, d.before a0 Z = true) (ws : List Jvm.Cond) (a1 : Addr) (w2 : Addr) (h0 : Heap) (n0 : Nat) (Z0 : n0 ≤ h0.size) (F_names_a1 : Fld Z h0 a1 "com/example/anansi/anansi/Fields" "names" "Ljava/util/List;" (.ref w2)) (E_w2 : Exa Z h0 w2 "java/util/ArrayList") (F_size_w2 : Fld Z h0 w2 "java/util/ArrayList" "size" "I" (.int 0)) :
    MetFree l (⟨"com/example/anansi/anansi/Fields", "size", "()I"⟩ : MethodName) (head1 (Jvm.Cond.code (⟨"com/example/anansi/anansi/Fields", "size", "()I"⟩ : MethodName) prog_4_method_10_code 1 (some .int) :: ws) ({ frames := 1, cells := 0, slots := 0, locals := 12 } : Room)) (fun a U => a = #[(.ref a1)] ∧ Z.Warmed39 U.vm ∧ U.heap = h0) (fun _ _ _ _ _ => True) (fun _ U o U' => ∃ v L, o = .returned v ∧ Q11 Z a1 w2 h0 n0 v U'.heap L ∧ FrameEnd U o U' L ({ frames := 1, cells := 0, slots := 0, locals := 12 } : Room).cells ({ frames := 1, cells := 0, slots := 0, locals := 12 } : Room).slots) := by
  refine MetFree.of_bodySF (plainFor_of_name pn_11) hisR ?_
  intro p e s m args below meth c s₁ Bd hml0 hP hK
  obtain ⟨rfl, hZ, hh⟩ := hP
  have hx := Bd.exec
  have hby := Bd.bytes
  have hml : c.maxLocals = 1 := hml0
  have hown : s.vm.findClass "com/example/anansi/anansi/Fields" = some m.cls := findClass_of_methodNamed Bd.named
  have hnm := (name_of_methodNamed Bd.named Bd.method).1
  have X0 : Stand p l e ({ frames := 1, cells := 0, slots := 0, locals := 12 } : Room) s m #[(.ref a1)] below meth c s₁ [] 0 0 := Stand.of_body Bd
  have e0 : s₁.heap = h0 := by rw [← hh, Bd.state]; rfl
  have N0 := Fr.nil n0
  have pre0 : ∀ t, Steps p.tables e below (s₁.setTop (mkF m 0 #[.val (.ref a1)] [])) t → Steps p.tables e below (s₁.setTop (entryFrame m #[(.ref a1)] 1)) t := fun t k => castTop (ef_11 m a1) k
  obtain ⟨T3, X3, e3, st3⟩ := getF X0 hx hZ hown (host := "") (Or.inl (hw _ (List.mem_of_getElem? (i := 42) rfl))) Via.refl e0 F_names_a1 (g := (mkF m 1 #[.val (.ref a1)] [(.ref a1)])) rfl rfl (hb hby d11_1)
  obtain ⟨cq4, kq4, q4a, q4b, q4c⟩ := isOf hZ e3 E_w2
  obtain ⟨_, _, ⟨T4, L4, k4, n4⟩, -, X4, ⟨Lc4, hQ4, l4, y4, z4⟩, st4⟩ := X3.interfaceBack hx (xi := (⟨"java/util/List", "size", "()I"⟩ : MethodName)) (y := (⟨"java/util/ArrayList", "size", "()I"⟩ : MethodName)) hown (mvT hZ (hw _ (List.mem_of_getElem? (i := 77) rfl))) (mvT hZ (hw _ (List.mem_of_getElem? (i := 78) rfl))) (mvT hZ (hw _ (List.mem_of_getElem? (i := 79) rfl))) (mvT hZ (hw _ (List.mem_of_getElem? (i := 80) rfl))) (mvT hZ (hw _ (List.mem_of_getElem? (i := 81) rfl))) (mvT hZ (hw _ (List.mem_of_getElem? (i := 82) rfl))) (mvT hZ (hw _ (List.mem_of_getElem? (i := 83) rfl))) (mvT hZ (hw _ (List.mem_of_getElem? (i := 84) rfl))) (by decide) (backOf (W := 0) (rm12 l Z a0 hw [] w2 0 h0 n0 Z0 F_size_w2) hZ (hw _ (List.mem_of_getElem? (i := 85) rfl)) (hw _ (List.mem_of_getElem? (i := 20) rfl)) (by decide) (by decide)) q4a q4b q4c (g := (mkF m 4 #[.val (.ref a1)] [(.ref w2)])) rfl (by rw [hml]; rfl) (Steps.refl _) (argsL := []) (rest := []) (lenOf pd_11_1 rfl) rfl (by show 2 * 0 + _ ≤ _; exact Nat.le_of_eq rfl) (hb hby d11_4) (fun _ _ => ⟨rfl, e3, (by decide : 0 + 0 ≤ _), (by decide : 0 + 0 ≤ _)⟩)
  dsimp only [Pt.U, Pt.locs, Pt.cells, Pt.slots] at X4 l4 y4 z4 st4 hQ4
  subst l4 y4 z4
  obtain ⟨rfl, N4q, e4⟩ := hQ4
  have N4 := Fr.app N0 N4q
  obtain ⟨fs, hr, hrun, hended, hW, hsame⟩ := X4.leave (v := some (.int 0)) (fun h => by rw [Bd.returns] at h; cases h)
  refine ⟨_, _, pre0 _ ?_, hrun, hended, _, _, rfl, ?_, ⟨_, rfl⟩, hW, hsame.mono (by decide) (by decide)⟩
  · show Steps p.tables e below (s₁.setTop (mkF m 0 #[.val (.ref a1)] [])) _
    refine XS.aloadN X0.here hx rfl (hb hby d11_0) rfl rfl ?_
    show Steps p.tables e below (s₁.setTop (mkF m 1 #[.val (.ref a1)] [(.ref a1)])) _
    refine st3 _ ?_
    show Steps p.tables e below (T3.setTop (mkF m 4 #[.val (.ref a1)] [(.ref w2)])) _
    refine st4.trans ?_
    show Steps p.tables e below (T4.setTop (mkF m 9 #[.val (.ref a1)] [(.int 0)])) _
    exact retI X4 hx Bd.returns (hb hby d11_9) hr
  · show Q11 Z a1 w2 h0 n0 _ T4.heap _
    exact ⟨rfl, N4, e4⟩
theorem d7_0 : decode prog_30_method_2_code 0 = .ok (.aload_n 0, 1) := by decide +kernel
theorem d7_1 : decode prog_30_method_2_code 1 = .ok (.getfield 7, 3) := by decide +kernel
theorem d7_4 : decode prog_30_method_2_code 4 = .ok (.ireturn, 1) := by decide +kernel
theorem pn_7 : plainName "com/example/anansi/anansi/Response" = true := by first | (simp [plainName, overriddenIn]; done) | decide +kernel
theorem ef_7 (m : MethodId) (x0 : Addr) : entryFrame m #[(.ref x0)] 1 = mkF m 0 #[.val (.ref x0)] [] := by first | (simp [entryFrame, mkF, argsToLocals, Value.category]; done) | rfl
def Q7 (Z : State) (a1 : Addr) (w2 : Int32) (h0 : Heap) (n0 : Nat) (v : Option Value) (h : Heap) (L : List Loc) : Prop := v = some (.int w2) ∧ Fr n0 L ∧ h = h0
set_option maxRecDepth 65536 in
set_option maxHeartbeats 40000000 in
theorem rm7 (l : Launch) (Z : State) (a0 : Array Value) (hw : ∀ d ∈ tables_1, d.before a0 Z = true) (ws : List Jvm.Cond) (a1 : Addr) (w2 : Int32) (h0 : Heap) (n0 : Nat) (Z0 : n0 ≤ h0.size) (F_status_a1 : Fld Z h0 a1 "com/example/anansi/anansi/Response" "status" "I" (.int w2)) :
    MetFree l (⟨"com/example/anansi/anansi/Response", "status", "()I"⟩ : MethodName) (head1 (Jvm.Cond.code (⟨"com/example/anansi/anansi/Response", "status", "()I"⟩ : MethodName) prog_30_method_2_code 1 (some .int) :: ws) ({ frames := 0, cells := 0, slots := 0, locals := 0 } : Room)) (fun a U => a = #[(.ref a1)] ∧ Z.Warmed39 U.vm ∧ U.heap = h0) (fun _ _ _ _ _ => True) (fun _ U o U' => ∃ v L, o = .returned v ∧ Q7 Z a1 w2 h0 n0 v U'.heap L ∧ FrameEnd U o U' L ({ frames := 0, cells := 0, slots := 0, locals := 0 } : Room).cells ({ frames := 0, cells := 0, slots := 0, locals := 0 } : Room).slots) := by
  refine MetFree.of_bodySF (plainFor_of_name pn_7) hisR ?_
  intro p e s m args below meth c s₁ Bd hml0 hP hK
  obtain ⟨rfl, hZ, hh⟩ := hP
  have hx := Bd.exec
  have hby := Bd.bytes
  have hml : c.maxLocals = 1 := hml0
  have hown : s.vm.findClass "com/example/anansi/anansi/Response" = some m.cls := findClass_of_methodNamed Bd.named
  have hnm := (name_of_methodNamed Bd.named Bd.method).1
  have X0 : Stand p l e ({ frames := 0, cells := 0, slots := 0, locals := 0 } : Room) s m #[(.ref a1)] below meth c s₁ [] 0 0 := Stand.of_body Bd
  have e0 : s₁.heap = h0 := by rw [← hh, Bd.state]; rfl
  have N0 := Fr.nil n0
  have pre0 : ∀ t, Steps p.tables e below (s₁.setTop (mkF m 0 #[.val (.ref a1)] [])) t → Steps p.tables e below (s₁.setTop (entryFrame m #[(.ref a1)] 1)) t := fun t k => castTop (ef_7 m a1) k
  obtain ⟨T3, X3, e3, st3⟩ := getF X0 hx hZ hown (host := "") (Or.inl (hw _ (List.mem_of_getElem? (i := 9) rfl))) Via.refl e0 F_status_a1 (g := (mkF m 1 #[.val (.ref a1)] [(.ref a1)])) rfl rfl (hb hby d7_1)
  obtain ⟨fs, hr, hrun, hended, hW, hsame⟩ := X3.leave (v := some (.int w2)) (fun h => by rw [Bd.returns] at h; cases h)
  refine ⟨_, _, pre0 _ ?_, hrun, hended, _, _, rfl, ?_, ⟨_, rfl⟩, hW, hsame.mono (by decide) (by decide)⟩
  · show Steps p.tables e below (s₁.setTop (mkF m 0 #[.val (.ref a1)] [])) _
    refine XS.aloadN X0.here hx rfl (hb hby d7_0) rfl rfl ?_
    show Steps p.tables e below (s₁.setTop (mkF m 1 #[.val (.ref a1)] [(.ref a1)])) _
    refine st3 _ ?_
    show Steps p.tables e below (T3.setTop (mkF m 4 #[.val (.ref a1)] [(.int w2)])) _
    exact retI X3 hx Bd.returns (hb hby d7_4) hr
  · show Q7 Z a1 w2 h0 n0 _ T3.heap _
    rw [e3]
    exact ⟨rfl, N0, rfl⟩
theorem d8_0 : decode method_2_code 0 = .ok (.sipush 200, 3) := by decide +kernel
theorem d8_3 : decode method_2_code 3 = .ok (.iload_n 0, 1) := by decide +kernel
theorem d8_4 : decode method_2_code 4 = .ok (.ldc 7, 2) := by decide +kernel
theorem d8_6 : decode method_2_code 6 = .ok (.iand, 1) := by decide +kernel
theorem d8_7 : decode method_2_code 7 = .ok (.sipush 400, 3) := by decide +kernel
theorem d8_10 : decode method_2_code 10 = .ok (.irem, 1) := by decide +kernel
theorem d8_11 : decode method_2_code 11 = .ok (.iadd, 1) := by decide +kernel
theorem d8_12 : decode method_2_code 12 = .ok (.ireturn, 1) := by decide +kernel
def oF8_0 (p1 : Int32) : Int32 := ((200 : Int32) + ((p1 &&& (2147483647 : Int32)) - ((p1 &&& (2147483647 : Int32)) / (400 : Int32)) * (400 : Int32)))
set_option maxRecDepth 65536 in
set_option maxHeartbeats 4000000 in
theorem oB8_0 {p : Program} {l : Launch} {e : Env} {s : State} {m : MethodId} {args : Array Value} {below : List Frame} {meth : Method} {c : Code} {T : State} {locs : List Loc} {cells slots : Nat} {Z : State} {a0 : Array Value} {h0 : Heap} {n0 : Nat} (X : Stand p l e ({ frames := 0, cells := 0, slots := 0, locals := 0 } : Room) s m args below meth c T locs cells slots) (hx : p.tables.exec = Jvm.exec) (hby : c.code = method_2_code) (hml : c.maxLocals = 1) (hret : meth.sig.returnType = some .int) (hlk : meth.locks = false) (hown : s.vm.findClass "com/example/anansi/anansi/ResponseSetStatusPinLaw" = some m.cls) (hZ : Z.Warmed39 s.vm) (hw : ∀ d ∈ tables_1, d.before a0 Z = true) (eT : T.heap = h0) (N : Fr n0 locs) (Z0 : n0 ≤ h0.size) (hcs : cells ≤ ({ frames := 0, cells := 0, slots := 0, locals := 0 } : Room).cells) (hss : slots ≤ ({ frames := 0, cells := 0, slots := 0, locals := 0 } : Room).slots) (p1 : Int32) {w : Int32} (hv : oF8_0 p1 = w) : oEnd p e s below T (mkF m 0 #[.val (.int p1)] []) n0 h0 cells slots (some (.int w)) := by
  show oEnd p e s below T (mkF m 0 #[.val (.int p1)] []) n0 h0 cells slots (some (.int w))
  refine oPre (fun _ => XS.sipush X.here hx rfl (hb hby d8_0)) ?_
  show oEnd p e s below T (mkF m 3 #[.val (.int p1)] [(.int (200 : Int32))]) n0 h0 cells slots (some (.int w))
  refine oPre (fun _ => XS.iloadN X.here hx rfl (hb hby d8_3) rfl) ?_
  show oEnd p e s below T (mkF m 4 #[.val (.int p1)] [(.int p1), (.int (200 : Int32))]) n0 h0 cells slots (some (.int w))
  refine oPre (fun _ => X.ldcInt hx hown (mvT hZ (hw _ (List.mem_of_getElem? (i := 61) rfl))) (g := (mkF m 4 #[.val (.int p1)] [(.int p1), (.int (200 : Int32))])) rfl (hb hby d8_4) _) ?_
  show oEnd p e s below T (mkF m 6 #[.val (.int p1)] [(.int (2147483647 : Int32)), (.int p1), (.int (200 : Int32))]) n0 h0 cells slots (some (.int w))
  refine oPre (fun _ => XS.iand X.here hx rfl (hb hby d8_6) rfl) ?_
  show oEnd p e s below T (mkF m 7 #[.val (.int p1)] [(.int (p1 &&& (2147483647 : Int32))), (.int (200 : Int32))]) n0 h0 cells slots (some (.int w))
  refine oPre (fun _ => XS.sipush X.here hx rfl (hb hby d8_7)) ?_
  show oEnd p e s below T (mkF m 10 #[.val (.int p1)] [(.int (400 : Int32)), (.int (p1 &&& (2147483647 : Int32))), (.int (200 : Int32))]) n0 h0 cells slots (some (.int w))
  refine oPre (fun _ => XS.irem X.here hx rfl (hb hby d8_10) rfl (by decide)) ?_
  show oEnd p e s below T (mkF m 11 #[.val (.int p1)] [(.int ((p1 &&& (2147483647 : Int32)) - ((p1 &&& (2147483647 : Int32)) / (400 : Int32)) * (400 : Int32))), (.int (200 : Int32))]) n0 h0 cells slots (some (.int w))
  refine oPre (fun _ => XS.iadd X.here hx rfl (hb hby d8_11) rfl) ?_
  show oEnd p e s below T (mkF m 12 #[.val (.int p1)] [(.int ((200 : Int32) + ((p1 &&& (2147483647 : Int32)) - ((p1 &&& (2147483647 : Int32)) / (400 : Int32)) * (400 : Int32))))]) n0 h0 cells slots (some (.int w))
  subst hv
  obtain ⟨fs, hr, hrun, hended, hW, hsame⟩ := X.leave (v := some (.int ((200 : Int32) + ((p1 &&& (2147483647 : Int32)) - ((p1 &&& (2147483647 : Int32)) / (400 : Int32)) * (400 : Int32))))) (fun h => by rw [hret] at h; cases h) hlk
  exact ⟨_, _, retI X hx hret (hb hby d8_12) hr, hrun, hended, hW, hsame, N, eT⟩
theorem pn_8 : plainName "com/example/anansi/anansi/ResponseSetStatusPinLaw" = true := by first | (simp [plainName, overriddenIn]; done) | decide +kernel
theorem ef_8 (m : MethodId) (p1 : Int32) : entryFrame m #[(.int p1)] 1 = mkF m 0 #[.val (.int p1)] [] := by first | (simp [entryFrame, mkF, argsToLocals, Value.category]; done) | rfl
def oQ8 (p1 : Int32) (h0 : Heap) (n0 : Nat) (v : Option Value) (h : Heap) (L : List Loc) : Prop := v = some (.int (oF8_0 p1)) ∧ Fr n0 L ∧ h = h0
set_option maxRecDepth 65536 in
set_option maxHeartbeats 4000000 in
theorem oR8 (l : Launch) (Z : State) (a0 : Array Value) (hw : ∀ d ∈ tables_1, d.before a0 Z = true) (ws : List Jvm.Cond) (p1 : Int32) (h0 : Heap) (n0 : Nat) (Z0 : n0 ≤ h0.size) :
    MetFree l (⟨"com/example/anansi/anansi/ResponseSetStatusPinLaw", "code", "(I)I"⟩ : MethodName) (head1 (Jvm.Cond.code (⟨"com/example/anansi/anansi/ResponseSetStatusPinLaw", "code", "(I)I"⟩ : MethodName) method_2_code 1 (some .int) :: ws) ({ frames := 0, cells := 0, slots := 0, locals := 0 } : Room)) (fun a U => a = #[(.int p1)] ∧ Z.Warmed39 U.vm ∧ U.heap = h0) (fun _ _ _ _ _ => True) (fun _ U o U' => ∃ v L, o = .returned v ∧ oQ8 p1 h0 n0 v U'.heap L ∧ FrameEnd U o U' L ({ frames := 0, cells := 0, slots := 0, locals := 0 } : Room).cells ({ frames := 0, cells := 0, slots := 0, locals := 0 } : Room).slots) := by
  refine MetFree.of_bodySF (plainFor_of_name pn_8) hisR ?_
  intro p e s m args below meth c s₁ Bd hml0 hP hK
  obtain ⟨rfl, hZ, hh⟩ := hP
  have hown : s.vm.findClass "com/example/anansi/anansi/ResponseSetStatusPinLaw" = some m.cls := findClass_of_methodNamed Bd.named
  have X0 : Stand p l e ({ frames := 0, cells := 0, slots := 0, locals := 0 } : Room) s m #[(.int p1)] below meth c s₁ [] 0 0 := Stand.of_body Bd
  have e0 : s₁.heap = h0 := by rw [← hh, Bd.state]; rfl
  obtain ⟨t, L, hs, hrun, hended, hW, hsame, hN, ht⟩ := oB8_0 X0 Bd.exec Bd.bytes hml0 Bd.returns Bd.notSynchronized hown hZ hw e0 (Fr.nil n0) Z0 (Nat.zero_le _) (Nat.zero_le _) p1 rfl
  exact ⟨t, _, castTop (ef_8 m p1) hs, hrun, hended, _, L, rfl, ⟨rfl, hN, ht⟩, ⟨_, rfl⟩, hW, hsame.mono (Nat.zero_le _) (Nat.zero_le _)⟩
theorem d9_0 : decode prog_30_method_3_code 0 = .ok (.iload_n 1, 1) := by decide +kernel
theorem d9_1 : decode prog_30_method_3_code 1 = .ok (.sipush 200, 3) := by decide +kernel
theorem d9_4 : decode prog_30_method_3_code 4 = .ok (.if_icmp .lt 10, 3) := by decide +kernel
theorem d9_7 : decode prog_30_method_3_code 7 = .ok (.iload_n 1, 1) := by decide +kernel
theorem d9_8 : decode prog_30_method_3_code 8 = .ok (.sipush 599, 3) := by decide +kernel
theorem d9_11 : decode prog_30_method_3_code 11 = .ok (.if_icmp .le 17, 3) := by decide +kernel
theorem d9_28 : decode prog_30_method_3_code 28 = .ok (.aload_n 0, 1) := by decide +kernel
theorem d9_29 : decode prog_30_method_3_code 29 = .ok (.iload_n 1, 1) := by decide +kernel
theorem d9_30 : decode prog_30_method_3_code 30 = .ok (.putfield 7, 3) := by decide +kernel
theorem d9_33 : decode prog_30_method_3_code 33 = .ok (.return_, 1) := by decide +kernel
theorem pn_9 : plainName "com/example/anansi/anansi/Response" = true := by first | (simp [plainName, overriddenIn]; done) | decide +kernel
theorem ef_9 (m : MethodId) (x0 : Addr) (x1 : Int32) : entryFrame m #[(.ref x0), (.int x1)] 2 = mkF m 0 #[.val (.ref x0), .val (.int x1)] [] := by first | (simp [entryFrame, mkF, argsToLocals, Value.category]; done) | rfl
def Q9 (Z : State) (a1 : Addr) (p2 : Int32) (u_status_a1 : Value) (h0 : Heap) (n0 : Nat) (v : Option Value) (h : Heap) (L : List Loc) : Prop := v = none ∧ Fr n0 L ∧ Wr h0 h a1 (Jvm.RoadKit.slotOf Z "com/example/anansi/anansi/Response" "status" "I") (.int p2)
set_option maxRecDepth 65536 in
set_option maxHeartbeats 40000000 in
theorem rm9 (l : Launch) (Z : State) (a0 : Array Value) (hw : ∀ d ∈ tables_1, d.before a0 Z = true) (ws : List Jvm.Cond) (a1 : Addr) (p2 : Int32) (u_status_a1 : Value) (h0 : Heap) (n0 : Nat) (Z0 : n0 ≤ h0.size) (E_a1 : Exa Z h0 a1 "com/example/anansi/anansi/Response") (F_status_a1 : Fld Z h0 a1 "com/example/anansi/anansi/Response" "status" "I" u_status_a1) (g_a1 : n0 ≤ a1) (hc4 : ¬ (p2 < (200 : Int32))) (hc11 : ¬ ((599 : Int32) < p2)) :
    MetFree l (⟨"com/example/anansi/anansi/Response", "setStatus", "(I)V"⟩ : MethodName) (head1 (Jvm.Cond.code (⟨"com/example/anansi/anansi/Response", "setStatus", "(I)V"⟩ : MethodName) prog_30_method_3_code 2 none :: ws) ({ frames := 0, cells := 0, slots := 0, locals := 0 } : Room)) (fun a U => a = #[(.ref a1), (.int p2)] ∧ Z.Warmed39 U.vm ∧ U.heap = h0) (fun _ _ _ _ _ => True) (fun _ U o U' => ∃ v L, o = .returned v ∧ Q9 Z a1 p2 u_status_a1 h0 n0 v U'.heap L ∧ FrameEnd U o U' L ({ frames := 0, cells := 0, slots := 0, locals := 0 } : Room).cells ({ frames := 0, cells := 0, slots := 0, locals := 0 } : Room).slots) := by
  refine MetFree.of_bodySF (plainFor_of_name pn_9) hisR ?_
  intro p e s m args below meth c s₁ Bd hml0 hP hK
  obtain ⟨rfl, hZ, hh⟩ := hP
  have hx := Bd.exec
  have hby := Bd.bytes
  have hml : c.maxLocals = 2 := hml0
  have hown : s.vm.findClass "com/example/anansi/anansi/Response" = some m.cls := findClass_of_methodNamed Bd.named
  have hnm := (name_of_methodNamed Bd.named Bd.method).1
  have X0 : Stand p l e ({ frames := 0, cells := 0, slots := 0, locals := 0 } : Room) s m #[(.ref a1), (.int p2)] below meth c s₁ [] 0 0 := Stand.of_body Bd
  have e0 : s₁.heap = h0 := by rw [← hh, Bd.state]; rfl
  have N0 := Fr.nil n0
  have pre0 : ∀ t, Steps p.tables e below (s₁.setTop (mkF m 0 #[.val (.ref a1), .val (.int p2)] [])) t → Steps p.tables e below (s₁.setTop (entryFrame m #[(.ref a1), (.int p2)] 2)) t := fun t k => castTop (ef_9 m a1 p2) k
  obtain ⟨T3, h3, X3, e3, W3, st3⟩ := putF X0 hx hZ hown (host := "") (Or.inl (hw _ (List.mem_of_getElem? (i := 9) rfl))) Via.refl e0 F_status_a1 E_a1 (Or.inl (hw _ (List.mem_of_getElem? (i := 10) rfl))) (hw _ (List.mem_of_getElem? (i := 1) rfl)) (ty := .int) (by decide) rfl rfl (g := (mkF m 30 #[.val (.ref a1), .val (.int p2)] [(.int p2), (.ref a1)])) rfl rfl (hb hby d9_30)
  have Fw3 := F_status_a1.same W3
  have K3 : Keep h0 h3 [a1] := (Keep.refl h0 [a1]).wr W3 (Or.inl (List.mem_of_getElem? (i := 0) rfl))
  have N3 := Fr.snoc X3 N0 g_a1
  obtain ⟨fs, hr, hrun, hended, hW, hsame⟩ := X3.leave (v := none) (fun _ => rfl)
  refine ⟨_, _, pre0 _ ?_, hrun, hended, _, _, rfl, ?_, ⟨_, rfl⟩, hW, hsame.mono (by decide) (by decide)⟩
  · show Steps p.tables e below (s₁.setTop (mkF m 0 #[.val (.ref a1), .val (.int p2)] [])) _
    refine XS.iloadN X0.here hx rfl (hb hby d9_0) rfl ?_
    show Steps p.tables e below (s₁.setTop (mkF m 1 #[.val (.ref a1), .val (.int p2)] [(.int p2)])) _
    refine XS.sipush X0.here hx rfl (hb hby d9_1) ?_
    show Steps p.tables e below (s₁.setTop (mkF m 4 #[.val (.ref a1), .val (.int p2)] [(.int (200 : Int32)), (.int p2)])) _
    refine XS.icmpNo X0.here hx rfl (hb hby d9_4) rfl (flt hc4).1 ?_
    show Steps p.tables e below (s₁.setTop (mkF m 7 #[.val (.ref a1), .val (.int p2)] [])) _
    refine XS.iloadN X0.here hx rfl (hb hby d9_7) rfl ?_
    show Steps p.tables e below (s₁.setTop (mkF m 8 #[.val (.ref a1), .val (.int p2)] [(.int p2)])) _
    refine XS.sipush X0.here hx rfl (hb hby d9_8) ?_
    show Steps p.tables e below (s₁.setTop (mkF m 11 #[.val (.ref a1), .val (.int p2)] [(.int (599 : Int32)), (.int p2)])) _
    refine XS.icmpYes X0.here hx rfl (pc0 := 11) (pc' := 28) rfl (hb hby d9_11) rfl (flt hc11).2.2.2 (by decide) (by decide) ?_
    show Steps p.tables e below (s₁.setTop (mkF m 28 #[.val (.ref a1), .val (.int p2)] [])) _
    refine XS.aloadN X0.here hx rfl (hb hby d9_28) rfl rfl ?_
    show Steps p.tables e below (s₁.setTop (mkF m 29 #[.val (.ref a1), .val (.int p2)] [(.ref a1)])) _
    refine XS.iloadN X0.here hx rfl (hb hby d9_29) rfl ?_
    show Steps p.tables e below (s₁.setTop (mkF m 30 #[.val (.ref a1), .val (.int p2)] [(.int p2), (.ref a1)])) _
    refine st3 _ ?_
    show Steps p.tables e below (T3.setTop (mkF m 33 #[.val (.ref a1), .val (.int p2)] [])) _
    exact X3.returnOut hx Bd.returns (hb hby d9_33) hr
  · show Q9 Z a1 p2 u_status_a1 h0 n0 _ T3.heap _
    rw [e3]
    exact ⟨rfl, N3, W3⟩
theorem d10_0 : decode prog_30_method_9_code 0 = .ok (.aload_n 0, 1) := by decide +kernel
theorem d10_1 : decode prog_30_method_9_code 1 = .ok (.getfield 16, 3) := by decide +kernel
theorem d10_4 : decode prog_30_method_9_code 4 = .ok (.areturn, 1) := by decide +kernel
theorem pn_10 : plainName "com/example/anansi/anansi/Response" = true := by first | (simp [plainName, overriddenIn]; done) | decide +kernel
theorem ef_10 (m : MethodId) (x0 : Addr) : entryFrame m #[(.ref x0)] 1 = mkF m 0 #[.val (.ref x0)] [] := by first | (simp [entryFrame, mkF, argsToLocals, Value.category]; done) | rfl
def Q10 (Z : State) (a1 : Addr) (w2 : Addr) (h0 : Heap) (n0 : Nat) (v : Option Value) (h : Heap) (L : List Loc) : Prop := v = some (.ref w2) ∧ Fr n0 L ∧ h = h0
set_option maxRecDepth 65536 in
set_option maxHeartbeats 40000000 in
theorem rm10 (l : Launch) (Z : State) (a0 : Array Value) (hw : ∀ d ∈ tables_1, d.before a0 Z = true) (ws : List Jvm.Cond) (a1 : Addr) (w2 : Addr) (h0 : Heap) (n0 : Nat) (Z0 : n0 ≤ h0.size) (F_fields_a1 : Fld Z h0 a1 "com/example/anansi/anansi/Response" "fields" "Lcom/example/anansi/anansi/Fields;" (.ref w2)) :
    MetFree l (⟨"com/example/anansi/anansi/Response", "fields", "()Lcom/example/anansi/anansi/Fields;"⟩ : MethodName) (head1 (Jvm.Cond.code (⟨"com/example/anansi/anansi/Response", "fields", "()Lcom/example/anansi/anansi/Fields;"⟩ : MethodName) prog_30_method_9_code 1 (some (.object "com/example/anansi/anansi/Fields")) :: ws) ({ frames := 0, cells := 0, slots := 0, locals := 0 } : Room)) (fun a U => a = #[(.ref a1)] ∧ Z.Warmed39 U.vm ∧ U.heap = h0) (fun _ _ _ _ _ => True) (fun _ U o U' => ∃ v L, o = .returned v ∧ Q10 Z a1 w2 h0 n0 v U'.heap L ∧ FrameEnd U o U' L ({ frames := 0, cells := 0, slots := 0, locals := 0 } : Room).cells ({ frames := 0, cells := 0, slots := 0, locals := 0 } : Room).slots) := by
  refine MetFree.of_bodySF (plainFor_of_name pn_10) hisR ?_
  intro p e s m args below meth c s₁ Bd hml0 hP hK
  obtain ⟨rfl, hZ, hh⟩ := hP
  have hx := Bd.exec
  have hby := Bd.bytes
  have hml : c.maxLocals = 1 := hml0
  have hown : s.vm.findClass "com/example/anansi/anansi/Response" = some m.cls := findClass_of_methodNamed Bd.named
  have hnm := (name_of_methodNamed Bd.named Bd.method).1
  have X0 : Stand p l e ({ frames := 0, cells := 0, slots := 0, locals := 0 } : Room) s m #[(.ref a1)] below meth c s₁ [] 0 0 := Stand.of_body Bd
  have e0 : s₁.heap = h0 := by rw [← hh, Bd.state]; rfl
  have N0 := Fr.nil n0
  have pre0 : ∀ t, Steps p.tables e below (s₁.setTop (mkF m 0 #[.val (.ref a1)] [])) t → Steps p.tables e below (s₁.setTop (entryFrame m #[(.ref a1)] 1)) t := fun t k => castTop (ef_10 m a1) k
  obtain ⟨T3, X3, e3, st3⟩ := getF X0 hx hZ hown (host := "") (Or.inl (hw _ (List.mem_of_getElem? (i := 46) rfl))) Via.refl e0 F_fields_a1 (g := (mkF m 1 #[.val (.ref a1)] [(.ref a1)])) rfl rfl (hb hby d10_1)
  obtain ⟨fs, hr, hrun, hended, hW, hsame⟩ := X3.leave (v := some (.ref w2)) (fun h => by rw [Bd.returns] at h; cases h)
  refine ⟨_, _, pre0 _ ?_, hrun, hended, _, _, rfl, ?_, ⟨_, rfl⟩, hW, hsame.mono (by decide) (by decide)⟩
  · show Steps p.tables e below (s₁.setTop (mkF m 0 #[.val (.ref a1)] [])) _
    refine XS.aloadN X0.here hx rfl (hb hby d10_0) rfl rfl ?_
    show Steps p.tables e below (s₁.setTop (mkF m 1 #[.val (.ref a1)] [(.ref a1)])) _
    refine st3 _ ?_
    show Steps p.tables e below (T3.setTop (mkF m 4 #[.val (.ref a1)] [(.ref w2)])) _
    jvm_step X3.here [X3.here.top, hx, (hb hby d10_4), X3.method', Bd.returns, Value.isRef, FieldType.isReference]
    first | (intro acts; rw [hr _ acts rfl rfl rfl]) | rw [hr _ _ rfl rfl rfl]
    exact Steps.refl _
  · show Q10 Z a1 w2 h0 n0 _ T3.heap _
    rw [e3]
    exact ⟨rfl, N0, rfl⟩
theorem d13_0 : decode prog_30_method_10_code 0 = .ok (.aload_n 0, 1) := by decide +kernel
theorem d13_1 : decode prog_30_method_10_code 1 = .ok (.getfield 24, 3) := by decide +kernel
theorem d13_4 : decode prog_30_method_10_code 4 = .ok (.areturn, 1) := by decide +kernel
theorem pn_13 : plainName "com/example/anansi/anansi/Response" = true := by first | (simp [plainName, overriddenIn]; done) | decide +kernel
theorem ef_13 (m : MethodId) (x0 : Addr) : entryFrame m #[(.ref x0)] 1 = mkF m 0 #[.val (.ref x0)] [] := by first | (simp [entryFrame, mkF, argsToLocals, Value.category]; done) | rfl
def Q13 (Z : State) (a1 : Addr) (w2 : Addr) (h0 : Heap) (n0 : Nat) (v : Option Value) (h : Heap) (L : List Loc) : Prop := v = some (.ref w2) ∧ Fr n0 L ∧ h = h0
set_option maxRecDepth 65536 in
set_option maxHeartbeats 40000000 in
theorem rm13 (l : Launch) (Z : State) (a0 : Array Value) (hw : ∀ d ∈ tables_1, d.before a0 Z = true) (ws : List Jvm.Cond) (a1 : Addr) (w2 : Addr) (h0 : Heap) (n0 : Nat) (Z0 : n0 ≤ h0.size) (F_body_a1 : Fld Z h0 a1 "com/example/anansi/anansi/Response" "body" "[B" (.ref w2)) :
    MetFree l (⟨"com/example/anansi/anansi/Response", "body", "()[B"⟩ : MethodName) (head1 (Jvm.Cond.code (⟨"com/example/anansi/anansi/Response", "body", "()[B"⟩ : MethodName) prog_30_method_10_code 1 (some (.array .byte)) :: ws) ({ frames := 0, cells := 0, slots := 0, locals := 0 } : Room)) (fun a U => a = #[(.ref a1)] ∧ Z.Warmed39 U.vm ∧ U.heap = h0) (fun _ _ _ _ _ => True) (fun _ U o U' => ∃ v L, o = .returned v ∧ Q13 Z a1 w2 h0 n0 v U'.heap L ∧ FrameEnd U o U' L ({ frames := 0, cells := 0, slots := 0, locals := 0 } : Room).cells ({ frames := 0, cells := 0, slots := 0, locals := 0 } : Room).slots) := by
  refine MetFree.of_bodySF (plainFor_of_name pn_13) hisR ?_
  intro p e s m args below meth c s₁ Bd hml0 hP hK
  obtain ⟨rfl, hZ, hh⟩ := hP
  have hx := Bd.exec
  have hby := Bd.bytes
  have hml : c.maxLocals = 1 := hml0
  have hown : s.vm.findClass "com/example/anansi/anansi/Response" = some m.cls := findClass_of_methodNamed Bd.named
  have hnm := (name_of_methodNamed Bd.named Bd.method).1
  have X0 : Stand p l e ({ frames := 0, cells := 0, slots := 0, locals := 0 } : Room) s m #[(.ref a1)] below meth c s₁ [] 0 0 := Stand.of_body Bd
  have e0 : s₁.heap = h0 := by rw [← hh, Bd.state]; rfl
  have N0 := Fr.nil n0
  have pre0 : ∀ t, Steps p.tables e below (s₁.setTop (mkF m 0 #[.val (.ref a1)] [])) t → Steps p.tables e below (s₁.setTop (entryFrame m #[(.ref a1)] 1)) t := fun t k => castTop (ef_13 m a1) k
  obtain ⟨T3, X3, e3, st3⟩ := getF X0 hx hZ hown (host := "") (Or.inl (hw _ (List.mem_of_getElem? (i := 50) rfl))) Via.refl e0 F_body_a1 (g := (mkF m 1 #[.val (.ref a1)] [(.ref a1)])) rfl rfl (hb hby d13_1)
  obtain ⟨fs, hr, hrun, hended, hW, hsame⟩ := X3.leave (v := some (.ref w2)) (fun h => by rw [Bd.returns] at h; cases h)
  refine ⟨_, _, pre0 _ ?_, hrun, hended, _, _, rfl, ?_, ⟨_, rfl⟩, hW, hsame.mono (by decide) (by decide)⟩
  · show Steps p.tables e below (s₁.setTop (mkF m 0 #[.val (.ref a1)] [])) _
    refine XS.aloadN X0.here hx rfl (hb hby d13_0) rfl rfl ?_
    show Steps p.tables e below (s₁.setTop (mkF m 1 #[.val (.ref a1)] [(.ref a1)])) _
    refine st3 _ ?_
    show Steps p.tables e below (T3.setTop (mkF m 4 #[.val (.ref a1)] [(.ref w2)])) _
    jvm_step X3.here [X3.here.top, hx, (hb hby d13_4), X3.method', Bd.returns, Value.isRef, FieldType.isReference]
    first | (intro acts; rw [hr _ acts rfl rfl rfl]) | rw [hr _ _ rfl rfl rfl]
    exact Steps.refl _
  · show Q13 Z a1 w2 h0 n0 _ T3.heap _
    rw [e3]
    exact ⟨rfl, N0, rfl⟩
theorem oCode (x : Int32) : ¬ oF8_0 x < (200 : Int32) ∧ ¬ (599 : Int32) < oF8_0 x := by
  have h0 := c_and x (2147483647 : Int32) (by decide)
  rw [oF8_0]
  generalize (x &&& (2147483647 : Int32)) = y at h0 ⊢
  have h1 := (c_idiv y (400 : Int32) 400 (by decide) (by decide)).1 h0.1
  have h2 := c_imul (y / 400) (400 : Int32)
  have h3 := c_isub y ((y / 400) * 400)
  have h7 := c_iadd (200 : Int32) (y - (y / 400) * 400)
  have h4 : (400 : Int32).toInt = 400 := by decide
  have h5 : (200 : Int32).toInt = 200 := by decide
  have h8 : (599 : Int32).toInt = 599 := by decide
  have h6 : (2147483647 : Int32).toInt = 2147483647 := by decide
  have r1 := rng32 ((y / 400) * 400)
  have r2 := rng32 (y - (y / 400) * 400)
  have r3 := rng32 ((200 : Int32) + (y - (y / 400) * 400))
  rw [Int32.lt_iff_toInt_lt, Int32.lt_iff_toInt_lt]
  rw [h4, h1] at h2
  omega
theorem pd_0 : parseMethodDescriptor "()I" = some ⟨[], some .int⟩ := by decide +kernel
theorem pd_1 : parseMethodDescriptor "(I)I" = some ⟨[.int], some .int⟩ := by decide +kernel
theorem pd_2 : parseMethodDescriptor "(I)V" = some ⟨[.int], none⟩ := by decide +kernel
theorem pd_3 : parseMethodDescriptor "()Lcom/example/anansi/anansi/Fields;" = some ⟨[], some (.object "com/example/anansi/anansi/Fields")⟩ := by decide +kernel
theorem pd_4 : parseMethodDescriptor "()[B" = some ⟨[], some (.array .byte)⟩ := by decide +kernel
theorem pd_5 : parseMethodDescriptor "()V" = some ⟨[], none⟩ := by decide +kernel
def oEndE (p : Program) (e : Env) (s : State) (below : List Frame) (T : State) (g : JFrame) (n0 : Nat) (cells slots : Nat) (w : Option Value) : Prop := ∃ h, oEnd p e s below T g n0 h cells slots w
theorem oPreE {p : Program} {e : Env} {s : State} {below : List Frame} {T T' : State} {g g' : JFrame} {n0 : Nat} {cells slots : Nat} {w : Option Value}
    (k : ∀ target, Steps p.tables e below (T'.setTop g') target → Steps p.tables e below (T.setTop g) target) (q : oEndE p e s below T' g' n0 cells slots w) : oEndE p e s below T g n0 cells slots w := by
  obtain ⟨h, q⟩ := q
  exact ⟨h, oPre k q⟩
set_option maxRecDepth 65536 in
set_option maxHeartbeats 40000000 in
theorem oTail {p : Program} {l : Launch} {e : Env} {s : State} {m : MethodId} {args : Array Value} {below : List Frame} {meth : Method} {c : Code} {T : State} {locs : List Loc} {Z : State} {a0 : Array Value} {h : Heap} {n0 : Nat} (X : Stand p l e room_1 s m args below meth c T locs 4 11) (hx : p.tables.exec = Jvm.exec) (hby : c.code = code) (hml : c.maxLocals = 7) (hret : meth.sig.returnType = some .boolean) (hlk : meth.locks = false) (hown : s.vm.findClass "com/example/anansi/anansi/ResponseSetStatusPinLaw" = some m.cls) (hZ : Z.Warmed39 s.vm) (hw : ∀ d ∈ tables_1, d.before a0 Z = true) (eT : T.heap = h) (N : Fr n0 locs) (Z0 : n0 ≤ h.size) {a w7 f bb : Addr} {k : Int32} (R : oRs Z h a w7 k f bb) {cl : Cell} (Ar : Arr Z h w7 cl .byte) (Sz : cl.slots.size = (0 : Int32).toNatClampNeg) (p1 p2 p3 p6 : Int32) (sl : Slot) : oEndE p e s below T (mkF m 97 #[.val (.int p1), .val (.int p2), .val (.int p3), .val (.ref a), .val (.int (1 : Int32)), .val (.int p6), sl] []) n0 4 11 (some (.int 1)) := by
  obtain ⟨r1, r2, r3, r4, r5, r6, r7, r8, r9, r10⟩ := R
  show oEndE p e s below T (mkF m 97 #[.val (.int p1), .val (.int p2), .val (.int p3), .val (.ref a), .val (.int (1 : Int32)), .val (.int p6), sl] []) n0 4 11 (some (.int 1))
  refine oPreE (fun _ => XS.iload X.here hx rfl (hb hby at_97) rfl) ?_
  show oEndE p e s below T (mkF m 99 #[.val (.int p1), .val (.int p2), .val (.int p3), .val (.ref a), .val (.int (1 : Int32)), .val (.int p6), sl] [(.int (1 : Int32))]) n0 4 11 (some (.int 1))
  refine oPreE (fun _ => XS.ifNo X.here hx rfl (hb hby at_99) rfl ((if0 _ _).trans ((feq (by decide : ¬ (1 : Int32) = 0)).1))) ?_
  show oEndE p e s below T (mkF m 102 #[.val (.int p1), .val (.int p2), .val (.int p3), .val (.ref a), .val (.int (1 : Int32)), .val (.int p6), sl] []) n0 4 11 (some (.int 1))
  refine oPreE (fun _ => XS.aloadN X.here hx rfl (hb hby at_102) rfl rfl) ?_
  show oEndE p e s below T (mkF m 103 #[.val (.int p1), .val (.int p2), .val (.int p3), .val (.ref a), .val (.int (1 : Int32)), .val (.int p6), sl] [(.ref a)]) n0 4 11 (some (.int 1))
  obtain ⟨cq103, kq103, qa103, qb103, qc103⟩ := isOf hZ eT r1
  obtain ⟨_, _, ⟨T103, L103, k103, n103⟩, -, X103, ⟨Lc103, hQ103, l103, y103, z103⟩, st103⟩ := X.virtualBack hx (y := (⟨"com/example/anansi/anansi/Response", "fields", "()Lcom/example/anansi/anansi/Fields;"⟩ : MethodName)) (z := (⟨"com/example/anansi/anansi/Response", "fields", "()Lcom/example/anansi/anansi/Fields;"⟩ : MethodName)) hown (mvT hZ (hw _ (List.mem_of_getElem? (i := 67) rfl))) (mvT hZ (hw _ (List.mem_of_getElem? (i := 68) rfl))) (notFace_of_selects (args := #[]) (mvT hZ (hw _ (List.mem_of_getElem? (i := 70) rfl)))) (mvT hZ (hw _ (List.mem_of_getElem? (i := 70) rfl))) (mvT hZ (hw _ (List.mem_of_getElem? (i := 69) rfl))) (by decide) (backOf (W := 0) (rm10 l Z a0 hw [] a f h n0 Z0 r3) hZ (hw _ (List.mem_of_getElem? (i := 71) rfl)) (hw _ (List.mem_of_getElem? (i := 2) rfl)) (by decide) (by decide)) qa103 qc103 (g := (mkF m 103 #[.val (.int p1), .val (.int p2), .val (.int p3), .val (.ref a), .val (.int (1 : Int32)), .val (.int p6), sl] [(.ref a)])) rfl (by rw [hml]; rfl) (Steps.refl _) (argsL := []) (rest := []) (lenOf pd_3 rfl) rfl (by show 2 * 0 + _ ≤ _; exact Nat.le_of_eq rfl) (hb hby at_103) (fun _ _ => ⟨rfl, eT, (by decide : 4 + 0 ≤ _), (by decide : 11 + 0 ≤ _)⟩)
  dsimp only [Pt.U, Pt.locs, Pt.cells, Pt.slots] at X103 l103 y103 z103 st103 hQ103
  subst l103
  rw [y103, z103] at X103
  obtain ⟨rfl, N103q, e103⟩ := hQ103
  have N103 := Fr.app N N103q
  refine oPreE (fun _ q => st103.trans q) ?_
  show oEndE p e s below T103 (mkF m 106 #[.val (.int p1), .val (.int p2), .val (.int p3), .val (.ref a), .val (.int (1 : Int32)), .val (.int p6), sl] [(.ref f)]) n0 4 11 (some (.int 1))
  obtain ⟨cq106, kq106, qa106, qb106, qc106⟩ := isOf hZ e103 r4
  obtain ⟨_, _, ⟨T106, L106, k106, n106⟩, -, X106, ⟨Lc106, hQ106, l106, y106, z106⟩, st106⟩ := X103.virtualBack hx (y := (⟨"com/example/anansi/anansi/Fields", "size", "()I"⟩ : MethodName)) (z := (⟨"com/example/anansi/anansi/Fields", "size", "()I"⟩ : MethodName)) hown (mvT hZ (hw _ (List.mem_of_getElem? (i := 72) rfl))) (mvT hZ (hw _ (List.mem_of_getElem? (i := 73) rfl))) (notFace_of_selects (args := #[]) (mvT hZ (hw _ (List.mem_of_getElem? (i := 75) rfl)))) (mvT hZ (hw _ (List.mem_of_getElem? (i := 75) rfl))) (mvT hZ (hw _ (List.mem_of_getElem? (i := 74) rfl))) (by decide) (backOf (W := 0) (rm11 l Z a0 hw [] f bb h n0 Z0 r5 r6 r7) hZ (hw _ (List.mem_of_getElem? (i := 76) rfl)) (hw _ (List.mem_of_getElem? (i := 13) rfl)) (by decide) (by decide)) qa106 qc106 (g := (mkF m 106 #[.val (.int p1), .val (.int p2), .val (.int p3), .val (.ref a), .val (.int (1 : Int32)), .val (.int p6), sl] [(.ref f)])) rfl (by rw [hml]; rfl) (Steps.refl _) (argsL := []) (rest := []) (lenOf pd_0 rfl) rfl (by show 2 * 0 + _ ≤ _; exact Nat.le_of_eq rfl) (hb hby at_106) (fun _ _ => ⟨rfl, e103, (by decide : 4 + 0 ≤ _), (by decide : 11 + 0 ≤ _)⟩)
  dsimp only [Pt.U, Pt.locs, Pt.cells, Pt.slots] at X106 l106 y106 z106 st106 hQ106
  subst l106
  rw [y106, z106] at X106
  obtain ⟨rfl, N106q, e106⟩ := hQ106
  have N106 := Fr.app N103 N106q
  refine oPreE (fun _ q => st106.trans q) ?_
  show oEndE p e s below T106 (mkF m 109 #[.val (.int p1), .val (.int p2), .val (.int p3), .val (.ref a), .val (.int (1 : Int32)), .val (.int p6), sl] [(.int (0 : Int32))]) n0 4 11 (some (.int 1))
  refine oPreE (fun _ => XS.ifNo X106.here hx rfl (hb hby at_109) rfl ((if0 _ _).trans ((teq (rfl : (0 : Int32) = 0)).2))) ?_
  show oEndE p e s below T106 (mkF m 112 #[.val (.int p1), .val (.int p2), .val (.int p3), .val (.ref a), .val (.int (1 : Int32)), .val (.int p6), sl] []) n0 4 11 (some (.int 1))
  refine oPreE (fun _ => XS.aloadN X106.here hx rfl (hb hby at_112) rfl rfl) ?_
  show oEndE p e s below T106 (mkF m 113 #[.val (.int p1), .val (.int p2), .val (.int p3), .val (.ref a), .val (.int (1 : Int32)), .val (.int p6), sl] [(.ref a)]) n0 4 11 (some (.int 1))
  obtain ⟨cq113, kq113, qa113, qb113, qc113⟩ := isOf hZ e106 r1
  obtain ⟨_, _, ⟨T113, L113, k113, n113⟩, -, X113, ⟨Lc113, hQ113, l113, y113, z113⟩, st113⟩ := X106.virtualBack hx (y := (⟨"com/example/anansi/anansi/Response", "body", "()[B"⟩ : MethodName)) (z := (⟨"com/example/anansi/anansi/Response", "body", "()[B"⟩ : MethodName)) hown (mvT hZ (hw _ (List.mem_of_getElem? (i := 88) rfl))) (mvT hZ (hw _ (List.mem_of_getElem? (i := 89) rfl))) (notFace_of_selects (args := #[]) (mvT hZ (hw _ (List.mem_of_getElem? (i := 91) rfl)))) (mvT hZ (hw _ (List.mem_of_getElem? (i := 91) rfl))) (mvT hZ (hw _ (List.mem_of_getElem? (i := 90) rfl))) (by decide) (backOf (W := 0) (rm13 l Z a0 hw [] a w7 h n0 Z0 r8) hZ (hw _ (List.mem_of_getElem? (i := 92) rfl)) (hw _ (List.mem_of_getElem? (i := 2) rfl)) (by decide) (by decide)) qa113 qc113 (g := (mkF m 113 #[.val (.int p1), .val (.int p2), .val (.int p3), .val (.ref a), .val (.int (1 : Int32)), .val (.int p6), sl] [(.ref a)])) rfl (by rw [hml]; rfl) (Steps.refl _) (argsL := []) (rest := []) (lenOf pd_4 rfl) rfl (by show 2 * 0 + _ ≤ _; exact Nat.le_of_eq rfl) (hb hby at_113) (fun _ _ => ⟨rfl, e106, (by decide : 4 + 0 ≤ _), (by decide : 11 + 0 ≤ _)⟩)
  dsimp only [Pt.U, Pt.locs, Pt.cells, Pt.slots] at X113 l113 y113 z113 st113 hQ113
  subst l113
  rw [y113, z113] at X113
  obtain ⟨rfl, N113q, e113⟩ := hQ113
  have N113 := Fr.app N106 N113q
  refine oPreE (fun _ q => st113.trans q) ?_
  show oEndE p e s below T113 (mkF m 116 #[.val (.int p1), .val (.int p2), .val (.int p3), .val (.ref a), .val (.int (1 : Int32)), .val (.int p6), sl] [(.ref w7)]) n0 4 11 (some (.int 1))
  refine oPreE (fun _ => X113.arraylength hx (by rw [e113]; exact Ar.1) (State.isArrayOf_alike hZ.alike Ar.2.1) (g := (mkF m 116 #[.val (.int p1), .val (.int p2), .val (.int p3), .val (.ref a), .val (.int (1 : Int32)), .val (.int p6), sl] [(.ref w7)])) rfl rfl (hb hby at_116) _) ?_
  rw [len_of Sz (by decide : ¬ (0 : Int32) < 0)]
  show oEndE p e s below T113 (mkF m 117 #[.val (.int p1), .val (.int p2), .val (.int p3), .val (.ref a), .val (.int (1 : Int32)), .val (.int p6), sl] [(.int (0 : Int32))]) n0 4 11 (some (.int 1))
  refine oPreE (fun _ => XS.ifNo X113.here hx rfl (hb hby at_117) rfl ((if0 _ _).trans ((teq (rfl : (0 : Int32) = 0)).2))) ?_
  show oEndE p e s below T113 (mkF m 120 #[.val (.int p1), .val (.int p2), .val (.int p3), .val (.ref a), .val (.int (1 : Int32)), .val (.int p6), sl] []) n0 4 11 (some (.int 1))
  refine oPreE (fun _ => XS.iconst X113.here hx rfl (hb hby at_120)) ?_
  show oEndE p e s below T113 (mkF m 121 #[.val (.int p1), .val (.int p2), .val (.int p3), .val (.ref a), .val (.int (1 : Int32)), .val (.int p6), sl] [(.int (1 : Int32))]) n0 4 11 (some (.int 1))
  refine oPreE (fun _ => XS.goto X113.here hx rfl (pc0 := 121) (pc' := 125) rfl (hb hby at_121) (by decide) (by decide)) ?_
  show oEndE p e s below T113 (mkF m 125 #[.val (.int p1), .val (.int p2), .val (.int p3), .val (.ref a), .val (.int (1 : Int32)), .val (.int p6), sl] [(.int (1 : Int32))]) n0 4 11 (some (.int 1))
  refine oPreE (fun _ => XS.istore X113.here hx rfl (hb hby at_125) rfl (l' := #[.val (.int p1), .val (.int p2), .val (.int p3), .val (.ref a), .val (.int (1 : Int32)), .val (.int p6), sl]) rfl) ?_
  show oEndE p e s below T113 (mkF m 127 #[.val (.int p1), .val (.int p2), .val (.int p3), .val (.ref a), .val (.int (1 : Int32)), .val (.int p6), sl] []) n0 4 11 (some (.int 1))
  refine oPreE (fun _ => XS.iload X113.here hx rfl (hb hby at_127) rfl) ?_
  show oEndE p e s below T113 (mkF m 129 #[.val (.int p1), .val (.int p2), .val (.int p3), .val (.ref a), .val (.int (1 : Int32)), .val (.int p6), sl] [(.int (1 : Int32))]) n0 4 11 (some (.int 1))
  obtain ⟨fs, hr, hrun, hended, hW, hsame⟩ := X113.leave (v := some (.int 1)) (fun h => by rw [hret] at h; cases h) hlk
  exact ⟨_, _, _, retN X113 hx (t := .boolean) hret (by simp) (hb hby at_129) hr, hrun, hended, hW, hsame, N113, rfl⟩
set_option maxRecDepth 65536 in
set_option maxHeartbeats 40000000 in
theorem oMid {p : Program} {l : Launch} {e : Env} {s : State} {m : MethodId} {args : Array Value} {below : List Frame} {meth : Method} {c : Code} {T : State} {locs : List Loc} {Z : State} {a0 : Array Value} {h : Heap} {n0 : Nat} (X : Stand p l e room_1 s m args below meth c T locs 4 11) (hx : p.tables.exec = Jvm.exec) (hby : c.code = code) (hml : c.maxLocals = 7) (hret : meth.sig.returnType = some .boolean) (hlk : meth.locks = false) (hown : s.vm.findClass "com/example/anansi/anansi/ResponseSetStatusPinLaw" = some m.cls) (hZ : Z.Warmed39 s.vm) (hw : ∀ d ∈ tables_1, d.before a0 Z = true) (eT : T.heap = h) (N : Fr n0 locs) (Z0 : n0 ≤ h.size) {a w7 f bb : Addr} {k : Int32} (R : oRs Z h a w7 k f bb) (X00 : Old Z n0 h) (ga : n0 ≤ a) {cl : Cell} (Ar : Arr Z Z.heap w7 cl .byte) (Sz : cl.slots.size = (0 : Int32).toNatClampNeg) (p1 p2 p3 p6 : Int32) : oEndE p e s below T (mkF m 58 #[.val (.int p1), .val (.int p2), .val (.int p3), .val (.ref a), .val (.int (1 : Int32)), .val (.int p6), .unset] []) n0 4 11 (some (.int 1)) := by
  show oEndE p e s below T (mkF m 58 #[.val (.int p1), .val (.int p2), .val (.int p3), .val (.ref a), .val (.int (1 : Int32)), .val (.int p6), .unset] []) n0 4 11 (some (.int 1))
  refine oPreE (fun _ => XS.iloadN X.here hx rfl (hb hby at_58) rfl) ?_
  show oEndE p e s below T (mkF m 59 #[.val (.int p1), .val (.int p2), .val (.int p3), .val (.ref a), .val (.int (1 : Int32)), .val (.int p6), .unset] [(.int p3)]) n0 4 11 (some (.int 1))
  refine oPreE (fun _ => XS.iconst X.here hx rfl (hb hby at_59)) ?_
  show oEndE p e s below T (mkF m 60 #[.val (.int p1), .val (.int p2), .val (.int p3), .val (.ref a), .val (.int (1 : Int32)), .val (.int p6), .unset] [(.int (1 : Int32)), (.int p3)]) n0 4 11 (some (.int 1))
  refine oPreE (fun _ => XS.iand X.here hx rfl (hb hby at_60) rfl) ?_
  by_cases q : (p3 &&& (1 : Int32)) = (0 : Int32)
  · skip
    show oEndE p e s below T (mkF m 61 #[.val (.int p1), .val (.int p2), .val (.int p3), .val (.ref a), .val (.int (1 : Int32)), .val (.int p6), .unset] [(.int (p3 &&& (1 : Int32)))]) n0 4 11 (some (.int 1))
    refine oPreE (fun _ => XS.ifYes X.here hx rfl (pc0 := 61) (pc' := 97) rfl (hb hby at_61) rfl ((if0 _ _).trans ((teq q).1)) (by decide) (by decide)) ?_
    exact oTail X hx hby hml hret hlk hown hZ hw eT N Z0 R (Ar.ext X00.2) Sz p1 p2 p3 p6 .unset
  · skip
    show oEndE p e s below T (mkF m 61 #[.val (.int p1), .val (.int p2), .val (.int p3), .val (.ref a), .val (.int (1 : Int32)), .val (.int p6), .unset] [(.int (p3 &&& (1 : Int32)))]) n0 4 11 (some (.int 1))
    refine oPreE (fun _ => XS.ifNo X.here hx rfl (hb hby at_61) rfl ((if0 _ _).trans ((feq q).1))) ?_
    show oEndE p e s below T (mkF m 64 #[.val (.int p1), .val (.int p2), .val (.int p3), .val (.ref a), .val (.int (1 : Int32)), .val (.int p6), .unset] []) n0 4 11 (some (.int 1))
    refine oPreE (fun _ => XS.iloadN X.here hx rfl (hb hby at_64) rfl) ?_
    show oEndE p e s below T (mkF m 65 #[.val (.int p1), .val (.int p2), .val (.int p3), .val (.ref a), .val (.int (1 : Int32)), .val (.int p6), .unset] [(.int p2)]) n0 4 11 (some (.int 1))
    obtain ⟨_, _, ⟨T65, L65, k65, n65⟩, -, X65, ⟨Lc65, hQ65, l65, y65, z65⟩, st65⟩ := Jvm.LawKit.callS X hx (y := (⟨"com/example/anansi/anansi/ResponseSetStatusPinLaw", "code", "(I)I"⟩ : MethodName)) hown (mvT hZ (hw _ (List.mem_of_getElem? (i := 57) rfl))) (mvT hZ (hw _ (List.mem_of_getElem? (i := 58) rfl))) (mvT hZ (hw _ (List.mem_of_getElem? (i := 59) rfl))) (mvT hZ (hw _ (List.mem_of_getElem? (i := 60) rfl))) (by decide) (backOf (W := 0) (oR8 l Z a0 hw [] p2 h n0 Z0) hZ (hw _ (List.mem_of_getElem? (i := 60) rfl)) (hw _ (List.mem_of_getElem? (i := 59) rfl)) (by decide) (by decide)) (g := (mkF m 65 #[.val (.int p1), .val (.int p2), .val (.int p3), .val (.ref a), .val (.int (1 : Int32)), .val (.int p6), .unset] [(.int p2)])) rfl (by rw [hml]; rfl) (argsL := [(.int p2)]) (rest := []) (lenOf pd_1 rfl) rfl (by show 2 * 0 + _ ≤ _; exact Nat.le_of_eq rfl) (hb hby at_65) (fun _ _ => ⟨rfl, eT, (by decide : 4 + 0 ≤ _), (by decide : 11 + 0 ≤ _)⟩)
    dsimp only [Pt.U, Pt.locs, Pt.cells, Pt.slots] at X65 l65 y65 z65 st65 hQ65
    subst l65
    rw [y65, z65] at X65
    obtain ⟨rfl, N65q, e65⟩ := hQ65
    have N65 := Fr.app N N65q
    refine oPreE st65 ?_
    show oEndE p e s below T65 (mkF m 68 #[.val (.int p1), .val (.int p2), .val (.int p3), .val (.ref a), .val (.int (1 : Int32)), .val (.int p6), .unset] [(.int (oF8_0 p2))]) n0 4 11 (some (.int 1))
    refine oPreE (fun _ => XS.istore X65.here hx rfl (hb hby at_68) rfl (l' := #[.val (.int p1), .val (.int p2), .val (.int p3), .val (.ref a), .val (.int (1 : Int32)), .val (.int p6), .val (.int (oF8_0 p2))]) rfl) ?_
    show oEndE p e s below T65 (mkF m 70 #[.val (.int p1), .val (.int p2), .val (.int p3), .val (.ref a), .val (.int (1 : Int32)), .val (.int p6), .val (.int (oF8_0 p2))] []) n0 4 11 (some (.int 1))
    refine oPreE (fun _ => XS.aloadN X65.here hx rfl (hb hby at_70) rfl rfl) ?_
    show oEndE p e s below T65 (mkF m 71 #[.val (.int p1), .val (.int p2), .val (.int p3), .val (.ref a), .val (.int (1 : Int32)), .val (.int p6), .val (.int (oF8_0 p2))] [(.ref a)]) n0 4 11 (some (.int 1))
    refine oPreE (fun _ => XS.iload X65.here hx rfl (hb hby at_71) rfl) ?_
    obtain ⟨r1, r2, r3, r4, r5, r6, r7, r8, r9, r10⟩ := R
    show oEndE p e s below T65 (mkF m 73 #[.val (.int p1), .val (.int p2), .val (.int p3), .val (.ref a), .val (.int (1 : Int32)), .val (.int p6), .val (.int (oF8_0 p2))] [(.int (oF8_0 p2)), (.ref a)]) n0 4 11 (some (.int 1))
    obtain ⟨cq73, kq73, qa73, qb73, qc73⟩ := isOf hZ e65 r1
    obtain ⟨_, _, ⟨T73, L73, k73, n73⟩, -, X73, ⟨Lc73, hQ73, l73, y73, z73⟩, st73⟩ := X65.virtualBack hx (y := (⟨"com/example/anansi/anansi/Response", "setStatus", "(I)V"⟩ : MethodName)) (z := (⟨"com/example/anansi/anansi/Response", "setStatus", "(I)V"⟩ : MethodName)) hown (mvT hZ (hw _ (List.mem_of_getElem? (i := 62) rfl))) (mvT hZ (hw _ (List.mem_of_getElem? (i := 63) rfl))) (notFace_of_selects (args := #[]) (mvT hZ (hw _ (List.mem_of_getElem? (i := 65) rfl)))) (mvT hZ (hw _ (List.mem_of_getElem? (i := 65) rfl))) (mvT hZ (hw _ (List.mem_of_getElem? (i := 64) rfl))) (by decide) (backOf (W := 0) (rm9 l Z a0 hw [] a (oF8_0 p2) _ h n0 Z0 r1 r2 ga (oCode _).1 (oCode _).2) hZ (hw _ (List.mem_of_getElem? (i := 66) rfl)) (hw _ (List.mem_of_getElem? (i := 2) rfl)) (by decide) (by decide)) qa73 qc73 (g := (mkF m 73 #[.val (.int p1), .val (.int p2), .val (.int p3), .val (.ref a), .val (.int (1 : Int32)), .val (.int p6), .val (.int (oF8_0 p2))] [(.int (oF8_0 p2)), (.ref a)])) rfl (by rw [hml]; rfl) (Steps.refl _) (argsL := [(.int (oF8_0 p2))]) (rest := []) (lenOf pd_2 rfl) rfl (by show 2 * 0 + _ ≤ _; exact Nat.le_of_eq rfl) (hb hby at_73) (fun _ _ => ⟨rfl, e65, (by decide : 4 + 0 ≤ _), (by decide : 11 + 0 ≤ _)⟩)
    dsimp only [Pt.U, Pt.locs, Pt.cells, Pt.slots] at X73 l73 y73 z73 st73 hQ73
    subst l73
    rw [y73, z73] at X73
    obtain ⟨rfl, N73q, W73⟩ := hQ73
    have N73 := Fr.app N65 N73q
    refine oPreE (fun _ q => st73.trans q) ?_
    have R73 : oRs Z T73.heap a w7 (oF8_0 p2) f bb := oRs_set hw ⟨r1, r2, r3, r4, r5, r6, r7, r8, r9, r10⟩ W73
    have O73 : Old Z n0 T73.heap := X00.wr W73 ga
    have Z73 : n0 ≤ T73.heap.size := by rw [W73.size]; exact Z0
    show oEndE p e s below T73 (mkF m 76 #[.val (.int p1), .val (.int p2), .val (.int p3), .val (.ref a), .val (.int (1 : Int32)), .val (.int p6), .val (.int (oF8_0 p2))] []) n0 4 11 (some (.int 1))
    refine oPreE (fun _ => XS.iload X73.here hx rfl (hb hby at_76) rfl) ?_
    show oEndE p e s below T73 (mkF m 78 #[.val (.int p1), .val (.int p2), .val (.int p3), .val (.ref a), .val (.int (1 : Int32)), .val (.int p6), .val (.int (oF8_0 p2))] [(.int (1 : Int32))]) n0 4 11 (some (.int 1))
    refine oPreE (fun _ => XS.ifNo X73.here hx rfl (hb hby at_78) rfl ((if0 _ _).trans ((feq (by decide : ¬ (1 : Int32) = 0)).1))) ?_
    show oEndE p e s below T73 (mkF m 81 #[.val (.int p1), .val (.int p2), .val (.int p3), .val (.ref a), .val (.int (1 : Int32)), .val (.int p6), .val (.int (oF8_0 p2))] []) n0 4 11 (some (.int 1))
    refine oPreE (fun _ => XS.aloadN X73.here hx rfl (hb hby at_81) rfl rfl) ?_
    show oEndE p e s below T73 (mkF m 82 #[.val (.int p1), .val (.int p2), .val (.int p3), .val (.ref a), .val (.int (1 : Int32)), .val (.int p6), .val (.int (oF8_0 p2))] [(.ref a)]) n0 4 11 (some (.int 1))
    obtain ⟨cq82, kq82, qa82, qb82, qc82⟩ := isOf hZ rfl R73.1
    obtain ⟨_, _, ⟨T82, L82, k82, n82⟩, -, X82, ⟨Lc82, hQ82, l82, y82, z82⟩, st82⟩ := X73.virtualBack hx (y := (⟨"com/example/anansi/anansi/Response", "status", "()I"⟩ : MethodName)) (z := (⟨"com/example/anansi/anansi/Response", "status", "()I"⟩ : MethodName)) hown (mvT hZ (hw _ (List.mem_of_getElem? (i := 52) rfl))) (mvT hZ (hw _ (List.mem_of_getElem? (i := 53) rfl))) (notFace_of_selects (args := #[]) (mvT hZ (hw _ (List.mem_of_getElem? (i := 55) rfl)))) (mvT hZ (hw _ (List.mem_of_getElem? (i := 55) rfl))) (mvT hZ (hw _ (List.mem_of_getElem? (i := 54) rfl))) (by decide) (backOf (W := 0) (rm7 l Z a0 hw [] a (oF8_0 p2) T73.heap n0 Z73 R73.2.1) hZ (hw _ (List.mem_of_getElem? (i := 56) rfl)) (hw _ (List.mem_of_getElem? (i := 2) rfl)) (by decide) (by decide)) qa82 qc82 (g := (mkF m 82 #[.val (.int p1), .val (.int p2), .val (.int p3), .val (.ref a), .val (.int (1 : Int32)), .val (.int p6), .val (.int (oF8_0 p2))] [(.ref a)])) rfl (by rw [hml]; rfl) (Steps.refl _) (argsL := []) (rest := []) (lenOf pd_0 rfl) rfl (by show 2 * 0 + _ ≤ _; exact Nat.le_of_eq rfl) (hb hby at_82) (fun _ _ => ⟨rfl, rfl, (by decide : 4 + 0 ≤ _), (by decide : 11 + 0 ≤ _)⟩)
    dsimp only [Pt.U, Pt.locs, Pt.cells, Pt.slots] at X82 l82 y82 z82 st82 hQ82
    subst l82
    rw [y82, z82] at X82
    obtain ⟨rfl, N82q, e82⟩ := hQ82
    have N82 := Fr.app N73 N82q
    refine oPreE (fun _ q => st82.trans q) ?_
    show oEndE p e s below T82 (mkF m 85 #[.val (.int p1), .val (.int p2), .val (.int p3), .val (.ref a), .val (.int (1 : Int32)), .val (.int p6), .val (.int (oF8_0 p2))] [(.int (oF8_0 p2))]) n0 4 11 (some (.int 1))
    refine oPreE (fun _ => XS.iload X82.here hx rfl (hb hby at_85) rfl) ?_
    show oEndE p e s below T82 (mkF m 87 #[.val (.int p1), .val (.int p2), .val (.int p3), .val (.ref a), .val (.int (1 : Int32)), .val (.int p6), .val (.int (oF8_0 p2))] [(.int (oF8_0 p2)), (.int (oF8_0 p2))]) n0 4 11 (some (.int 1))
    refine oPreE (fun _ => XS.icmpNo X82.here hx rfl (hb hby at_87) rfl (((teq (rfl : (oF8_0 p2) = (oF8_0 p2))).2))) ?_
    show oEndE p e s below T82 (mkF m 90 #[.val (.int p1), .val (.int p2), .val (.int p3), .val (.ref a), .val (.int (1 : Int32)), .val (.int p6), .val (.int (oF8_0 p2))] []) n0 4 11 (some (.int 1))
    refine oPreE (fun _ => XS.iconst X82.here hx rfl (hb hby at_90)) ?_
    show oEndE p e s below T82 (mkF m 91 #[.val (.int p1), .val (.int p2), .val (.int p3), .val (.ref a), .val (.int (1 : Int32)), .val (.int p6), .val (.int (oF8_0 p2))] [(.int (1 : Int32))]) n0 4 11 (some (.int 1))
    refine oPreE (fun _ => XS.goto X82.here hx rfl (pc0 := 91) (pc' := 95) rfl (hb hby at_91) (by decide) (by decide)) ?_
    show oEndE p e s below T82 (mkF m 95 #[.val (.int p1), .val (.int p2), .val (.int p3), .val (.ref a), .val (.int (1 : Int32)), .val (.int p6), .val (.int (oF8_0 p2))] [(.int (1 : Int32))]) n0 4 11 (some (.int 1))
    refine oPreE (fun _ => XS.istore X82.here hx rfl (hb hby at_95) rfl (l' := #[.val (.int p1), .val (.int p2), .val (.int p3), .val (.ref a), .val (.int (1 : Int32)), .val (.int p6), .val (.int (oF8_0 p2))]) rfl) ?_
    exact oTail X82 hx hby hml hret hlk hown hZ hw e82 N82 Z73 R73 (Ar.ext O73.2) Sz p1 p2 p3 p6 (.val (.int (oF8_0 p2)))
set_option maxRecDepth 65536 in
set_option maxHeartbeats 40000000 in
theorem oFirst {p : Program} {l : Launch} {e : Env} {s : State} {m : MethodId} {args : Array Value} {below : List Frame} {meth : Method} {c : Code} {T : State} {locs : List Loc} {Z : State} {a0 : Array Value} {h : Heap} {n0 : Nat} (X : Stand p l e room_1 s m args below meth c T locs 4 11) (hx : p.tables.exec = Jvm.exec) (hby : c.code = code) (hml : c.maxLocals = 7) (hret : meth.sig.returnType = some .boolean) (hlk : meth.locks = false) (hown : s.vm.findClass "com/example/anansi/anansi/ResponseSetStatusPinLaw" = some m.cls) (hZ : Z.Warmed39 s.vm) (hw : ∀ d ∈ tables_1, d.before a0 Z = true) (eT : T.heap = h) (N : Fr n0 locs) (Z0 : n0 ≤ h.size) {a w7 f bb : Addr} (R : oRs Z h a w7 200 f bb) (X00 : Old Z n0 h) (ga : n0 ≤ a) {cl : Cell} (Ar : Arr Z Z.heap w7 cl .byte) (Sz : cl.slots.size = (0 : Int32).toNatClampNeg) (p1 p2 p3 : Int32) : oEndE p e s below T (mkF m 8 #[.val (.int p1), .val (.int p2), .val (.int p3), .val (.ref a), .unset, .unset, .unset] []) n0 4 11 (some (.int 1)) := by
  show oEndE p e s below T (mkF m 8 #[.val (.int p1), .val (.int p2), .val (.int p3), .val (.ref a), .unset, .unset, .unset] []) n0 4 11 (some (.int 1))
  refine oPreE (fun _ => XS.aloadN X.here hx rfl (hb hby at_8) rfl rfl) ?_
  show oEndE p e s below T (mkF m 9 #[.val (.int p1), .val (.int p2), .val (.int p3), .val (.ref a), .unset, .unset, .unset] [(.ref a)]) n0 4 11 (some (.int 1))
  obtain ⟨cq9, kq9, qa9, qb9, qc9⟩ := isOf hZ eT R.1
  obtain ⟨_, _, ⟨T9, L9, k9, n9⟩, -, X9, ⟨Lc9, hQ9, l9, y9, z9⟩, st9⟩ := X.virtualBack hx (y := (⟨"com/example/anansi/anansi/Response", "status", "()I"⟩ : MethodName)) (z := (⟨"com/example/anansi/anansi/Response", "status", "()I"⟩ : MethodName)) hown (mvT hZ (hw _ (List.mem_of_getElem? (i := 52) rfl))) (mvT hZ (hw _ (List.mem_of_getElem? (i := 53) rfl))) (notFace_of_selects (args := #[]) (mvT hZ (hw _ (List.mem_of_getElem? (i := 55) rfl)))) (mvT hZ (hw _ (List.mem_of_getElem? (i := 55) rfl))) (mvT hZ (hw _ (List.mem_of_getElem? (i := 54) rfl))) (by decide) (backOf (W := 0) (rm7 l Z a0 hw [] a 200 h n0 Z0 R.2.1) hZ (hw _ (List.mem_of_getElem? (i := 56) rfl)) (hw _ (List.mem_of_getElem? (i := 2) rfl)) (by decide) (by decide)) qa9 qc9 (g := (mkF m 9 #[.val (.int p1), .val (.int p2), .val (.int p3), .val (.ref a), .unset, .unset, .unset] [(.ref a)])) rfl (by rw [hml]; rfl) (Steps.refl _) (argsL := []) (rest := []) (lenOf pd_0 rfl) rfl (by show 2 * 0 + _ ≤ _; exact Nat.le_of_eq rfl) (hb hby at_9) (fun _ _ => ⟨rfl, eT, (by decide : 4 + 0 ≤ _), (by decide : 11 + 0 ≤ _)⟩)
  dsimp only [Pt.U, Pt.locs, Pt.cells, Pt.slots] at X9 l9 y9 z9 st9 hQ9
  subst l9
  rw [y9, z9] at X9
  obtain ⟨rfl, N9q, e9⟩ := hQ9
  have N9 := Fr.app N N9q
  refine oPreE (fun _ q => st9.trans q) ?_
  show oEndE p e s below T9 (mkF m 12 #[.val (.int p1), .val (.int p2), .val (.int p3), .val (.ref a), .unset, .unset, .unset] [(.int (200 : Int32))]) n0 4 11 (some (.int 1))
  refine oPreE (fun _ => XS.sipush X9.here hx rfl (hb hby at_12)) ?_
  show oEndE p e s below T9 (mkF m 15 #[.val (.int p1), .val (.int p2), .val (.int p3), .val (.ref a), .unset, .unset, .unset] [(.int (200 : Int32)), (.int (200 : Int32))]) n0 4 11 (some (.int 1))
  refine oPreE (fun _ => XS.icmpNo X9.here hx rfl (hb hby at_15) rfl (((teq (rfl : (200 : Int32) = 200)).2))) ?_
  show oEndE p e s below T9 (mkF m 18 #[.val (.int p1), .val (.int p2), .val (.int p3), .val (.ref a), .unset, .unset, .unset] []) n0 4 11 (some (.int 1))
  refine oPreE (fun _ => XS.iconst X9.here hx rfl (hb hby at_18)) ?_
  show oEndE p e s below T9 (mkF m 19 #[.val (.int p1), .val (.int p2), .val (.int p3), .val (.ref a), .unset, .unset, .unset] [(.int (1 : Int32))]) n0 4 11 (some (.int 1))
  refine oPreE (fun _ => XS.goto X9.here hx rfl (pc0 := 19) (pc' := 23) rfl (hb hby at_19) (by decide) (by decide)) ?_
  show oEndE p e s below T9 (mkF m 23 #[.val (.int p1), .val (.int p2), .val (.int p3), .val (.ref a), .unset, .unset, .unset] [(.int (1 : Int32))]) n0 4 11 (some (.int 1))
  refine oPreE (fun _ => XS.istore X9.here hx rfl (hb hby at_23) rfl (l' := #[.val (.int p1), .val (.int p2), .val (.int p3), .val (.ref a), .val (.int (1 : Int32)), .unset, .unset]) rfl) ?_
  show oEndE p e s below T9 (mkF m 25 #[.val (.int p1), .val (.int p2), .val (.int p3), .val (.ref a), .val (.int (1 : Int32)), .unset, .unset] []) n0 4 11 (some (.int 1))
  refine oPreE (fun _ => XS.iloadN X9.here hx rfl (hb hby at_25) rfl) ?_
  show oEndE p e s below T9 (mkF m 26 #[.val (.int p1), .val (.int p2), .val (.int p3), .val (.ref a), .val (.int (1 : Int32)), .unset, .unset] [(.int p1)]) n0 4 11 (some (.int 1))
  obtain ⟨_, _, ⟨T26, L26, k26, n26⟩, -, X26, ⟨Lc26, hQ26, l26, y26, z26⟩, st26⟩ := Jvm.LawKit.callS X9 hx (y := (⟨"com/example/anansi/anansi/ResponseSetStatusPinLaw", "code", "(I)I"⟩ : MethodName)) hown (mvT hZ (hw _ (List.mem_of_getElem? (i := 57) rfl))) (mvT hZ (hw _ (List.mem_of_getElem? (i := 58) rfl))) (mvT hZ (hw _ (List.mem_of_getElem? (i := 59) rfl))) (mvT hZ (hw _ (List.mem_of_getElem? (i := 60) rfl))) (by decide) (backOf (W := 0) (oR8 l Z a0 hw [] p1 h n0 Z0) hZ (hw _ (List.mem_of_getElem? (i := 60) rfl)) (hw _ (List.mem_of_getElem? (i := 59) rfl)) (by decide) (by decide)) (g := (mkF m 26 #[.val (.int p1), .val (.int p2), .val (.int p3), .val (.ref a), .val (.int (1 : Int32)), .unset, .unset] [(.int p1)])) rfl (by rw [hml]; rfl) (argsL := [(.int p1)]) (rest := []) (lenOf pd_1 rfl) rfl (by show 2 * 0 + _ ≤ _; exact Nat.le_of_eq rfl) (hb hby at_26) (fun _ _ => ⟨rfl, e9, (by decide : 4 + 0 ≤ _), (by decide : 11 + 0 ≤ _)⟩)
  dsimp only [Pt.U, Pt.locs, Pt.cells, Pt.slots] at X26 l26 y26 z26 st26 hQ26
  subst l26
  rw [y26, z26] at X26
  obtain ⟨rfl, N26q, e26⟩ := hQ26
  have N26 := Fr.app N9 N26q
  refine oPreE st26 ?_
  show oEndE p e s below T26 (mkF m 29 #[.val (.int p1), .val (.int p2), .val (.int p3), .val (.ref a), .val (.int (1 : Int32)), .unset, .unset] [(.int (oF8_0 p1))]) n0 4 11 (some (.int 1))
  refine oPreE (fun _ => XS.istore X26.here hx rfl (hb hby at_29) rfl (l' := #[.val (.int p1), .val (.int p2), .val (.int p3), .val (.ref a), .val (.int (1 : Int32)), .val (.int (oF8_0 p1)), .unset]) rfl) ?_
  show oEndE p e s below T26 (mkF m 31 #[.val (.int p1), .val (.int p2), .val (.int p3), .val (.ref a), .val (.int (1 : Int32)), .val (.int (oF8_0 p1)), .unset] []) n0 4 11 (some (.int 1))
  refine oPreE (fun _ => XS.aloadN X26.here hx rfl (hb hby at_31) rfl rfl) ?_
  show oEndE p e s below T26 (mkF m 32 #[.val (.int p1), .val (.int p2), .val (.int p3), .val (.ref a), .val (.int (1 : Int32)), .val (.int (oF8_0 p1)), .unset] [(.ref a)]) n0 4 11 (some (.int 1))
  refine oPreE (fun _ => XS.iload X26.here hx rfl (hb hby at_32) rfl) ?_
  obtain ⟨r1, r2, r3, r4, r5, r6, r7, r8, r9, r10⟩ := R
  show oEndE p e s below T26 (mkF m 34 #[.val (.int p1), .val (.int p2), .val (.int p3), .val (.ref a), .val (.int (1 : Int32)), .val (.int (oF8_0 p1)), .unset] [(.int (oF8_0 p1)), (.ref a)]) n0 4 11 (some (.int 1))
  obtain ⟨cq34, kq34, qa34, qb34, qc34⟩ := isOf hZ e26 r1
  obtain ⟨_, _, ⟨T34, L34, k34, n34⟩, -, X34, ⟨Lc34, hQ34, l34, y34, z34⟩, st34⟩ := X26.virtualBack hx (y := (⟨"com/example/anansi/anansi/Response", "setStatus", "(I)V"⟩ : MethodName)) (z := (⟨"com/example/anansi/anansi/Response", "setStatus", "(I)V"⟩ : MethodName)) hown (mvT hZ (hw _ (List.mem_of_getElem? (i := 62) rfl))) (mvT hZ (hw _ (List.mem_of_getElem? (i := 63) rfl))) (notFace_of_selects (args := #[]) (mvT hZ (hw _ (List.mem_of_getElem? (i := 65) rfl)))) (mvT hZ (hw _ (List.mem_of_getElem? (i := 65) rfl))) (mvT hZ (hw _ (List.mem_of_getElem? (i := 64) rfl))) (by decide) (backOf (W := 0) (rm9 l Z a0 hw [] a (oF8_0 p1) _ h n0 Z0 r1 r2 ga (oCode _).1 (oCode _).2) hZ (hw _ (List.mem_of_getElem? (i := 66) rfl)) (hw _ (List.mem_of_getElem? (i := 2) rfl)) (by decide) (by decide)) qa34 qc34 (g := (mkF m 34 #[.val (.int p1), .val (.int p2), .val (.int p3), .val (.ref a), .val (.int (1 : Int32)), .val (.int (oF8_0 p1)), .unset] [(.int (oF8_0 p1)), (.ref a)])) rfl (by rw [hml]; rfl) (Steps.refl _) (argsL := [(.int (oF8_0 p1))]) (rest := []) (lenOf pd_2 rfl) rfl (by show 2 * 0 + _ ≤ _; exact Nat.le_of_eq rfl) (hb hby at_34) (fun _ _ => ⟨rfl, e26, (by decide : 4 + 0 ≤ _), (by decide : 11 + 0 ≤ _)⟩)
  dsimp only [Pt.U, Pt.locs, Pt.cells, Pt.slots] at X34 l34 y34 z34 st34 hQ34
  subst l34
  rw [y34, z34] at X34
  obtain ⟨rfl, N34q, W34⟩ := hQ34
  have N34 := Fr.app N26 N34q
  refine oPreE (fun _ q => st34.trans q) ?_
  have R34 : oRs Z T34.heap a w7 (oF8_0 p1) f bb := oRs_set hw ⟨r1, r2, r3, r4, r5, r6, r7, r8, r9, r10⟩ W34
  have O34 : Old Z n0 T34.heap := X00.wr W34 ga
  have Z34 : n0 ≤ T34.heap.size := by rw [W34.size]; exact Z0
  show oEndE p e s below T34 (mkF m 37 #[.val (.int p1), .val (.int p2), .val (.int p3), .val (.ref a), .val (.int (1 : Int32)), .val (.int (oF8_0 p1)), .unset] []) n0 4 11 (some (.int 1))
  refine oPreE (fun _ => XS.iload X34.here hx rfl (hb hby at_37) rfl) ?_
  show oEndE p e s below T34 (mkF m 39 #[.val (.int p1), .val (.int p2), .val (.int p3), .val (.ref a), .val (.int (1 : Int32)), .val (.int (oF8_0 p1)), .unset] [(.int (1 : Int32))]) n0 4 11 (some (.int 1))
  refine oPreE (fun _ => XS.ifNo X34.here hx rfl (hb hby at_39) rfl ((if0 _ _).trans ((feq (by decide : ¬ (1 : Int32) = 0)).1))) ?_
  show oEndE p e s below T34 (mkF m 42 #[.val (.int p1), .val (.int p2), .val (.int p3), .val (.ref a), .val (.int (1 : Int32)), .val (.int (oF8_0 p1)), .unset] []) n0 4 11 (some (.int 1))
  refine oPreE (fun _ => XS.aloadN X34.here hx rfl (hb hby at_42) rfl rfl) ?_
  show oEndE p e s below T34 (mkF m 43 #[.val (.int p1), .val (.int p2), .val (.int p3), .val (.ref a), .val (.int (1 : Int32)), .val (.int (oF8_0 p1)), .unset] [(.ref a)]) n0 4 11 (some (.int 1))
  obtain ⟨cq43, kq43, qa43, qb43, qc43⟩ := isOf hZ rfl R34.1
  obtain ⟨_, _, ⟨T43, L43, k43, n43⟩, -, X43, ⟨Lc43, hQ43, l43, y43, z43⟩, st43⟩ := X34.virtualBack hx (y := (⟨"com/example/anansi/anansi/Response", "status", "()I"⟩ : MethodName)) (z := (⟨"com/example/anansi/anansi/Response", "status", "()I"⟩ : MethodName)) hown (mvT hZ (hw _ (List.mem_of_getElem? (i := 52) rfl))) (mvT hZ (hw _ (List.mem_of_getElem? (i := 53) rfl))) (notFace_of_selects (args := #[]) (mvT hZ (hw _ (List.mem_of_getElem? (i := 55) rfl)))) (mvT hZ (hw _ (List.mem_of_getElem? (i := 55) rfl))) (mvT hZ (hw _ (List.mem_of_getElem? (i := 54) rfl))) (by decide) (backOf (W := 0) (rm7 l Z a0 hw [] a (oF8_0 p1) T34.heap n0 Z34 R34.2.1) hZ (hw _ (List.mem_of_getElem? (i := 56) rfl)) (hw _ (List.mem_of_getElem? (i := 2) rfl)) (by decide) (by decide)) qa43 qc43 (g := (mkF m 43 #[.val (.int p1), .val (.int p2), .val (.int p3), .val (.ref a), .val (.int (1 : Int32)), .val (.int (oF8_0 p1)), .unset] [(.ref a)])) rfl (by rw [hml]; rfl) (Steps.refl _) (argsL := []) (rest := []) (lenOf pd_0 rfl) rfl (by show 2 * 0 + _ ≤ _; exact Nat.le_of_eq rfl) (hb hby at_43) (fun _ _ => ⟨rfl, rfl, (by decide : 4 + 0 ≤ _), (by decide : 11 + 0 ≤ _)⟩)
  dsimp only [Pt.U, Pt.locs, Pt.cells, Pt.slots] at X43 l43 y43 z43 st43 hQ43
  subst l43
  rw [y43, z43] at X43
  obtain ⟨rfl, N43q, e43⟩ := hQ43
  have N43 := Fr.app N34 N43q
  refine oPreE (fun _ q => st43.trans q) ?_
  show oEndE p e s below T43 (mkF m 46 #[.val (.int p1), .val (.int p2), .val (.int p3), .val (.ref a), .val (.int (1 : Int32)), .val (.int (oF8_0 p1)), .unset] [(.int (oF8_0 p1))]) n0 4 11 (some (.int 1))
  refine oPreE (fun _ => XS.iload X43.here hx rfl (hb hby at_46) rfl) ?_
  show oEndE p e s below T43 (mkF m 48 #[.val (.int p1), .val (.int p2), .val (.int p3), .val (.ref a), .val (.int (1 : Int32)), .val (.int (oF8_0 p1)), .unset] [(.int (oF8_0 p1)), (.int (oF8_0 p1))]) n0 4 11 (some (.int 1))
  refine oPreE (fun _ => XS.icmpNo X43.here hx rfl (hb hby at_48) rfl (((teq (rfl : (oF8_0 p1) = (oF8_0 p1))).2))) ?_
  show oEndE p e s below T43 (mkF m 51 #[.val (.int p1), .val (.int p2), .val (.int p3), .val (.ref a), .val (.int (1 : Int32)), .val (.int (oF8_0 p1)), .unset] []) n0 4 11 (some (.int 1))
  refine oPreE (fun _ => XS.iconst X43.here hx rfl (hb hby at_51)) ?_
  show oEndE p e s below T43 (mkF m 52 #[.val (.int p1), .val (.int p2), .val (.int p3), .val (.ref a), .val (.int (1 : Int32)), .val (.int (oF8_0 p1)), .unset] [(.int (1 : Int32))]) n0 4 11 (some (.int 1))
  refine oPreE (fun _ => XS.goto X43.here hx rfl (pc0 := 52) (pc' := 56) rfl (hb hby at_52) (by decide) (by decide)) ?_
  show oEndE p e s below T43 (mkF m 56 #[.val (.int p1), .val (.int p2), .val (.int p3), .val (.ref a), .val (.int (1 : Int32)), .val (.int (oF8_0 p1)), .unset] [(.int (1 : Int32))]) n0 4 11 (some (.int 1))
  refine oPreE (fun _ => XS.istore X43.here hx rfl (hb hby at_56) rfl (l' := #[.val (.int p1), .val (.int p2), .val (.int p3), .val (.ref a), .val (.int (1 : Int32)), .val (.int (oF8_0 p1)), .unset]) rfl) ?_
  exact oMid X43 hx hby hml hret hlk hown hZ hw e43 N43 Z34 R34 O34 ga Ar Sz p1 p2 p3 (oF8_0 p1)
theorem pn_0 : plainName "com/example/anansi/anansi/ResponseSetStatusPinLaw" = true := by first | (simp [plainName, overriddenIn]; done) | decide +kernel
theorem ef_0 (m : MethodId) (p1 p2 p3 : Int32) : entryFrame m #[(.int p1), (.int p2), (.int p3)] maxLocals = mkF m 0 #[.val (.int p1), .val (.int p2), .val (.int p3), .unset, .unset, .unset, .unset] [] := by first | (simp [entryFrame, mkF, argsToLocals, Value.category, maxLocals]; done) | rfl
set_option maxRecDepth 65536 in
set_option maxHeartbeats 40000000 in
theorem oR0 (l : Launch) (Z : State) (a0 : Array Value) (hw : ∀ d ∈ tables_1, d.before a0 Z = true) (ws : List Jvm.Cond) (p1 p2 p3 : Int32) {w3 w7 : Addr} (S_D : Sta Z Z.heap "java/util/ArrayList" "DEFAULTCAPACITY_EMPTY_ELEMENTDATA" "[Ljava/lang/Object;" (.ref w3)) (S_N : Sta Z Z.heap "com/example/anansi/anansi/Response" "NO_BODY" "[B" (.ref w7)) {cl : Cell} (Ar : Arr Z Z.heap w7 cl .byte) (Sz : cl.slots.size = (0 : Int32).toNatClampNeg) :
    MetFree l x (head1 (Jvm.Cond.code x code maxLocals ret :: ws) room_1) (fun a U => a = #[(.int p1), (.int p2), (.int p3)] ∧ Z.Warmed39 U.vm ∧ U.heap = Z.heap) (fun _ _ _ _ _ => True) (fun _ U o U' => ∃ v L, o = .returned v ∧ (v = some (.int 1) ∧ Fr Z.heap.size L) ∧ FrameEnd U o U' L room_1.cells room_1.slots) := by
  refine MetFree.of_bodySF (plainFor_of_name pn_0) hisR ?_
  intro p e s m args below meth c s₁ Bd hml0 hP hK
  obtain ⟨rfl, hZ, hh⟩ := hP
  have hx := Bd.exec
  have hby := Bd.bytes
  have hml : c.maxLocals = 7 := hml0
  have hown : s.vm.findClass "com/example/anansi/anansi/ResponseSetStatusPinLaw" = some m.cls := findClass_of_methodNamed Bd.named
  have X0 : Stand p l e room_1 s m #[(.int p1), (.int p2), (.int p3)] below meth c s₁ [] 0 0 := Stand.of_body Bd
  have e0 : s₁.heap = Z.heap := by rw [← hh, Bd.state]; rfl
  obtain ⟨T2, h2, X2, e2, E2, A2, D2, -, st2⟩ := newO X0 hx hZ hown (hw _ (List.mem_of_getElem? (i := 0) rfl)) (hw _ (List.mem_of_getElem? (i := 1) rfl)) (hw _ (List.mem_of_getElem? (i := 2) rfl)) e0 (g := (mkF m 0 #[.val (.int p1), .val (.int p2), .val (.int p3), .unset, .unset, .unset, .unset] [])) rfl (hb hby at_0) (by decide) (by decide)
  obtain ⟨a, g2⟩ : ∃ z, z = Z.heap.size := ⟨_, rfl⟩
  rw [← g2] at A2 D2 st2
  have ga : Z.heap.size ≤ a := Nat.le_of_eq g2.symm
  have F_status : Fld Z h2 a "com/example/anansi/anansi/Response" "status" "I" (.int (0 : Int32)) := D2 (Or.inl (hw _ (List.mem_of_getElem? (i := 10) rfl))) (ty := .int) (by decide)
  have F_fields : Fld Z h2 a "com/example/anansi/anansi/Response" "fields" "Lcom/example/anansi/anansi/Fields;" .null := D2 (Or.inr (hw _ (List.mem_of_getElem? (i := 47) rfl))) (ty := (.object "com/example/anansi/anansi/Fields")) (by decide)
  have F_body : Fld Z h2 a "com/example/anansi/anansi/Response" "body" "[B" .null := D2 (Or.inl (hw _ (List.mem_of_getElem? (i := 51) rfl))) (ty := (.array .byte)) (by decide)
  have Z2 : Z.heap.size ≤ h2.size := E2.1
  obtain ⟨_, _, ⟨T4, L4, k4, n4⟩, -, X4, ⟨Lc4, hQ4, l4, y4, z4⟩, st4⟩ := X2.specialBack hx (y := (⟨"com/example/anansi/anansi/Response", "<init>", "()V"⟩ : MethodName)) rfl hown (mvT hZ (hw _ (List.mem_of_getElem? (i := 3) rfl))) (mvT hZ (hw _ (List.mem_of_getElem? (i := 4) rfl))) (mvT hZ (hw _ (List.mem_of_getElem? (i := 5) rfl))) (by decide) (backOf (W := 1) (rm1 l Z a0 hw [] a (.int 0) .null w7 .null h2 Z.heap.size Z2 A2 F_status ga F_fields (S_N.ext E2) F_body (S_D.ext E2) A2.lt) hZ (hw _ (List.mem_of_getElem? (i := 5) rfl)) (hw _ (List.mem_of_getElem? (i := 2) rfl)) (by decide) (by decide)) (g := (mkF m 4 #[.val (.int p1), .val (.int p2), .val (.int p3), .unset, .unset, .unset, .unset] [(.ref a), (.ref a)])) rfl (by rw [hml]; rfl) (Steps.refl _) (a := a) (argsL := []) (rest := [(.ref a)]) (lenOf pd_5 rfl) rfl (by show 2 * 0 + _ ≤ _; exact Nat.le_of_eq rfl) (hb hby at_4) (fun _ _ => ⟨rfl, e2, (by decide : 1 + 3 ≤ _), (by decide : 3 + 8 ≤ _)⟩)
  dsimp only [Pt.U, Pt.locs, Pt.cells, Pt.slots] at X4 l4 y4 z4 st4 hQ4
  subst l4 y4 z4
  obtain ⟨rfl, N4q, K4, f, bb, R4⟩ := hQ4
  have N4 := Fr.app (Fr.nil Z.heap.size) N4q
  have O4 : Old Z Z.heap.size T4.heap := ((Old.start Z).ext E2).keep K4 (fun x hx => by cases List.mem_singleton.mp hx; exact ga)
  have main : oEndE p e s below s₁ (mkF m 0 #[.val (.int p1), .val (.int p2), .val (.int p3), .unset, .unset, .unset, .unset] []) Z.heap.size 4 11 (some (.int 1)) := by
    refine oPreE st2 ?_
    show oEndE p e s below T2 (mkF m 3 #[.val (.int p1), .val (.int p2), .val (.int p3), .unset, .unset, .unset, .unset] [(.ref a)]) Z.heap.size 4 11 (some (.int 1))
    refine oPreE (fun _ => XS.dup X2.here hx rfl (hb hby at_3) rfl rfl) ?_
    show oEndE p e s below T2 (mkF m 4 #[.val (.int p1), .val (.int p2), .val (.int p3), .unset, .unset, .unset, .unset] [(.ref a), (.ref a)]) Z.heap.size 4 11 (some (.int 1))
    refine oPreE (fun _ q => st4.trans q) ?_
    show oEndE p e s below T4 (mkF m 7 #[.val (.int p1), .val (.int p2), .val (.int p3), .unset, .unset, .unset, .unset] [(.ref a)]) Z.heap.size 4 11 (some (.int 1))
    refine oPreE (fun _ => XS.astoreN X4.here hx rfl (hb hby at_7) rfl rfl (l' := #[.val (.int p1), .val (.int p2), .val (.int p3), .val (.ref a), .unset, .unset, .unset]) rfl) ?_
    exact oFirst X4 hx hby hml Bd.returns Bd.notSynchronized hown hZ hw rfl N4 (Nat.le_trans Z2 K4.1) R4 O4 ga Ar Sz p1 p2 p3
  obtain ⟨hh', t, L, hs, hrun, hended, hW, hsame, hN, ht⟩ := main
  exact ⟨t, _, castTop (ef_0 m p1 p2 p3) hs, hrun, hended, _, L, rfl, ⟨rfl, hN⟩, ⟨_, rfl⟩, hW, hsame.mono (by decide) (by decide)⟩
theorem oLen0 {Z : State} {args : Array Value} {t : Term} {a : Addr} {cl : Cell} {ty : FieldType} (ev : t.eval args Z none [] Z = some (.ref a)) (A : Arr Z Z.heap a cl ty) (h : (Term.length t).eval args Z none [] Z = some (.int 0)) : cl.slots.size = (0 : Int32).toNatClampNeg := by
  have e := A.fin (U := Z) ⟨rfl, rfl, fun c k hk => ⟨k, hk, rfl⟩⟩
  have h31 := Jvm.Free.SBG.length_lt ev e h
  have q : (Term.length t).eval args Z none [] Z = some (.int (Int32.ofNat cl.slots.size)) := by simp [Term.eval, ev, e, h31]
  have h2 : Int32.ofNat cl.slots.size = 0 := by simpa using Option.some.inj (q.symm.trans h)
  have h3 := congrArg Int32.toInt h2
  rw [Int32.toInt_ofNat_small h31] at h3
  have h4 : (0 : Int32).toInt = 0 := by decide
  have h5 : (0 : Int32).toNatClampNeg = 0 := by decide
  rw [h4] at h3
  rw [h5]
  omega
set_option maxRecDepth 65536 in
set_option maxHeartbeats 4000000 in
theorem comes_1 {Post : Tables → Env → Array Value → State → Outcome → State → Prop} (hpost : ∀ tb e args s v u, (limb_1_1.after args s (.returned v) u = true ∧ limb_1_2.after args s (.returned v) u = true ∧ True) → FrameEnd s (.returned v) u (Jvm.fieldLocs frame_1_writes args s ++ Jvm.arrayLocs frame_1_arrays args s ++ Jvm.staticLocs frame_1_statics s) 16 128 → Post tb e args s (.returned v) u) :
    ArmFor flags0 classFile x code maxLocals ret World_1 tables_1 room_1 Calls_1 rest_1 Pre_1 Post := by
  intro l hfl _ _ p e ha hc hk s m args below hf hA hF happ hP
  obtain ⟨hcalls, hrest, hpre⟩ := hP
  obtain ⟨-, -, -, hnamed, -, -, -, hat⟩ := (Spec.applies_iff hf).mp happ
  obtain ⟨hg, hn⟩ := and_e (Cond.before_iff.mp (show (Jvm.Cond.and given_1 narrow_1).before args s = true from hpre))
  obtain ⟨gc, gr0⟩ := and_e hg
  obtain ⟨g0, gr1⟩ := and_e gr0
  obtain ⟨g1, gr2⟩ := and_e gr1
  have g2 := gr2
  obtain ⟨w0, w1, w2, rfl⟩ : ∃ w0 w1 w2 : Value, args = #[w0, w1, w2] := by
    have hs : args.size = 3 := by simpa [Cond.value, given_1] using gc
    obtain ⟨L⟩ := args
    match L, hs with
    | [w0, w1, w2], _ => exact ⟨w0, w1, w2, rfl⟩
  have hw := fun d (hd : d ∈ tables_1) => atoms_spec (ws := Jvm.Cond.code x code maxLocals ret :: tables_1) hat d (List.mem_cons_of_mem _ hd)
  obtain ⟨i0, ei0⟩ := is_v g0
  obtain rfl : w0 = (.int i0) := Option.some.inj ei0
  obtain ⟨i1, ei1⟩ := is_v g1
  obtain rfl : w1 = (.int i1) := Option.some.inj ei1
  obtain ⟨i2, ei2⟩ := is_v g2
  obtain rfl : w2 = (.int i2) := Option.some.inj ei2
  obtain ⟨hsets, hown0⟩ := atoms_of _ (rest_1_c_eq ▸ (show rest_1_c.before _ s = true from hrest))
  obtain ⟨m0, m1⟩ := and_e hn
  obtain ⟨wD, -, -, -, evD, -⟩ := Cond.exactly_spec (hsets _ (List.mem_of_getElem? (i := 7) rfl))
  have S_D : Sta s s.heap "java/util/ArrayList" "DEFAULTCAPACITY_EMPTY_ELEMENTDATA" "[Ljava/lang/Object;" (.ref wD) := Sta.start evD (Or.inr ⟨(hw _ (List.mem_of_getElem? (i := 20) rfl)), hsets _ (List.mem_of_getElem? (i := 2) rfl)⟩)
  have hlen := Cond.eq_int (Cond.before_iff.mpr m1) rfl
  obtain ⟨wN, cl, evN, harr, -⟩ := Term.length_spec hlen
  have S_N : Sta s s.heap "com/example/anansi/anansi/Response" "NO_BODY" "[B" (.ref wN) := Sta.start evN (Or.inr ⟨(hw _ (List.mem_of_getElem? (i := 2) rfl)), (hw _ (List.mem_of_getElem? (i := 49) rfl))⟩)
  obtain ⟨cl2, Ar⟩ := Arr.start evN m0
  have Sz : cl2.slots.size = (0 : Int32).toNatClampNeg := oLen0 evN Ar hlen
  obtain ⟨n, o, h1, h2, h3, _, L, rfl, ⟨rfl, N⟩, hq⟩ := oR0 l s _ hw tables_1 i0 i1 i2 S_D S_N Ar Sz p e ha hc hk s m _ below hf ((Spec.applies_iff_loose hf).mp happ).1 ⟨rfl, State.Warmed39.refl s, rfl⟩ trivial
  refine ⟨n, _, h1, h2, h3, hpost _ _ _ _ _ _ ⟨Cond.after_iff.mpr rfl, Cond.after_iff.mpr (eq_i res_at (Term.int_eval (1)) rfl), trivial⟩ ⟨hq.1, hq.2.1, (hq.2.2.sift fun y hy => Or.inr (N y hy)).mono (by decide) (by decide)⟩⟩
theorem main_1_1 : Claimed_1_1 := comes_1 fun _ _ _ _ _ _ h hF => ⟨h.1, hF⟩
theorem main_1_2 : Claimed_1_2 := comes_1 fun _ _ _ _ _ _ h hF => ⟨h.2.1, hF⟩
end Jvm.Pilot.@@N@@
namespace Jvm.Pilot.@@N@@
open Jvm Jvm.ClassFile Sem Op Lib Jvm.Free Jvm.Stand Jvm.Pilot.@@N@@.Jvm.D
/-! MADE BY PROGRAM (witnessworld.py) out of the Statement's table words and the real class files: 19 classes; the members and pool entries that the words name. The judged class is class 1, her method 2. -/
namespace start1
open Jvm.ClassFile
def u (s : String) : CpInfo := .utf8 (stringToUtf16 s)
/-- a pool by its gaps: so many unusable entries, then the entry; so many at the end -/
def gap : Nat → List CpInfo → List CpInfo
  | 0, r => r
  | n + 1, r => .unusable :: gap n r
def poolList (es : List (Nat × CpInfo)) (last : Nat) : List CpInfo := es.foldr (fun e r => gap e.1 (e.2 :: r)) (gap last [])
def pool (es : List (Nat × CpInfo)) (last : Nat) : Array CpInfo := ⟨poolList es last⟩
def fileOf (pool : Array CpInfo) (this : Nat) (attrs : Array Attribute := #[]) (ms : Array MethodInfo := #[]) (fl : Nat := 33) (sup : Nat := 0) (ifs : Array Nat := #[]) (fds : Array FieldInfo := #[]) : ClassFile where
  minorVersion := 0
  majorVersion := 65
  constantPool := pool
  accessFlags := fl
  thisClass := this
  superClass := sup
  interfaces := ifs
  fields := fds
  methods := ms
  attributes := attrs
def plain (name : String) (sup : Option ClassId) : Class where
  name := name
  kind := .ordinary
  loader := none
  accessFlags := 33
  super := sup
  interfaces := #[]
  cf := none
  fields := #[]
  methods := #[]
  instanceTypes := #[]
  staticTypes := #[]
  resolved := #[]
  callSites := []
  init := .initialized
  statics := none
  mirror := none

def pool0 : Array CpInfo := pool [(5, u "<init>"), (0, u "()V"), (1, .class_ 10), (1, u "java/lang/Object")] 113

def k0c0 : Code := { maxStack := 0, maxLocals := 1, code := object_method_1_code, exceptionTable := #[], attributes := #[] }
def k0m0 : Method := { name := "<init>", desc := "()V", sig := { parameters := [], returnType := none }, accessFlags := 1, code := some k0c0 }
/-- java/lang/Object -/
def k0 : Class := { plain "java/lang/Object" none with
  accessFlags := 33
  interfaces := #[]
  cf := some (fileOf pool0 8 #[] #[{ accessFlags := 1, nameIndex := 5, descriptorIndex := 6, attributes := #[] }] 33 0 #[] #[])
  fields := #[]
  methods := #[k0m0]
  instanceTypes := #[]
  staticTypes := #[]
  resolved := Array.replicate 124 none
  statics := none }

def pool1 : Array CpInfo := pool [(2, .class_ 4), (0, .nameAndType 5 6), (0, u "java/lang/Object"), (0, u "<init>"), (0, u "()V"), (0, .integer 2147483647), (0, .class_ 9), (0, u "com/example/anansi/anansi/Response"), (0, .methodref 8 3), (0, .methodref 8 12), (0, .nameAndType 13 14), (0, u "status"), (0, u "()I"), (0, .methodref 16 17), (0, .class_ 18), (0, .nameAndType 19 20), (0, u "com/example/anansi/anansi/ResponseSetStatusPinLaw"), (0, u "code"), (0, u "(I)I"), (0, .methodref 8 22), (0, .nameAndType 23 24), (0, u "setStatus"), (0, u "(I)V"), (0, .methodref 8 26), (0, .nameAndType 27 28), (0, u "fields"), (0, u "()Lcom/example/anansi/anansi/Fields;"), (0, .methodref 30 31), (0, .class_ 32), (0, .nameAndType 33 14), (0, u "com/example/anansi/anansi/Fields"), (0, u "size"), (0, .methodref 8 35), (0, .nameAndType 36 37), (0, u "body"), (0, u "()[B"), (2, u "law"), (0, u "(III)Z")] 3

def k1m0 : Method := { name := "<init>", desc := "()V", sig := { parameters := [], returnType := none }, accessFlags := 2, code := none }
def k1c1 : Code := { maxStack := 3, maxLocals := 1, code := method_2_code, exceptionTable := #[], attributes := #[] }
def k1m1 : Method := { name := "code", desc := "(I)I", sig := { parameters := [.int], returnType := some .int }, accessFlags := 10, code := some k1c1 }
def k1c2 : Code := { maxStack := 2, maxLocals := 7, code := code, exceptionTable := #[], attributes := #[] }
def k1m2 : Method := { name := "law", desc := "(III)Z", sig := { parameters := [.int, .int, .int], returnType := some .boolean }, accessFlags := 9, code := some k1c2 }
/-- com/example/anansi/anansi/ResponseSetStatusPinLaw -/
def k1 : Class := { plain "com/example/anansi/anansi/ResponseSetStatusPinLaw" (some 0) with
  accessFlags := 49
  interfaces := #[]
  cf := some (fileOf pool1 16 #[] #[{ accessFlags := 2, nameIndex := 5, descriptorIndex := 6, attributes := #[] }, { accessFlags := 10, nameIndex := 19, descriptorIndex := 20, attributes := #[] }, { accessFlags := 9, nameIndex := 40, descriptorIndex := 41, attributes := #[] }] 49 2 #[] #[])
  fields := #[]
  methods := #[k1m0, k1m1, k1m2]
  instanceTypes := #[]
  staticTypes := #[]
  resolved := Array.replicate 45 none
  statics := none }

def pool2 : Array CpInfo := pool [(1, .methodref 2 3), (0, .class_ 4), (0, .nameAndType 5 6), (0, u "java/lang/Object"), (0, u "<init>"), (0, u "()V"), (0, .fieldref 8 9), (0, .class_ 10), (0, .nameAndType 11 12), (0, u "com/example/anansi/anansi/Response"), (0, u "status"), (0, u "I"), (0, .class_ 14), (0, u "com/example/anansi/anansi/Fields"), (0, .methodref 13 3), (0, .fieldref 8 17), (0, .nameAndType 18 19), (0, u "fields"), (0, u "Lcom/example/anansi/anansi/Fields;"), (0, .fieldref 8 21), (0, .nameAndType 22 23), (0, u "NO_BODY"), (0, u "[B"), (0, .fieldref 8 25), (0, .nameAndType 26 23), (0, u "body"), (76, u "setStatus"), (0, u "(I)V"), (16, u "TEXT"), (0, u "Ljava/lang/String;"), (3, u "()I"), (2, u "()Lcom/example/anansi/anansi/Fields;"), (0, u "()[B")] 24

def k2c0 : Code := { maxStack := 3, maxLocals := 1, code := prog_30_method_1_code, exceptionTable := #[], attributes := #[] }
def k2m0 : Method := { name := "<init>", desc := "()V", sig := { parameters := [], returnType := none }, accessFlags := 0, code := some k2c0 }
def k2c1 : Code := { maxStack := 1, maxLocals := 1, code := prog_30_method_2_code, exceptionTable := #[], attributes := #[] }
def k2m1 : Method := { name := "status", desc := "()I", sig := { parameters := [], returnType := some .int }, accessFlags := 1, code := some k2c1 }
def k2c2 : Code := { maxStack := 3, maxLocals := 2, code := prog_30_method_3_code, exceptionTable := #[], attributes := #[] }
def k2m2 : Method := { name := "setStatus", desc := "(I)V", sig := { parameters := [.int], returnType := none }, accessFlags := 1, code := some k2c2 }
def k2c3 : Code := { maxStack := 1, maxLocals := 1, code := prog_30_method_9_code, exceptionTable := #[], attributes := #[] }
def k2m3 : Method := { name := "fields", desc := "()Lcom/example/anansi/anansi/Fields;", sig := { parameters := [], returnType := some (.object "com/example/anansi/anansi/Fields") }, accessFlags := 0, code := some k2c3 }
def k2c4 : Code := { maxStack := 1, maxLocals := 1, code := prog_30_method_10_code, exceptionTable := #[], attributes := #[] }
def k2m4 : Method := { name := "body", desc := "()[B", sig := { parameters := [], returnType := some (.array .byte) }, accessFlags := 0, code := some k2c4 }
/-- com/example/anansi/anansi/Response -/
def k2 : Class := { plain "com/example/anansi/anansi/Response" (some 0) with
  accessFlags := 49
  interfaces := #[]
  cf := some (fileOf pool2 8 #[] #[{ accessFlags := 0, nameIndex := 5, descriptorIndex := 6, attributes := #[] }, { accessFlags := 1, nameIndex := 11, descriptorIndex := 126, attributes := #[] }, { accessFlags := 1, nameIndex := 103, descriptorIndex := 104, attributes := #[] }, { accessFlags := 0, nameIndex := 18, descriptorIndex := 129, attributes := #[] }, { accessFlags := 0, nameIndex := 26, descriptorIndex := 130, attributes := #[] }] 49 2 #[] #[{ accessFlags := 24, nameIndex := 121, descriptorIndex := 122, attributes := #[] }, { accessFlags := 26, nameIndex := 22, descriptorIndex := 23, attributes := #[] }, { accessFlags := 2, nameIndex := 11, descriptorIndex := 12, attributes := #[] }, { accessFlags := 18, nameIndex := 18, descriptorIndex := 19, attributes := #[] }, { accessFlags := 2, nameIndex := 26, descriptorIndex := 23, attributes := #[] }])
  fields := #[{ name := "TEXT", type := (.object "java/lang/String"), accessFlags := 24, slot := 0, constantValue := 0 }, { name := "NO_BODY", type := (.array .byte), accessFlags := 26, slot := 1, constantValue := 0 }, { name := "status", type := .int, accessFlags := 2, slot := 0, constantValue := 0 }, { name := "fields", type := (.object "com/example/anansi/anansi/Fields"), accessFlags := 18, slot := 1, constantValue := 0 }, { name := "body", type := (.array .byte), accessFlags := 2, slot := 2, constantValue := 0 }]
  methods := #[k2m0, k2m1, k2m2, k2m3, k2m4]
  instanceTypes := #[.int, (.object "com/example/anansi/anansi/Fields"), (.array .byte)]
  staticTypes := #[(.object "java/lang/String"), (.array .byte)]
  resolved := Array.replicate 155 none
  statics := some 0 }

def pool3 : Array CpInfo := pool [(1, .methodref 2 3), (0, .class_ 4), (0, .nameAndType 5 6), (0, u "java/lang/Object"), (0, u "<init>"), (0, u "()V"), (0, .class_ 8), (0, u "java/util/ArrayList"), (0, .methodref 7 3), (0, .fieldref 11 12), (0, .class_ 13), (0, .nameAndType 14 15), (0, u "com/example/anansi/anansi/Fields"), (0, u "names"), (0, u "Ljava/util/List;"), (0, .fieldref 11 17), (0, .nameAndType 18 15), (0, u "values"), (1, .class_ 22), (1, u "java/util/List"), (2, .interfaceMethodref 20 26), (0, .nameAndType 27 28), (0, u "size"), (0, u "()I")] 131

def k3c0 : Code := { maxStack := 3, maxLocals := 1, code := prog_4_method_1_code, exceptionTable := #[], attributes := #[] }
def k3m0 : Method := { name := "<init>", desc := "()V", sig := { parameters := [], returnType := none }, accessFlags := 0, code := some k3c0 }
def k3c1 : Code := { maxStack := 1, maxLocals := 1, code := prog_4_method_10_code, exceptionTable := #[], attributes := #[] }
def k3m1 : Method := { name := "size", desc := "()I", sig := { parameters := [], returnType := some .int }, accessFlags := 0, code := some k3c1 }
/-- com/example/anansi/anansi/Fields -/
def k3 : Class := { plain "com/example/anansi/anansi/Fields" (some 0) with
  accessFlags := 48
  interfaces := #[]
  cf := some (fileOf pool3 11 #[] #[{ accessFlags := 0, nameIndex := 5, descriptorIndex := 6, attributes := #[] }, { accessFlags := 0, nameIndex := 27, descriptorIndex := 28, attributes := #[] }] 48 2 #[] #[{ accessFlags := 18, nameIndex := 14, descriptorIndex := 15, attributes := #[] }, { accessFlags := 18, nameIndex := 18, descriptorIndex := 15, attributes := #[] }])
  fields := #[{ name := "names", type := (.object "java/util/List"), accessFlags := 18, slot := 0, constantValue := 0 }, { name := "values", type := (.object "java/util/List"), accessFlags := 18, slot := 1, constantValue := 0 }]
  methods := #[k3m0, k3m1]
  instanceTypes := #[(.object "java/util/List"), (.object "java/util/List")]
  staticTypes := #[]
  resolved := Array.replicate 160 none
  statics := none }

def pool4 : Array CpInfo := pool [(8, .class_ 10), (1, u "java/lang/Iterable"), (24, .class_ 36), (0, u "java/lang/Object")] 25

/-- java/lang/Iterable -/
def k4 : Class := { plain "java/lang/Iterable" (some 0) with
  accessFlags := 1537
  interfaces := #[]
  cf := some (fileOf pool4 8 #[] #[] 1537 35 #[] #[])
  fields := #[]
  methods := #[]
  instanceTypes := #[]
  staticTypes := #[]
  resolved := Array.replicate 62 none
  statics := none }

def pool5 : Array CpInfo := pool [(10, .class_ 12), (1, u "java/util/Collection"), (47, .class_ 61), (0, u "java/lang/Object"), (0, .class_ 63), (0, u "java/lang/Iterable")] 51

/-- java/util/Collection -/
def k5 : Class := { plain "java/util/Collection" (some 0) with
  accessFlags := 1537
  interfaces := #[4]
  cf := some (fileOf pool5 10 #[] #[] 1537 60 #[62] #[])
  fields := #[]
  methods := #[]
  instanceTypes := #[]
  staticTypes := #[]
  resolved := Array.replicate 115 none
  statics := none }

def pool6 : Array CpInfo := pool [(1, .methodref 2 3), (0, .class_ 4), (0, .nameAndType 5 6), (0, u "java/lang/Object"), (0, u "<init>"), (0, u "()V"), (1, .class_ 10), (1, u "java/util/AbstractCollection"), (66, .class_ 78), (0, u "java/util/Collection")] 81

def k6c0 : Code := { maxStack := 1, maxLocals := 1, code := jdk_22_method_1_code, exceptionTable := #[], attributes := #[] }
def k6m0 : Method := { name := "<init>", desc := "()V", sig := { parameters := [], returnType := none }, accessFlags := 4, code := some k6c0 }
/-- java/util/AbstractCollection -/
def k6 : Class := { plain "java/util/AbstractCollection" (some 0) with
  accessFlags := 1057
  interfaces := #[5]
  cf := some (fileOf pool6 8 #[] #[{ accessFlags := 4, nameIndex := 5, descriptorIndex := 6, attributes := #[] }] 1057 2 #[77] #[])
  fields := #[]
  methods := #[k6m0]
  instanceTypes := #[]
  staticTypes := #[]
  resolved := Array.replicate 160 none
  statics := none }

def pool7 : Array CpInfo := pool [(8, .class_ 10), (1, u "java/util/SequencedCollection"), (15, .class_ 27), (0, u "java/lang/Object"), (0, .class_ 29), (0, u "java/util/Collection")] 27

/-- java/util/SequencedCollection -/
def k7 : Class := { plain "java/util/SequencedCollection" (some 0) with
  accessFlags := 1537
  interfaces := #[5]
  cf := some (fileOf pool7 8 #[] #[] 1537 26 #[28] #[])
  fields := #[]
  methods := #[]
  instanceTypes := #[]
  staticTypes := #[]
  resolved := Array.replicate 57 none
  statics := none }

def pool8 : Array CpInfo := pool [(8, .class_ 10), (1, u "java/util/List"), (68, u "size"), (0, u "()I"), (22, .class_ 104), (0, u "java/lang/Object"), (15, .class_ 121), (0, u "java/util/SequencedCollection")] 129

def k8m0 : Method := { name := "size", desc := "()I", sig := { parameters := [], returnType := some .int }, accessFlags := 1025, code := none }
/-- java/util/List -/
def k8 : Class := { plain "java/util/List" (some 0) with
  accessFlags := 1537
  interfaces := #[7]
  cf := some (fileOf pool8 8 #[] #[{ accessFlags := 1025, nameIndex := 79, descriptorIndex := 80, attributes := #[] }] 1537 103 #[120] #[])
  fields := #[]
  methods := #[k8m0]
  instanceTypes := #[]
  staticTypes := #[]
  resolved := Array.replicate 251 none
  statics := none }

def pool9 : Array CpInfo := pool [(1, .methodref 2 3), (0, .class_ 4), (0, .nameAndType 5 6), (0, u "java/util/AbstractCollection"), (0, u "<init>"), (0, u "()V"), (0, .fieldref 8 9), (0, .class_ 10), (0, .nameAndType 11 12), (0, u "java/util/AbstractList"), (0, u "modCount"), (0, u "I"), (64, .class_ 78), (0, u "java/util/AbstractList$Itr"), (3, .class_ 83), (0, u "java/util/AbstractList$ListItr"), (9, .class_ 94), (0, u "java/util/AbstractList$RandomAccessSubList"), (3, .class_ 99), (0, u "java/util/AbstractList$SubList"), (33, .class_ 134), (0, u "java/util/List"), (73, .class_ 209), (0, u "java/util/AbstractList$SubList$1"), (0, .class_ 211), (0, u "java/util/AbstractList$RandomAccessSpliterator")] 6

def k9c0 : Code := { maxStack := 2, maxLocals := 1, code := jdk_39_method_1_code, exceptionTable := #[], attributes := #[] }
def k9m0 : Method := { name := "<init>", desc := "()V", sig := { parameters := [], returnType := none }, accessFlags := 4, code := some k9c0 }
/-- java/util/AbstractList -/
def k9 : Class := { plain "java/util/AbstractList" (some 6) with
  accessFlags := 1057
  interfaces := #[8]
  cf := some (fileOf pool9 8 #[.nestMembers #[93, 98, 208, 210, 82, 77]] #[{ accessFlags := 4, nameIndex := 5, descriptorIndex := 6, attributes := #[] }] 1057 2 #[133] #[{ accessFlags := 132, nameIndex := 11, descriptorIndex := 12, attributes := #[] }])
  fields := #[{ name := "modCount", type := .int, accessFlags := 132, slot := 0, constantValue := 0 }]
  methods := #[k9m0]
  instanceTypes := #[.int]
  staticTypes := #[]
  resolved := Array.replicate 218 none
  statics := none }

def pool10 : Array CpInfo := pool [(1, .class_ 2), (0, u "java/util/RandomAccess"), (0, .class_ 4), (0, u "java/lang/Object")] 2

/-- java/util/RandomAccess -/
def k10 : Class := { plain "java/util/RandomAccess" (some 0) with
  accessFlags := 1537
  interfaces := #[]
  cf := some (fileOf pool10 1 #[] #[] 1537 3 #[] #[])
  fields := #[]
  methods := #[]
  instanceTypes := #[]
  staticTypes := #[]
  resolved := Array.replicate 7 none
  statics := none }

def pool11 : Array CpInfo := pool [(1, .class_ 2), (0, u "java/lang/Cloneable"), (0, .class_ 4), (0, u "java/lang/Object")] 2

/-- java/lang/Cloneable -/
def k11 : Class := { plain "java/lang/Cloneable" (some 0) with
  accessFlags := 1537
  interfaces := #[]
  cf := some (fileOf pool11 1 #[] #[] 1537 3 #[] #[])
  fields := #[]
  methods := #[]
  instanceTypes := #[]
  staticTypes := #[]
  resolved := Array.replicate 7 none
  statics := none }

def pool12 : Array CpInfo := pool [(1, .class_ 2), (0, u "java/io/Serializable"), (0, .class_ 4), (0, u "java/lang/Object")] 2

/-- java/io/Serializable -/
def k12 : Class := { plain "java/io/Serializable" (some 0) with
  accessFlags := 1537
  interfaces := #[]
  cf := some (fileOf pool12 1 #[] #[] 1537 3 #[] #[])
  fields := #[]
  methods := #[]
  instanceTypes := #[]
  staticTypes := #[]
  resolved := Array.replicate 7 none
  statics := none }

def pool13 : Array CpInfo := pool [(1, .methodref 2 3), (0, .class_ 4), (0, .nameAndType 5 6), (0, u "java/util/AbstractList"), (0, u "<init>"), (0, u "()V"), (2, .fieldref 10 11), (0, .class_ 12), (0, .nameAndType 13 14), (0, u "java/util/ArrayList"), (0, u "elementData"), (0, u "[Ljava/lang/Object;"), (2, u "EMPTY_ELEMENTDATA"), (21, .fieldref 10 40), (0, .nameAndType 41 14), (0, u "DEFAULTCAPACITY_EMPTY_ELEMENTDATA"), (6, .fieldref 10 49), (0, .nameAndType 50 51), (0, u "size"), (0, u "I"), (96, .class_ 149), (0, u "java/util/List"), (36, u "()I"), (75, .class_ 263), (0, u "java/util/ArrayList$ListItr"), (3, .class_ 268), (0, u "java/util/ArrayList$Itr"), (7, .class_ 277), (0, u "java/util/ArrayList$SubList"), (12, .class_ 291), (0, u "java/util/ArrayList$ArrayListSpliterator"), (37, .class_ 330), (0, u "java/util/RandomAccess"), (0, .class_ 332), (0, u "java/lang/Cloneable"), (0, .class_ 334), (0, u "java/io/Serializable"), (0, u "serialVersionUID"), (0, u "J"), (3, u "DEFAULT_CAPACITY"), (159, .class_ 501), (0, u "java/util/ArrayList$SubList$2"), (0, .class_ 503), (0, u "java/util/ArrayList$SubList$1")] 5

def k13c0 : Code := { maxStack := 2, maxLocals := 1, code := jdk_38_method_2_code, exceptionTable := #[], attributes := #[] }
def k13m0 : Method := { name := "<init>", desc := "()V", sig := { parameters := [], returnType := none }, accessFlags := 1, code := some k13c0 }
def k13c1 : Code := { maxStack := 1, maxLocals := 1, code := jdk_38_method_8_code, exceptionTable := #[], attributes := #[] }
def k13m1 : Method := { name := "size", desc := "()I", sig := { parameters := [], returnType := some .int }, accessFlags := 1, code := some k13c1 }
/-- java/util/ArrayList -/
def k13 : Class := { plain "java/util/ArrayList" (some 9) with
  accessFlags := 33
  interfaces := #[8, 10, 11, 12]
  cf := some (fileOf pool13 10 #[.nestMembers #[290, 276, 500, 502, 262, 267]] #[{ accessFlags := 1, nameIndex := 5, descriptorIndex := 6, attributes := #[] }, { accessFlags := 1, nameIndex := 50, descriptorIndex := 186, attributes := #[] }] 33 2 #[148, 329, 331, 333] #[{ accessFlags := 26, nameIndex := 335, descriptorIndex := 336, attributes := #[] }, { accessFlags := 26, nameIndex := 340, descriptorIndex := 51, attributes := #[] }, { accessFlags := 26, nameIndex := 17, descriptorIndex := 14, attributes := #[] }, { accessFlags := 26, nameIndex := 41, descriptorIndex := 14, attributes := #[] }, { accessFlags := 128, nameIndex := 13, descriptorIndex := 14, attributes := #[] }, { accessFlags := 2, nameIndex := 50, descriptorIndex := 51, attributes := #[] }])
  fields := #[{ name := "serialVersionUID", type := .long, accessFlags := 26, slot := 0, constantValue := 0 }, { name := "DEFAULT_CAPACITY", type := .int, accessFlags := 26, slot := 1, constantValue := 0 }, { name := "EMPTY_ELEMENTDATA", type := (.array (.object "java/lang/Object")), accessFlags := 26, slot := 2, constantValue := 0 }, { name := "DEFAULTCAPACITY_EMPTY_ELEMENTDATA", type := (.array (.object "java/lang/Object")), accessFlags := 26, slot := 3, constantValue := 0 }, { name := "elementData", type := (.array (.object "java/lang/Object")), accessFlags := 128, slot := 1, constantValue := 0 }, { name := "size", type := .int, accessFlags := 2, slot := 2, constantValue := 0 }]
  methods := #[k13m0, k13m1]
  instanceTypes := #[.int, (.array (.object "java/lang/Object")), .int]
  staticTypes := #[.long, .int, (.array (.object "java/lang/Object")), (.array (.object "java/lang/Object"))]
  resolved := Array.replicate 509 none
  statics := some 1 }

/-- the primitive byte -/
def k14 : Class := { plain "byte" none with kind := .primitive 'B', accessFlags := 0x411 }
/-- [B -/
def k15 : Class := { plain "[B" (some 0) with kind := .array 14 .byte, interfaces := #[11, 12], accessFlags := 1041 }

/-- the primitive int -/
def k16 : Class := { plain "int" none with kind := .primitive 'I', accessFlags := 0x411 }
/-- [I -/
def k17 : Class := { plain "[I" (some 0) with kind := .array 16 .int, interfaces := #[11, 12], accessFlags := 1041 }

/-- [Ljava/lang/Object; -/
def k18 : Class := { plain "[Ljava/lang/Object;" (some 0) with kind := .array 0 (.object "java/lang/Object"), interfaces := #[11, 12], accessFlags := 1041 }

def heap : Heap := #[{ cls := 2, slots := #[.null, .ref 2], vm := .statics 2 },
  { cls := 13, slots := #[.long 0, .int 0, .ref 3, .ref 4], vm := .statics 13 },
  { cls := 15, slots := #[], vm := .none },
  { cls := 18, slots := #[], vm := .none },
  { cls := 18, slots := #[], vm := .none }]
def classes : Array Class := #[k0, k1, k2, k3, k4, k5, k6, k7, k8, k9, k10, k11, k12, k13, k14, k15, k16, k17, k18]
def interned : List (Array UInt16 × Addr) := []
def slotsUsed : Nat := 6
def theMethod : MethodId := ⟨1, 2⟩
def args0 : Array Value := #[.int 5, .int 6, .int 1]
def aboutOver (below : List Frame) : State where
  vm := { classes := classes, interned := interned.toArray }
  heap := heap
  slotsUsed := slotsUsed
  threads := #[{ frames := .invoking theMethod args0 :: below }]
def below0 : List Frame := [.native { method := ⟨0, 0⟩, args := #[] }]
def about1 : State := aboutOver below0
def p0 : Program := .bare "" "" ""
def e0 : Env := launch0.env 0 0 0
theorem w_frames : about1.frames = Frame.invoking theMethod args0 :: below0 := rfl
set_option maxRecDepth 65536 in
theorem w_args : argsFit about1.vm theMethod args0 = true := by decide +kernel
set_option maxRecDepth 65536 in
theorem w_heap : heapFits about1 = true := by decide +kernel
set_option maxRecDepth 65536 in
theorem w_runnable : about1.curStatus? = some .runnable := by decide +kernel
set_option maxRecDepth 65536 in
theorem w_alone : about1.alone = true := by decide +kernel
set_option maxRecDepth 65536 in
theorem w_named : about1.methodNamed? x = some theMethod := by decide +kernel
set_option maxRecDepth 65536 in
theorem w_hears : about1.hears theMethod below0 = true := by decide +kernel
set_option maxRecDepth 65536 in
theorem w_ripe : about1.ripe theMethod args0 below0 = true := by decide +kernel
theorem w_running : about1.status = .running := rfl
set_option maxRecDepth 65536 in
theorem w_room : about1.hasRoom e0.platform room_1 = true :=
  launch0.hasRoom_least _ room_1 (by decide +kernel) (by decide +kernel) (by decide +kernel) (by decide +kernel) (by decide +kernel) (by decide +kernel)
theorem allAtoms_all (ts : List Jvm.Cond) (a : Array Jvm.Value) (st : Jvm.State) : (allAtoms ts).before a st = ts.all (fun c => c.before a st) := by
  induction ts with
  | nil => rfl
  | cons c t ih =>
    show (Jvm.Cond.and c (allAtoms t)).before a st = _
    rw [Jvm.Cond.before_and, ih, List.all_cons]
def words1 : List Jvm.Cond := Jvm.Cond.code x code maxLocals ret :: tables_1
/-- a 'code' word, met by the world's own term for the bytes: nothing is compared byte by byte -/
theorem code_word {y : MethodName} {bytes : ByteArray} {mx : Nat} {rt : Option FieldType} {a : Array Value} {s : State} {m : MethodId} {meth : Method} {c : Code} (h1 : s.methodNamed? y = some m) (h2 : s.vm.method? m = some meth) (h3 : meth.code = some c) (h4 : c.code = bytes)
    (h5 : (c.maxLocals == mx && c.exceptionTable.isEmpty && decide (c.maxStack ≤ mostOperands) && decide (meth.sig.returnType = rt) && !meth.locks && decide (parseMethodDescriptor y.desc = some meth.sig)) = true) : (Jvm.Cond.code y bytes mx rt).before a s = true := by
  simp only [Bool.and_eq_true, beq_iff_eq, Bool.not_eq_true', decide_eq_true_eq] at h5
  obtain ⟨⟨⟨⟨⟨g1, g2⟩, g3⟩, g4⟩, g5⟩, g6⟩ := h5
  simp [Cond.before, Cond.holds, Cond.value, h1, h2, h3, h4, g1, g2, g3, g4, g5, g6]
def isCode : Jvm.Cond → Bool
  | .code _ _ _ _ => true
  | _ => false
theorem all_split {L : List Jvm.Cond} {P : Jvm.Cond → Bool} (h1 : L.all (fun c => isCode c || P c) = true) (h2 : ∀ c ∈ L.filter isCode, P c = true) : L.all P = true := by
  refine List.all_eq_true.mpr fun c hc => ?_
  have h := List.all_eq_true.mp h1 c hc
  rcases Bool.eq_false_or_eq_true (isCode c) with hi | hi
  · exact h2 c (List.mem_filter.mpr ⟨hc, hi⟩)
  · simpa [hi] using h
set_option maxRecDepth 65536 in
theorem w_c0 : (Jvm.Cond.code x code maxLocals ret).before args0 about1 = true := code_word (m := ⟨1, 2⟩) (meth := k1m2) (c := k1c2) (by decide +kernel) rfl rfl rfl (by decide +kernel)
set_option maxRecDepth 65536 in
theorem w_c1 : (Jvm.Cond.code ({ cls := "com/example/anansi/anansi/Response", name := "<init>", desc := "()V" } : Jvm.MethodName) prog_30_method_1_code (1 : Nat) (Option.none : Option Jvm.ClassFile.FieldType)).before args0 about1 = true := code_word (m := ⟨2, 0⟩) (meth := k2m0) (c := k2c0) (by decide +kernel) rfl rfl rfl (by decide +kernel)
set_option maxRecDepth 65536 in
theorem w_c2 : (Jvm.Cond.code ({ cls := "java/lang/Object", name := "<init>", desc := "()V" } : Jvm.MethodName) object_method_1_code (1 : Nat) (Option.none : Option Jvm.ClassFile.FieldType)).before args0 about1 = true := code_word (m := ⟨0, 0⟩) (meth := k0m0) (c := k0c0) (by decide +kernel) rfl rfl rfl (by decide +kernel)
set_option maxRecDepth 65536 in
theorem w_c3 : (Jvm.Cond.code ({ cls := "com/example/anansi/anansi/Fields", name := "<init>", desc := "()V" } : Jvm.MethodName) prog_4_method_1_code (1 : Nat) (Option.none : Option Jvm.ClassFile.FieldType)).before args0 about1 = true := code_word (m := ⟨3, 0⟩) (meth := k3m0) (c := k3c0) (by decide +kernel) rfl rfl rfl (by decide +kernel)
set_option maxRecDepth 65536 in
theorem w_c4 : (Jvm.Cond.code ({ cls := "java/util/ArrayList", name := "<init>", desc := "()V" } : Jvm.MethodName) jdk_38_method_2_code (1 : Nat) (Option.none : Option Jvm.ClassFile.FieldType)).before args0 about1 = true := code_word (m := ⟨13, 0⟩) (meth := k13m0) (c := k13c0) (by decide +kernel) rfl rfl rfl (by decide +kernel)
set_option maxRecDepth 65536 in
theorem w_c5 : (Jvm.Cond.code ({ cls := "java/util/AbstractList", name := "<init>", desc := "()V" } : Jvm.MethodName) jdk_39_method_1_code (1 : Nat) (Option.none : Option Jvm.ClassFile.FieldType)).before args0 about1 = true := code_word (m := ⟨9, 0⟩) (meth := k9m0) (c := k9c0) (by decide +kernel) rfl rfl rfl (by decide +kernel)
set_option maxRecDepth 65536 in
theorem w_c6 : (Jvm.Cond.code ({ cls := "java/util/AbstractCollection", name := "<init>", desc := "()V" } : Jvm.MethodName) jdk_22_method_1_code (1 : Nat) (Option.none : Option Jvm.ClassFile.FieldType)).before args0 about1 = true := code_word (m := ⟨6, 0⟩) (meth := k6m0) (c := k6c0) (by decide +kernel) rfl rfl rfl (by decide +kernel)
set_option maxRecDepth 65536 in
theorem w_c7 : (Jvm.Cond.code ({ cls := "com/example/anansi/anansi/Response", name := "status", desc := "()I" } : Jvm.MethodName) prog_30_method_2_code (1 : Nat) (Option.some Jvm.ClassFile.FieldType.int)).before args0 about1 = true := code_word (m := ⟨2, 1⟩) (meth := k2m1) (c := k2c1) (by decide +kernel) rfl rfl rfl (by decide +kernel)
set_option maxRecDepth 65536 in
theorem w_c8 : (Jvm.Cond.code ({ cls := "com/example/anansi/anansi/ResponseSetStatusPinLaw", name := "code", desc := "(I)I" } : Jvm.MethodName) method_2_code (1 : Nat) (Option.some Jvm.ClassFile.FieldType.int)).before args0 about1 = true := code_word (m := ⟨1, 1⟩) (meth := k1m1) (c := k1c1) (by decide +kernel) rfl rfl rfl (by decide +kernel)
set_option maxRecDepth 65536 in
theorem w_c9 : (Jvm.Cond.code ({ cls := "com/example/anansi/anansi/Response", name := "setStatus", desc := "(I)V" } : Jvm.MethodName) prog_30_method_3_code (2 : Nat) (Option.none : Option Jvm.ClassFile.FieldType)).before args0 about1 = true := code_word (m := ⟨2, 2⟩) (meth := k2m2) (c := k2c2) (by decide +kernel) rfl rfl rfl (by decide +kernel)
set_option maxRecDepth 65536 in
theorem w_c10 : (Jvm.Cond.code ({ cls := "com/example/anansi/anansi/Response", name := "fields", desc := "()Lcom/example/anansi/anansi/Fields;" } : Jvm.MethodName) prog_30_method_9_code (1 : Nat) (Option.some (Jvm.ClassFile.FieldType.object "com/example/anansi/anansi/Fields"))).before args0 about1 = true := code_word (m := ⟨2, 3⟩) (meth := k2m3) (c := k2c3) (by decide +kernel) rfl rfl rfl (by decide +kernel)
set_option maxRecDepth 65536 in
theorem w_c11 : (Jvm.Cond.code ({ cls := "com/example/anansi/anansi/Fields", name := "size", desc := "()I" } : Jvm.MethodName) prog_4_method_10_code (1 : Nat) (Option.some Jvm.ClassFile.FieldType.int)).before args0 about1 = true := code_word (m := ⟨3, 1⟩) (meth := k3m1) (c := k3c1) (by decide +kernel) rfl rfl rfl (by decide +kernel)
set_option maxRecDepth 65536 in
theorem w_c12 : (Jvm.Cond.code ({ cls := "java/util/ArrayList", name := "size", desc := "()I" } : Jvm.MethodName) jdk_38_method_8_code (1 : Nat) (Option.some Jvm.ClassFile.FieldType.int)).before args0 about1 = true := code_word (m := ⟨13, 1⟩) (meth := k13m1) (c := k13c1) (by decide +kernel) rfl rfl rfl (by decide +kernel)
set_option maxRecDepth 65536 in
theorem w_c13 : (Jvm.Cond.code ({ cls := "com/example/anansi/anansi/Response", name := "body", desc := "()[B" } : Jvm.MethodName) prog_30_method_10_code (1 : Nat) (Option.some (Jvm.ClassFile.FieldType.array Jvm.ClassFile.FieldType.byte))).before args0 about1 = true := code_word (m := ⟨2, 4⟩) (meth := k2m4) (c := k2c4) (by decide +kernel) rfl rfl rfl (by decide +kernel)
def codes1 : List Jvm.Cond := [Jvm.Cond.code x code maxLocals ret, Jvm.Cond.code ({ cls := "com/example/anansi/anansi/Response", name := "<init>", desc := "()V" } : Jvm.MethodName) prog_30_method_1_code (1 : Nat) (Option.none : Option Jvm.ClassFile.FieldType), Jvm.Cond.code ({ cls := "java/lang/Object", name := "<init>", desc := "()V" } : Jvm.MethodName) object_method_1_code (1 : Nat) (Option.none : Option Jvm.ClassFile.FieldType), Jvm.Cond.code ({ cls := "com/example/anansi/anansi/Fields", name := "<init>", desc := "()V" } : Jvm.MethodName) prog_4_method_1_code (1 : Nat) (Option.none : Option Jvm.ClassFile.FieldType), Jvm.Cond.code ({ cls := "java/util/ArrayList", name := "<init>", desc := "()V" } : Jvm.MethodName) jdk_38_method_2_code (1 : Nat) (Option.none : Option Jvm.ClassFile.FieldType), Jvm.Cond.code ({ cls := "java/util/AbstractList", name := "<init>", desc := "()V" } : Jvm.MethodName) jdk_39_method_1_code (1 : Nat) (Option.none : Option Jvm.ClassFile.FieldType), Jvm.Cond.code ({ cls := "java/util/AbstractCollection", name := "<init>", desc := "()V" } : Jvm.MethodName) jdk_22_method_1_code (1 : Nat) (Option.none : Option Jvm.ClassFile.FieldType), Jvm.Cond.code ({ cls := "com/example/anansi/anansi/Response", name := "status", desc := "()I" } : Jvm.MethodName) prog_30_method_2_code (1 : Nat) (Option.some Jvm.ClassFile.FieldType.int), Jvm.Cond.code ({ cls := "com/example/anansi/anansi/ResponseSetStatusPinLaw", name := "code", desc := "(I)I" } : Jvm.MethodName) method_2_code (1 : Nat) (Option.some Jvm.ClassFile.FieldType.int), Jvm.Cond.code ({ cls := "com/example/anansi/anansi/Response", name := "setStatus", desc := "(I)V" } : Jvm.MethodName) prog_30_method_3_code (2 : Nat) (Option.none : Option Jvm.ClassFile.FieldType), Jvm.Cond.code ({ cls := "com/example/anansi/anansi/Response", name := "fields", desc := "()Lcom/example/anansi/anansi/Fields;" } : Jvm.MethodName) prog_30_method_9_code (1 : Nat) (Option.some (Jvm.ClassFile.FieldType.object "com/example/anansi/anansi/Fields")), Jvm.Cond.code ({ cls := "com/example/anansi/anansi/Fields", name := "size", desc := "()I" } : Jvm.MethodName) prog_4_method_10_code (1 : Nat) (Option.some Jvm.ClassFile.FieldType.int), Jvm.Cond.code ({ cls := "java/util/ArrayList", name := "size", desc := "()I" } : Jvm.MethodName) jdk_38_method_8_code (1 : Nat) (Option.some Jvm.ClassFile.FieldType.int), Jvm.Cond.code ({ cls := "com/example/anansi/anansi/Response", name := "body", desc := "()[B" } : Jvm.MethodName) prog_30_method_10_code (1 : Nat) (Option.some (Jvm.ClassFile.FieldType.array Jvm.ClassFile.FieldType.byte))]
set_option maxRecDepth 65536 in
theorem codes_eq : words1.filter isCode = codes1 := rfl
theorem w_codes : ∀ c ∈ words1.filter isCode, c.before args0 about1 = true := by
  rw [codes_eq]
  intro c hc
  simp only [codes1, List.mem_cons, List.not_mem_nil, or_false] at hc
  rcases hc with rfl | rfl | rfl | rfl | rfl | rfl | rfl | rfl | rfl | rfl | rfl | rfl | rfl | rfl
  · exact w_c0
  · exact w_c1
  · exact w_c2
  · exact w_c3
  · exact w_c4
  · exact w_c5
  · exact w_c6
  · exact w_c7
  · exact w_c8
  · exact w_c9
  · exact w_c10
  · exact w_c11
  · exact w_c12
  · exact w_c13
set_option maxRecDepth 65536 in
theorem w_t1 : (words1.take 24).all (fun c => isCode c || c.before args0 about1) = true := by decide +kernel
set_option maxRecDepth 65536 in
theorem w_t2 : ((words1.drop 24).take 24).all (fun c => isCode c || c.before args0 about1) = true := by decide +kernel
set_option maxRecDepth 65536 in
theorem w_t3 : (((words1.drop 24).drop 24).take 24).all (fun c => isCode c || c.before args0 about1) = true := by decide +kernel
set_option maxRecDepth 65536 in
theorem w_t4 : (((words1.drop 24).drop 24).drop 24).all (fun c => isCode c || c.before args0 about1) = true := by decide +kernel
theorem w_tables : (allAtoms (Jvm.Cond.code x code maxLocals ret :: tables_1)).before args0 about1 = true := by
  rw [allAtoms_all]
  show words1.all (fun c => c.before args0 about1) = true
  refine all_split ?_ w_codes
  rw [← List.take_append_drop 24 words1, List.all_append, w_t1, ← List.take_append_drop 24 (words1.drop 24), List.all_append, w_t2, ← List.take_append_drop 24 ((words1.drop 24).drop 24), List.all_append, w_t3, w_t4]
  rfl
set_option maxRecDepth 65536 in
theorem w_rest : rest_1_c.before args0 about1 = true := by decide +kernel
set_option maxRecDepth 65536 in
theorem w_case : (Jvm.Cond.and given_1 narrow_1).before args0 about1 = true := by decide +kernel
theorem w_applies : (headSpec (Jvm.Cond.code x code maxLocals ret :: tables_1) room_1).applies x e0.platform about1 = true :=
  (Spec.applies_iff w_frames).mpr ⟨w_running, w_runnable, w_alone, w_named, w_hears, w_ripe, w_room, w_tables⟩
theorem atStart : AtStart classFile x code maxLocals ret World_1 tables_1 room_1 Calls_1 rest_1 Pre_1 launch0 p0 e0 about1 theMethod args0 below0 :=
  ⟨lists_1, trivial, launch0.admits_env _ _ _, launch0.least_env, fairChoices_fair.cas, fairChoices_fair.clock, w_frames, w_args, w_heap, w_applies, trivial, w_rest, w_case⟩
end start1
theorem witness_1 : WitnessClaimed_1 := ⟨start1.p0, start1.e0, start1.about1, start1.theMethod, start1.args0, start1.below0, start1.atStart⟩
end Jvm.Pilot.@@N@@
