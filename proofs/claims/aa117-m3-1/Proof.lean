import JvmDerived
import JvmDerived.Pilot.@@N@@Statement
import JvmDerived.Pilot.@@N@@Code
set_option linter.unusedVariables false
set_option linter.unusedSimpArgs false
namespace Jvm.RoadKit
open Sem ClassFile Op Lib Jvm.Stand Jvm.Free Jvm.LawKit
section New
variable {p : Program} {l : Launch} {e : Env} {R : Room} {s : State} {m : MethodId} {args : Array Value} {below : List Frame} {meth : Method} {c : Code} {T : State} {locs : List Loc} {cells slots : Nat}
theorem retI (X : Stand p l e R s m args below meth c T locs cells slots) (hx : p.tables.exec = Jvm.exec) {pc : Nat} {Ls : Array Slot} {z : Int32} {rest : List Value} (hret : meth.sig.returnType = some .int) (hd : decode c.code pc = .ok (.ireturn, 1)) {fs : List Frame}
    (hl : ∀ (f : JFrame) (acts : List Action), f.method = m → f.locked = none → f.entered = [] → (doReturn e (T.setTop f) acts (some (.int z))).1 = T.setFrames fs) : Steps p.tables e below (T.setTop (mkF m pc Ls (.int z :: rest))) (T.setFrames fs) := by
  have hm' : T.vm.method? m = some meth := X.method'
  have hn : narrow .int (.int z) = .int z := rfl
  show Steps p.tables e below (T.setTop { method := m, pc := pc, locals := Ls, stack := _ :: rest, locked := none }) _
  jvm_step X.here [X.here.top, hx, hd, hm', hret, hn]
  first | (intro acts; rw [hl _ acts rfl rfl rfl]) | rw [hl _ _ rfl rfl rfl]
  exact Steps.refl _
end New
end Jvm.RoadKit
namespace Jvm.Pilot.@@N@@
open Jvm Jvm.ClassFile Sem Op Lib Jvm.Free Jvm.Stand Jvm.LawKit Jvm.RoadKit Bundle Jvm.Pilot.@@N@@.Jvm.D
/-- the run from frame g of state T ends, returns w, leaves heap h and writes new cells alone -/
def oEnd (p : Program) (e : Env) (s : State) (below : List Frame) (T : State) (g : JFrame) (n0 : Nat) (h : Heap) (cells slots : Nat) (w : Option Value) : Prop :=
  ∃ t L, Steps p.tables e below (T.setTop g) t ∧ t.status = .running ∧ Ended t below (.returned w) ∧ s.WarmedH t.vm ∧ s.sameButNew ({ t with vm := s.vm } : State) L cells slots ∧ Fr n0 L ∧ t.heap = h
theorem oPre {p : Program} {e : Env} {s : State} {below : List Frame} {T T' : State} {g g' : JFrame} {n0 : Nat} {h : Heap} {cells slots : Nat} {w : Option Value}
    (k : ∀ target, Steps p.tables e below (T'.setTop g') target → Steps p.tables e below (T.setTop g) target) (q : oEnd p e s below T' g' n0 h cells slots w) : oEnd p e s below T g n0 h cells slots w := by
  obtain ⟨t, L, hs, r⟩ := q
  exact ⟨t, L, k t hs, r⟩
/-- what a pure body leaves -/
def oQp (r : Option Value) (h0 : Heap) (n0 : Nat) (v : Option Value) (h : Heap) (L : List Loc) : Prop := v = r ∧ Fr n0 L ∧ h = h0
def oI2c (x : Int32) : Int32 := x.toUInt32.toUInt16.toUInt32.toInt32
theorem oNi {a b : Addr} (h : a ≠ b) : a ∉ [b] := fun q => h (List.mem_singleton.mp q)
theorem oKeep0 {h0 h h' : Heap} {b : Addr} (K : Keep h0 h []) (K' : Keep h h' [b]) (q : h0.size ≤ b) : Keep h0 h' [] :=
  K.trans K' fun x hx => Or.inr (by cases List.mem_singleton.mp hx; exact q)
theorem oKeepN {h0 h h' : Heap} (K : Keep h0 h []) (K' : Keep h h' []) : Keep h0 h' [] := K.trans K' fun x hx => nomatch hx
theorem oSta_keep {Z : State} {h h' : Heap} {C n d : String} {w : Value} (K : Keep h h' []) (F : Sta Z h C n d w) : Sta Z h' C n d w := by
  obtain ⟨cf, i, k, f, st, cell, h1, h2, h3, h4, h5, r⟩ := F
  exact ⟨cf, i, k, f, st, cell, h1, h2, h3, h4, K.2.1 _ _ h5 (by simp), r⟩
/-- the list at E holds the objects cs -/
def oLs (Z : State) (h : Heap) (E : Addr) (cs : List Addr) : Prop := ∃ (b : Addr) (cl : Cell), Exa Z h E "org/provenote/core/xml/XmlElement$Elements" ∧ Fld Z h E "org/provenote/core/xml/XmlElement$Elements" "elements" "[Lorg/provenote/core/xml/XmlElement;" (.ref b) ∧ Arr Z h b cl (.object "org/provenote/core/xml/XmlElement") ∧ cl.slots.size = (Int32.ofNat cs.length).toNatClampNeg ∧ ∀ i, i < cs.length → cl.slots[i]? = some (.ref (cs.getD i 0))
theorem oLs_keep {Z : State} {h h' : Heap} {E : Addr} {cs : List Addr} (K : Keep h h' []) (F : oLs Z h E cs) : oLs Z h' E cs := by
  obtain ⟨b, cl, r1, r2, r3, r4, r5⟩ := F
  exact ⟨b, cl, r1.keep K, r2.keep K (by simp), ⟨K.2.1 _ _ r3.1 (by simp), r3.2⟩, r4, r5⟩
/-- an array of N places for that class; its first n places hold ad 0, ad 1 .. -/
def oFill (Z : State) (h : Heap) (b : Addr) (k : ClassId) (N : Int32) (ad : List Addr) (n : Nat) : Prop := ∃ c : Cell, Arr Z h b c (.object "org/provenote/core/xml/XmlElement") ∧ c.cls = k ∧ c.slots.size = N.toNatClampNeg ∧ ∀ i, i < n → c.slots[i]? = some (.ref (ad.getD i 0))
theorem oFill_ext {Z : State} {h h' : Heap} {b : Addr} {k : ClassId} {N : Int32} {ad : List Addr} {n : Nat} (E : Ext h h') (F : oFill Z h b k N ad n) : oFill Z h' b k N ad n := by
  obtain ⟨c, r1, r⟩ := F
  exact ⟨c, r1.ext E, r⟩
theorem oSt {p : Program} {l : Launch} {e : Env} {R : Room} {s : State} {m : MethodId} {args : Array Value} {below : List Frame} {meth : Method} {c : Code} {T : State} {locs : List Loc} {cells slots : Nat} {Z : State} {h h0 : Heap} {n0 n : Nat} {k : ClassId} {NN : Int32} {ad : List Addr}
    (X : Stand p l e R s m args below meth c T locs cells slots) (hx : p.tables.exec = Jvm.exec) (hZ : Z.Warmed39 s.vm) (eT : T.heap = h) {b : Addr} (A : oFill Z h b k NN ad n) (O : Ovr Z k "org/provenote/core/xml/XmlElement") (K : Keep h0 h []) (hb0 : h0.size ≤ b) (N : Fr n0 locs) (hb : n0 ≤ b) (j : Int32) (hj : ¬ j < 0 ∧ j < NN) (hjn : j.toNatClampNeg = n) {y : Addr} (hy : ad.getD n 0 = y) (E : Exa Z h y "org/provenote/core/xml/XmlElement")
    {g : JFrame} (hg : g.method = m) {rest : List Value} (hs : g.stack = .ref y :: .int j :: .ref b :: rest) (hd : decode c.code g.pc = .ok (.aastore, 1)) :
    ∃ T' h' locs', Stand p l e R s m args below meth c T' locs' cells slots ∧ T'.heap = h' ∧ oFill Z h' b k NN ad (n + 1) ∧ Keep h0 h' [] ∧ Fr n0 locs' ∧ Wr h h' b j.toNatClampNeg (.ref y) ∧ ∀ target, Steps p.tables e below (T'.setTop { g with pc := g.pc + 1, stack := rest }) target → Steps p.tables e below (T.setTop g) target := by
  obtain ⟨cl, Ar, q, S, H⟩ := A
  have hin := inb_of S hj
  obtain ⟨T', h', X', e', W', st⟩ := stR X hx hZ eT Ar hin rfl (Sto.ofV Ar q O (Ins.self E)) hg hs hd
  refine ⟨T', h', _, X', e', ⟨_, Ar.same W', q, by rw [sz_set]; exact S, fun i hi => ?_⟩, K.wr W' (Or.inr hb0), Fr.snoc X' N hb, W', st⟩
  have hlt : j.toNatClampNeg < cl.slots.size := Nat.lt_of_not_le fun r => hin (Or.inr r)
  rw [hjn] at hlt
  by_cases r : n = i
  · subst r
    rw [hy]
    simp [Cell.setSlot, hjn, hlt]
  · have := H i (by omega)
    simp [Cell.setSlot, hjn, Array.getElem?_setIfInBounds, r, this]
/-- the run ends; what it returns and leaves is as Q says -/
def oEndX (p : Program) (e : Env) (s : State) (below : List Frame) (T : State) (g : JFrame) (n0 : Nat) (cells slots : Nat) (Q : Option Value → Heap → Prop) : Prop :=
  ∃ t L v, Steps p.tables e below (T.setTop g) t ∧ t.status = .running ∧ Ended t below (.returned v) ∧ s.WarmedH t.vm ∧ s.sameButNew ({ t with vm := s.vm } : State) L cells slots ∧ Fr n0 L ∧ Q v t.heap
theorem oPreX {p : Program} {e : Env} {s : State} {below : List Frame} {T T' : State} {g g' : JFrame} {n0 : Nat} {cells slots : Nat} {Q : Option Value → Heap → Prop}
    (k : ∀ target, Steps p.tables e below (T'.setTop g') target → Steps p.tables e below (T.setTop g) target) (q : oEndX p e s below T' g' n0 cells slots Q) : oEndX p e s below T g n0 cells slots Q := by
  obtain ⟨t, L, v, hs, r⟩ := q
  exact ⟨t, L, v, k t hs, r⟩
theorem d9_0 : decode jdk_22_method_1_code 0 = .ok (.aload_n 0, 1) := by decide +kernel
theorem d9_1 : decode jdk_22_method_1_code 1 = .ok (.invokespecial 1, 3) := by decide +kernel
theorem d9_4 : decode jdk_22_method_1_code 4 = .ok (.return_, 1) := by decide +kernel
theorem pn_9 : plainName "java/util/AbstractCollection" = true := by first | (simp [plainName, overriddenIn]; done) | decide +kernel
theorem ef_9 (m : MethodId) (x0 : Addr) : entryFrame m #[(.ref x0)] 1 = mkF m 0 #[.val (.ref x0)] [] := by first | (simp [entryFrame, mkF, argsToLocals, Value.category]; done) | rfl
def Q9 (Z : State) (a1 : Addr) (h0 : Heap) (n0 : Nat) (v : Option Value) (h : Heap) (L : List Loc) : Prop := v = none ∧ Fr n0 L ∧ h = h0
set_option maxRecDepth 65536 in
set_option maxHeartbeats 40000000 in
theorem rm9 (l : Launch) (Z : State) (a0 : Array Value) (hw : ∀ d ∈ tables_1, d.before a0 Z = true) (ws : List Jvm.Cond) (a1 : Addr) (h0 : Heap) (n0 : Nat) (Z0 : n0 ≤ h0.size) :
    MetFree l (⟨"java/util/AbstractCollection", "<init>", "()V"⟩ : MethodName) (head1 (Jvm.Cond.code (⟨"java/util/AbstractCollection", "<init>", "()V"⟩ : MethodName) jdk_22_method_1_code 1 none :: ws) ({ frames := 1, cells := 0, slots := 0, locals := 12 } : Room)) (fun a U => a = #[(.ref a1)] ∧ Z.Warmed39 U.vm ∧ U.heap = h0) (fun _ _ _ _ _ => True) (fun _ U o U' => ∃ v L, o = .returned v ∧ Q9 Z a1 h0 n0 v U'.heap L ∧ FrameEnd U o U' L ({ frames := 1, cells := 0, slots := 0, locals := 12 } : Room).cells ({ frames := 1, cells := 0, slots := 0, locals := 12 } : Room).slots) := by
  refine MetFree.of_bodySF (plainFor_of_name pn_9) hisR ?_
  intro p e s m args below meth c s₁ Bd hml0 hP hK
  obtain ⟨rfl, hZ, hh⟩ := hP
  have hx := Bd.exec
  have hby := Bd.bytes
  have hml : c.maxLocals = 1 := hml0
  have hown : s.vm.findClass "java/util/AbstractCollection" = some m.cls := findClass_of_methodNamed Bd.named
  have hnm := (name_of_methodNamed Bd.named Bd.method).1
  have X0 : Stand p l e ({ frames := 1, cells := 0, slots := 0, locals := 12 } : Room) s m #[(.ref a1)] below meth c s₁ [] 0 0 := Stand.of_body Bd
  have e0 : s₁.heap = h0 := by rw [← hh, Bd.state]; rfl
  have N0 := Fr.nil n0
  have pre0 : ∀ t, Steps p.tables e below (s₁.setTop (mkF m 0 #[.val (.ref a1)] [])) t → Steps p.tables e below (s₁.setTop (entryFrame m #[(.ref a1)] 1)) t := fun t k => castTop (ef_9 m a1) k
  obtain ⟨T2, X2, e2, st2⟩ := initO X0 hx hZ hown (hw _ (List.mem_of_getElem? (i := 86) rfl)) (hw _ (List.mem_of_getElem? (i := 19) rfl)) (hw _ (List.mem_of_getElem? (i := 20) rfl)) e0 (g := (mkF m 1 #[.val (.ref a1)] [(.ref a1)])) rfl (by rw [hml]; rfl) rfl (hb hby d9_1) (by decide) (W := 0) (by show 2 * 0 + _ ≤ _; exact Nat.le_of_eq rfl) (by decide)
  obtain ⟨fs, hr, hrun, hended, hW, hsame⟩ := X2.leave (v := none) (fun _ => rfl)
  refine ⟨_, _, pre0 _ ?_, hrun, hended, _, _, rfl, ?_, ⟨_, rfl⟩, hW, hsame.mono (by decide) (by decide)⟩
  · show Steps p.tables e below (s₁.setTop (mkF m 0 #[.val (.ref a1)] [])) _
    refine XS.aloadN X0.here hx rfl (hb hby d9_0) rfl rfl ?_
    show Steps p.tables e below (s₁.setTop (mkF m 1 #[.val (.ref a1)] [(.ref a1)])) _
    refine st2 _ ?_
    show Steps p.tables e below (T2.setTop (mkF m 4 #[.val (.ref a1)] [])) _
    exact X2.returnOut hx Bd.returns (hb hby d9_4) hr
  · show Q9 Z a1 h0 n0 _ T2.heap _
    rw [e2]
    exact ⟨rfl, N0, rfl⟩
theorem d8_0 : decode jdk_39_method_1_code 0 = .ok (.aload_n 0, 1) := by decide +kernel
theorem d8_1 : decode jdk_39_method_1_code 1 = .ok (.invokespecial 1, 3) := by decide +kernel
theorem d8_4 : decode jdk_39_method_1_code 4 = .ok (.aload_n 0, 1) := by decide +kernel
theorem d8_5 : decode jdk_39_method_1_code 5 = .ok (.iconst 0, 1) := by decide +kernel
theorem d8_6 : decode jdk_39_method_1_code 6 = .ok (.putfield 7, 3) := by decide +kernel
theorem d8_9 : decode jdk_39_method_1_code 9 = .ok (.return_, 1) := by decide +kernel
theorem pn_8 : plainName "java/util/AbstractList" = true := by first | (simp [plainName, overriddenIn]; done) | decide +kernel
theorem pd_8_1 : parseMethodDescriptor "()V" = some ⟨[], none⟩ := by decide +kernel
theorem ef_8 (m : MethodId) (x0 : Addr) : entryFrame m #[(.ref x0)] 1 = mkF m 0 #[.val (.ref x0)] [] := by first | (simp [entryFrame, mkF, argsToLocals, Value.category]; done) | rfl
def Q8 (Z : State) (a1 : Addr) (u_modCount_a1 : Value) (h0 : Heap) (n0 : Nat) (v : Option Value) (h : Heap) (L : List Loc) : Prop := v = none ∧ Fr n0 L ∧ Wr h0 h a1 (Jvm.RoadKit.slotOf Z "java/util/AbstractList" "modCount" "I") (.int 0)
set_option maxRecDepth 65536 in
set_option maxHeartbeats 40000000 in
theorem rm8 (l : Launch) (Z : State) (a0 : Array Value) (hw : ∀ d ∈ tables_1, d.before a0 Z = true) (ws : List Jvm.Cond) (a1 : Addr) (u_modCount_a1 : Value) (h0 : Heap) (n0 : Nat) (Z0 : n0 ≤ h0.size) (E_a1 : Exa Z h0 a1 "org/provenote/core/xml/XmlElement$Elements") (F_modCount_a1 : Fld Z h0 a1 "java/util/AbstractList" "modCount" "I" u_modCount_a1) (g_a1 : n0 ≤ a1) :
    MetFree l (⟨"java/util/AbstractList", "<init>", "()V"⟩ : MethodName) (head1 (Jvm.Cond.code (⟨"java/util/AbstractList", "<init>", "()V"⟩ : MethodName) jdk_39_method_1_code 1 none :: ws) ({ frames := 2, cells := 0, slots := 0, locals := 24 } : Room)) (fun a U => a = #[(.ref a1)] ∧ Z.Warmed39 U.vm ∧ U.heap = h0) (fun _ _ _ _ _ => True) (fun _ U o U' => ∃ v L, o = .returned v ∧ Q8 Z a1 u_modCount_a1 h0 n0 v U'.heap L ∧ FrameEnd U o U' L ({ frames := 2, cells := 0, slots := 0, locals := 24 } : Room).cells ({ frames := 2, cells := 0, slots := 0, locals := 24 } : Room).slots) := by
  refine MetFree.of_bodySF (plainFor_of_name pn_8) hisR ?_
  intro p e s m args below meth c s₁ Bd hml0 hP hK
  obtain ⟨rfl, hZ, hh⟩ := hP
  have hx := Bd.exec
  have hby := Bd.bytes
  have hml : c.maxLocals = 1 := hml0
  have hown : s.vm.findClass "java/util/AbstractList" = some m.cls := findClass_of_methodNamed Bd.named
  have hnm := (name_of_methodNamed Bd.named Bd.method).1
  have X0 : Stand p l e ({ frames := 2, cells := 0, slots := 0, locals := 24 } : Room) s m #[(.ref a1)] below meth c s₁ [] 0 0 := Stand.of_body Bd
  have e0 : s₁.heap = h0 := by rw [← hh, Bd.state]; rfl
  have N0 := Fr.nil n0
  have pre0 : ∀ t, Steps p.tables e below (s₁.setTop (mkF m 0 #[.val (.ref a1)] [])) t → Steps p.tables e below (s₁.setTop (entryFrame m #[(.ref a1)] 1)) t := fun t k => castTop (ef_8 m a1) k
  obtain ⟨_, _, ⟨T2, L2, k2, n2⟩, -, X2, ⟨Lc2, hQ2, l2, y2, z2⟩, st2⟩ := X0.specialBack hx (y := (⟨"java/util/AbstractCollection", "<init>", "()V"⟩ : MethodName)) rfl hown (mvT hZ (hw _ (List.mem_of_getElem? (i := 80) rfl))) (mvT hZ (hw _ (List.mem_of_getElem? (i := 81) rfl))) (mvT hZ (hw _ (List.mem_of_getElem? (i := 85) rfl))) (by decide) (backOf (W := 0) (rm9 l Z a0 hw [] a1 h0 n0 Z0) hZ (hw _ (List.mem_of_getElem? (i := 85) rfl)) (hw _ (List.mem_of_getElem? (i := 84) rfl)) (by decide) (by decide)) (g := (mkF m 1 #[.val (.ref a1)] [(.ref a1)])) rfl (by rw [hml]; rfl) (Steps.refl _) (a := a1) (argsL := []) (rest := []) (lenOf pd_8_1 rfl) rfl (by show 2 * 0 + _ ≤ _; exact Nat.le_of_eq rfl) (hb hby d8_1) (fun _ _ => ⟨rfl, e0, (by decide : 0 + 0 ≤ _), (by decide : 0 + 0 ≤ _)⟩)
  dsimp only [Pt.U, Pt.locs, Pt.cells, Pt.slots] at X2 l2 y2 z2 st2 hQ2
  subst l2 y2 z2
  obtain ⟨rfl, N2q, e2⟩ := hQ2
  have N2 := Fr.app N0 N2q
  obtain ⟨T3, h3, X3, e3, W3, st3⟩ := putF X2 hx hZ hown (host := "") (Or.inl (hw _ (List.mem_of_getElem? (i := 87) rfl))) Via.refl e2 F_modCount_a1 E_a1 (Or.inl (hw _ (List.mem_of_getElem? (i := 88) rfl))) (hw _ (List.mem_of_getElem? (i := 71) rfl)) (ty := .int) (by decide) rfl rfl (g := (mkF m 6 #[.val (.ref a1)] [(.int (0 : Int32)), (.ref a1)])) rfl rfl (hb hby d8_6)
  have Fw3 := F_modCount_a1.same W3
  have K3 : Keep h0 h3 [a1] := (Keep.refl h0 [a1]).wr W3 (Or.inl (List.mem_of_getElem? (i := 0) rfl))
  have N3 := Fr.snoc X3 N2 g_a1
  obtain ⟨fs, hr, hrun, hended, hW, hsame⟩ := X3.leave (v := none) (fun _ => rfl)
  refine ⟨_, _, pre0 _ ?_, hrun, hended, _, _, rfl, ?_, ⟨_, rfl⟩, hW, hsame.mono (by decide) (by decide)⟩
  · show Steps p.tables e below (s₁.setTop (mkF m 0 #[.val (.ref a1)] [])) _
    refine XS.aloadN X0.here hx rfl (hb hby d8_0) rfl rfl ?_
    show Steps p.tables e below (s₁.setTop (mkF m 1 #[.val (.ref a1)] [(.ref a1)])) _
    refine st2.trans ?_
    show Steps p.tables e below (T2.setTop (mkF m 4 #[.val (.ref a1)] [])) _
    refine XS.aloadN X2.here hx rfl (hb hby d8_4) rfl rfl ?_
    show Steps p.tables e below (T2.setTop (mkF m 5 #[.val (.ref a1)] [(.ref a1)])) _
    refine XS.iconst X2.here hx rfl (hb hby d8_5) ?_
    show Steps p.tables e below (T2.setTop (mkF m 6 #[.val (.ref a1)] [(.int (0 : Int32)), (.ref a1)])) _
    refine st3 _ ?_
    show Steps p.tables e below (T3.setTop (mkF m 9 #[.val (.ref a1)] [])) _
    exact X3.returnOut hx Bd.returns (hb hby d8_9) hr
  · show Q8 Z a1 u_modCount_a1 h0 n0 _ T3.heap _
    rw [e3]
    exact ⟨rfl, N3, W3⟩
theorem d7_0 : decode prog_100_method_1_code 0 = .ok (.aload_n 0, 1) := by decide +kernel
theorem d7_1 : decode prog_100_method_1_code 1 = .ok (.invokespecial 1, 3) := by decide +kernel
theorem d7_4 : decode prog_100_method_1_code 4 = .ok (.aload_n 0, 1) := by decide +kernel
theorem d7_5 : decode prog_100_method_1_code 5 = .ok (.aload_n 1, 1) := by decide +kernel
theorem d7_6 : decode prog_100_method_1_code 6 = .ok (.putfield 7, 3) := by decide +kernel
theorem d7_9 : decode prog_100_method_1_code 9 = .ok (.return_, 1) := by decide +kernel
theorem pn_7 : plainName "org/provenote/core/xml/XmlElement$Elements" = true := by first | (simp [plainName, overriddenIn]; done) | decide +kernel
theorem pd_7_1 : parseMethodDescriptor "()V" = some ⟨[], none⟩ := by decide +kernel
theorem ef_7 (m : MethodId) (x0 : Addr) (x1 : Addr) : entryFrame m #[(.ref x0), (.ref x1)] 2 = mkF m 0 #[.val (.ref x0), .val (.ref x1)] [] := by first | (simp [entryFrame, mkF, argsToLocals, Value.category]; done) | rfl
def Q7 (Z : State) (a1 : Addr) (a2 : Addr) (u_elements_a1 : Value) (h0 : Heap) (n0 : Nat) (v : Option Value) (h : Heap) (L : List Loc) : Prop := v = none ∧ Fr n0 L ∧ Keep h0 h [a1] ∧ Exa Z h a1 "org/provenote/core/xml/XmlElement$Elements" ∧ Fld Z h a1 "org/provenote/core/xml/XmlElement$Elements" "elements" "[Lorg/provenote/core/xml/XmlElement;" (.ref a2)
set_option maxRecDepth 65536 in
set_option maxHeartbeats 40000000 in
theorem rm7 (l : Launch) (Z : State) (a0 : Array Value) (hw : ∀ d ∈ tables_1, d.before a0 Z = true) (ws : List Jvm.Cond) (a1 : Addr) (a2 : Addr) (u_elements_a1 : Value) (h0 : Heap) (n0 : Nat) (Z0 : n0 ≤ h0.size) (E_a1 : Exa Z h0 a1 "org/provenote/core/xml/XmlElement$Elements") (F_elements_a1 : Fld Z h0 a1 "org/provenote/core/xml/XmlElement$Elements" "elements" "[Lorg/provenote/core/xml/XmlElement;" u_elements_a1) (g_a1 : n0 ≤ a1) {u_modCount_a1 : Value} (F_modCount_a1 : Fld Z h0 a1 "java/util/AbstractList" "modCount" "I" u_modCount_a1) :
    MetFree l (⟨"org/provenote/core/xml/XmlElement$Elements", "<init>", "([Lorg/provenote/core/xml/XmlElement;)V"⟩ : MethodName) (head1 (Jvm.Cond.code (⟨"org/provenote/core/xml/XmlElement$Elements", "<init>", "([Lorg/provenote/core/xml/XmlElement;)V"⟩ : MethodName) prog_100_method_1_code 2 none :: ws) ({ frames := 3, cells := 0, slots := 0, locals := 36 } : Room)) (fun a U => a = #[(.ref a1), (.ref a2)] ∧ Z.Warmed39 U.vm ∧ U.heap = h0) (fun _ _ _ _ _ => True) (fun _ U o U' => ∃ v L, o = .returned v ∧ Q7 Z a1 a2 u_elements_a1 h0 n0 v U'.heap L ∧ FrameEnd U o U' L ({ frames := 3, cells := 0, slots := 0, locals := 36 } : Room).cells ({ frames := 3, cells := 0, slots := 0, locals := 36 } : Room).slots) := by
  refine MetFree.of_bodySF (plainFor_of_name pn_7) hisR ?_
  intro p e s m args below meth c s₁ Bd hml0 hP hK
  obtain ⟨rfl, hZ, hh⟩ := hP
  have hx := Bd.exec
  have hby := Bd.bytes
  have hml : c.maxLocals = 2 := hml0
  have hown : s.vm.findClass "org/provenote/core/xml/XmlElement$Elements" = some m.cls := findClass_of_methodNamed Bd.named
  have hnm := (name_of_methodNamed Bd.named Bd.method).1
  have X0 : Stand p l e ({ frames := 3, cells := 0, slots := 0, locals := 36 } : Room) s m #[(.ref a1), (.ref a2)] below meth c s₁ [] 0 0 := Stand.of_body Bd
  have e0 : s₁.heap = h0 := by rw [← hh, Bd.state]; rfl
  have N0 := Fr.nil n0
  have pre0 : ∀ t, Steps p.tables e below (s₁.setTop (mkF m 0 #[.val (.ref a1), .val (.ref a2)] [])) t → Steps p.tables e below (s₁.setTop (entryFrame m #[(.ref a1), (.ref a2)] 2)) t := fun t k => castTop (ef_7 m a1 a2) k
  obtain ⟨_, _, ⟨T3, L3, k3, n3⟩, -, X3, ⟨Lc3, hQ3, l3, y3, z3⟩, st3⟩ := X0.specialBack hx (y := (⟨"java/util/AbstractList", "<init>", "()V"⟩ : MethodName)) rfl hown (mvT hZ (hw _ (List.mem_of_getElem? (i := 75) rfl))) (mvT hZ (hw _ (List.mem_of_getElem? (i := 76) rfl))) (mvT hZ (hw _ (List.mem_of_getElem? (i := 79) rfl))) (by decide) (backOf (W := 0) (rm8 l Z a0 hw [] a1 _ h0 n0 Z0 E_a1 F_modCount_a1 g_a1) hZ (hw _ (List.mem_of_getElem? (i := 79) rfl)) (hw _ (List.mem_of_getElem? (i := 78) rfl)) (by decide) (by decide)) (g := (mkF m 1 #[.val (.ref a1), .val (.ref a2)] [(.ref a1)])) rfl (by rw [hml]; rfl) (Steps.refl _) (a := a1) (argsL := []) (rest := []) (lenOf pd_7_1 rfl) rfl (by show 2 * 0 + _ ≤ _; exact Nat.le_of_eq rfl) (hb hby d7_1) (fun _ _ => ⟨rfl, e0, (by decide : 0 + 0 ≤ _), (by decide : 0 + 0 ≤ _)⟩)
  dsimp only [Pt.U, Pt.locs, Pt.cells, Pt.slots] at X3 l3 y3 z3 st3 hQ3
  subst l3 y3 z3
  obtain ⟨rfl, N3q, W3⟩ := hQ3
  have N3 := Fr.app N0 N3q
  obtain ⟨T4, h4, X4, e4, W4, st4⟩ := putF X3 hx hZ hown (host := "") (Or.inl (hw _ (List.mem_of_getElem? (i := 58) rfl))) Via.refl rfl (F_elements_a1.other W3 (Or.inr (slot_ne (Or.inr (hw _ (List.mem_of_getElem? (i := 59) rfl))) (Or.inl (hw _ (List.mem_of_getElem? (i := 88) rfl))) (by decide) (t := (.array (.object "org/provenote/core/xml/XmlElement"))) (t' := .int) (by decide) (by decide)))) (E_a1.wr W3) (Or.inr ⟨(hw _ (List.mem_of_getElem? (i := 59) rfl)), rfl, hnm⟩) (hw _ (List.mem_of_getElem? (i := 71) rfl)) (ty := (.array (.object "org/provenote/core/xml/XmlElement"))) (by decide) rfl rfl (g := (mkF m 6 #[.val (.ref a1), .val (.ref a2)] [(.ref a2), (.ref a1)])) rfl rfl (hb hby d7_6)
  have Fw4 := (F_elements_a1.other W3 (Or.inr (slot_ne (Or.inr (hw _ (List.mem_of_getElem? (i := 59) rfl))) (Or.inl (hw _ (List.mem_of_getElem? (i := 88) rfl))) (by decide) (t := (.array (.object "org/provenote/core/xml/XmlElement"))) (t' := .int) (by decide) (by decide)))).same W4
  have K4 : Keep h0 h4 [a1] := ((Keep.refl h0 [a1]).wr W3 (Or.inl (List.mem_of_getElem? (i := 0) rfl))).wr W4 (Or.inl (List.mem_of_getElem? (i := 0) rfl))
  have N4 := Fr.snoc X4 N3 g_a1
  obtain ⟨fs, hr, hrun, hended, hW, hsame⟩ := X4.leave (v := none) (fun _ => rfl)
  refine ⟨_, _, pre0 _ ?_, hrun, hended, _, _, rfl, ?_, ⟨_, rfl⟩, hW, hsame.mono (by decide) (by decide)⟩
  · show Steps p.tables e below (s₁.setTop (mkF m 0 #[.val (.ref a1), .val (.ref a2)] [])) _
    refine XS.aloadN X0.here hx rfl (hb hby d7_0) rfl rfl ?_
    show Steps p.tables e below (s₁.setTop (mkF m 1 #[.val (.ref a1), .val (.ref a2)] [(.ref a1)])) _
    refine st3.trans ?_
    show Steps p.tables e below (T3.setTop (mkF m 4 #[.val (.ref a1), .val (.ref a2)] [])) _
    refine XS.aloadN X3.here hx rfl (hb hby d7_4) rfl rfl ?_
    show Steps p.tables e below (T3.setTop (mkF m 5 #[.val (.ref a1), .val (.ref a2)] [(.ref a1)])) _
    refine XS.aloadN X3.here hx rfl (hb hby d7_5) rfl rfl ?_
    show Steps p.tables e below (T3.setTop (mkF m 6 #[.val (.ref a1), .val (.ref a2)] [(.ref a2), (.ref a1)])) _
    refine st4 _ ?_
    show Steps p.tables e below (T4.setTop (mkF m 9 #[.val (.ref a1), .val (.ref a2)] [])) _
    exact X4.returnOut hx Bd.returns (hb hby d7_9) hr
  · show Q7 Z a1 a2 u_elements_a1 h0 n0 _ T4.heap _
    rw [e4]
    exact ⟨rfl, N4, K4, (E_a1.wr W3).wr W4, Fw4⟩
theorem d5_0 : decode prog_100_method_3_code 0 = .ok (.aload_n 0, 1) := by decide +kernel
theorem d5_1 : decode prog_100_method_3_code 1 = .ok (.getfield 7, 3) := by decide +kernel
theorem d5_4 : decode prog_100_method_3_code 4 = .ok (.arraylength, 1) := by decide +kernel
theorem d5_5 : decode prog_100_method_3_code 5 = .ok (.ireturn, 1) := by decide +kernel
theorem pn_5 : plainName "org/provenote/core/xml/XmlElement$Elements" = true := by first | (simp [plainName, overriddenIn]; done) | decide +kernel
theorem ef_5 (m : MethodId) (x0 : Addr) : entryFrame m #[(.ref x0)] 1 = mkF m 0 #[.val (.ref x0)] [] := by first | (simp [entryFrame, mkF, argsToLocals, Value.category]; done) | rfl
def Q5 (Z : State) (a1 : Addr) (w2 : Addr) (cl_w2 : Cell) (z_w2 : Int32) (h0 : Heap) (n0 : Nat) (v : Option Value) (h : Heap) (L : List Loc) : Prop := v = some (.int z_w2) ∧ Fr n0 L ∧ h = h0
set_option maxRecDepth 65536 in
set_option maxHeartbeats 40000000 in
theorem rm5 (l : Launch) (Z : State) (a0 : Array Value) (hw : ∀ d ∈ tables_1, d.before a0 Z = true) (ws : List Jvm.Cond) (a1 : Addr) (w2 : Addr) (cl_w2 : Cell) (z_w2 : Int32) (h0 : Heap) (n0 : Nat) (Z0 : n0 ≤ h0.size) (F_elements_a1 : Fld Z h0 a1 "org/provenote/core/xml/XmlElement$Elements" "elements" "[Lorg/provenote/core/xml/XmlElement;" (.ref w2)) (Ar_w2 : Arr Z h0 w2 cl_w2 (.object "org/provenote/core/xml/XmlElement")) (S_w2 : cl_w2.slots.size = z_w2.toNatClampNeg) (N_w2 : ¬ z_w2 < 0) :
    MetFree l (⟨"org/provenote/core/xml/XmlElement$Elements", "size", "()I"⟩ : MethodName) (head1 (Jvm.Cond.code (⟨"org/provenote/core/xml/XmlElement$Elements", "size", "()I"⟩ : MethodName) prog_100_method_3_code 1 (some .int) :: ws) ({ frames := 0, cells := 0, slots := 0, locals := 0 } : Room)) (fun a U => a = #[(.ref a1)] ∧ Z.Warmed39 U.vm ∧ U.heap = h0) (fun _ _ _ _ _ => True) (fun _ U o U' => ∃ v L, o = .returned v ∧ Q5 Z a1 w2 cl_w2 z_w2 h0 n0 v U'.heap L ∧ FrameEnd U o U' L ({ frames := 0, cells := 0, slots := 0, locals := 0 } : Room).cells ({ frames := 0, cells := 0, slots := 0, locals := 0 } : Room).slots) := by
  refine MetFree.of_bodySF (plainFor_of_name pn_5) hisR ?_
  intro p e s m args below meth c s₁ Bd hml0 hP hK
  obtain ⟨rfl, hZ, hh⟩ := hP
  have hx := Bd.exec
  have hby := Bd.bytes
  have hml : c.maxLocals = 1 := hml0
  have hown : s.vm.findClass "org/provenote/core/xml/XmlElement$Elements" = some m.cls := findClass_of_methodNamed Bd.named
  have hnm := (name_of_methodNamed Bd.named Bd.method).1
  have X0 : Stand p l e ({ frames := 0, cells := 0, slots := 0, locals := 0 } : Room) s m #[(.ref a1)] below meth c s₁ [] 0 0 := Stand.of_body Bd
  have e0 : s₁.heap = h0 := by rw [← hh, Bd.state]; rfl
  have N0 := Fr.nil n0
  have pre0 : ∀ t, Steps p.tables e below (s₁.setTop (mkF m 0 #[.val (.ref a1)] [])) t → Steps p.tables e below (s₁.setTop (entryFrame m #[(.ref a1)] 1)) t := fun t k => castTop (ef_5 m a1) k
  obtain ⟨T3, X3, e3, st3⟩ := getF X0 hx hZ hown (host := "") (Or.inl (hw _ (List.mem_of_getElem? (i := 58) rfl))) Via.refl e0 F_elements_a1 (g := (mkF m 1 #[.val (.ref a1)] [(.ref a1)])) rfl rfl (hb hby d5_1)
  obtain ⟨fs, hr, hrun, hended, hW, hsame⟩ := X3.leave (v := some (.int z_w2)) (fun h => by rw [Bd.returns] at h; cases h)
  refine ⟨_, _, pre0 _ ?_, hrun, hended, _, _, rfl, ?_, ⟨_, rfl⟩, hW, hsame.mono (by decide) (by decide)⟩
  · show Steps p.tables e below (s₁.setTop (mkF m 0 #[.val (.ref a1)] [])) _
    refine XS.aloadN X0.here hx rfl (hb hby d5_0) rfl rfl ?_
    show Steps p.tables e below (s₁.setTop (mkF m 1 #[.val (.ref a1)] [(.ref a1)])) _
    refine st3 _ ?_
    show Steps p.tables e below (T3.setTop (mkF m 4 #[.val (.ref a1)] [(.ref w2)])) _
    refine X3.arraylength hx (by rw [e3]; exact Ar_w2.1) (State.isArrayOf_alike hZ.alike Ar_w2.2.1) (g := (mkF m 4 #[.val (.ref a1)] [(.ref w2)])) rfl rfl (hb hby d5_4) _ ?_
    rw [len_of S_w2 N_w2]
    show Steps p.tables e below (T3.setTop (mkF m 5 #[.val (.ref a1)] [(.int z_w2)])) _
    exact retI X3 hx Bd.returns (hb hby d5_5) hr
  · show Q5 Z a1 w2 cl_w2 z_w2 h0 n0 _ T3.heap _
    rw [e3]
    exact ⟨rfl, N0, rfl⟩
theorem d11_0 : decode prog_100_method_2_code 0 = .ok (.aload_n 0, 1) := by decide +kernel
theorem d11_1 : decode prog_100_method_2_code 1 = .ok (.getfield 7, 3) := by decide +kernel
theorem d11_4 : decode prog_100_method_2_code 4 = .ok (.iload_n 1, 1) := by decide +kernel
theorem d11_5 : decode prog_100_method_2_code 5 = .ok (.aaload, 1) := by decide +kernel
theorem d11_6 : decode prog_100_method_2_code 6 = .ok (.areturn, 1) := by decide +kernel
theorem pn_11 : plainName "org/provenote/core/xml/XmlElement$Elements" = true := by first | (simp [plainName, overriddenIn]; done) | decide +kernel
theorem ef_11 (m : MethodId) (x0 : Addr) (x1 : Int32) : entryFrame m #[(.ref x0), (.int x1)] 2 = mkF m 0 #[.val (.ref x0), .val (.int x1)] [] := by first | (simp [entryFrame, mkF, argsToLocals, Value.category]; done) | rfl
def Q11 (Z : State) (a1 : Addr) (p2 : Int32) (w3 : Addr) (w5 : Addr) (cl_w3 : Cell) (h0 : Heap) (n0 : Nat) (v : Option Value) (h : Heap) (L : List Loc) : Prop := v = some (.ref w5) ∧ Fr n0 L ∧ h = h0
set_option maxRecDepth 65536 in
set_option maxHeartbeats 40000000 in
theorem rm11 (l : Launch) (Z : State) (a0 : Array Value) (hw : ∀ d ∈ tables_1, d.before a0 Z = true) (ws : List Jvm.Cond) (a1 : Addr) (p2 : Int32) (w3 : Addr) (w5 : Addr) (cl_w3 : Cell) (h0 : Heap) (n0 : Nat) (Z0 : n0 ≤ h0.size) (F_elements_a1 : Fld Z h0 a1 "org/provenote/core/xml/XmlElement$Elements" "elements" "[Lorg/provenote/core/xml/XmlElement;" (.ref w3)) (Ar_w3 : Arr Z h0 w3 cl_w3 (.object "org/provenote/core/xml/XmlElement")) (hin5 : ¬ (p2 < 0 ∨ cl_w3.slots.size ≤ (p2).toNatClampNeg)) (hat5 : cl_w3.slots[(p2).toNatClampNeg]? = some (.ref w5)) :
    MetFree l (⟨"org/provenote/core/xml/XmlElement$Elements", "get", "(I)Lorg/provenote/core/xml/XmlElement;"⟩ : MethodName) (head1 (Jvm.Cond.code (⟨"org/provenote/core/xml/XmlElement$Elements", "get", "(I)Lorg/provenote/core/xml/XmlElement;"⟩ : MethodName) prog_100_method_2_code 2 (some (.object "org/provenote/core/xml/XmlElement")) :: ws) ({ frames := 0, cells := 0, slots := 0, locals := 0 } : Room)) (fun a U => a = #[(.ref a1), (.int p2)] ∧ Z.Warmed39 U.vm ∧ U.heap = h0) (fun _ _ _ _ _ => True) (fun _ U o U' => ∃ v L, o = .returned v ∧ Q11 Z a1 p2 w3 w5 cl_w3 h0 n0 v U'.heap L ∧ FrameEnd U o U' L ({ frames := 0, cells := 0, slots := 0, locals := 0 } : Room).cells ({ frames := 0, cells := 0, slots := 0, locals := 0 } : Room).slots) := by
  refine MetFree.of_bodySF (plainFor_of_name pn_11) hisR ?_
  intro p e s m args below meth c s₁ Bd hml0 hP hK
  obtain ⟨rfl, hZ, hh⟩ := hP
  have hx := Bd.exec
  have hby := Bd.bytes
  have hml : c.maxLocals = 2 := hml0
  have hown : s.vm.findClass "org/provenote/core/xml/XmlElement$Elements" = some m.cls := findClass_of_methodNamed Bd.named
  have hnm := (name_of_methodNamed Bd.named Bd.method).1
  have X0 : Stand p l e ({ frames := 0, cells := 0, slots := 0, locals := 0 } : Room) s m #[(.ref a1), (.int p2)] below meth c s₁ [] 0 0 := Stand.of_body Bd
  have e0 : s₁.heap = h0 := by rw [← hh, Bd.state]; rfl
  have N0 := Fr.nil n0
  have pre0 : ∀ t, Steps p.tables e below (s₁.setTop (mkF m 0 #[.val (.ref a1), .val (.int p2)] [])) t → Steps p.tables e below (s₁.setTop (entryFrame m #[(.ref a1), (.int p2)] 2)) t := fun t k => castTop (ef_11 m a1 p2) k
  obtain ⟨T4, X4, e4, st4⟩ := getF X0 hx hZ hown (host := "") (Or.inl (hw _ (List.mem_of_getElem? (i := 58) rfl))) Via.refl e0 F_elements_a1 (g := (mkF m 1 #[.val (.ref a1), .val (.int p2)] [(.ref a1)])) rfl rfl (hb hby d11_1)
  obtain ⟨fs, hr, hrun, hended, hW, hsame⟩ := X4.leave (v := some (.ref w5)) (fun h => by rw [Bd.returns] at h; cases h)
  refine ⟨_, _, pre0 _ ?_, hrun, hended, _, _, rfl, ?_, ⟨_, rfl⟩, hW, hsame.mono (by decide) (by decide)⟩
  · show Steps p.tables e below (s₁.setTop (mkF m 0 #[.val (.ref a1), .val (.int p2)] [])) _
    refine XS.aloadN X0.here hx rfl (hb hby d11_0) rfl rfl ?_
    show Steps p.tables e below (s₁.setTop (mkF m 1 #[.val (.ref a1), .val (.int p2)] [(.ref a1)])) _
    refine st4 _ ?_
    show Steps p.tables e below (T4.setTop (mkF m 4 #[.val (.ref a1), .val (.int p2)] [(.ref w3)])) _
    refine XS.iloadN X4.here hx rfl (hb hby d11_4) rfl ?_
    show Steps p.tables e below (T4.setTop (mkF m 5 #[.val (.ref a1), .val (.int p2)] [(.int p2), (.ref w3)])) _
    refine X4.aaload hx (j := p2) (v := (.ref w5)) (by rw [e4]; exact Ar_w3.1) (State.isArrayOf_alike hZ.alike Ar_w3.2.1) rfl Ar_w3.2.2 hin5 hat5 (g := (mkF m 5 #[.val (.ref a1), .val (.int p2)] [(.int p2), (.ref w3)])) rfl rfl (hb hby d11_5) _ ?_
    show Steps p.tables e below (T4.setTop (mkF m 6 #[.val (.ref a1), .val (.int p2)] [(.ref w5)])) _
    jvm_step X4.here [X4.here.top, hx, (hb hby d11_6), X4.method', Bd.returns, Value.isRef, FieldType.isReference]
    first | (intro acts; rw [hr _ acts rfl rfl rfl]) | rw [hr _ _ rfl rfl rfl]
    exact Steps.refl _
  · show Q11 Z a1 p2 w3 w5 cl_w3 h0 n0 _ T4.heap _
    rw [e4]
    exact ⟨rfl, N0, rfl⟩
theorem d10_0 : decode prog_100_method_4_code 0 = .ok (.aload_n 0, 1) := by decide +kernel
theorem d10_1 : decode prog_100_method_4_code 1 = .ok (.iload_n 1, 1) := by decide +kernel
theorem d10_2 : decode prog_100_method_4_code 2 = .ok (.invokevirtual 13, 3) := by decide +kernel
theorem d10_5 : decode prog_100_method_4_code 5 = .ok (.areturn, 1) := by decide +kernel
theorem pn_10 : plainName "org/provenote/core/xml/XmlElement$Elements" = true := by first | (simp [plainName, overriddenIn]; done) | decide +kernel
theorem pd_10_8 : parseMethodDescriptor "(I)Lorg/provenote/core/xml/XmlElement;" = some ⟨[.int], some (.object "org/provenote/core/xml/XmlElement")⟩ := by decide +kernel
theorem ef_10 (m : MethodId) (x0 : Addr) (x1 : Int32) : entryFrame m #[(.ref x0), (.int x1)] 2 = mkF m 0 #[.val (.ref x0), .val (.int x1)] [] := by first | (simp [entryFrame, mkF, argsToLocals, Value.category]; done) | rfl
def Q10 (Z : State) (a1 : Addr) (p2 : Int32) (w5 : Addr) (h0 : Heap) (n0 : Nat) (v : Option Value) (h : Heap) (L : List Loc) : Prop := v = some (.ref w5) ∧ Fr n0 L ∧ h = h0
set_option maxRecDepth 65536 in
set_option maxHeartbeats 40000000 in
theorem rm10 (l : Launch) (Z : State) (a0 : Array Value) (hw : ∀ d ∈ tables_1, d.before a0 Z = true) (ws : List Jvm.Cond) (a1 : Addr) (p2 : Int32) (w3 : Addr) (w5 : Addr) (cl_w3 : Cell) (h0 : Heap) (n0 : Nat) (Z0 : n0 ≤ h0.size) (E_a1 : Exa Z h0 a1 "org/provenote/core/xml/XmlElement$Elements") (F_elements_a1 : Fld Z h0 a1 "org/provenote/core/xml/XmlElement$Elements" "elements" "[Lorg/provenote/core/xml/XmlElement;" (.ref w3)) (Ar_w3 : Arr Z h0 w3 cl_w3 (.object "org/provenote/core/xml/XmlElement")) (hin5 : ¬ (p2 < 0 ∨ cl_w3.slots.size ≤ (p2).toNatClampNeg)) (hat5 : cl_w3.slots[(p2).toNatClampNeg]? = some (.ref w5)) :
    MetFree l (⟨"org/provenote/core/xml/XmlElement$Elements", "get", "(I)Ljava/lang/Object;"⟩ : MethodName) (head1 (Jvm.Cond.code (⟨"org/provenote/core/xml/XmlElement$Elements", "get", "(I)Ljava/lang/Object;"⟩ : MethodName) prog_100_method_4_code 2 (some (.object "java/lang/Object")) :: ws) ({ frames := 1, cells := 0, slots := 0, locals := 13 } : Room)) (fun a U => a = #[(.ref a1), (.int p2)] ∧ Z.Warmed39 U.vm ∧ U.heap = h0) (fun _ _ _ _ _ => True) (fun _ U o U' => ∃ v L, o = .returned v ∧ Q10 Z a1 p2 w5 h0 n0 v U'.heap L ∧ FrameEnd U o U' L ({ frames := 1, cells := 0, slots := 0, locals := 13 } : Room).cells ({ frames := 1, cells := 0, slots := 0, locals := 13 } : Room).slots) := by
  refine MetFree.of_bodySF (plainFor_of_name pn_10) hisR ?_
  intro p e s m args below meth c s₁ Bd hml0 hP hK
  obtain ⟨rfl, hZ, hh⟩ := hP
  have hx := Bd.exec
  have hby := Bd.bytes
  have hml : c.maxLocals = 2 := hml0
  have hown : s.vm.findClass "org/provenote/core/xml/XmlElement$Elements" = some m.cls := findClass_of_methodNamed Bd.named
  have hnm := (name_of_methodNamed Bd.named Bd.method).1
  have X0 : Stand p l e ({ frames := 1, cells := 0, slots := 0, locals := 13 } : Room) s m #[(.ref a1), (.int p2)] below meth c s₁ [] 0 0 := Stand.of_body Bd
  have e0 : s₁.heap = h0 := by rw [← hh, Bd.state]; rfl
  have N0 := Fr.nil n0
  have pre0 : ∀ t, Steps p.tables e below (s₁.setTop (mkF m 0 #[.val (.ref a1), .val (.int p2)] [])) t → Steps p.tables e below (s₁.setTop (entryFrame m #[(.ref a1), (.int p2)] 2)) t := fun t k => castTop (ef_10 m a1 p2) k
  obtain ⟨cq3, kq3, q3a, q3b, q3c⟩ := isOf hZ e0 E_a1
  obtain ⟨_, _, ⟨T3, L3, k3, n3⟩, -, X3, ⟨Lc3, hQ3, l3, y3, z3⟩, st3⟩ := X0.virtualBack hx (y := (⟨"org/provenote/core/xml/XmlElement$Elements", "get", "(I)Lorg/provenote/core/xml/XmlElement;"⟩ : MethodName)) (z := (⟨"org/provenote/core/xml/XmlElement$Elements", "get", "(I)Lorg/provenote/core/xml/XmlElement;"⟩ : MethodName)) hown (mvT hZ (hw _ (List.mem_of_getElem? (i := 97) rfl))) (mvT hZ (hw _ (List.mem_of_getElem? (i := 98) rfl))) (notFace_of_selects (args := #[]) (mvT hZ (hw _ (List.mem_of_getElem? (i := 100) rfl)))) (mvT hZ (hw _ (List.mem_of_getElem? (i := 100) rfl))) (mvT hZ (hw _ (List.mem_of_getElem? (i := 99) rfl))) (by decide) (backOf (W := 0) (rm11 l Z a0 hw [] a1 p2 w3 w5 cl_w3 h0 n0 Z0 F_elements_a1 Ar_w3 hin5 hat5) hZ (hw _ (List.mem_of_getElem? (i := 101) rfl)) (hw _ (List.mem_of_getElem? (i := 56) rfl)) (by decide) (by decide)) q3a q3c (g := (mkF m 2 #[.val (.ref a1), .val (.int p2)] [(.int p2), (.ref a1)])) rfl (by rw [hml]; rfl) (Steps.refl _) (argsL := [(.int p2)]) (rest := []) (lenOf pd_10_8 rfl) rfl (by show 2 * 0 + _ ≤ _; exact Nat.le_of_eq rfl) (hb hby d10_2) (fun _ _ => ⟨rfl, e0, (by decide : 0 + 0 ≤ _), (by decide : 0 + 0 ≤ _)⟩)
  dsimp only [Pt.U, Pt.locs, Pt.cells, Pt.slots] at X3 l3 y3 z3 st3 hQ3
  subst l3 y3 z3
  obtain ⟨rfl, N3q, e3⟩ := hQ3
  have N3 := Fr.app N0 N3q
  obtain ⟨fs, hr, hrun, hended, hW, hsame⟩ := X3.leave (v := some (.ref w5)) (fun h => by rw [Bd.returns] at h; cases h)
  refine ⟨_, _, pre0 _ ?_, hrun, hended, _, _, rfl, ?_, ⟨_, rfl⟩, hW, hsame.mono (by decide) (by decide)⟩
  · show Steps p.tables e below (s₁.setTop (mkF m 0 #[.val (.ref a1), .val (.int p2)] [])) _
    refine XS.aloadN X0.here hx rfl (hb hby d10_0) rfl rfl ?_
    show Steps p.tables e below (s₁.setTop (mkF m 1 #[.val (.ref a1), .val (.int p2)] [(.ref a1)])) _
    refine XS.iloadN X0.here hx rfl (hb hby d10_1) rfl ?_
    show Steps p.tables e below (s₁.setTop (mkF m 2 #[.val (.ref a1), .val (.int p2)] [(.int p2), (.ref a1)])) _
    refine st3.trans ?_
    show Steps p.tables e below (T3.setTop (mkF m 5 #[.val (.ref a1), .val (.int p2)] [(.ref w5)])) _
    jvm_step X3.here [X3.here.top, hx, (hb hby d10_5), X3.method', Bd.returns, Value.isRef, FieldType.isReference]
    first | (intro acts; rw [hr _ acts rfl rfl rfl]) | rw [hr _ _ rfl rfl rfl]
    exact Steps.refl _
  · show Q10 Z a1 p2 w5 h0 n0 _ T3.heap _
    exact ⟨rfl, N3, e3⟩
theorem d6_0 : decode prog_99_method_17_code 0 = .ok (.aload_n 2, 1) := by decide +kernel
theorem d6_1 : decode prog_99_method_17_code 1 = .ok (.ifnonnull 11, 3) := by decide +kernel
theorem d6_12 : decode prog_99_method_17_code 12 = .ok (.aload_n 2, 1) := by decide +kernel
theorem d6_13 : decode prog_99_method_17_code 13 = .ok (.aload_n 1, 1) := by decide +kernel
theorem d6_14 : decode prog_99_method_17_code 14 = .ok (.putfield 71, 3) := by decide +kernel
theorem d6_17 : decode prog_99_method_17_code 17 = .ok (.return_, 1) := by decide +kernel
theorem pn_6 : plainName "org/provenote/core/xml/XmlElement" = true := by first | (simp [plainName, overriddenIn]; done) | decide +kernel
theorem ef_6 (m : MethodId) (x0 : Addr) (x1 : Addr) (x2 : Addr) : entryFrame m #[(.ref x0), (.ref x1), (.ref x2)] 3 = mkF m 0 #[.val (.ref x0), .val (.ref x1), .val (.ref x2)] [] := by first | (simp [entryFrame, mkF, argsToLocals, Value.category]; done) | rfl
def Q6 (Z : State) (a1 : Addr) (a2 : Addr) (a3 : Addr) (u_nextSibling_a3 : Value) (h0 : Heap) (n0 : Nat) (v : Option Value) (h : Heap) (L : List Loc) : Prop := v = none ∧ Fr n0 L ∧ Wr h0 h a3 (Jvm.RoadKit.slotOf Z "org/provenote/core/xml/XmlElement" "nextSibling" "Lorg/provenote/core/xml/XmlElement;") (.ref a2)
set_option maxRecDepth 65536 in
set_option maxHeartbeats 40000000 in
theorem rm6 (l : Launch) (Z : State) (a0 : Array Value) (hw : ∀ d ∈ tables_1, d.before a0 Z = true) (ws : List Jvm.Cond) (a1 : Addr) (a2 : Addr) (a3 : Addr) (u_nextSibling_a3 : Value) (h0 : Heap) (n0 : Nat) (Z0 : n0 ≤ h0.size) (E_a3 : Exa Z h0 a3 "org/provenote/core/xml/XmlElement") (F_nextSibling_a3 : Fld Z h0 a3 "org/provenote/core/xml/XmlElement" "nextSibling" "Lorg/provenote/core/xml/XmlElement;" u_nextSibling_a3) (g_a3 : n0 ≤ a3) :
    MetFree l (⟨"org/provenote/core/xml/XmlElement", "add", "(Lorg/provenote/core/xml/XmlElement;Lorg/provenote/core/xml/XmlElement;)V"⟩ : MethodName) (head1 (Jvm.Cond.code (⟨"org/provenote/core/xml/XmlElement", "add", "(Lorg/provenote/core/xml/XmlElement;Lorg/provenote/core/xml/XmlElement;)V"⟩ : MethodName) prog_99_method_17_code 3 none :: ws) ({ frames := 0, cells := 0, slots := 0, locals := 0 } : Room)) (fun a U => a = #[(.ref a1), (.ref a2), (.ref a3)] ∧ Z.Warmed39 U.vm ∧ U.heap = h0) (fun _ _ _ _ _ => True) (fun _ U o U' => ∃ v L, o = .returned v ∧ Q6 Z a1 a2 a3 u_nextSibling_a3 h0 n0 v U'.heap L ∧ FrameEnd U o U' L ({ frames := 0, cells := 0, slots := 0, locals := 0 } : Room).cells ({ frames := 0, cells := 0, slots := 0, locals := 0 } : Room).slots) := by
  refine MetFree.of_bodySF (plainFor_of_name pn_6) hisR ?_
  intro p e s m args below meth c s₁ Bd hml0 hP hK
  obtain ⟨rfl, hZ, hh⟩ := hP
  have hx := Bd.exec
  have hby := Bd.bytes
  have hml : c.maxLocals = 3 := hml0
  have hown : s.vm.findClass "org/provenote/core/xml/XmlElement" = some m.cls := findClass_of_methodNamed Bd.named
  have hnm := (name_of_methodNamed Bd.named Bd.method).1
  have X0 : Stand p l e ({ frames := 0, cells := 0, slots := 0, locals := 0 } : Room) s m #[(.ref a1), (.ref a2), (.ref a3)] below meth c s₁ [] 0 0 := Stand.of_body Bd
  have e0 : s₁.heap = h0 := by rw [← hh, Bd.state]; rfl
  have N0 := Fr.nil n0
  have pre0 : ∀ t, Steps p.tables e below (s₁.setTop (mkF m 0 #[.val (.ref a1), .val (.ref a2), .val (.ref a3)] [])) t → Steps p.tables e below (s₁.setTop (entryFrame m #[(.ref a1), (.ref a2), (.ref a3)] 3)) t := fun t k => castTop (ef_6 m a1 a2 a3) k
  obtain ⟨T4, h4, X4, e4, W4, st4⟩ := putF X0 hx hZ hown (host := "") (Or.inl (hw _ (List.mem_of_getElem? (i := 65) rfl))) Via.refl e0 F_nextSibling_a3 E_a3 (Or.inl (hw _ (List.mem_of_getElem? (i := 66) rfl))) (hw _ (List.mem_of_getElem? (i := 1) rfl)) (ty := (.object "org/provenote/core/xml/XmlElement")) (by decide) rfl rfl (g := (mkF m 14 #[.val (.ref a1), .val (.ref a2), .val (.ref a3)] [(.ref a2), (.ref a3)])) rfl rfl (hb hby d6_14)
  have Fw4 := F_nextSibling_a3.same W4
  have K4 : Keep h0 h4 [a3] := (Keep.refl h0 [a3]).wr W4 (Or.inl (List.mem_of_getElem? (i := 0) rfl))
  have N4 := Fr.snoc X4 N0 g_a3
  obtain ⟨fs, hr, hrun, hended, hW, hsame⟩ := X4.leave (v := none) (fun _ => rfl)
  refine ⟨_, _, pre0 _ ?_, hrun, hended, _, _, rfl, ?_, ⟨_, rfl⟩, hW, hsame.mono (by decide) (by decide)⟩
  · show Steps p.tables e below (s₁.setTop (mkF m 0 #[.val (.ref a1), .val (.ref a2), .val (.ref a3)] [])) _
    refine XS.aloadN X0.here hx rfl (hb hby d6_0) rfl rfl ?_
    show Steps p.tables e below (s₁.setTop (mkF m 1 #[.val (.ref a1), .val (.ref a2), .val (.ref a3)] [(.ref a3)])) _
    refine XS.ifnonnullYes X0.here hx rfl (pc0 := 1) (pc' := 12) rfl (hb hby d6_1) rfl (by decide) (by decide) ?_
    show Steps p.tables e below (s₁.setTop (mkF m 12 #[.val (.ref a1), .val (.ref a2), .val (.ref a3)] [])) _
    refine XS.aloadN X0.here hx rfl (hb hby d6_12) rfl rfl ?_
    show Steps p.tables e below (s₁.setTop (mkF m 13 #[.val (.ref a1), .val (.ref a2), .val (.ref a3)] [(.ref a3)])) _
    refine XS.aloadN X0.here hx rfl (hb hby d6_13) rfl rfl ?_
    show Steps p.tables e below (s₁.setTop (mkF m 14 #[.val (.ref a1), .val (.ref a2), .val (.ref a3)] [(.ref a2), (.ref a3)])) _
    refine st4 _ ?_
    show Steps p.tables e below (T4.setTop (mkF m 17 #[.val (.ref a1), .val (.ref a2), .val (.ref a3)] [])) _
    exact X4.returnOut hx Bd.returns (hb hby d6_17) hr
  · show Q6 Z a1 a2 a3 u_nextSibling_a3 h0 n0 _ T4.heap _
    rw [e4]
    exact ⟨rfl, N4, W4⟩
theorem d6_4 : decode prog_99_method_17_code 4 = .ok (.aload_n 0, 1) := by decide +kernel
theorem d6_5 : decode prog_99_method_17_code 5 = .ok (.aload_n 1, 1) := by decide +kernel
theorem d6_6 : decode prog_99_method_17_code 6 = .ok (.putfield 63, 3) := by decide +kernel
theorem d6_9 : decode prog_99_method_17_code 9 = .ok (.goto 8, 3) := by decide +kernel
theorem ef_6n (m : MethodId) (x0 : Addr) (x1 : Addr) : entryFrame m #[(.ref x0), (.ref x1), .null] 3 = mkF m 0 #[.val (.ref x0), .val (.ref x1), .val .null] [] := by first | (simp [entryFrame, mkF, argsToLocals, Value.category]; done) | rfl
def Q6n (Z : State) (a1 : Addr) (a2 : Addr) (u_firstChild_a1 : Value) (h0 : Heap) (n0 : Nat) (v : Option Value) (h : Heap) (L : List Loc) : Prop := v = none ∧ Fr n0 L ∧ Wr h0 h a1 (Jvm.RoadKit.slotOf Z "org/provenote/core/xml/XmlElement" "firstChild" "Lorg/provenote/core/xml/XmlElement;") (.ref a2)
set_option maxRecDepth 65536 in
set_option maxHeartbeats 40000000 in
theorem rm6n (l : Launch) (Z : State) (a0 : Array Value) (hw : ∀ d ∈ tables_1, d.before a0 Z = true) (ws : List Jvm.Cond) (a1 : Addr) (a2 : Addr) (u_firstChild_a1 : Value) (h0 : Heap) (n0 : Nat) (Z0 : n0 ≤ h0.size) (E_a1 : Exa Z h0 a1 "org/provenote/core/xml/XmlElement") (F_firstChild_a1 : Fld Z h0 a1 "org/provenote/core/xml/XmlElement" "firstChild" "Lorg/provenote/core/xml/XmlElement;" u_firstChild_a1) (g_a1 : n0 ≤ a1) :
    MetFree l (⟨"org/provenote/core/xml/XmlElement", "add", "(Lorg/provenote/core/xml/XmlElement;Lorg/provenote/core/xml/XmlElement;)V"⟩ : MethodName) (head1 (Jvm.Cond.code (⟨"org/provenote/core/xml/XmlElement", "add", "(Lorg/provenote/core/xml/XmlElement;Lorg/provenote/core/xml/XmlElement;)V"⟩ : MethodName) prog_99_method_17_code 3 none :: ws) ({ frames := 0, cells := 0, slots := 0, locals := 0 } : Room)) (fun a U => a = #[(.ref a1), (.ref a2), .null] ∧ Z.Warmed39 U.vm ∧ U.heap = h0) (fun _ _ _ _ _ => True) (fun _ U o U' => ∃ v L, o = .returned v ∧ Q6n Z a1 a2 u_firstChild_a1 h0 n0 v U'.heap L ∧ FrameEnd U o U' L ({ frames := 0, cells := 0, slots := 0, locals := 0 } : Room).cells ({ frames := 0, cells := 0, slots := 0, locals := 0 } : Room).slots) := by
  refine MetFree.of_bodySF (plainFor_of_name pn_6) hisR ?_
  intro p e s m args below meth c s₁ Bd hml0 hP hK
  obtain ⟨rfl, hZ, hh⟩ := hP
  have hx := Bd.exec
  have hby := Bd.bytes
  have hml : c.maxLocals = 3 := hml0
  have hown : s.vm.findClass "org/provenote/core/xml/XmlElement" = some m.cls := findClass_of_methodNamed Bd.named
  have hnm := (name_of_methodNamed Bd.named Bd.method).1
  have X0 : Stand p l e ({ frames := 0, cells := 0, slots := 0, locals := 0 } : Room) s m #[(.ref a1), (.ref a2), .null] below meth c s₁ [] 0 0 := Stand.of_body Bd
  have e0 : s₁.heap = h0 := by rw [← hh, Bd.state]; rfl
  have N0 := Fr.nil n0
  have pre0 : ∀ t, Steps p.tables e below (s₁.setTop (mkF m 0 #[.val (.ref a1), .val (.ref a2), .val .null] [])) t → Steps p.tables e below (s₁.setTop (entryFrame m #[(.ref a1), (.ref a2), .null] 3)) t := fun t k => castTop (ef_6n m a1 a2) k
  obtain ⟨T3, h3, X3, e3, W3, st3⟩ := putF X0 hx hZ hown (host := "") (Or.inl (hw _ (List.mem_of_getElem? (i := 44) rfl))) Via.refl e0 F_firstChild_a1 E_a1 (Or.inl (hw _ (List.mem_of_getElem? (i := 45) rfl))) (hw _ (List.mem_of_getElem? (i := 1) rfl)) (ty := (.object "org/provenote/core/xml/XmlElement")) (by decide) rfl rfl (g := (mkF m 6 #[.val (.ref a1), .val (.ref a2), .val .null] [(.ref a2), (.ref a1)])) rfl rfl (hb hby d6_6)
  have Fw3 := F_firstChild_a1.same W3
  have K3 : Keep h0 h3 [a1] := (Keep.refl h0 [a1]).wr W3 (Or.inl (List.mem_of_getElem? (i := 0) rfl))
  have N3 := Fr.snoc X3 N0 g_a1
  obtain ⟨fs, hr, hrun, hended, hW, hsame⟩ := X3.leave (v := none) (fun _ => rfl)
  refine ⟨_, _, pre0 _ ?_, hrun, hended, _, _, rfl, ?_, ⟨_, rfl⟩, hW, hsame.mono (by decide) (by decide)⟩
  · show Steps p.tables e below (s₁.setTop (mkF m 0 #[.val (.ref a1), .val (.ref a2), .val .null] [])) _
    refine XS.aloadN X0.here hx rfl (hb hby d6_0) rfl rfl ?_
    show Steps p.tables e below (s₁.setTop (mkF m 1 #[.val (.ref a1), .val (.ref a2), .val .null] [.null])) _
    refine XS.ifnonnullNo X0.here hx rfl (hb hby d6_1) rfl ?_
    show Steps p.tables e below (s₁.setTop (mkF m 4 #[.val (.ref a1), .val (.ref a2), .val .null] [])) _
    refine XS.aloadN X0.here hx rfl (hb hby d6_4) rfl rfl ?_
    show Steps p.tables e below (s₁.setTop (mkF m 5 #[.val (.ref a1), .val (.ref a2), .val .null] [(.ref a1)])) _
    refine XS.aloadN X0.here hx rfl (hb hby d6_5) rfl rfl ?_
    show Steps p.tables e below (s₁.setTop (mkF m 6 #[.val (.ref a1), .val (.ref a2), .val .null] [(.ref a2), (.ref a1)])) _
    refine st3 _ ?_
    show Steps p.tables e below (T3.setTop (mkF m 9 #[.val (.ref a1), .val (.ref a2), .val .null] [])) _
    refine XS.goto X3.here hx rfl (pc0 := 9) (pc' := 17) rfl (hb hby d6_9) (by decide) (by decide) ?_
    show Steps p.tables e below (T3.setTop (mkF m 17 #[.val (.ref a1), .val (.ref a2), .val .null] [])) _
    exact X3.returnOut hx Bd.returns (hb hby d6_17) hr
  · show Q6n Z a1 a2 u_firstChild_a1 h0 n0 _ T3.heap _
    rw [e3]
    exact ⟨rfl, N3, W3⟩
theorem d1_0 : decode prog_99_method_1_code 0 = .ok (.aload_n 0, 1) := by decide +kernel
theorem d1_1 : decode prog_99_method_1_code 1 = .ok (.invokespecial 1, 3) := by decide +kernel
theorem d1_4 : decode prog_99_method_1_code 4 = .ok (.aload_n 0, 1) := by decide +kernel
theorem d1_5 : decode prog_99_method_1_code 5 = .ok (.ldc 7, 2) := by decide +kernel
theorem d1_7 : decode prog_99_method_1_code 7 = .ok (.putfield 9, 3) := by decide +kernel
theorem d1_10 : decode prog_99_method_1_code 10 = .ok (.aload_n 0, 1) := by decide +kernel
theorem d1_11 : decode prog_99_method_1_code 11 = .ok (.aload_n 1, 1) := by decide +kernel
theorem d1_12 : decode prog_99_method_1_code 12 = .ok (.putfield 15, 3) := by decide +kernel
theorem d1_15 : decode prog_99_method_1_code 15 = .ok (.aload_n 0, 1) := by decide +kernel
theorem d1_16 : decode prog_99_method_1_code 16 = .ok (.aload_n 2, 1) := by decide +kernel
theorem d1_17 : decode prog_99_method_1_code 17 = .ok (.putfield 18, 3) := by decide +kernel
theorem d1_20 : decode prog_99_method_1_code 20 = .ok (.aload_n 0, 1) := by decide +kernel
theorem d1_21 : decode prog_99_method_1_code 21 = .ok (.iload_n 3, 1) := by decide +kernel
theorem d1_22 : decode prog_99_method_1_code 22 = .ok (.putfield 21, 3) := by decide +kernel
theorem d1_25 : decode prog_99_method_1_code 25 = .ok (.aload_n 0, 1) := by decide +kernel
theorem d1_26 : decode prog_99_method_1_code 26 = .ok (.aload 4, 2) := by decide +kernel
theorem d1_28 : decode prog_99_method_1_code 28 = .ok (.putfield 25, 3) := by decide +kernel
theorem d1_31 : decode prog_99_method_1_code 31 = .ok (.return_, 1) := by decide +kernel
theorem pd_0 : parseMethodDescriptor "(Ljava/lang/String;Ljava/lang/String;ILorg/provenote/core/xml/XmlAttributes;)V" = some ⟨[(.object "java/lang/String"), (.object "java/lang/String"), .int, (.object "org/provenote/core/xml/XmlAttributes")], none⟩ := by decide +kernel
def oQI (Z : State) (a : Addr) (h0 : Heap) (n0 : Nat) (v : Option Value) (h : Heap) (L : List Loc) : Prop := v = none ∧ Fr n0 L ∧ Keep h0 h [a] ∧ Exa Z h a "org/provenote/core/xml/XmlElement" ∧ Fld Z h a "org/provenote/core/xml/XmlElement" "firstChild" "Lorg/provenote/core/xml/XmlElement;" .null ∧ Fld Z h a "org/provenote/core/xml/XmlElement" "nextSibling" "Lorg/provenote/core/xml/XmlElement;" .null
theorem pn_1 : plainName "org/provenote/core/xml/XmlElement" = true := by first | (simp [plainName, overriddenIn]; done) | decide +kernel
theorem ef_1 (m : MethodId) (a r1 r2 : Addr) (ln : Int32) (r4 : Addr) : entryFrame m #[(.ref a), (.ref r1), (.ref r2), (.int ln), (.ref r4)] 5 = mkF m 0 #[.val (.ref a), .val (.ref r1), .val (.ref r2), .val (.int ln), .val (.ref r4)] [] := by first | (simp [entryFrame, mkF, argsToLocals, Value.category]; done) | rfl
set_option maxRecDepth 65536 in
set_option maxHeartbeats 40000000 in
theorem oRI (l : Launch) (Z : State) (a0 : Array Value) (hw : ∀ d ∈ tables_1, d.before a0 Z = true) (ws : List Jvm.Cond) (a r1 r2 : Addr) (ln : Int32) (r4 : Addr) (h0 : Heap) (n0 : Nat) (Z0 : n0 ≤ h0.size) (A : Exa Z h0 a "org/provenote/core/xml/XmlElement") (D : ∀ {O nm d : String} {ty : FieldType}, Laid Z a0 "org/provenote/core/xml/XmlElement" O nm d → parseFieldDescriptor d = some ty → Fld Z h0 a O nm d (defaultValue ty)) (ga : n0 ≤ a) :
    MetFree l (⟨"org/provenote/core/xml/XmlElement", "<init>", "(Ljava/lang/String;Ljava/lang/String;ILorg/provenote/core/xml/XmlAttributes;)V"⟩ : MethodName) (head1 (Jvm.Cond.code (⟨"org/provenote/core/xml/XmlElement", "<init>", "(Ljava/lang/String;Ljava/lang/String;ILorg/provenote/core/xml/XmlAttributes;)V"⟩ : MethodName) prog_99_method_1_code 5 none :: ws) ({ frames := 1, cells := 2, slots := 4, locals := 12 } : Room)) (fun ar U => ar = #[(.ref a), (.ref r1), (.ref r2), (.int ln), (.ref r4)] ∧ Z.Warmed39 U.vm ∧ U.heap = h0) (fun _ _ _ _ _ => True) (fun _ U o U' => ∃ v L, o = .returned v ∧ oQI Z a h0 n0 v U'.heap L ∧ ReturnedEndW U o U' L ({ frames := 1, cells := 2, slots := 4, locals := 12 } : Room).cells ({ frames := 1, cells := 2, slots := 4, locals := 12 } : Room).slots) := by
  refine MetFree.of_bodySF (plainFor_of_name pn_1) hisR ?_
  intro p e s m args below meth c s₁ Bd hml0 hP hK
  obtain ⟨rfl, hZ, hh⟩ := hP
  have hx := Bd.exec
  have hby := Bd.bytes
  have hml : c.maxLocals = 5 := hml0
  have hown : s.vm.findClass "org/provenote/core/xml/XmlElement" = some m.cls := findClass_of_methodNamed Bd.named
  have hnm := (name_of_methodNamed Bd.named Bd.method).1
  have X0 : Stand p l e ({ frames := 1, cells := 2, slots := 4, locals := 12 } : Room) s m #[(.ref a), (.ref r1), (.ref r2), (.int ln), (.ref r4)] below meth c s₁ [] 0 0 := Stand.of_body Bd
  have e0 : s₁.heap = h0 := by rw [← hh, Bd.state]; rfl
  have N0 := Fr.nil n0
  have wS : ∀ a ∈ Bundle.stringAtoms, a.before a0 Z = true := fun d hd => hw d ((by decide +kernel : ∀ d ∈ Bundle.stringAtoms, d ∈ tables_1) d hd)
  obtain ⟨T2, X2, e2, st2⟩ := initO X0 hx hZ hown (hw _ (List.mem_of_getElem? (i := 18) rfl)) (hw _ (List.mem_of_getElem? (i := 19) rfl)) (hw _ (List.mem_of_getElem? (i := 20) rfl)) e0 (g := (mkF m 1 #[.val (.ref a), .val (.ref r1), .val (.ref r2), .val (.int ln), .val (.ref r4)] [(.ref a)])) rfl (by rw [hml]; rfl) rfl (hb hby d1_1) (by decide) (W := 0) (by show 2 * 0 + _ ≤ _; exact Nat.le_of_eq rfl) (by decide)
  have hS2 : s.Since s.vm 0 := (State.WarmedH.refl s).since 0
  have X2' : Stand p l e ({ frames := 1, cells := 2, slots := 4, locals := 12 } : Room) (s.setVm s.vm) m #[(.ref a), (.ref r1), (.ref r2), (.int ln), (.ref r4)] below meth c T2 [] 0 0 := X2
  obtain ⟨b3, T3, h3, k3, X3, e3, E3, hS3, hk3, hZ3, hown3, st3⟩ := ldcS (s := s) (vm0 := s.vm) X2' hx hZ hown (hw _ (List.mem_of_getElem? (i := 21) rfl)) wS e2 hS2 (Nat.zero_le _) (g := (mkF m 5 #[.val (.ref a), .val (.ref r1), .val (.ref r2), .val (.int ln), .val (.ref r4)] [(.ref a)])) rfl (hb hby d1_5) (n := 0) (by decide) (by decide) (by decide) (by decide)
  have K3 : Keep h0 h3 [a] := (Keep.refl h0 [a]).ext E3
  have A3 := A.ext E3
  have N3 := N0
  obtain ⟨T4, h4, X4, e4, W4, st4⟩ := putF X3 hx hZ3 hown3 (host := "") (Or.inl (hw _ (List.mem_of_getElem? (i := 22) rfl))) Via.refl e3 ((D (Or.inl (hw _ (List.mem_of_getElem? (i := 23) rfl))) (ty := (.object "java/lang/String")) (by decide)).ext E3) A3 (Or.inl (hw _ (List.mem_of_getElem? (i := 23) rfl))) (hw _ (List.mem_of_getElem? (i := 1) rfl)) (ty := (.object "java/lang/String")) (by decide) rfl rfl (g := (mkF m 7 #[.val (.ref a), .val (.ref r1), .val (.ref r2), .val (.int ln), .val (.ref r4)] [(.ref b3), (.ref a)])) rfl rfl (hb hby d1_7)
  have K4 : Keep h0 h4 [a] := K3.wr W4 (Or.inl (List.mem_of_getElem? (i := 0) rfl))
  have A4 := A3.wr W4
  have N4 := Fr.snoc X4 N3 ga
  obtain ⟨T5, h5, X5, e5, W5, st5⟩ := putF X4 hx hZ3 hown3 (host := "") (Or.inl (hw _ (List.mem_of_getElem? (i := 24) rfl))) Via.refl e4 (((D (Or.inr (hw _ (List.mem_of_getElem? (i := 25) rfl))) (ty := (.object "java/lang/String")) (by decide)).ext E3).other W4 (Or.inr (slot_ne (Or.inr (hw _ (List.mem_of_getElem? (i := 25) rfl))) (Or.inl (hw _ (List.mem_of_getElem? (i := 23) rfl))) (by decide) (t := (.object "java/lang/String")) (t' := (.object "java/lang/String")) (by decide) (by decide)))) A4 (Or.inr ⟨(hw _ (List.mem_of_getElem? (i := 25) rfl)), rfl, hnm⟩) (hw _ (List.mem_of_getElem? (i := 1) rfl)) (ty := (.object "java/lang/String")) (by decide) rfl rfl (g := (mkF m 12 #[.val (.ref a), .val (.ref r1), .val (.ref r2), .val (.int ln), .val (.ref r4)] [(.ref r1), (.ref a)])) rfl rfl (hb hby d1_12)
  have K5 : Keep h0 h5 [a] := K4.wr W5 (Or.inl (List.mem_of_getElem? (i := 0) rfl))
  have A5 := A4.wr W5
  have N5 := Fr.snoc X5 N4 ga
  obtain ⟨T6, h6, X6, e6, W6, st6⟩ := putF X5 hx hZ3 hown3 (host := "") (Or.inl (hw _ (List.mem_of_getElem? (i := 26) rfl))) Via.refl e5 ((((D (Or.inr (hw _ (List.mem_of_getElem? (i := 27) rfl))) (ty := (.object "java/lang/String")) (by decide)).ext E3).other W4 (Or.inr (slot_ne (Or.inr (hw _ (List.mem_of_getElem? (i := 27) rfl))) (Or.inl (hw _ (List.mem_of_getElem? (i := 23) rfl))) (by decide) (t := (.object "java/lang/String")) (t' := (.object "java/lang/String")) (by decide) (by decide)))).other W5 (Or.inr (slot_ne (Or.inr (hw _ (List.mem_of_getElem? (i := 27) rfl))) (Or.inr (hw _ (List.mem_of_getElem? (i := 25) rfl))) (by decide) (t := (.object "java/lang/String")) (t' := (.object "java/lang/String")) (by decide) (by decide)))) A5 (Or.inr ⟨(hw _ (List.mem_of_getElem? (i := 27) rfl)), rfl, hnm⟩) (hw _ (List.mem_of_getElem? (i := 1) rfl)) (ty := (.object "java/lang/String")) (by decide) rfl rfl (g := (mkF m 17 #[.val (.ref a), .val (.ref r1), .val (.ref r2), .val (.int ln), .val (.ref r4)] [(.ref r2), (.ref a)])) rfl rfl (hb hby d1_17)
  have K6 : Keep h0 h6 [a] := K5.wr W6 (Or.inl (List.mem_of_getElem? (i := 0) rfl))
  have A6 := A5.wr W6
  have N6 := Fr.snoc X6 N5 ga
  obtain ⟨T7, h7, X7, e7, W7, st7⟩ := putF X6 hx hZ3 hown3 (host := "") (Or.inl (hw _ (List.mem_of_getElem? (i := 28) rfl))) Via.refl e6 (((((D (Or.inr (hw _ (List.mem_of_getElem? (i := 29) rfl))) (ty := .int) (by decide)).ext E3).other W4 (Or.inr (slot_ne (Or.inr (hw _ (List.mem_of_getElem? (i := 29) rfl))) (Or.inl (hw _ (List.mem_of_getElem? (i := 23) rfl))) (by decide) (t := .int) (t' := (.object "java/lang/String")) (by decide) (by decide)))).other W5 (Or.inr (slot_ne (Or.inr (hw _ (List.mem_of_getElem? (i := 29) rfl))) (Or.inr (hw _ (List.mem_of_getElem? (i := 25) rfl))) (by decide) (t := .int) (t' := (.object "java/lang/String")) (by decide) (by decide)))).other W6 (Or.inr (slot_ne (Or.inr (hw _ (List.mem_of_getElem? (i := 29) rfl))) (Or.inr (hw _ (List.mem_of_getElem? (i := 27) rfl))) (by decide) (t := .int) (t' := (.object "java/lang/String")) (by decide) (by decide)))) A6 (Or.inr ⟨(hw _ (List.mem_of_getElem? (i := 29) rfl)), rfl, hnm⟩) (hw _ (List.mem_of_getElem? (i := 1) rfl)) (ty := .int) (by decide) rfl rfl (g := (mkF m 22 #[.val (.ref a), .val (.ref r1), .val (.ref r2), .val (.int ln), .val (.ref r4)] [(.int ln), (.ref a)])) rfl rfl (hb hby d1_22)
  have K7 : Keep h0 h7 [a] := K6.wr W7 (Or.inl (List.mem_of_getElem? (i := 0) rfl))
  have A7 := A6.wr W7
  have N7 := Fr.snoc X7 N6 ga
  obtain ⟨T8, h8, X8, e8, W8, st8⟩ := putF X7 hx hZ3 hown3 (host := "") (Or.inl (hw _ (List.mem_of_getElem? (i := 30) rfl))) Via.refl e7 ((((((D (Or.inr (hw _ (List.mem_of_getElem? (i := 31) rfl))) (ty := (.object "org/provenote/core/xml/XmlAttributes")) (by decide)).ext E3).other W4 (Or.inr (slot_ne (Or.inr (hw _ (List.mem_of_getElem? (i := 31) rfl))) (Or.inl (hw _ (List.mem_of_getElem? (i := 23) rfl))) (by decide) (t := (.object "org/provenote/core/xml/XmlAttributes")) (t' := (.object "java/lang/String")) (by decide) (by decide)))).other W5 (Or.inr (slot_ne (Or.inr (hw _ (List.mem_of_getElem? (i := 31) rfl))) (Or.inr (hw _ (List.mem_of_getElem? (i := 25) rfl))) (by decide) (t := (.object "org/provenote/core/xml/XmlAttributes")) (t' := (.object "java/lang/String")) (by decide) (by decide)))).other W6 (Or.inr (slot_ne (Or.inr (hw _ (List.mem_of_getElem? (i := 31) rfl))) (Or.inr (hw _ (List.mem_of_getElem? (i := 27) rfl))) (by decide) (t := (.object "org/provenote/core/xml/XmlAttributes")) (t' := (.object "java/lang/String")) (by decide) (by decide)))).other W7 (Or.inr (slot_ne (Or.inr (hw _ (List.mem_of_getElem? (i := 31) rfl))) (Or.inr (hw _ (List.mem_of_getElem? (i := 29) rfl))) (by decide) (t := (.object "org/provenote/core/xml/XmlAttributes")) (t' := .int) (by decide) (by decide)))) A7 (Or.inr ⟨(hw _ (List.mem_of_getElem? (i := 31) rfl)), rfl, hnm⟩) (hw _ (List.mem_of_getElem? (i := 1) rfl)) (ty := (.object "org/provenote/core/xml/XmlAttributes")) (by decide) rfl rfl (g := (mkF m 28 #[.val (.ref a), .val (.ref r1), .val (.ref r2), .val (.int ln), .val (.ref r4)] [(.ref r4), (.ref a)])) rfl rfl (hb hby d1_28)
  have K8 : Keep h0 h8 [a] := K7.wr W8 (Or.inl (List.mem_of_getElem? (i := 0) rfl))
  have A8 := A7.wr W8
  have N8 := Fr.snoc X8 N7 ga
  have hsz : h8.size = h3.size := by rw [W8.size, W7.size, W6.size, W5.size, W4.size]
  obtain ⟨fs, hr, hrun, hended, hRW⟩ := X8.leaveW hS3 (by rw [e8, hsz]; exact hk3) (v := none) (fun _ => rfl) Bd.notSynchronized
  refine ⟨_, _, castTop (ef_1 m a r1 r2 ln r4) ?_, hrun, hended, _, _, rfl, ?_, ⟨hRW.1, hRW.2.1, hRW.2.2.1, hRW.2.2.2.mono (by decide) (by decide)⟩⟩
  · show Steps p.tables e below (s₁.setTop (mkF m 0 #[.val (.ref a), .val (.ref r1), .val (.ref r2), .val (.int ln), .val (.ref r4)] [])) _
    refine XS.aloadN X0.here hx rfl (hb hby d1_0) rfl rfl ?_
    show Steps p.tables e below (s₁.setTop (mkF m 1 #[.val (.ref a), .val (.ref r1), .val (.ref r2), .val (.int ln), .val (.ref r4)] [(.ref a)])) _
    refine st2 _ ?_
    show Steps p.tables e below (T2.setTop (mkF m 4 #[.val (.ref a), .val (.ref r1), .val (.ref r2), .val (.int ln), .val (.ref r4)] [])) _
    refine XS.aloadN X2.here hx rfl (hb hby d1_4) rfl rfl ?_
    show Steps p.tables e below (T2.setTop (mkF m 5 #[.val (.ref a), .val (.ref r1), .val (.ref r2), .val (.int ln), .val (.ref r4)] [(.ref a)])) _
    refine st3 _ ?_
    show Steps p.tables e below (T3.setTop (mkF m 7 #[.val (.ref a), .val (.ref r1), .val (.ref r2), .val (.int ln), .val (.ref r4)] [(.ref b3), (.ref a)])) _
    refine st4 _ ?_
    show Steps p.tables e below (T4.setTop (mkF m 10 #[.val (.ref a), .val (.ref r1), .val (.ref r2), .val (.int ln), .val (.ref r4)] [])) _
    refine XS.aloadN X4.here hx rfl (hb hby d1_10) rfl rfl ?_
    show Steps p.tables e below (T4.setTop (mkF m 11 #[.val (.ref a), .val (.ref r1), .val (.ref r2), .val (.int ln), .val (.ref r4)] [(.ref a)])) _
    refine XS.aloadN X4.here hx rfl (hb hby d1_11) rfl rfl ?_
    show Steps p.tables e below (T4.setTop (mkF m 12 #[.val (.ref a), .val (.ref r1), .val (.ref r2), .val (.int ln), .val (.ref r4)] [(.ref r1), (.ref a)])) _
    refine st5 _ ?_
    show Steps p.tables e below (T5.setTop (mkF m 15 #[.val (.ref a), .val (.ref r1), .val (.ref r2), .val (.int ln), .val (.ref r4)] [])) _
    refine XS.aloadN X5.here hx rfl (hb hby d1_15) rfl rfl ?_
    show Steps p.tables e below (T5.setTop (mkF m 16 #[.val (.ref a), .val (.ref r1), .val (.ref r2), .val (.int ln), .val (.ref r4)] [(.ref a)])) _
    refine XS.aloadN X5.here hx rfl (hb hby d1_16) rfl rfl ?_
    show Steps p.tables e below (T5.setTop (mkF m 17 #[.val (.ref a), .val (.ref r1), .val (.ref r2), .val (.int ln), .val (.ref r4)] [(.ref r2), (.ref a)])) _
    refine st6 _ ?_
    show Steps p.tables e below (T6.setTop (mkF m 20 #[.val (.ref a), .val (.ref r1), .val (.ref r2), .val (.int ln), .val (.ref r4)] [])) _
    refine XS.aloadN X6.here hx rfl (hb hby d1_20) rfl rfl ?_
    show Steps p.tables e below (T6.setTop (mkF m 21 #[.val (.ref a), .val (.ref r1), .val (.ref r2), .val (.int ln), .val (.ref r4)] [(.ref a)])) _
    refine XS.iloadN X6.here hx rfl (hb hby d1_21) rfl ?_
    show Steps p.tables e below (T6.setTop (mkF m 22 #[.val (.ref a), .val (.ref r1), .val (.ref r2), .val (.int ln), .val (.ref r4)] [(.int ln), (.ref a)])) _
    refine st7 _ ?_
    show Steps p.tables e below (T7.setTop (mkF m 25 #[.val (.ref a), .val (.ref r1), .val (.ref r2), .val (.int ln), .val (.ref r4)] [])) _
    refine XS.aloadN X7.here hx rfl (hb hby d1_25) rfl rfl ?_
    show Steps p.tables e below (T7.setTop (mkF m 26 #[.val (.ref a), .val (.ref r1), .val (.ref r2), .val (.int ln), .val (.ref r4)] [(.ref a)])) _
    refine XS.aload X7.here hx rfl (hb hby d1_26) rfl rfl ?_
    show Steps p.tables e below (T7.setTop (mkF m 28 #[.val (.ref a), .val (.ref r1), .val (.ref r2), .val (.int ln), .val (.ref r4)] [(.ref r4), (.ref a)])) _
    refine st8 _ ?_
    show Steps p.tables e below (T8.setTop (mkF m 31 #[.val (.ref a), .val (.ref r1), .val (.ref r2), .val (.int ln), .val (.ref r4)] [])) _
    exact X8.returnOut hx Bd.returns (hb hby d1_31) hr
  · show oQI Z a h0 n0 _ T8.heap _
    rw [e8]
    exact ⟨rfl, N8, K8, A8, (((((((D (Or.inl (hw _ (List.mem_of_getElem? (i := 45) rfl))) (ty := (.object "org/provenote/core/xml/XmlElement")) (by decide)).ext E3).other W4 (Or.inr (slot_ne (Or.inl (hw _ (List.mem_of_getElem? (i := 45) rfl))) (Or.inl (hw _ (List.mem_of_getElem? (i := 23) rfl))) (by decide) (t := (.object "org/provenote/core/xml/XmlElement")) (t' := (.object "java/lang/String")) (by decide) (by decide)))).other W5 (Or.inr (slot_ne (Or.inl (hw _ (List.mem_of_getElem? (i := 45) rfl))) (Or.inr (hw _ (List.mem_of_getElem? (i := 25) rfl))) (by decide) (t := (.object "org/provenote/core/xml/XmlElement")) (t' := (.object "java/lang/String")) (by decide) (by decide)))).other W6 (Or.inr (slot_ne (Or.inl (hw _ (List.mem_of_getElem? (i := 45) rfl))) (Or.inr (hw _ (List.mem_of_getElem? (i := 27) rfl))) (by decide) (t := (.object "org/provenote/core/xml/XmlElement")) (t' := (.object "java/lang/String")) (by decide) (by decide)))).other W7 (Or.inr (slot_ne (Or.inl (hw _ (List.mem_of_getElem? (i := 45) rfl))) (Or.inr (hw _ (List.mem_of_getElem? (i := 29) rfl))) (by decide) (t := (.object "org/provenote/core/xml/XmlElement")) (t' := .int) (by decide) (by decide)))).other W8 (Or.inr (slot_ne (Or.inl (hw _ (List.mem_of_getElem? (i := 45) rfl))) (Or.inr (hw _ (List.mem_of_getElem? (i := 31) rfl))) (by decide) (t := (.object "org/provenote/core/xml/XmlElement")) (t' := (.object "org/provenote/core/xml/XmlAttributes")) (by decide) (by decide)))), (((((((D (Or.inl (hw _ (List.mem_of_getElem? (i := 66) rfl))) (ty := (.object "org/provenote/core/xml/XmlElement")) (by decide)).ext E3).other W4 (Or.inr (slot_ne (Or.inl (hw _ (List.mem_of_getElem? (i := 66) rfl))) (Or.inl (hw _ (List.mem_of_getElem? (i := 23) rfl))) (by decide) (t := (.object "org/provenote/core/xml/XmlElement")) (t' := (.object "java/lang/String")) (by decide) (by decide)))).other W5 (Or.inr (slot_ne (Or.inl (hw _ (List.mem_of_getElem? (i := 66) rfl))) (Or.inr (hw _ (List.mem_of_getElem? (i := 25) rfl))) (by decide) (t := (.object "org/provenote/core/xml/XmlElement")) (t' := (.object "java/lang/String")) (by decide) (by decide)))).other W6 (Or.inr (slot_ne (Or.inl (hw _ (List.mem_of_getElem? (i := 66) rfl))) (Or.inr (hw _ (List.mem_of_getElem? (i := 27) rfl))) (by decide) (t := (.object "org/provenote/core/xml/XmlElement")) (t' := (.object "java/lang/String")) (by decide) (by decide)))).other W7 (Or.inr (slot_ne (Or.inl (hw _ (List.mem_of_getElem? (i := 66) rfl))) (Or.inr (hw _ (List.mem_of_getElem? (i := 29) rfl))) (by decide) (t := (.object "org/provenote/core/xml/XmlElement")) (t' := .int) (by decide) (by decide)))).other W8 (Or.inr (slot_ne (Or.inl (hw _ (List.mem_of_getElem? (i := 66) rfl))) (Or.inr (hw _ (List.mem_of_getElem? (i := 31) rfl))) (by decide) (t := (.object "org/provenote/core/xml/XmlElement")) (t' := (.object "org/provenote/core/xml/XmlAttributes")) (by decide) (by decide))))⟩
theorem d4_0 : decode prog_99_method_14_code 0 = .ok (.iconst 0, 1) := by decide +kernel
theorem d4_1 : decode prog_99_method_14_code 1 = .ok (.istore_n 2, 1) := by decide +kernel
theorem d4_2 : decode prog_99_method_14_code 2 = .ok (.aload_n 0, 1) := by decide +kernel
theorem d4_3 : decode prog_99_method_14_code 3 = .ok (.getfield 63, 3) := by decide +kernel
theorem d4_6 : decode prog_99_method_14_code 6 = .ok (.astore_n 3, 1) := by decide +kernel
theorem d4_7 : decode prog_99_method_14_code 7 = .ok (.aload_n 3, 1) := by decide +kernel
theorem d4_8 : decode prog_99_method_14_code 8 = .ok (.ifnull 26, 3) := by decide +kernel
theorem d4_11 : decode prog_99_method_14_code 11 = .ok (.aload_n 1, 1) := by decide +kernel
theorem d4_12 : decode prog_99_method_14_code 12 = .ok (.ifnull 11, 3) := by decide +kernel
theorem d4_23 : decode prog_99_method_14_code 23 = .ok (.iinc 2 1, 3) := by decide +kernel
theorem d4_26 : decode prog_99_method_14_code 26 = .ok (.aload_n 3, 1) := by decide +kernel
theorem d4_27 : decode prog_99_method_14_code 27 = .ok (.getfield 71, 3) := by decide +kernel
theorem d4_30 : decode prog_99_method_14_code 30 = .ok (.astore_n 3, 1) := by decide +kernel
theorem d4_31 : decode prog_99_method_14_code 31 = .ok (.goto (-24), 3) := by decide +kernel
theorem d4_34 : decode prog_99_method_14_code 34 = .ok (.iload_n 2, 1) := by decide +kernel
theorem d4_35 : decode prog_99_method_14_code 35 = .ok (.ifCond .ne 7, 3) := by decide +kernel
theorem d4_38 : decode prog_99_method_14_code 38 = .ok (.getstatic 74, 3) := by decide +kernel
theorem d4_41 : decode prog_99_method_14_code 41 = .ok (.areturn, 1) := by decide +kernel
theorem d4_42 : decode prog_99_method_14_code 42 = .ok (.iload_n 2, 1) := by decide +kernel
theorem d4_43 : decode prog_99_method_14_code 43 = .ok (.anewarray 10, 3) := by decide +kernel
theorem d4_46 : decode prog_99_method_14_code 46 = .ok (.astore_n 3, 1) := by decide +kernel
theorem d4_47 : decode prog_99_method_14_code 47 = .ok (.iconst 0, 1) := by decide +kernel
theorem d4_48 : decode prog_99_method_14_code 48 = .ok (.istore_n 2, 1) := by decide +kernel
theorem d4_49 : decode prog_99_method_14_code 49 = .ok (.aload_n 0, 1) := by decide +kernel
theorem d4_50 : decode prog_99_method_14_code 50 = .ok (.getfield 63, 3) := by decide +kernel
theorem d4_53 : decode prog_99_method_14_code 53 = .ok (.astore 4, 2) := by decide +kernel
theorem d4_55 : decode prog_99_method_14_code 55 = .ok (.aload 4, 2) := by decide +kernel
theorem d4_57 : decode prog_99_method_14_code 57 = .ok (.ifnull 34, 3) := by decide +kernel
theorem d4_60 : decode prog_99_method_14_code 60 = .ok (.aload_n 1, 1) := by decide +kernel
theorem d4_61 : decode prog_99_method_14_code 61 = .ok (.ifnull 12, 3) := by decide +kernel
theorem d4_73 : decode prog_99_method_14_code 73 = .ok (.aload_n 3, 1) := by decide +kernel
theorem d4_74 : decode prog_99_method_14_code 74 = .ok (.iload_n 2, 1) := by decide +kernel
theorem d4_75 : decode prog_99_method_14_code 75 = .ok (.iinc 2 1, 3) := by decide +kernel
theorem d4_78 : decode prog_99_method_14_code 78 = .ok (.aload 4, 2) := by decide +kernel
theorem d4_80 : decode prog_99_method_14_code 80 = .ok (.aastore, 1) := by decide +kernel
theorem d4_81 : decode prog_99_method_14_code 81 = .ok (.aload 4, 2) := by decide +kernel
theorem d4_83 : decode prog_99_method_14_code 83 = .ok (.getfield 71, 3) := by decide +kernel
theorem d4_86 : decode prog_99_method_14_code 86 = .ok (.astore 4, 2) := by decide +kernel
theorem d4_88 : decode prog_99_method_14_code 88 = .ok (.goto (-33), 3) := by decide +kernel
theorem d4_91 : decode prog_99_method_14_code 91 = .ok (.new 78, 3) := by decide +kernel
theorem d4_94 : decode prog_99_method_14_code 94 = .ok (.dup, 1) := by decide +kernel
theorem d4_95 : decode prog_99_method_14_code 95 = .ok (.aload_n 3, 1) := by decide +kernel
theorem d4_96 : decode prog_99_method_14_code 96 = .ok (.invokespecial 80, 3) := by decide +kernel
theorem d4_99 : decode prog_99_method_14_code 99 = .ok (.areturn, 1) := by decide +kernel
theorem pd_1 : parseMethodDescriptor "(Ljava/lang/String;)Ljava/util/List;" = some ⟨[(.object "java/lang/String")], some (.object "java/util/List")⟩ := by decide +kernel
theorem pd_2 : parseMethodDescriptor "()Ljava/util/List;" = some ⟨[], some (.object "java/util/List")⟩ := by decide +kernel
theorem pd_3 : parseMethodDescriptor "([Lorg/provenote/core/xml/XmlElement;)V" = some ⟨[(.array (.object "org/provenote/core/xml/XmlElement"))], none⟩ := by decide +kernel
theorem pd_4 : parseMethodDescriptor "(Lorg/provenote/core/xml/XmlElement;Lorg/provenote/core/xml/XmlElement;)V" = some ⟨[(.object "org/provenote/core/xml/XmlElement"), (.object "org/provenote/core/xml/XmlElement")], none⟩ := by decide +kernel
theorem pd_5 : parseMethodDescriptor "()I" = some ⟨[], some .int⟩ := by decide +kernel
theorem pd_6 : parseMethodDescriptor "(I)Ljava/lang/Object;" = some ⟨[.int], some (.object "java/lang/Object")⟩ := by decide +kernel
def oQS (Z : State) (cs : List Addr) (h0 : Heap) (n0 : Nat) (v : Option Value) (h : Heap) (L : List Loc) : Prop := (∃ E, v = some (.ref E) ∧ Keep h0 h [] ∧ oLs Z h E cs) ∧ Fr n0 L
theorem pn_4 : plainName "org/provenote/core/xml/XmlElement" = true := pn_1
theorem ef_4 (m : MethodId) (a : Addr) : entryFrame m #[(.ref a), .null] 5 = mkF m 0 #[.val (.ref a), .val .null, .unset, .unset, .unset] [] := by first | (simp [entryFrame, mkF, argsToLocals, Value.category]; done) | rfl
theorem ef_3 (m : MethodId) (a : Addr) : entryFrame m #[(.ref a)] 1 = mkF m 0 #[.val (.ref a)] [] := by first | (simp [entryFrame, mkF, argsToLocals, Value.category]; done) | rfl
set_option maxRecDepth 65536 in
set_option maxHeartbeats 40000000 in
theorem oRS0 (l : Launch) (Z : State) (a0 : Array Value) (hw : ∀ d ∈ tables_1, d.before a0 Z = true) (ws : List Jvm.Cond) (a : Addr)  (h0 : Heap) (n0 : Nat) (Z0 : n0 ≤ h0.size) (F_fc : Fld Z h0 a "org/provenote/core/xml/XmlElement" "firstChild" "Lorg/provenote/core/xml/XmlElement;" .null) {wC : Addr} (S_NC : Sta Z h0 "org/provenote/core/xml/XmlElement" "NO_CHILDREN" "Ljava/util/List;" (.ref wC)) (L_C : oLs Z h0 wC []) :
    MetFree l (⟨"org/provenote/core/xml/XmlElement", "select", "(Ljava/lang/String;)Ljava/util/List;"⟩ : MethodName) (head1 (Jvm.Cond.code (⟨"org/provenote/core/xml/XmlElement", "select", "(Ljava/lang/String;)Ljava/util/List;"⟩ : MethodName) prog_99_method_14_code 5 (some (.object "java/util/List")) :: ws) ({ frames := 4, cells := 2, slots := 5, locals := 50 } : Room)) (fun ar U => ar = #[(.ref a), .null] ∧ Z.Warmed39 U.vm ∧ U.heap = h0) (fun _ _ _ _ _ => True) (fun _ U o U' => ∃ v L, o = .returned v ∧ oQS Z [] h0 n0 v U'.heap L ∧ FrameEnd U o U' L ({ frames := 4, cells := 2, slots := 5, locals := 50 } : Room).cells ({ frames := 4, cells := 2, slots := 5, locals := 50 } : Room).slots) := by
  refine MetFree.of_bodySF (plainFor_of_name pn_4) hisR ?_
  intro p e s m args below meth c s₁ Bd hml0 hP hK
  obtain ⟨rfl, hZ, hh⟩ := hP
  have hx := Bd.exec
  have hby := Bd.bytes
  have hml : c.maxLocals = 5 := hml0
  have hret := Bd.returns
  have hlk : meth.locks = false := Bd.notSynchronized
  have hown : s.vm.findClass "org/provenote/core/xml/XmlElement" = some m.cls := findClass_of_methodNamed Bd.named
  have X0 : Stand p l e ({ frames := 4, cells := 2, slots := 5, locals := 50 } : Room) s m #[(.ref a), .null] below meth c s₁ [] 0 0 := Stand.of_body Bd
  have e0 : s₁.heap = h0 := by rw [← hh, Bd.state]; rfl
  have N0 := Fr.nil n0
  have main : oEndX p e s below s₁ (mkF m 0 #[.val (.ref a), .val .null, .unset, .unset, .unset] []) n0 2 5 (fun v h => ∃ E, v = some (.ref E) ∧ Keep h0 h [] ∧ oLs Z h E []) := by
    show oEndX p e s below s₁ (mkF m 0 #[.val (.ref a), .val .null, .unset, .unset, .unset] []) n0 2 5 (fun v h => ∃ E, v = some (.ref E) ∧ Keep h0 h [] ∧ oLs Z h E [])
    refine oPreX (fun _ => XS.iconst X0.here hx rfl (hb hby d4_0)) ?_
    show oEndX p e s below s₁ (mkF m 1 #[.val (.ref a), .val .null, .unset, .unset, .unset] [(.int (0 : Int32))]) n0 2 5 (fun v h => ∃ E, v = some (.ref E) ∧ Keep h0 h [] ∧ oLs Z h E [])
    refine oPreX (fun _ => XS.istoreN X0.here hx rfl (hb hby d4_1) rfl (l' := #[.val (.ref a), .val .null, .val (.int (0 : Int32)), .unset, .unset]) rfl) ?_
    show oEndX p e s below s₁ (mkF m 2 #[.val (.ref a), .val .null, .val (.int (0 : Int32)), .unset, .unset] []) n0 2 5 (fun v h => ∃ E, v = some (.ref E) ∧ Keep h0 h [] ∧ oLs Z h E [])
    refine oPreX (fun _ => XS.aloadN X0.here hx rfl (hb hby d4_2) rfl rfl) ?_
    show oEndX p e s below s₁ (mkF m 3 #[.val (.ref a), .val .null, .val (.int (0 : Int32)), .unset, .unset] [(.ref a)]) n0 2 5 (fun v h => ∃ E, v = some (.ref E) ∧ Keep h0 h [] ∧ oLs Z h E [])
    obtain ⟨T100, X100, e100, st100⟩ := getF X0 hx hZ hown (host := "") (Or.inl (hw _ (List.mem_of_getElem? (i := 44) rfl))) Via.refl e0 F_fc (g := (mkF m 3 #[.val (.ref a), .val .null, .val (.int (0 : Int32)), .unset, .unset] [(.ref a)])) rfl rfl (hb hby d4_3)
    refine oPreX st100 ?_
    show oEndX p e s below T100 (mkF m 6 #[.val (.ref a), .val .null, .val (.int (0 : Int32)), .unset, .unset] [.null]) n0 2 5 (fun v h => ∃ E, v = some (.ref E) ∧ Keep h0 h [] ∧ oLs Z h E [])
    refine oPreX (fun _ => XS.astoreN X100.here hx rfl (hb hby d4_6) rfl rfl (l' := #[.val (.ref a), .val .null, .val (.int (0 : Int32)), .val .null, .unset]) rfl) ?_
    show oEndX p e s below T100 (mkF m 7 #[.val (.ref a), .val .null, .val (.int (0 : Int32)), .val .null, .unset] []) n0 2 5 (fun v h => ∃ E, v = some (.ref E) ∧ Keep h0 h [] ∧ oLs Z h E [])
    refine oPreX (fun _ => XS.aloadN X100.here hx rfl (hb hby d4_7) rfl rfl) ?_
    show oEndX p e s below T100 (mkF m 8 #[.val (.ref a), .val .null, .val (.int (0 : Int32)), .val .null, .unset] [.null]) n0 2 5 (fun v h => ∃ E, v = some (.ref E) ∧ Keep h0 h [] ∧ oLs Z h E [])
    refine oPreX (fun _ => XS.ifnullYes X100.here hx rfl (pc0 := 8) (pc' := 34) rfl (hb hby d4_8) rfl (by decide) (by decide)) ?_
    show oEndX p e s below T100 (mkF m 34 #[.val (.ref a), .val .null, .val (.int (0 : Int32)), .val .null, .unset] []) n0 2 5 (fun v h => ∃ E, v = some (.ref E) ∧ Keep h0 h [] ∧ oLs Z h E [])
    refine oPreX (fun _ => XS.iloadN X100.here hx rfl (hb hby d4_34) rfl) ?_
    show oEndX p e s below T100 (mkF m 35 #[.val (.ref a), .val .null, .val (.int (0 : Int32)), .val .null, .unset] [(.int (0 : Int32))]) n0 2 5 (fun v h => ∃ E, v = some (.ref E) ∧ Keep h0 h [] ∧ oLs Z h E [])
    refine oPreX (fun _ => XS.ifNo X100.here hx rfl (hb hby d4_35) rfl ((if0 _ _).trans ((teq (rfl : (0 : Int32) = 0)).2))) ?_
    show oEndX p e s below T100 (mkF m 38 #[.val (.ref a), .val .null, .val (.int (0 : Int32)), .val .null, .unset] []) n0 2 5 (fun v h => ∃ E, v = some (.ref E) ∧ Keep h0 h [] ∧ oLs Z h E [])
    obtain ⟨T120, X120, e120, st120⟩ := getS2 X100 hx hZ hown (host := "") (Or.inl (hw _ (List.mem_of_getElem? (i := 46) rfl))) Via.refl e100 S_NC (g := (mkF m 38 #[.val (.ref a), .val .null, .val (.int (0 : Int32)), .val .null, .unset] [])) rfl (hb hby d4_38)
    refine oPreX st120 ?_
    show oEndX p e s below T120 (mkF m 41 #[.val (.ref a), .val .null, .val (.int (0 : Int32)), .val .null, .unset] [(.ref wC)]) n0 2 5 (fun v h => ∃ E, v = some (.ref E) ∧ Keep h0 h [] ∧ oLs Z h E [])
    obtain ⟨fs, hr, hrun, hended, hW, hsame⟩ := X120.leave (v := some (.ref wC)) (fun h => by rw [hret] at h; cases h) hlk
    have stp : Steps p.tables e below (T120.setTop (mkF m 41 #[.val (.ref a), .val .null, .val (.int (0 : Int32)), .val .null, .unset] [(.ref wC)])) (T120.setFrames fs) := by
      jvm_step X120.here [X120.here.top, hx, (hb hby d4_41), X120.method', hret, Value.isRef, FieldType.isReference]
      first | (intro acts; rw [hr _ acts rfl rfl rfl]) | rw [hr _ _ rfl rfl rfl]
      exact Steps.refl _
    exact ⟨_, _, _, stp, hrun, hended, hW, hsame.mono (by decide) (by decide), N0, ⟨wC, rfl, by show Keep h0 T120.heap []; rw [e120]; exact Keep.refl h0 [], by show oLs Z T120.heap wC []; rw [e120]; exact L_C⟩⟩
  obtain ⟨tq, L, v, hs, hrun, hended, hW, hsame, hN, hQ⟩ := main
  exact ⟨tq, _, castTop (ef_4 m a) hs, hrun, hended, v, L, rfl, ⟨hQ, hN⟩, ⟨_, rfl⟩, hW, hsame⟩
set_option maxRecDepth 65536 in
set_option maxHeartbeats 40000000 in
theorem oRS1 (l : Launch) (Z : State) (a0 : Array Value) (hw : ∀ d ∈ tables_1, d.before a0 Z = true) (ws : List Jvm.Cond) (a : Addr) (c0 : Addr) (h0 : Heap) (n0 : Nat) (Z0 : n0 ≤ h0.size) (F_fc : Fld Z h0 a "org/provenote/core/xml/XmlElement" "firstChild" "Lorg/provenote/core/xml/XmlElement;" (.ref c0)) (E_0 : Exa Z h0 c0 "org/provenote/core/xml/XmlElement") (G_0 : Fld Z h0 c0 "org/provenote/core/xml/XmlElement" "nextSibling" "Lorg/provenote/core/xml/XmlElement;" .null) {wC : Addr} (S_NC : Sta Z h0 "org/provenote/core/xml/XmlElement" "NO_CHILDREN" "Ljava/util/List;" (.ref wC)) (L_C : oLs Z h0 wC []) :
    MetFree l (⟨"org/provenote/core/xml/XmlElement", "select", "(Ljava/lang/String;)Ljava/util/List;"⟩ : MethodName) (head1 (Jvm.Cond.code (⟨"org/provenote/core/xml/XmlElement", "select", "(Ljava/lang/String;)Ljava/util/List;"⟩ : MethodName) prog_99_method_14_code 5 (some (.object "java/util/List")) :: ws) ({ frames := 4, cells := 2, slots := 5, locals := 50 } : Room)) (fun ar U => ar = #[(.ref a), .null] ∧ Z.Warmed39 U.vm ∧ U.heap = h0) (fun _ _ _ _ _ => True) (fun _ U o U' => ∃ v L, o = .returned v ∧ oQS Z [c0] h0 n0 v U'.heap L ∧ FrameEnd U o U' L ({ frames := 4, cells := 2, slots := 5, locals := 50 } : Room).cells ({ frames := 4, cells := 2, slots := 5, locals := 50 } : Room).slots) := by
  refine MetFree.of_bodySF (plainFor_of_name pn_4) hisR ?_
  intro p e s m args below meth c s₁ Bd hml0 hP hK
  obtain ⟨rfl, hZ, hh⟩ := hP
  have hx := Bd.exec
  have hby := Bd.bytes
  have hml : c.maxLocals = 5 := hml0
  have hret := Bd.returns
  have hlk : meth.locks = false := Bd.notSynchronized
  have hown : s.vm.findClass "org/provenote/core/xml/XmlElement" = some m.cls := findClass_of_methodNamed Bd.named
  have X0 : Stand p l e ({ frames := 4, cells := 2, slots := 5, locals := 50 } : Room) s m #[(.ref a), .null] below meth c s₁ [] 0 0 := Stand.of_body Bd
  have e0 : s₁.heap = h0 := by rw [← hh, Bd.state]; rfl
  have N0 := Fr.nil n0
  have main : oEndX p e s below s₁ (mkF m 0 #[.val (.ref a), .val .null, .unset, .unset, .unset] []) n0 2 5 (fun v h => ∃ E, v = some (.ref E) ∧ Keep h0 h [] ∧ oLs Z h E [c0]) := by
    show oEndX p e s below s₁ (mkF m 0 #[.val (.ref a), .val .null, .unset, .unset, .unset] []) n0 2 5 (fun v h => ∃ E, v = some (.ref E) ∧ Keep h0 h [] ∧ oLs Z h E [c0])
    refine oPreX (fun _ => XS.iconst X0.here hx rfl (hb hby d4_0)) ?_
    show oEndX p e s below s₁ (mkF m 1 #[.val (.ref a), .val .null, .unset, .unset, .unset] [(.int (0 : Int32))]) n0 2 5 (fun v h => ∃ E, v = some (.ref E) ∧ Keep h0 h [] ∧ oLs Z h E [c0])
    refine oPreX (fun _ => XS.istoreN X0.here hx rfl (hb hby d4_1) rfl (l' := #[.val (.ref a), .val .null, .val (.int (0 : Int32)), .unset, .unset]) rfl) ?_
    show oEndX p e s below s₁ (mkF m 2 #[.val (.ref a), .val .null, .val (.int (0 : Int32)), .unset, .unset] []) n0 2 5 (fun v h => ∃ E, v = some (.ref E) ∧ Keep h0 h [] ∧ oLs Z h E [c0])
    refine oPreX (fun _ => XS.aloadN X0.here hx rfl (hb hby d4_2) rfl rfl) ?_
    show oEndX p e s below s₁ (mkF m 3 #[.val (.ref a), .val .null, .val (.int (0 : Int32)), .unset, .unset] [(.ref a)]) n0 2 5 (fun v h => ∃ E, v = some (.ref E) ∧ Keep h0 h [] ∧ oLs Z h E [c0])
    obtain ⟨T100, X100, e100, st100⟩ := getF X0 hx hZ hown (host := "") (Or.inl (hw _ (List.mem_of_getElem? (i := 44) rfl))) Via.refl e0 F_fc (g := (mkF m 3 #[.val (.ref a), .val .null, .val (.int (0 : Int32)), .unset, .unset] [(.ref a)])) rfl rfl (hb hby d4_3)
    refine oPreX st100 ?_
    show oEndX p e s below T100 (mkF m 6 #[.val (.ref a), .val .null, .val (.int (0 : Int32)), .unset, .unset] [(.ref c0)]) n0 2 5 (fun v h => ∃ E, v = some (.ref E) ∧ Keep h0 h [] ∧ oLs Z h E [c0])
    refine oPreX (fun _ => XS.astoreN X100.here hx rfl (hb hby d4_6) rfl rfl (l' := #[.val (.ref a), .val .null, .val (.int (0 : Int32)), .val (.ref c0), .unset]) rfl) ?_
    show oEndX p e s below T100 (mkF m 7 #[.val (.ref a), .val .null, .val (.int (0 : Int32)), .val (.ref c0), .unset] []) n0 2 5 (fun v h => ∃ E, v = some (.ref E) ∧ Keep h0 h [] ∧ oLs Z h E [c0])
    refine oPreX (fun _ => XS.aloadN X100.here hx rfl (hb hby d4_7) rfl rfl) ?_
    show oEndX p e s below T100 (mkF m 8 #[.val (.ref a), .val .null, .val (.int (0 : Int32)), .val (.ref c0), .unset] [(.ref c0)]) n0 2 5 (fun v h => ∃ E, v = some (.ref E) ∧ Keep h0 h [] ∧ oLs Z h E [c0])
    refine oPreX (fun _ => XS.ifnullNo X100.here hx rfl (hb hby d4_8) rfl) ?_
    show oEndX p e s below T100 (mkF m 11 #[.val (.ref a), .val .null, .val (.int (0 : Int32)), .val (.ref c0), .unset] []) n0 2 5 (fun v h => ∃ E, v = some (.ref E) ∧ Keep h0 h [] ∧ oLs Z h E [c0])
    refine oPreX (fun _ => XS.aloadN X100.here hx rfl (hb hby d4_11) rfl rfl) ?_
    show oEndX p e s below T100 (mkF m 12 #[.val (.ref a), .val .null, .val (.int (0 : Int32)), .val (.ref c0), .unset] [.null]) n0 2 5 (fun v h => ∃ E, v = some (.ref E) ∧ Keep h0 h [] ∧ oLs Z h E [c0])
    refine oPreX (fun _ => XS.ifnullYes X100.here hx rfl (pc0 := 12) (pc' := 23) rfl (hb hby d4_12) rfl (by decide) (by decide)) ?_
    show oEndX p e s below T100 (mkF m 23 #[.val (.ref a), .val .null, .val (.int (0 : Int32)), .val (.ref c0), .unset] []) n0 2 5 (fun v h => ∃ E, v = some (.ref E) ∧ Keep h0 h [] ∧ oLs Z h E [c0])
    refine oPreX (fun _ => XS.iinc X100.here hx rfl (hb hby d4_23) rfl (l' := #[.val (.ref a), .val .null, .val (.int (1 : Int32)), .val (.ref c0), .unset]) rfl) ?_
    show oEndX p e s below T100 (mkF m 26 #[.val (.ref a), .val .null, .val (.int (1 : Int32)), .val (.ref c0), .unset] []) n0 2 5 (fun v h => ∃ E, v = some (.ref E) ∧ Keep h0 h [] ∧ oLs Z h E [c0])
    refine oPreX (fun _ => XS.aloadN X100.here hx rfl (hb hby d4_26) rfl rfl) ?_
    show oEndX p e s below T100 (mkF m 27 #[.val (.ref a), .val .null, .val (.int (1 : Int32)), .val (.ref c0), .unset] [(.ref c0)]) n0 2 5 (fun v h => ∃ E, v = some (.ref E) ∧ Keep h0 h [] ∧ oLs Z h E [c0])
    obtain ⟨T110, X110, e110, st110⟩ := getF X100 hx hZ hown (host := "") (Or.inl (hw _ (List.mem_of_getElem? (i := 65) rfl))) Via.refl e100 G_0 (g := (mkF m 27 #[.val (.ref a), .val .null, .val (.int (1 : Int32)), .val (.ref c0), .unset] [(.ref c0)])) rfl rfl (hb hby d4_27)
    refine oPreX st110 ?_
    show oEndX p e s below T110 (mkF m 30 #[.val (.ref a), .val .null, .val (.int (1 : Int32)), .val (.ref c0), .unset] [.null]) n0 2 5 (fun v h => ∃ E, v = some (.ref E) ∧ Keep h0 h [] ∧ oLs Z h E [c0])
    refine oPreX (fun _ => XS.astoreN X110.here hx rfl (hb hby d4_30) rfl rfl (l' := #[.val (.ref a), .val .null, .val (.int (1 : Int32)), .val .null, .unset]) rfl) ?_
    show oEndX p e s below T110 (mkF m 31 #[.val (.ref a), .val .null, .val (.int (1 : Int32)), .val .null, .unset] []) n0 2 5 (fun v h => ∃ E, v = some (.ref E) ∧ Keep h0 h [] ∧ oLs Z h E [c0])
    refine oPreX (fun _ => XS.goto X110.here hx rfl (pc0 := 31) (pc' := 7) rfl (hb hby d4_31) (by decide) (by decide)) ?_
    show oEndX p e s below T110 (mkF m 7 #[.val (.ref a), .val .null, .val (.int (1 : Int32)), .val .null, .unset] []) n0 2 5 (fun v h => ∃ E, v = some (.ref E) ∧ Keep h0 h [] ∧ oLs Z h E [c0])
    refine oPreX (fun _ => XS.aloadN X110.here hx rfl (hb hby d4_7) rfl rfl) ?_
    show oEndX p e s below T110 (mkF m 8 #[.val (.ref a), .val .null, .val (.int (1 : Int32)), .val .null, .unset] [.null]) n0 2 5 (fun v h => ∃ E, v = some (.ref E) ∧ Keep h0 h [] ∧ oLs Z h E [c0])
    refine oPreX (fun _ => XS.ifnullYes X110.here hx rfl (pc0 := 8) (pc' := 34) rfl (hb hby d4_8) rfl (by decide) (by decide)) ?_
    show oEndX p e s below T110 (mkF m 34 #[.val (.ref a), .val .null, .val (.int (1 : Int32)), .val .null, .unset] []) n0 2 5 (fun v h => ∃ E, v = some (.ref E) ∧ Keep h0 h [] ∧ oLs Z h E [c0])
    refine oPreX (fun _ => XS.iloadN X110.here hx rfl (hb hby d4_34) rfl) ?_
    show oEndX p e s below T110 (mkF m 35 #[.val (.ref a), .val .null, .val (.int (1 : Int32)), .val .null, .unset] [(.int (1 : Int32))]) n0 2 5 (fun v h => ∃ E, v = some (.ref E) ∧ Keep h0 h [] ∧ oLs Z h E [c0])
    refine oPreX (fun _ => XS.ifYes X110.here hx rfl (pc0 := 35) (pc' := 42) rfl (hb hby d4_35) rfl ((if0 _ _).trans ((feq (by decide : ¬ (1 : Int32) = 0)).2)) (by decide) (by decide)) ?_
    show oEndX p e s below T110 (mkF m 42 #[.val (.ref a), .val .null, .val (.int (1 : Int32)), .val .null, .unset] []) n0 2 5 (fun v h => ∃ E, v = some (.ref E) ∧ Keep h0 h [] ∧ oLs Z h E [c0])
    refine oPreX (fun _ => XS.iloadN X110.here hx rfl (hb hby d4_42) rfl) ?_
    show oEndX p e s below T110 (mkF m 43 #[.val (.ref a), .val .null, .val (.int (1 : Int32)), .val .null, .unset] [(.int (1 : Int32))]) n0 2 5 (fun v h => ∃ E, v = some (.ref E) ∧ Keep h0 h [] ∧ oLs Z h E [c0])
    obtain ⟨T1, h1, kA, X1, e1, E1, A1, O1, st1⟩ := newR X110 hx hZ hown (hw _ (List.mem_of_getElem? (i := 67) rfl)) (hw _ (List.mem_of_getElem? (i := 68) rfl)) e110 (g := (mkF m 43 #[.val (.ref a), .val .null, .val (.int (1 : Int32)), .val .null, .unset] [(.int (1 : Int32))])) rfl (hb hby d4_43) rfl (by decide) (cap := 3) (by decide) (by decide) (by decide) (by decide)
    obtain ⟨b, gb⟩ : ∃ z, z = h0.size := ⟨_, rfl⟩
    rw [← gb] at A1 st1
    have hb0 : h0.size ≤ b := Nat.le_of_eq gb.symm
    have hbn : n0 ≤ b := Nat.le_trans Z0 hb0
    have V0 : oFill Z h1 b kA 1 [c0] 0 := ⟨_, A1, rfl, sz_new _ _ _, fun i hi => absurd hi (Nat.not_lt_zero i)⟩
    have K0 : Keep h0 h1 [] := (Keep.refl h0 []).ext E1
    refine oPreX st1 ?_
    show oEndX p e s below T1 (mkF m 46 #[.val (.ref a), .val .null, .val (.int (1 : Int32)), .val .null, .unset] [(.ref b)]) n0 2 5 (fun v h => ∃ E, v = some (.ref E) ∧ Keep h0 h [] ∧ oLs Z h E [c0])
    refine oPreX (fun _ => XS.astoreN X1.here hx rfl (hb hby d4_46) rfl rfl (l' := #[.val (.ref a), .val .null, .val (.int (1 : Int32)), .val (.ref b), .unset]) rfl) ?_
    show oEndX p e s below T1 (mkF m 47 #[.val (.ref a), .val .null, .val (.int (1 : Int32)), .val (.ref b), .unset] []) n0 2 5 (fun v h => ∃ E, v = some (.ref E) ∧ Keep h0 h [] ∧ oLs Z h E [c0])
    refine oPreX (fun _ => XS.iconst X1.here hx rfl (hb hby d4_47)) ?_
    show oEndX p e s below T1 (mkF m 48 #[.val (.ref a), .val .null, .val (.int (1 : Int32)), .val (.ref b), .unset] [(.int (0 : Int32))]) n0 2 5 (fun v h => ∃ E, v = some (.ref E) ∧ Keep h0 h [] ∧ oLs Z h E [c0])
    refine oPreX (fun _ => XS.istoreN X1.here hx rfl (hb hby d4_48) rfl (l' := #[.val (.ref a), .val .null, .val (.int (0 : Int32)), .val (.ref b), .unset]) rfl) ?_
    show oEndX p e s below T1 (mkF m 49 #[.val (.ref a), .val .null, .val (.int (0 : Int32)), .val (.ref b), .unset] []) n0 2 5 (fun v h => ∃ E, v = some (.ref E) ∧ Keep h0 h [] ∧ oLs Z h E [c0])
    refine oPreX (fun _ => XS.aloadN X1.here hx rfl (hb hby d4_49) rfl rfl) ?_
    show oEndX p e s below T1 (mkF m 50 #[.val (.ref a), .val .null, .val (.int (0 : Int32)), .val (.ref b), .unset] [(.ref a)]) n0 2 5 (fun v h => ∃ E, v = some (.ref E) ∧ Keep h0 h [] ∧ oLs Z h E [c0])
    obtain ⟨T130, X130, e130, st130⟩ := getF X1 hx hZ hown (host := "") (Or.inl (hw _ (List.mem_of_getElem? (i := 44) rfl))) Via.refl e1 (F_fc.keep K0 (by simp)) (g := (mkF m 50 #[.val (.ref a), .val .null, .val (.int (0 : Int32)), .val (.ref b), .unset] [(.ref a)])) rfl rfl (hb hby d4_50)
    refine oPreX st130 ?_
    show oEndX p e s below T130 (mkF m 53 #[.val (.ref a), .val .null, .val (.int (0 : Int32)), .val (.ref b), .unset] [(.ref c0)]) n0 2 5 (fun v h => ∃ E, v = some (.ref E) ∧ Keep h0 h [] ∧ oLs Z h E [c0])
    refine oPreX (fun _ => XS.astore X130.here hx rfl (hb hby d4_53) rfl rfl (l' := #[.val (.ref a), .val .null, .val (.int (0 : Int32)), .val (.ref b), .val (.ref c0)]) rfl) ?_
    show oEndX p e s below T130 (mkF m 55 #[.val (.ref a), .val .null, .val (.int (0 : Int32)), .val (.ref b), .val (.ref c0)] []) n0 2 5 (fun v h => ∃ E, v = some (.ref E) ∧ Keep h0 h [] ∧ oLs Z h E [c0])
    refine oPreX (fun _ => XS.aload X130.here hx rfl (hb hby d4_55) rfl rfl) ?_
    show oEndX p e s below T130 (mkF m 57 #[.val (.ref a), .val .null, .val (.int (0 : Int32)), .val (.ref b), .val (.ref c0)] [(.ref c0)]) n0 2 5 (fun v h => ∃ E, v = some (.ref E) ∧ Keep h0 h [] ∧ oLs Z h E [c0])
    refine oPreX (fun _ => XS.ifnullNo X130.here hx rfl (hb hby d4_57) rfl) ?_
    show oEndX p e s below T130 (mkF m 60 #[.val (.ref a), .val .null, .val (.int (0 : Int32)), .val (.ref b), .val (.ref c0)] []) n0 2 5 (fun v h => ∃ E, v = some (.ref E) ∧ Keep h0 h [] ∧ oLs Z h E [c0])
    refine oPreX (fun _ => XS.aloadN X130.here hx rfl (hb hby d4_60) rfl rfl) ?_
    show oEndX p e s below T130 (mkF m 61 #[.val (.ref a), .val .null, .val (.int (0 : Int32)), .val (.ref b), .val (.ref c0)] [.null]) n0 2 5 (fun v h => ∃ E, v = some (.ref E) ∧ Keep h0 h [] ∧ oLs Z h E [c0])
    refine oPreX (fun _ => XS.ifnullYes X130.here hx rfl (pc0 := 61) (pc' := 73) rfl (hb hby d4_61) rfl (by decide) (by decide)) ?_
    show oEndX p e s below T130 (mkF m 73 #[.val (.ref a), .val .null, .val (.int (0 : Int32)), .val (.ref b), .val (.ref c0)] []) n0 2 5 (fun v h => ∃ E, v = some (.ref E) ∧ Keep h0 h [] ∧ oLs Z h E [c0])
    refine oPreX (fun _ => XS.aloadN X130.here hx rfl (hb hby d4_73) rfl rfl) ?_
    show oEndX p e s below T130 (mkF m 74 #[.val (.ref a), .val .null, .val (.int (0 : Int32)), .val (.ref b), .val (.ref c0)] [(.ref b)]) n0 2 5 (fun v h => ∃ E, v = some (.ref E) ∧ Keep h0 h [] ∧ oLs Z h E [c0])
    refine oPreX (fun _ => XS.iloadN X130.here hx rfl (hb hby d4_74) rfl) ?_
    show oEndX p e s below T130 (mkF m 75 #[.val (.ref a), .val .null, .val (.int (0 : Int32)), .val (.ref b), .val (.ref c0)] [(.int (0 : Int32)), (.ref b)]) n0 2 5 (fun v h => ∃ E, v = some (.ref E) ∧ Keep h0 h [] ∧ oLs Z h E [c0])
    refine oPreX (fun _ => XS.iinc X130.here hx rfl (hb hby d4_75) rfl (l' := #[.val (.ref a), .val .null, .val (.int (1 : Int32)), .val (.ref b), .val (.ref c0)]) rfl) ?_
    show oEndX p e s below T130 (mkF m 78 #[.val (.ref a), .val .null, .val (.int (1 : Int32)), .val (.ref b), .val (.ref c0)] [(.int (0 : Int32)), (.ref b)]) n0 2 5 (fun v h => ∃ E, v = some (.ref E) ∧ Keep h0 h [] ∧ oLs Z h E [c0])
    refine oPreX (fun _ => XS.aload X130.here hx rfl (hb hby d4_78) rfl rfl) ?_
    show oEndX p e s below T130 (mkF m 80 #[.val (.ref a), .val .null, .val (.int (1 : Int32)), .val (.ref b), .val (.ref c0)] [(.ref c0), (.int (0 : Int32)), (.ref b)]) n0 2 5 (fun v h => ∃ E, v = some (.ref E) ∧ Keep h0 h [] ∧ oLs Z h E [c0])
    obtain ⟨T140, h140, L140, X140, e140, V140, K140, N140, W140, st140⟩ := oSt X130 hx hZ e130 V0 O1 K0 hb0 N0 hbn (0 : Int32) (by decide) (by decide) (y := c0) rfl (E_0.keep K0) (g := (mkF m 80 #[.val (.ref a), .val .null, .val (.int (1 : Int32)), .val (.ref b), .val (.ref c0)] [(.ref c0), (.int (0 : Int32)), (.ref b)])) rfl (rest := []) rfl (hb hby d4_80)
    refine oPreX st140 ?_
    show oEndX p e s below T140 (mkF m 81 #[.val (.ref a), .val .null, .val (.int (1 : Int32)), .val (.ref b), .val (.ref c0)] []) n0 2 5 (fun v h => ∃ E, v = some (.ref E) ∧ Keep h0 h [] ∧ oLs Z h E [c0])
    refine oPreX (fun _ => XS.aload X140.here hx rfl (hb hby d4_81) rfl rfl) ?_
    show oEndX p e s below T140 (mkF m 83 #[.val (.ref a), .val .null, .val (.int (1 : Int32)), .val (.ref b), .val (.ref c0)] [(.ref c0)]) n0 2 5 (fun v h => ∃ E, v = some (.ref E) ∧ Keep h0 h [] ∧ oLs Z h E [c0])
    obtain ⟨T150, X150, e150, st150⟩ := getF X140 hx hZ hown (host := "") (Or.inl (hw _ (List.mem_of_getElem? (i := 65) rfl))) Via.refl e140 (G_0.keep K140 (by simp)) (g := (mkF m 83 #[.val (.ref a), .val .null, .val (.int (1 : Int32)), .val (.ref b), .val (.ref c0)] [(.ref c0)])) rfl rfl (hb hby d4_83)
    refine oPreX st150 ?_
    show oEndX p e s below T150 (mkF m 86 #[.val (.ref a), .val .null, .val (.int (1 : Int32)), .val (.ref b), .val (.ref c0)] [.null]) n0 2 5 (fun v h => ∃ E, v = some (.ref E) ∧ Keep h0 h [] ∧ oLs Z h E [c0])
    refine oPreX (fun _ => XS.astore X150.here hx rfl (hb hby d4_86) rfl rfl (l' := #[.val (.ref a), .val .null, .val (.int (1 : Int32)), .val (.ref b), .val .null]) rfl) ?_
    show oEndX p e s below T150 (mkF m 88 #[.val (.ref a), .val .null, .val (.int (1 : Int32)), .val (.ref b), .val .null] []) n0 2 5 (fun v h => ∃ E, v = some (.ref E) ∧ Keep h0 h [] ∧ oLs Z h E [c0])
    refine oPreX (fun _ => XS.goto X150.here hx rfl (pc0 := 88) (pc' := 55) rfl (hb hby d4_88) (by decide) (by decide)) ?_
    show oEndX p e s below T150 (mkF m 55 #[.val (.ref a), .val .null, .val (.int (1 : Int32)), .val (.ref b), .val .null] []) n0 2 5 (fun v h => ∃ E, v = some (.ref E) ∧ Keep h0 h [] ∧ oLs Z h E [c0])
    refine oPreX (fun _ => XS.aload X150.here hx rfl (hb hby d4_55) rfl rfl) ?_
    show oEndX p e s below T150 (mkF m 57 #[.val (.ref a), .val .null, .val (.int (1 : Int32)), .val (.ref b), .val .null] [.null]) n0 2 5 (fun v h => ∃ E, v = some (.ref E) ∧ Keep h0 h [] ∧ oLs Z h E [c0])
    refine oPreX (fun _ => XS.ifnullYes X150.here hx rfl (pc0 := 57) (pc' := 91) rfl (hb hby d4_57) rfl (by decide) (by decide)) ?_
    show oEndX p e s below T150 (mkF m 91 #[.val (.ref a), .val .null, .val (.int (1 : Int32)), .val (.ref b), .val .null] []) n0 2 5 (fun v h => ∃ E, v = some (.ref E) ∧ Keep h0 h [] ∧ oLs Z h E [c0])
    obtain ⟨T5, h5, X5, e5, E5, A5, D5, -, st5⟩ := newO X150 hx hZ hown (hw _ (List.mem_of_getElem? (i := 70) rfl)) (hw _ (List.mem_of_getElem? (i := 71) rfl)) (hw _ (List.mem_of_getElem? (i := 56) rfl)) e150 (g := (mkF m 91 #[.val (.ref a), .val .null, .val (.int (1 : Int32)), .val (.ref b), .val .null] [])) rfl (hb hby d4_91) (by decide) (by decide)
    obtain ⟨E, gE⟩ : ∃ z, z = h140.size := ⟨_, rfl⟩
    rw [← gE] at A5 D5 st5
    have V5 := oFill_ext E5 V140
    have K5 : Keep h0 h5 [] := K140.ext E5
    have hE0 : h0.size ≤ E := by rw [gE]; exact K140.1
    have hbE : b ≠ E := by obtain ⟨cz, Az, -⟩ := V140; exact Nat.ne_of_lt (by rw [gE]; exact Az.lt)
    have F_elm : Fld Z h5 E "org/provenote/core/xml/XmlElement$Elements" "elements" "[Lorg/provenote/core/xml/XmlElement;" .null := D5 (Or.inr (hw _ (List.mem_of_getElem? (i := 59) rfl))) (ty := (.array (.object "org/provenote/core/xml/XmlElement"))) (by decide)
    have F_mod : Fld Z h5 E "java/util/AbstractList" "modCount" "I" (.int (0 : Int32)) := D5 (Or.inl (hw _ (List.mem_of_getElem? (i := 88) rfl))) (ty := .int) (by decide)
    refine oPreX st5 ?_
    show oEndX p e s below T5 (mkF m 94 #[.val (.ref a), .val .null, .val (.int (1 : Int32)), .val (.ref b), .val .null] [(.ref E)]) n0 2 5 (fun v h => ∃ E, v = some (.ref E) ∧ Keep h0 h [] ∧ oLs Z h E [c0])
    refine oPreX (fun _ => XS.dup X5.here hx rfl (hb hby d4_94) rfl rfl) ?_
    show oEndX p e s below T5 (mkF m 95 #[.val (.ref a), .val .null, .val (.int (1 : Int32)), .val (.ref b), .val .null] [(.ref E), (.ref E)]) n0 2 5 (fun v h => ∃ E, v = some (.ref E) ∧ Keep h0 h [] ∧ oLs Z h E [c0])
    refine oPreX (fun _ => XS.aloadN X5.here hx rfl (hb hby d4_95) rfl rfl) ?_
    show oEndX p e s below T5 (mkF m 96 #[.val (.ref a), .val .null, .val (.int (1 : Int32)), .val (.ref b), .val .null] [(.ref b), (.ref E), (.ref E)]) n0 2 5 (fun v h => ∃ E, v = some (.ref E) ∧ Keep h0 h [] ∧ oLs Z h E [c0])
    obtain ⟨_, _, ⟨T6, L6, k6, n6⟩, -, X6, ⟨Lc6, hQ6, l6, y6, z6⟩, st6⟩ := X5.specialBack hx (y := (⟨"org/provenote/core/xml/XmlElement$Elements", "<init>", "([Lorg/provenote/core/xml/XmlElement;)V"⟩ : MethodName)) rfl hown (mvT hZ (hw _ (List.mem_of_getElem? (i := 72) rfl))) (mvT hZ (hw _ (List.mem_of_getElem? (i := 73) rfl))) (mvT hZ (hw _ (List.mem_of_getElem? (i := 74) rfl))) (by decide) (backOf (W := 1) (rm7 l Z a0 hw [] E b .null h5 n0 (Nat.le_trans Z0 K5.1) A5 F_elm (Nat.le_trans Z0 hE0) F_mod) hZ (hw _ (List.mem_of_getElem? (i := 74) rfl)) (hw _ (List.mem_of_getElem? (i := 56) rfl)) (by decide) (by decide)) (g := (mkF m 96 #[.val (.ref a), .val .null, .val (.int (1 : Int32)), .val (.ref b), .val .null] [(.ref b), (.ref E), (.ref E)])) rfl (by rw [hml]; rfl) (Steps.refl _) (a := E) (argsL := [(.ref b)]) (rest := [(.ref E)]) (lenOf pd_3 rfl) rfl (by show 2 * 0 + _ ≤ _; exact Nat.le_of_eq rfl) (hb hby d4_96) (fun _ _ => ⟨rfl, e5, (by decide : 2 + 0 ≤ _), (by decide : 5 + 0 ≤ _)⟩)
    dsimp only [Pt.U, Pt.locs, Pt.cells, Pt.slots] at X6 l6 y6 z6 st6 hQ6
    subst l6
    rw [y6, z6] at X6
    obtain ⟨rfl, N6q, K6, A6, F6⟩ := hQ6
    have N6 := Fr.app N140 N6q
    refine oPreX (fun _ q => st6.trans q) ?_
    obtain ⟨cl5, r1, -, r3, r4⟩ := V5
    show oEndX p e s below T6 (mkF m 99 #[.val (.ref a), .val .null, .val (.int (1 : Int32)), .val (.ref b), .val .null] [(.ref E)]) n0 2 5 (fun v h => ∃ E, v = some (.ref E) ∧ Keep h0 h [] ∧ oLs Z h E [c0])
    obtain ⟨fs, hr, hrun, hended, hW, hsame⟩ := X6.leave (v := some (.ref E)) (fun h => by rw [hret] at h; cases h) hlk
    have stp : Steps p.tables e below (T6.setTop (mkF m 99 #[.val (.ref a), .val .null, .val (.int (1 : Int32)), .val (.ref b), .val .null] [(.ref E)])) (T6.setFrames fs) := by
      jvm_step X6.here [X6.here.top, hx, (hb hby d4_99), X6.method', hret, Value.isRef, FieldType.isReference]
      first | (intro acts; rw [hr _ acts rfl rfl rfl]) | rw [hr _ _ rfl rfl rfl]
      exact Steps.refl _
    exact ⟨_, _, _, stp, hrun, hended, hW, hsame.mono (by decide) (by decide), N6, ⟨E, rfl, oKeep0 K5 K6 hE0, b, cl5, A6, F6, ⟨K6.2.1 _ _ r1.1 (oNi hbE), r1.2⟩, r3, r4⟩⟩
  obtain ⟨tq, L, v, hs, hrun, hended, hW, hsame, hN, hQ⟩ := main
  exact ⟨tq, _, castTop (ef_4 m a) hs, hrun, hended, v, L, rfl, ⟨hQ, hN⟩, ⟨_, rfl⟩, hW, hsame⟩
set_option maxRecDepth 65536 in
set_option maxHeartbeats 40000000 in
theorem oRS2 (l : Launch) (Z : State) (a0 : Array Value) (hw : ∀ d ∈ tables_1, d.before a0 Z = true) (ws : List Jvm.Cond) (a : Addr) (c0 c1 : Addr) (h0 : Heap) (n0 : Nat) (Z0 : n0 ≤ h0.size) (F_fc : Fld Z h0 a "org/provenote/core/xml/XmlElement" "firstChild" "Lorg/provenote/core/xml/XmlElement;" (.ref c0)) (E_0 : Exa Z h0 c0 "org/provenote/core/xml/XmlElement") (G_0 : Fld Z h0 c0 "org/provenote/core/xml/XmlElement" "nextSibling" "Lorg/provenote/core/xml/XmlElement;" (.ref c1)) (E_1 : Exa Z h0 c1 "org/provenote/core/xml/XmlElement") (G_1 : Fld Z h0 c1 "org/provenote/core/xml/XmlElement" "nextSibling" "Lorg/provenote/core/xml/XmlElement;" .null) {wC : Addr} (S_NC : Sta Z h0 "org/provenote/core/xml/XmlElement" "NO_CHILDREN" "Ljava/util/List;" (.ref wC)) (L_C : oLs Z h0 wC []) :
    MetFree l (⟨"org/provenote/core/xml/XmlElement", "select", "(Ljava/lang/String;)Ljava/util/List;"⟩ : MethodName) (head1 (Jvm.Cond.code (⟨"org/provenote/core/xml/XmlElement", "select", "(Ljava/lang/String;)Ljava/util/List;"⟩ : MethodName) prog_99_method_14_code 5 (some (.object "java/util/List")) :: ws) ({ frames := 4, cells := 2, slots := 5, locals := 50 } : Room)) (fun ar U => ar = #[(.ref a), .null] ∧ Z.Warmed39 U.vm ∧ U.heap = h0) (fun _ _ _ _ _ => True) (fun _ U o U' => ∃ v L, o = .returned v ∧ oQS Z [c0, c1] h0 n0 v U'.heap L ∧ FrameEnd U o U' L ({ frames := 4, cells := 2, slots := 5, locals := 50 } : Room).cells ({ frames := 4, cells := 2, slots := 5, locals := 50 } : Room).slots) := by
  refine MetFree.of_bodySF (plainFor_of_name pn_4) hisR ?_
  intro p e s m args below meth c s₁ Bd hml0 hP hK
  obtain ⟨rfl, hZ, hh⟩ := hP
  have hx := Bd.exec
  have hby := Bd.bytes
  have hml : c.maxLocals = 5 := hml0
  have hret := Bd.returns
  have hlk : meth.locks = false := Bd.notSynchronized
  have hown : s.vm.findClass "org/provenote/core/xml/XmlElement" = some m.cls := findClass_of_methodNamed Bd.named
  have X0 : Stand p l e ({ frames := 4, cells := 2, slots := 5, locals := 50 } : Room) s m #[(.ref a), .null] below meth c s₁ [] 0 0 := Stand.of_body Bd
  have e0 : s₁.heap = h0 := by rw [← hh, Bd.state]; rfl
  have N0 := Fr.nil n0
  have main : oEndX p e s below s₁ (mkF m 0 #[.val (.ref a), .val .null, .unset, .unset, .unset] []) n0 2 5 (fun v h => ∃ E, v = some (.ref E) ∧ Keep h0 h [] ∧ oLs Z h E [c0, c1]) := by
    show oEndX p e s below s₁ (mkF m 0 #[.val (.ref a), .val .null, .unset, .unset, .unset] []) n0 2 5 (fun v h => ∃ E, v = some (.ref E) ∧ Keep h0 h [] ∧ oLs Z h E [c0, c1])
    refine oPreX (fun _ => XS.iconst X0.here hx rfl (hb hby d4_0)) ?_
    show oEndX p e s below s₁ (mkF m 1 #[.val (.ref a), .val .null, .unset, .unset, .unset] [(.int (0 : Int32))]) n0 2 5 (fun v h => ∃ E, v = some (.ref E) ∧ Keep h0 h [] ∧ oLs Z h E [c0, c1])
    refine oPreX (fun _ => XS.istoreN X0.here hx rfl (hb hby d4_1) rfl (l' := #[.val (.ref a), .val .null, .val (.int (0 : Int32)), .unset, .unset]) rfl) ?_
    show oEndX p e s below s₁ (mkF m 2 #[.val (.ref a), .val .null, .val (.int (0 : Int32)), .unset, .unset] []) n0 2 5 (fun v h => ∃ E, v = some (.ref E) ∧ Keep h0 h [] ∧ oLs Z h E [c0, c1])
    refine oPreX (fun _ => XS.aloadN X0.here hx rfl (hb hby d4_2) rfl rfl) ?_
    show oEndX p e s below s₁ (mkF m 3 #[.val (.ref a), .val .null, .val (.int (0 : Int32)), .unset, .unset] [(.ref a)]) n0 2 5 (fun v h => ∃ E, v = some (.ref E) ∧ Keep h0 h [] ∧ oLs Z h E [c0, c1])
    obtain ⟨T100, X100, e100, st100⟩ := getF X0 hx hZ hown (host := "") (Or.inl (hw _ (List.mem_of_getElem? (i := 44) rfl))) Via.refl e0 F_fc (g := (mkF m 3 #[.val (.ref a), .val .null, .val (.int (0 : Int32)), .unset, .unset] [(.ref a)])) rfl rfl (hb hby d4_3)
    refine oPreX st100 ?_
    show oEndX p e s below T100 (mkF m 6 #[.val (.ref a), .val .null, .val (.int (0 : Int32)), .unset, .unset] [(.ref c0)]) n0 2 5 (fun v h => ∃ E, v = some (.ref E) ∧ Keep h0 h [] ∧ oLs Z h E [c0, c1])
    refine oPreX (fun _ => XS.astoreN X100.here hx rfl (hb hby d4_6) rfl rfl (l' := #[.val (.ref a), .val .null, .val (.int (0 : Int32)), .val (.ref c0), .unset]) rfl) ?_
    show oEndX p e s below T100 (mkF m 7 #[.val (.ref a), .val .null, .val (.int (0 : Int32)), .val (.ref c0), .unset] []) n0 2 5 (fun v h => ∃ E, v = some (.ref E) ∧ Keep h0 h [] ∧ oLs Z h E [c0, c1])
    refine oPreX (fun _ => XS.aloadN X100.here hx rfl (hb hby d4_7) rfl rfl) ?_
    show oEndX p e s below T100 (mkF m 8 #[.val (.ref a), .val .null, .val (.int (0 : Int32)), .val (.ref c0), .unset] [(.ref c0)]) n0 2 5 (fun v h => ∃ E, v = some (.ref E) ∧ Keep h0 h [] ∧ oLs Z h E [c0, c1])
    refine oPreX (fun _ => XS.ifnullNo X100.here hx rfl (hb hby d4_8) rfl) ?_
    show oEndX p e s below T100 (mkF m 11 #[.val (.ref a), .val .null, .val (.int (0 : Int32)), .val (.ref c0), .unset] []) n0 2 5 (fun v h => ∃ E, v = some (.ref E) ∧ Keep h0 h [] ∧ oLs Z h E [c0, c1])
    refine oPreX (fun _ => XS.aloadN X100.here hx rfl (hb hby d4_11) rfl rfl) ?_
    show oEndX p e s below T100 (mkF m 12 #[.val (.ref a), .val .null, .val (.int (0 : Int32)), .val (.ref c0), .unset] [.null]) n0 2 5 (fun v h => ∃ E, v = some (.ref E) ∧ Keep h0 h [] ∧ oLs Z h E [c0, c1])
    refine oPreX (fun _ => XS.ifnullYes X100.here hx rfl (pc0 := 12) (pc' := 23) rfl (hb hby d4_12) rfl (by decide) (by decide)) ?_
    show oEndX p e s below T100 (mkF m 23 #[.val (.ref a), .val .null, .val (.int (0 : Int32)), .val (.ref c0), .unset] []) n0 2 5 (fun v h => ∃ E, v = some (.ref E) ∧ Keep h0 h [] ∧ oLs Z h E [c0, c1])
    refine oPreX (fun _ => XS.iinc X100.here hx rfl (hb hby d4_23) rfl (l' := #[.val (.ref a), .val .null, .val (.int (1 : Int32)), .val (.ref c0), .unset]) rfl) ?_
    show oEndX p e s below T100 (mkF m 26 #[.val (.ref a), .val .null, .val (.int (1 : Int32)), .val (.ref c0), .unset] []) n0 2 5 (fun v h => ∃ E, v = some (.ref E) ∧ Keep h0 h [] ∧ oLs Z h E [c0, c1])
    refine oPreX (fun _ => XS.aloadN X100.here hx rfl (hb hby d4_26) rfl rfl) ?_
    show oEndX p e s below T100 (mkF m 27 #[.val (.ref a), .val .null, .val (.int (1 : Int32)), .val (.ref c0), .unset] [(.ref c0)]) n0 2 5 (fun v h => ∃ E, v = some (.ref E) ∧ Keep h0 h [] ∧ oLs Z h E [c0, c1])
    obtain ⟨T110, X110, e110, st110⟩ := getF X100 hx hZ hown (host := "") (Or.inl (hw _ (List.mem_of_getElem? (i := 65) rfl))) Via.refl e100 G_0 (g := (mkF m 27 #[.val (.ref a), .val .null, .val (.int (1 : Int32)), .val (.ref c0), .unset] [(.ref c0)])) rfl rfl (hb hby d4_27)
    refine oPreX st110 ?_
    show oEndX p e s below T110 (mkF m 30 #[.val (.ref a), .val .null, .val (.int (1 : Int32)), .val (.ref c0), .unset] [(.ref c1)]) n0 2 5 (fun v h => ∃ E, v = some (.ref E) ∧ Keep h0 h [] ∧ oLs Z h E [c0, c1])
    refine oPreX (fun _ => XS.astoreN X110.here hx rfl (hb hby d4_30) rfl rfl (l' := #[.val (.ref a), .val .null, .val (.int (1 : Int32)), .val (.ref c1), .unset]) rfl) ?_
    show oEndX p e s below T110 (mkF m 31 #[.val (.ref a), .val .null, .val (.int (1 : Int32)), .val (.ref c1), .unset] []) n0 2 5 (fun v h => ∃ E, v = some (.ref E) ∧ Keep h0 h [] ∧ oLs Z h E [c0, c1])
    refine oPreX (fun _ => XS.goto X110.here hx rfl (pc0 := 31) (pc' := 7) rfl (hb hby d4_31) (by decide) (by decide)) ?_
    show oEndX p e s below T110 (mkF m 7 #[.val (.ref a), .val .null, .val (.int (1 : Int32)), .val (.ref c1), .unset] []) n0 2 5 (fun v h => ∃ E, v = some (.ref E) ∧ Keep h0 h [] ∧ oLs Z h E [c0, c1])
    refine oPreX (fun _ => XS.aloadN X110.here hx rfl (hb hby d4_7) rfl rfl) ?_
    show oEndX p e s below T110 (mkF m 8 #[.val (.ref a), .val .null, .val (.int (1 : Int32)), .val (.ref c1), .unset] [(.ref c1)]) n0 2 5 (fun v h => ∃ E, v = some (.ref E) ∧ Keep h0 h [] ∧ oLs Z h E [c0, c1])
    refine oPreX (fun _ => XS.ifnullNo X110.here hx rfl (hb hby d4_8) rfl) ?_
    show oEndX p e s below T110 (mkF m 11 #[.val (.ref a), .val .null, .val (.int (1 : Int32)), .val (.ref c1), .unset] []) n0 2 5 (fun v h => ∃ E, v = some (.ref E) ∧ Keep h0 h [] ∧ oLs Z h E [c0, c1])
    refine oPreX (fun _ => XS.aloadN X110.here hx rfl (hb hby d4_11) rfl rfl) ?_
    show oEndX p e s below T110 (mkF m 12 #[.val (.ref a), .val .null, .val (.int (1 : Int32)), .val (.ref c1), .unset] [.null]) n0 2 5 (fun v h => ∃ E, v = some (.ref E) ∧ Keep h0 h [] ∧ oLs Z h E [c0, c1])
    refine oPreX (fun _ => XS.ifnullYes X110.here hx rfl (pc0 := 12) (pc' := 23) rfl (hb hby d4_12) rfl (by decide) (by decide)) ?_
    show oEndX p e s below T110 (mkF m 23 #[.val (.ref a), .val .null, .val (.int (1 : Int32)), .val (.ref c1), .unset] []) n0 2 5 (fun v h => ∃ E, v = some (.ref E) ∧ Keep h0 h [] ∧ oLs Z h E [c0, c1])
    refine oPreX (fun _ => XS.iinc X110.here hx rfl (hb hby d4_23) rfl (l' := #[.val (.ref a), .val .null, .val (.int (2 : Int32)), .val (.ref c1), .unset]) rfl) ?_
    show oEndX p e s below T110 (mkF m 26 #[.val (.ref a), .val .null, .val (.int (2 : Int32)), .val (.ref c1), .unset] []) n0 2 5 (fun v h => ∃ E, v = some (.ref E) ∧ Keep h0 h [] ∧ oLs Z h E [c0, c1])
    refine oPreX (fun _ => XS.aloadN X110.here hx rfl (hb hby d4_26) rfl rfl) ?_
    show oEndX p e s below T110 (mkF m 27 #[.val (.ref a), .val .null, .val (.int (2 : Int32)), .val (.ref c1), .unset] [(.ref c1)]) n0 2 5 (fun v h => ∃ E, v = some (.ref E) ∧ Keep h0 h [] ∧ oLs Z h E [c0, c1])
    obtain ⟨T111, X111, e111, st111⟩ := getF X110 hx hZ hown (host := "") (Or.inl (hw _ (List.mem_of_getElem? (i := 65) rfl))) Via.refl e110 G_1 (g := (mkF m 27 #[.val (.ref a), .val .null, .val (.int (2 : Int32)), .val (.ref c1), .unset] [(.ref c1)])) rfl rfl (hb hby d4_27)
    refine oPreX st111 ?_
    show oEndX p e s below T111 (mkF m 30 #[.val (.ref a), .val .null, .val (.int (2 : Int32)), .val (.ref c1), .unset] [.null]) n0 2 5 (fun v h => ∃ E, v = some (.ref E) ∧ Keep h0 h [] ∧ oLs Z h E [c0, c1])
    refine oPreX (fun _ => XS.astoreN X111.here hx rfl (hb hby d4_30) rfl rfl (l' := #[.val (.ref a), .val .null, .val (.int (2 : Int32)), .val .null, .unset]) rfl) ?_
    show oEndX p e s below T111 (mkF m 31 #[.val (.ref a), .val .null, .val (.int (2 : Int32)), .val .null, .unset] []) n0 2 5 (fun v h => ∃ E, v = some (.ref E) ∧ Keep h0 h [] ∧ oLs Z h E [c0, c1])
    refine oPreX (fun _ => XS.goto X111.here hx rfl (pc0 := 31) (pc' := 7) rfl (hb hby d4_31) (by decide) (by decide)) ?_
    show oEndX p e s below T111 (mkF m 7 #[.val (.ref a), .val .null, .val (.int (2 : Int32)), .val .null, .unset] []) n0 2 5 (fun v h => ∃ E, v = some (.ref E) ∧ Keep h0 h [] ∧ oLs Z h E [c0, c1])
    refine oPreX (fun _ => XS.aloadN X111.here hx rfl (hb hby d4_7) rfl rfl) ?_
    show oEndX p e s below T111 (mkF m 8 #[.val (.ref a), .val .null, .val (.int (2 : Int32)), .val .null, .unset] [.null]) n0 2 5 (fun v h => ∃ E, v = some (.ref E) ∧ Keep h0 h [] ∧ oLs Z h E [c0, c1])
    refine oPreX (fun _ => XS.ifnullYes X111.here hx rfl (pc0 := 8) (pc' := 34) rfl (hb hby d4_8) rfl (by decide) (by decide)) ?_
    show oEndX p e s below T111 (mkF m 34 #[.val (.ref a), .val .null, .val (.int (2 : Int32)), .val .null, .unset] []) n0 2 5 (fun v h => ∃ E, v = some (.ref E) ∧ Keep h0 h [] ∧ oLs Z h E [c0, c1])
    refine oPreX (fun _ => XS.iloadN X111.here hx rfl (hb hby d4_34) rfl) ?_
    show oEndX p e s below T111 (mkF m 35 #[.val (.ref a), .val .null, .val (.int (2 : Int32)), .val .null, .unset] [(.int (2 : Int32))]) n0 2 5 (fun v h => ∃ E, v = some (.ref E) ∧ Keep h0 h [] ∧ oLs Z h E [c0, c1])
    refine oPreX (fun _ => XS.ifYes X111.here hx rfl (pc0 := 35) (pc' := 42) rfl (hb hby d4_35) rfl ((if0 _ _).trans ((feq (by decide : ¬ (2 : Int32) = 0)).2)) (by decide) (by decide)) ?_
    show oEndX p e s below T111 (mkF m 42 #[.val (.ref a), .val .null, .val (.int (2 : Int32)), .val .null, .unset] []) n0 2 5 (fun v h => ∃ E, v = some (.ref E) ∧ Keep h0 h [] ∧ oLs Z h E [c0, c1])
    refine oPreX (fun _ => XS.iloadN X111.here hx rfl (hb hby d4_42) rfl) ?_
    show oEndX p e s below T111 (mkF m 43 #[.val (.ref a), .val .null, .val (.int (2 : Int32)), .val .null, .unset] [(.int (2 : Int32))]) n0 2 5 (fun v h => ∃ E, v = some (.ref E) ∧ Keep h0 h [] ∧ oLs Z h E [c0, c1])
    obtain ⟨T1, h1, kA, X1, e1, E1, A1, O1, st1⟩ := newR X111 hx hZ hown (hw _ (List.mem_of_getElem? (i := 67) rfl)) (hw _ (List.mem_of_getElem? (i := 68) rfl)) e111 (g := (mkF m 43 #[.val (.ref a), .val .null, .val (.int (2 : Int32)), .val .null, .unset] [(.int (2 : Int32))])) rfl (hb hby d4_43) rfl (by decide) (cap := 3) (by decide) (by decide) (by decide) (by decide)
    obtain ⟨b, gb⟩ : ∃ z, z = h0.size := ⟨_, rfl⟩
    rw [← gb] at A1 st1
    have hb0 : h0.size ≤ b := Nat.le_of_eq gb.symm
    have hbn : n0 ≤ b := Nat.le_trans Z0 hb0
    have V0 : oFill Z h1 b kA 2 [c0, c1] 0 := ⟨_, A1, rfl, sz_new _ _ _, fun i hi => absurd hi (Nat.not_lt_zero i)⟩
    have K0 : Keep h0 h1 [] := (Keep.refl h0 []).ext E1
    refine oPreX st1 ?_
    show oEndX p e s below T1 (mkF m 46 #[.val (.ref a), .val .null, .val (.int (2 : Int32)), .val .null, .unset] [(.ref b)]) n0 2 5 (fun v h => ∃ E, v = some (.ref E) ∧ Keep h0 h [] ∧ oLs Z h E [c0, c1])
    refine oPreX (fun _ => XS.astoreN X1.here hx rfl (hb hby d4_46) rfl rfl (l' := #[.val (.ref a), .val .null, .val (.int (2 : Int32)), .val (.ref b), .unset]) rfl) ?_
    show oEndX p e s below T1 (mkF m 47 #[.val (.ref a), .val .null, .val (.int (2 : Int32)), .val (.ref b), .unset] []) n0 2 5 (fun v h => ∃ E, v = some (.ref E) ∧ Keep h0 h [] ∧ oLs Z h E [c0, c1])
    refine oPreX (fun _ => XS.iconst X1.here hx rfl (hb hby d4_47)) ?_
    show oEndX p e s below T1 (mkF m 48 #[.val (.ref a), .val .null, .val (.int (2 : Int32)), .val (.ref b), .unset] [(.int (0 : Int32))]) n0 2 5 (fun v h => ∃ E, v = some (.ref E) ∧ Keep h0 h [] ∧ oLs Z h E [c0, c1])
    refine oPreX (fun _ => XS.istoreN X1.here hx rfl (hb hby d4_48) rfl (l' := #[.val (.ref a), .val .null, .val (.int (0 : Int32)), .val (.ref b), .unset]) rfl) ?_
    show oEndX p e s below T1 (mkF m 49 #[.val (.ref a), .val .null, .val (.int (0 : Int32)), .val (.ref b), .unset] []) n0 2 5 (fun v h => ∃ E, v = some (.ref E) ∧ Keep h0 h [] ∧ oLs Z h E [c0, c1])
    refine oPreX (fun _ => XS.aloadN X1.here hx rfl (hb hby d4_49) rfl rfl) ?_
    show oEndX p e s below T1 (mkF m 50 #[.val (.ref a), .val .null, .val (.int (0 : Int32)), .val (.ref b), .unset] [(.ref a)]) n0 2 5 (fun v h => ∃ E, v = some (.ref E) ∧ Keep h0 h [] ∧ oLs Z h E [c0, c1])
    obtain ⟨T130, X130, e130, st130⟩ := getF X1 hx hZ hown (host := "") (Or.inl (hw _ (List.mem_of_getElem? (i := 44) rfl))) Via.refl e1 (F_fc.keep K0 (by simp)) (g := (mkF m 50 #[.val (.ref a), .val .null, .val (.int (0 : Int32)), .val (.ref b), .unset] [(.ref a)])) rfl rfl (hb hby d4_50)
    refine oPreX st130 ?_
    show oEndX p e s below T130 (mkF m 53 #[.val (.ref a), .val .null, .val (.int (0 : Int32)), .val (.ref b), .unset] [(.ref c0)]) n0 2 5 (fun v h => ∃ E, v = some (.ref E) ∧ Keep h0 h [] ∧ oLs Z h E [c0, c1])
    refine oPreX (fun _ => XS.astore X130.here hx rfl (hb hby d4_53) rfl rfl (l' := #[.val (.ref a), .val .null, .val (.int (0 : Int32)), .val (.ref b), .val (.ref c0)]) rfl) ?_
    show oEndX p e s below T130 (mkF m 55 #[.val (.ref a), .val .null, .val (.int (0 : Int32)), .val (.ref b), .val (.ref c0)] []) n0 2 5 (fun v h => ∃ E, v = some (.ref E) ∧ Keep h0 h [] ∧ oLs Z h E [c0, c1])
    refine oPreX (fun _ => XS.aload X130.here hx rfl (hb hby d4_55) rfl rfl) ?_
    show oEndX p e s below T130 (mkF m 57 #[.val (.ref a), .val .null, .val (.int (0 : Int32)), .val (.ref b), .val (.ref c0)] [(.ref c0)]) n0 2 5 (fun v h => ∃ E, v = some (.ref E) ∧ Keep h0 h [] ∧ oLs Z h E [c0, c1])
    refine oPreX (fun _ => XS.ifnullNo X130.here hx rfl (hb hby d4_57) rfl) ?_
    show oEndX p e s below T130 (mkF m 60 #[.val (.ref a), .val .null, .val (.int (0 : Int32)), .val (.ref b), .val (.ref c0)] []) n0 2 5 (fun v h => ∃ E, v = some (.ref E) ∧ Keep h0 h [] ∧ oLs Z h E [c0, c1])
    refine oPreX (fun _ => XS.aloadN X130.here hx rfl (hb hby d4_60) rfl rfl) ?_
    show oEndX p e s below T130 (mkF m 61 #[.val (.ref a), .val .null, .val (.int (0 : Int32)), .val (.ref b), .val (.ref c0)] [.null]) n0 2 5 (fun v h => ∃ E, v = some (.ref E) ∧ Keep h0 h [] ∧ oLs Z h E [c0, c1])
    refine oPreX (fun _ => XS.ifnullYes X130.here hx rfl (pc0 := 61) (pc' := 73) rfl (hb hby d4_61) rfl (by decide) (by decide)) ?_
    show oEndX p e s below T130 (mkF m 73 #[.val (.ref a), .val .null, .val (.int (0 : Int32)), .val (.ref b), .val (.ref c0)] []) n0 2 5 (fun v h => ∃ E, v = some (.ref E) ∧ Keep h0 h [] ∧ oLs Z h E [c0, c1])
    refine oPreX (fun _ => XS.aloadN X130.here hx rfl (hb hby d4_73) rfl rfl) ?_
    show oEndX p e s below T130 (mkF m 74 #[.val (.ref a), .val .null, .val (.int (0 : Int32)), .val (.ref b), .val (.ref c0)] [(.ref b)]) n0 2 5 (fun v h => ∃ E, v = some (.ref E) ∧ Keep h0 h [] ∧ oLs Z h E [c0, c1])
    refine oPreX (fun _ => XS.iloadN X130.here hx rfl (hb hby d4_74) rfl) ?_
    show oEndX p e s below T130 (mkF m 75 #[.val (.ref a), .val .null, .val (.int (0 : Int32)), .val (.ref b), .val (.ref c0)] [(.int (0 : Int32)), (.ref b)]) n0 2 5 (fun v h => ∃ E, v = some (.ref E) ∧ Keep h0 h [] ∧ oLs Z h E [c0, c1])
    refine oPreX (fun _ => XS.iinc X130.here hx rfl (hb hby d4_75) rfl (l' := #[.val (.ref a), .val .null, .val (.int (1 : Int32)), .val (.ref b), .val (.ref c0)]) rfl) ?_
    show oEndX p e s below T130 (mkF m 78 #[.val (.ref a), .val .null, .val (.int (1 : Int32)), .val (.ref b), .val (.ref c0)] [(.int (0 : Int32)), (.ref b)]) n0 2 5 (fun v h => ∃ E, v = some (.ref E) ∧ Keep h0 h [] ∧ oLs Z h E [c0, c1])
    refine oPreX (fun _ => XS.aload X130.here hx rfl (hb hby d4_78) rfl rfl) ?_
    show oEndX p e s below T130 (mkF m 80 #[.val (.ref a), .val .null, .val (.int (1 : Int32)), .val (.ref b), .val (.ref c0)] [(.ref c0), (.int (0 : Int32)), (.ref b)]) n0 2 5 (fun v h => ∃ E, v = some (.ref E) ∧ Keep h0 h [] ∧ oLs Z h E [c0, c1])
    obtain ⟨T140, h140, L140, X140, e140, V140, K140, N140, W140, st140⟩ := oSt X130 hx hZ e130 V0 O1 K0 hb0 N0 hbn (0 : Int32) (by decide) (by decide) (y := c0) rfl (E_0.keep K0) (g := (mkF m 80 #[.val (.ref a), .val .null, .val (.int (1 : Int32)), .val (.ref b), .val (.ref c0)] [(.ref c0), (.int (0 : Int32)), (.ref b)])) rfl (rest := []) rfl (hb hby d4_80)
    refine oPreX st140 ?_
    show oEndX p e s below T140 (mkF m 81 #[.val (.ref a), .val .null, .val (.int (1 : Int32)), .val (.ref b), .val (.ref c0)] []) n0 2 5 (fun v h => ∃ E, v = some (.ref E) ∧ Keep h0 h [] ∧ oLs Z h E [c0, c1])
    refine oPreX (fun _ => XS.aload X140.here hx rfl (hb hby d4_81) rfl rfl) ?_
    show oEndX p e s below T140 (mkF m 83 #[.val (.ref a), .val .null, .val (.int (1 : Int32)), .val (.ref b), .val (.ref c0)] [(.ref c0)]) n0 2 5 (fun v h => ∃ E, v = some (.ref E) ∧ Keep h0 h [] ∧ oLs Z h E [c0, c1])
    obtain ⟨T150, X150, e150, st150⟩ := getF X140 hx hZ hown (host := "") (Or.inl (hw _ (List.mem_of_getElem? (i := 65) rfl))) Via.refl e140 (G_0.keep K140 (by simp)) (g := (mkF m 83 #[.val (.ref a), .val .null, .val (.int (1 : Int32)), .val (.ref b), .val (.ref c0)] [(.ref c0)])) rfl rfl (hb hby d4_83)
    refine oPreX st150 ?_
    show oEndX p e s below T150 (mkF m 86 #[.val (.ref a), .val .null, .val (.int (1 : Int32)), .val (.ref b), .val (.ref c0)] [(.ref c1)]) n0 2 5 (fun v h => ∃ E, v = some (.ref E) ∧ Keep h0 h [] ∧ oLs Z h E [c0, c1])
    refine oPreX (fun _ => XS.astore X150.here hx rfl (hb hby d4_86) rfl rfl (l' := #[.val (.ref a), .val .null, .val (.int (1 : Int32)), .val (.ref b), .val (.ref c1)]) rfl) ?_
    show oEndX p e s below T150 (mkF m 88 #[.val (.ref a), .val .null, .val (.int (1 : Int32)), .val (.ref b), .val (.ref c1)] []) n0 2 5 (fun v h => ∃ E, v = some (.ref E) ∧ Keep h0 h [] ∧ oLs Z h E [c0, c1])
    refine oPreX (fun _ => XS.goto X150.here hx rfl (pc0 := 88) (pc' := 55) rfl (hb hby d4_88) (by decide) (by decide)) ?_
    show oEndX p e s below T150 (mkF m 55 #[.val (.ref a), .val .null, .val (.int (1 : Int32)), .val (.ref b), .val (.ref c1)] []) n0 2 5 (fun v h => ∃ E, v = some (.ref E) ∧ Keep h0 h [] ∧ oLs Z h E [c0, c1])
    refine oPreX (fun _ => XS.aload X150.here hx rfl (hb hby d4_55) rfl rfl) ?_
    show oEndX p e s below T150 (mkF m 57 #[.val (.ref a), .val .null, .val (.int (1 : Int32)), .val (.ref b), .val (.ref c1)] [(.ref c1)]) n0 2 5 (fun v h => ∃ E, v = some (.ref E) ∧ Keep h0 h [] ∧ oLs Z h E [c0, c1])
    refine oPreX (fun _ => XS.ifnullNo X150.here hx rfl (hb hby d4_57) rfl) ?_
    show oEndX p e s below T150 (mkF m 60 #[.val (.ref a), .val .null, .val (.int (1 : Int32)), .val (.ref b), .val (.ref c1)] []) n0 2 5 (fun v h => ∃ E, v = some (.ref E) ∧ Keep h0 h [] ∧ oLs Z h E [c0, c1])
    refine oPreX (fun _ => XS.aloadN X150.here hx rfl (hb hby d4_60) rfl rfl) ?_
    show oEndX p e s below T150 (mkF m 61 #[.val (.ref a), .val .null, .val (.int (1 : Int32)), .val (.ref b), .val (.ref c1)] [.null]) n0 2 5 (fun v h => ∃ E, v = some (.ref E) ∧ Keep h0 h [] ∧ oLs Z h E [c0, c1])
    refine oPreX (fun _ => XS.ifnullYes X150.here hx rfl (pc0 := 61) (pc' := 73) rfl (hb hby d4_61) rfl (by decide) (by decide)) ?_
    show oEndX p e s below T150 (mkF m 73 #[.val (.ref a), .val .null, .val (.int (1 : Int32)), .val (.ref b), .val (.ref c1)] []) n0 2 5 (fun v h => ∃ E, v = some (.ref E) ∧ Keep h0 h [] ∧ oLs Z h E [c0, c1])
    refine oPreX (fun _ => XS.aloadN X150.here hx rfl (hb hby d4_73) rfl rfl) ?_
    show oEndX p e s below T150 (mkF m 74 #[.val (.ref a), .val .null, .val (.int (1 : Int32)), .val (.ref b), .val (.ref c1)] [(.ref b)]) n0 2 5 (fun v h => ∃ E, v = some (.ref E) ∧ Keep h0 h [] ∧ oLs Z h E [c0, c1])
    refine oPreX (fun _ => XS.iloadN X150.here hx rfl (hb hby d4_74) rfl) ?_
    show oEndX p e s below T150 (mkF m 75 #[.val (.ref a), .val .null, .val (.int (1 : Int32)), .val (.ref b), .val (.ref c1)] [(.int (1 : Int32)), (.ref b)]) n0 2 5 (fun v h => ∃ E, v = some (.ref E) ∧ Keep h0 h [] ∧ oLs Z h E [c0, c1])
    refine oPreX (fun _ => XS.iinc X150.here hx rfl (hb hby d4_75) rfl (l' := #[.val (.ref a), .val .null, .val (.int (2 : Int32)), .val (.ref b), .val (.ref c1)]) rfl) ?_
    show oEndX p e s below T150 (mkF m 78 #[.val (.ref a), .val .null, .val (.int (2 : Int32)), .val (.ref b), .val (.ref c1)] [(.int (1 : Int32)), (.ref b)]) n0 2 5 (fun v h => ∃ E, v = some (.ref E) ∧ Keep h0 h [] ∧ oLs Z h E [c0, c1])
    refine oPreX (fun _ => XS.aload X150.here hx rfl (hb hby d4_78) rfl rfl) ?_
    show oEndX p e s below T150 (mkF m 80 #[.val (.ref a), .val .null, .val (.int (2 : Int32)), .val (.ref b), .val (.ref c1)] [(.ref c1), (.int (1 : Int32)), (.ref b)]) n0 2 5 (fun v h => ∃ E, v = some (.ref E) ∧ Keep h0 h [] ∧ oLs Z h E [c0, c1])
    obtain ⟨T141, h141, L141, X141, e141, V141, K141, N141, W141, st141⟩ := oSt X150 hx hZ e150 V140 O1 K140 hb0 N140 hbn (1 : Int32) (by decide) (by decide) (y := c1) rfl (E_1.keep K140) (g := (mkF m 80 #[.val (.ref a), .val .null, .val (.int (2 : Int32)), .val (.ref b), .val (.ref c1)] [(.ref c1), (.int (1 : Int32)), (.ref b)])) rfl (rest := []) rfl (hb hby d4_80)
    refine oPreX st141 ?_
    show oEndX p e s below T141 (mkF m 81 #[.val (.ref a), .val .null, .val (.int (2 : Int32)), .val (.ref b), .val (.ref c1)] []) n0 2 5 (fun v h => ∃ E, v = some (.ref E) ∧ Keep h0 h [] ∧ oLs Z h E [c0, c1])
    refine oPreX (fun _ => XS.aload X141.here hx rfl (hb hby d4_81) rfl rfl) ?_
    show oEndX p e s below T141 (mkF m 83 #[.val (.ref a), .val .null, .val (.int (2 : Int32)), .val (.ref b), .val (.ref c1)] [(.ref c1)]) n0 2 5 (fun v h => ∃ E, v = some (.ref E) ∧ Keep h0 h [] ∧ oLs Z h E [c0, c1])
    obtain ⟨T151, X151, e151, st151⟩ := getF X141 hx hZ hown (host := "") (Or.inl (hw _ (List.mem_of_getElem? (i := 65) rfl))) Via.refl e141 (G_1.keep K141 (by simp)) (g := (mkF m 83 #[.val (.ref a), .val .null, .val (.int (2 : Int32)), .val (.ref b), .val (.ref c1)] [(.ref c1)])) rfl rfl (hb hby d4_83)
    refine oPreX st151 ?_
    show oEndX p e s below T151 (mkF m 86 #[.val (.ref a), .val .null, .val (.int (2 : Int32)), .val (.ref b), .val (.ref c1)] [.null]) n0 2 5 (fun v h => ∃ E, v = some (.ref E) ∧ Keep h0 h [] ∧ oLs Z h E [c0, c1])
    refine oPreX (fun _ => XS.astore X151.here hx rfl (hb hby d4_86) rfl rfl (l' := #[.val (.ref a), .val .null, .val (.int (2 : Int32)), .val (.ref b), .val .null]) rfl) ?_
    show oEndX p e s below T151 (mkF m 88 #[.val (.ref a), .val .null, .val (.int (2 : Int32)), .val (.ref b), .val .null] []) n0 2 5 (fun v h => ∃ E, v = some (.ref E) ∧ Keep h0 h [] ∧ oLs Z h E [c0, c1])
    refine oPreX (fun _ => XS.goto X151.here hx rfl (pc0 := 88) (pc' := 55) rfl (hb hby d4_88) (by decide) (by decide)) ?_
    show oEndX p e s below T151 (mkF m 55 #[.val (.ref a), .val .null, .val (.int (2 : Int32)), .val (.ref b), .val .null] []) n0 2 5 (fun v h => ∃ E, v = some (.ref E) ∧ Keep h0 h [] ∧ oLs Z h E [c0, c1])
    refine oPreX (fun _ => XS.aload X151.here hx rfl (hb hby d4_55) rfl rfl) ?_
    show oEndX p e s below T151 (mkF m 57 #[.val (.ref a), .val .null, .val (.int (2 : Int32)), .val (.ref b), .val .null] [.null]) n0 2 5 (fun v h => ∃ E, v = some (.ref E) ∧ Keep h0 h [] ∧ oLs Z h E [c0, c1])
    refine oPreX (fun _ => XS.ifnullYes X151.here hx rfl (pc0 := 57) (pc' := 91) rfl (hb hby d4_57) rfl (by decide) (by decide)) ?_
    show oEndX p e s below T151 (mkF m 91 #[.val (.ref a), .val .null, .val (.int (2 : Int32)), .val (.ref b), .val .null] []) n0 2 5 (fun v h => ∃ E, v = some (.ref E) ∧ Keep h0 h [] ∧ oLs Z h E [c0, c1])
    obtain ⟨T5, h5, X5, e5, E5, A5, D5, -, st5⟩ := newO X151 hx hZ hown (hw _ (List.mem_of_getElem? (i := 70) rfl)) (hw _ (List.mem_of_getElem? (i := 71) rfl)) (hw _ (List.mem_of_getElem? (i := 56) rfl)) e151 (g := (mkF m 91 #[.val (.ref a), .val .null, .val (.int (2 : Int32)), .val (.ref b), .val .null] [])) rfl (hb hby d4_91) (by decide) (by decide)
    obtain ⟨E, gE⟩ : ∃ z, z = h141.size := ⟨_, rfl⟩
    rw [← gE] at A5 D5 st5
    have V5 := oFill_ext E5 V141
    have K5 : Keep h0 h5 [] := K141.ext E5
    have hE0 : h0.size ≤ E := by rw [gE]; exact K141.1
    have hbE : b ≠ E := by obtain ⟨cz, Az, -⟩ := V141; exact Nat.ne_of_lt (by rw [gE]; exact Az.lt)
    have F_elm : Fld Z h5 E "org/provenote/core/xml/XmlElement$Elements" "elements" "[Lorg/provenote/core/xml/XmlElement;" .null := D5 (Or.inr (hw _ (List.mem_of_getElem? (i := 59) rfl))) (ty := (.array (.object "org/provenote/core/xml/XmlElement"))) (by decide)
    have F_mod : Fld Z h5 E "java/util/AbstractList" "modCount" "I" (.int (0 : Int32)) := D5 (Or.inl (hw _ (List.mem_of_getElem? (i := 88) rfl))) (ty := .int) (by decide)
    refine oPreX st5 ?_
    show oEndX p e s below T5 (mkF m 94 #[.val (.ref a), .val .null, .val (.int (2 : Int32)), .val (.ref b), .val .null] [(.ref E)]) n0 2 5 (fun v h => ∃ E, v = some (.ref E) ∧ Keep h0 h [] ∧ oLs Z h E [c0, c1])
    refine oPreX (fun _ => XS.dup X5.here hx rfl (hb hby d4_94) rfl rfl) ?_
    show oEndX p e s below T5 (mkF m 95 #[.val (.ref a), .val .null, .val (.int (2 : Int32)), .val (.ref b), .val .null] [(.ref E), (.ref E)]) n0 2 5 (fun v h => ∃ E, v = some (.ref E) ∧ Keep h0 h [] ∧ oLs Z h E [c0, c1])
    refine oPreX (fun _ => XS.aloadN X5.here hx rfl (hb hby d4_95) rfl rfl) ?_
    show oEndX p e s below T5 (mkF m 96 #[.val (.ref a), .val .null, .val (.int (2 : Int32)), .val (.ref b), .val .null] [(.ref b), (.ref E), (.ref E)]) n0 2 5 (fun v h => ∃ E, v = some (.ref E) ∧ Keep h0 h [] ∧ oLs Z h E [c0, c1])
    obtain ⟨_, _, ⟨T6, L6, k6, n6⟩, -, X6, ⟨Lc6, hQ6, l6, y6, z6⟩, st6⟩ := X5.specialBack hx (y := (⟨"org/provenote/core/xml/XmlElement$Elements", "<init>", "([Lorg/provenote/core/xml/XmlElement;)V"⟩ : MethodName)) rfl hown (mvT hZ (hw _ (List.mem_of_getElem? (i := 72) rfl))) (mvT hZ (hw _ (List.mem_of_getElem? (i := 73) rfl))) (mvT hZ (hw _ (List.mem_of_getElem? (i := 74) rfl))) (by decide) (backOf (W := 1) (rm7 l Z a0 hw [] E b .null h5 n0 (Nat.le_trans Z0 K5.1) A5 F_elm (Nat.le_trans Z0 hE0) F_mod) hZ (hw _ (List.mem_of_getElem? (i := 74) rfl)) (hw _ (List.mem_of_getElem? (i := 56) rfl)) (by decide) (by decide)) (g := (mkF m 96 #[.val (.ref a), .val .null, .val (.int (2 : Int32)), .val (.ref b), .val .null] [(.ref b), (.ref E), (.ref E)])) rfl (by rw [hml]; rfl) (Steps.refl _) (a := E) (argsL := [(.ref b)]) (rest := [(.ref E)]) (lenOf pd_3 rfl) rfl (by show 2 * 0 + _ ≤ _; exact Nat.le_of_eq rfl) (hb hby d4_96) (fun _ _ => ⟨rfl, e5, (by decide : 2 + 0 ≤ _), (by decide : 5 + 0 ≤ _)⟩)
    dsimp only [Pt.U, Pt.locs, Pt.cells, Pt.slots] at X6 l6 y6 z6 st6 hQ6
    subst l6
    rw [y6, z6] at X6
    obtain ⟨rfl, N6q, K6, A6, F6⟩ := hQ6
    have N6 := Fr.app N141 N6q
    refine oPreX (fun _ q => st6.trans q) ?_
    obtain ⟨cl5, r1, -, r3, r4⟩ := V5
    show oEndX p e s below T6 (mkF m 99 #[.val (.ref a), .val .null, .val (.int (2 : Int32)), .val (.ref b), .val .null] [(.ref E)]) n0 2 5 (fun v h => ∃ E, v = some (.ref E) ∧ Keep h0 h [] ∧ oLs Z h E [c0, c1])
    obtain ⟨fs, hr, hrun, hended, hW, hsame⟩ := X6.leave (v := some (.ref E)) (fun h => by rw [hret] at h; cases h) hlk
    have stp : Steps p.tables e below (T6.setTop (mkF m 99 #[.val (.ref a), .val .null, .val (.int (2 : Int32)), .val (.ref b), .val .null] [(.ref E)])) (T6.setFrames fs) := by
      jvm_step X6.here [X6.here.top, hx, (hb hby d4_99), X6.method', hret, Value.isRef, FieldType.isReference]
      first | (intro acts; rw [hr _ acts rfl rfl rfl]) | rw [hr _ _ rfl rfl rfl]
      exact Steps.refl _
    exact ⟨_, _, _, stp, hrun, hended, hW, hsame.mono (by decide) (by decide), N6, ⟨E, rfl, oKeep0 K5 K6 hE0, b, cl5, A6, F6, ⟨K6.2.1 _ _ r1.1 (oNi hbE), r1.2⟩, r3, r4⟩⟩
  obtain ⟨tq, L, v, hs, hrun, hended, hW, hsame, hN, hQ⟩ := main
  exact ⟨tq, _, castTop (ef_4 m a) hs, hrun, hended, v, L, rfl, ⟨hQ, hN⟩, ⟨_, rfl⟩, hW, hsame⟩
set_option maxRecDepth 65536 in
set_option maxHeartbeats 40000000 in
theorem oRS3 (l : Launch) (Z : State) (a0 : Array Value) (hw : ∀ d ∈ tables_1, d.before a0 Z = true) (ws : List Jvm.Cond) (a : Addr) (c0 c1 c2 : Addr) (h0 : Heap) (n0 : Nat) (Z0 : n0 ≤ h0.size) (F_fc : Fld Z h0 a "org/provenote/core/xml/XmlElement" "firstChild" "Lorg/provenote/core/xml/XmlElement;" (.ref c0)) (E_0 : Exa Z h0 c0 "org/provenote/core/xml/XmlElement") (G_0 : Fld Z h0 c0 "org/provenote/core/xml/XmlElement" "nextSibling" "Lorg/provenote/core/xml/XmlElement;" (.ref c1)) (E_1 : Exa Z h0 c1 "org/provenote/core/xml/XmlElement") (G_1 : Fld Z h0 c1 "org/provenote/core/xml/XmlElement" "nextSibling" "Lorg/provenote/core/xml/XmlElement;" (.ref c2)) (E_2 : Exa Z h0 c2 "org/provenote/core/xml/XmlElement") (G_2 : Fld Z h0 c2 "org/provenote/core/xml/XmlElement" "nextSibling" "Lorg/provenote/core/xml/XmlElement;" .null) {wC : Addr} (S_NC : Sta Z h0 "org/provenote/core/xml/XmlElement" "NO_CHILDREN" "Ljava/util/List;" (.ref wC)) (L_C : oLs Z h0 wC []) :
    MetFree l (⟨"org/provenote/core/xml/XmlElement", "select", "(Ljava/lang/String;)Ljava/util/List;"⟩ : MethodName) (head1 (Jvm.Cond.code (⟨"org/provenote/core/xml/XmlElement", "select", "(Ljava/lang/String;)Ljava/util/List;"⟩ : MethodName) prog_99_method_14_code 5 (some (.object "java/util/List")) :: ws) ({ frames := 4, cells := 2, slots := 5, locals := 50 } : Room)) (fun ar U => ar = #[(.ref a), .null] ∧ Z.Warmed39 U.vm ∧ U.heap = h0) (fun _ _ _ _ _ => True) (fun _ U o U' => ∃ v L, o = .returned v ∧ oQS Z [c0, c1, c2] h0 n0 v U'.heap L ∧ FrameEnd U o U' L ({ frames := 4, cells := 2, slots := 5, locals := 50 } : Room).cells ({ frames := 4, cells := 2, slots := 5, locals := 50 } : Room).slots) := by
  refine MetFree.of_bodySF (plainFor_of_name pn_4) hisR ?_
  intro p e s m args below meth c s₁ Bd hml0 hP hK
  obtain ⟨rfl, hZ, hh⟩ := hP
  have hx := Bd.exec
  have hby := Bd.bytes
  have hml : c.maxLocals = 5 := hml0
  have hret := Bd.returns
  have hlk : meth.locks = false := Bd.notSynchronized
  have hown : s.vm.findClass "org/provenote/core/xml/XmlElement" = some m.cls := findClass_of_methodNamed Bd.named
  have X0 : Stand p l e ({ frames := 4, cells := 2, slots := 5, locals := 50 } : Room) s m #[(.ref a), .null] below meth c s₁ [] 0 0 := Stand.of_body Bd
  have e0 : s₁.heap = h0 := by rw [← hh, Bd.state]; rfl
  have N0 := Fr.nil n0
  have main : oEndX p e s below s₁ (mkF m 0 #[.val (.ref a), .val .null, .unset, .unset, .unset] []) n0 2 5 (fun v h => ∃ E, v = some (.ref E) ∧ Keep h0 h [] ∧ oLs Z h E [c0, c1, c2]) := by
    show oEndX p e s below s₁ (mkF m 0 #[.val (.ref a), .val .null, .unset, .unset, .unset] []) n0 2 5 (fun v h => ∃ E, v = some (.ref E) ∧ Keep h0 h [] ∧ oLs Z h E [c0, c1, c2])
    refine oPreX (fun _ => XS.iconst X0.here hx rfl (hb hby d4_0)) ?_
    show oEndX p e s below s₁ (mkF m 1 #[.val (.ref a), .val .null, .unset, .unset, .unset] [(.int (0 : Int32))]) n0 2 5 (fun v h => ∃ E, v = some (.ref E) ∧ Keep h0 h [] ∧ oLs Z h E [c0, c1, c2])
    refine oPreX (fun _ => XS.istoreN X0.here hx rfl (hb hby d4_1) rfl (l' := #[.val (.ref a), .val .null, .val (.int (0 : Int32)), .unset, .unset]) rfl) ?_
    show oEndX p e s below s₁ (mkF m 2 #[.val (.ref a), .val .null, .val (.int (0 : Int32)), .unset, .unset] []) n0 2 5 (fun v h => ∃ E, v = some (.ref E) ∧ Keep h0 h [] ∧ oLs Z h E [c0, c1, c2])
    refine oPreX (fun _ => XS.aloadN X0.here hx rfl (hb hby d4_2) rfl rfl) ?_
    show oEndX p e s below s₁ (mkF m 3 #[.val (.ref a), .val .null, .val (.int (0 : Int32)), .unset, .unset] [(.ref a)]) n0 2 5 (fun v h => ∃ E, v = some (.ref E) ∧ Keep h0 h [] ∧ oLs Z h E [c0, c1, c2])
    obtain ⟨T100, X100, e100, st100⟩ := getF X0 hx hZ hown (host := "") (Or.inl (hw _ (List.mem_of_getElem? (i := 44) rfl))) Via.refl e0 F_fc (g := (mkF m 3 #[.val (.ref a), .val .null, .val (.int (0 : Int32)), .unset, .unset] [(.ref a)])) rfl rfl (hb hby d4_3)
    refine oPreX st100 ?_
    show oEndX p e s below T100 (mkF m 6 #[.val (.ref a), .val .null, .val (.int (0 : Int32)), .unset, .unset] [(.ref c0)]) n0 2 5 (fun v h => ∃ E, v = some (.ref E) ∧ Keep h0 h [] ∧ oLs Z h E [c0, c1, c2])
    refine oPreX (fun _ => XS.astoreN X100.here hx rfl (hb hby d4_6) rfl rfl (l' := #[.val (.ref a), .val .null, .val (.int (0 : Int32)), .val (.ref c0), .unset]) rfl) ?_
    show oEndX p e s below T100 (mkF m 7 #[.val (.ref a), .val .null, .val (.int (0 : Int32)), .val (.ref c0), .unset] []) n0 2 5 (fun v h => ∃ E, v = some (.ref E) ∧ Keep h0 h [] ∧ oLs Z h E [c0, c1, c2])
    refine oPreX (fun _ => XS.aloadN X100.here hx rfl (hb hby d4_7) rfl rfl) ?_
    show oEndX p e s below T100 (mkF m 8 #[.val (.ref a), .val .null, .val (.int (0 : Int32)), .val (.ref c0), .unset] [(.ref c0)]) n0 2 5 (fun v h => ∃ E, v = some (.ref E) ∧ Keep h0 h [] ∧ oLs Z h E [c0, c1, c2])
    refine oPreX (fun _ => XS.ifnullNo X100.here hx rfl (hb hby d4_8) rfl) ?_
    show oEndX p e s below T100 (mkF m 11 #[.val (.ref a), .val .null, .val (.int (0 : Int32)), .val (.ref c0), .unset] []) n0 2 5 (fun v h => ∃ E, v = some (.ref E) ∧ Keep h0 h [] ∧ oLs Z h E [c0, c1, c2])
    refine oPreX (fun _ => XS.aloadN X100.here hx rfl (hb hby d4_11) rfl rfl) ?_
    show oEndX p e s below T100 (mkF m 12 #[.val (.ref a), .val .null, .val (.int (0 : Int32)), .val (.ref c0), .unset] [.null]) n0 2 5 (fun v h => ∃ E, v = some (.ref E) ∧ Keep h0 h [] ∧ oLs Z h E [c0, c1, c2])
    refine oPreX (fun _ => XS.ifnullYes X100.here hx rfl (pc0 := 12) (pc' := 23) rfl (hb hby d4_12) rfl (by decide) (by decide)) ?_
    show oEndX p e s below T100 (mkF m 23 #[.val (.ref a), .val .null, .val (.int (0 : Int32)), .val (.ref c0), .unset] []) n0 2 5 (fun v h => ∃ E, v = some (.ref E) ∧ Keep h0 h [] ∧ oLs Z h E [c0, c1, c2])
    refine oPreX (fun _ => XS.iinc X100.here hx rfl (hb hby d4_23) rfl (l' := #[.val (.ref a), .val .null, .val (.int (1 : Int32)), .val (.ref c0), .unset]) rfl) ?_
    show oEndX p e s below T100 (mkF m 26 #[.val (.ref a), .val .null, .val (.int (1 : Int32)), .val (.ref c0), .unset] []) n0 2 5 (fun v h => ∃ E, v = some (.ref E) ∧ Keep h0 h [] ∧ oLs Z h E [c0, c1, c2])
    refine oPreX (fun _ => XS.aloadN X100.here hx rfl (hb hby d4_26) rfl rfl) ?_
    show oEndX p e s below T100 (mkF m 27 #[.val (.ref a), .val .null, .val (.int (1 : Int32)), .val (.ref c0), .unset] [(.ref c0)]) n0 2 5 (fun v h => ∃ E, v = some (.ref E) ∧ Keep h0 h [] ∧ oLs Z h E [c0, c1, c2])
    obtain ⟨T110, X110, e110, st110⟩ := getF X100 hx hZ hown (host := "") (Or.inl (hw _ (List.mem_of_getElem? (i := 65) rfl))) Via.refl e100 G_0 (g := (mkF m 27 #[.val (.ref a), .val .null, .val (.int (1 : Int32)), .val (.ref c0), .unset] [(.ref c0)])) rfl rfl (hb hby d4_27)
    refine oPreX st110 ?_
    show oEndX p e s below T110 (mkF m 30 #[.val (.ref a), .val .null, .val (.int (1 : Int32)), .val (.ref c0), .unset] [(.ref c1)]) n0 2 5 (fun v h => ∃ E, v = some (.ref E) ∧ Keep h0 h [] ∧ oLs Z h E [c0, c1, c2])
    refine oPreX (fun _ => XS.astoreN X110.here hx rfl (hb hby d4_30) rfl rfl (l' := #[.val (.ref a), .val .null, .val (.int (1 : Int32)), .val (.ref c1), .unset]) rfl) ?_
    show oEndX p e s below T110 (mkF m 31 #[.val (.ref a), .val .null, .val (.int (1 : Int32)), .val (.ref c1), .unset] []) n0 2 5 (fun v h => ∃ E, v = some (.ref E) ∧ Keep h0 h [] ∧ oLs Z h E [c0, c1, c2])
    refine oPreX (fun _ => XS.goto X110.here hx rfl (pc0 := 31) (pc' := 7) rfl (hb hby d4_31) (by decide) (by decide)) ?_
    show oEndX p e s below T110 (mkF m 7 #[.val (.ref a), .val .null, .val (.int (1 : Int32)), .val (.ref c1), .unset] []) n0 2 5 (fun v h => ∃ E, v = some (.ref E) ∧ Keep h0 h [] ∧ oLs Z h E [c0, c1, c2])
    refine oPreX (fun _ => XS.aloadN X110.here hx rfl (hb hby d4_7) rfl rfl) ?_
    show oEndX p e s below T110 (mkF m 8 #[.val (.ref a), .val .null, .val (.int (1 : Int32)), .val (.ref c1), .unset] [(.ref c1)]) n0 2 5 (fun v h => ∃ E, v = some (.ref E) ∧ Keep h0 h [] ∧ oLs Z h E [c0, c1, c2])
    refine oPreX (fun _ => XS.ifnullNo X110.here hx rfl (hb hby d4_8) rfl) ?_
    show oEndX p e s below T110 (mkF m 11 #[.val (.ref a), .val .null, .val (.int (1 : Int32)), .val (.ref c1), .unset] []) n0 2 5 (fun v h => ∃ E, v = some (.ref E) ∧ Keep h0 h [] ∧ oLs Z h E [c0, c1, c2])
    refine oPreX (fun _ => XS.aloadN X110.here hx rfl (hb hby d4_11) rfl rfl) ?_
    show oEndX p e s below T110 (mkF m 12 #[.val (.ref a), .val .null, .val (.int (1 : Int32)), .val (.ref c1), .unset] [.null]) n0 2 5 (fun v h => ∃ E, v = some (.ref E) ∧ Keep h0 h [] ∧ oLs Z h E [c0, c1, c2])
    refine oPreX (fun _ => XS.ifnullYes X110.here hx rfl (pc0 := 12) (pc' := 23) rfl (hb hby d4_12) rfl (by decide) (by decide)) ?_
    show oEndX p e s below T110 (mkF m 23 #[.val (.ref a), .val .null, .val (.int (1 : Int32)), .val (.ref c1), .unset] []) n0 2 5 (fun v h => ∃ E, v = some (.ref E) ∧ Keep h0 h [] ∧ oLs Z h E [c0, c1, c2])
    refine oPreX (fun _ => XS.iinc X110.here hx rfl (hb hby d4_23) rfl (l' := #[.val (.ref a), .val .null, .val (.int (2 : Int32)), .val (.ref c1), .unset]) rfl) ?_
    show oEndX p e s below T110 (mkF m 26 #[.val (.ref a), .val .null, .val (.int (2 : Int32)), .val (.ref c1), .unset] []) n0 2 5 (fun v h => ∃ E, v = some (.ref E) ∧ Keep h0 h [] ∧ oLs Z h E [c0, c1, c2])
    refine oPreX (fun _ => XS.aloadN X110.here hx rfl (hb hby d4_26) rfl rfl) ?_
    show oEndX p e s below T110 (mkF m 27 #[.val (.ref a), .val .null, .val (.int (2 : Int32)), .val (.ref c1), .unset] [(.ref c1)]) n0 2 5 (fun v h => ∃ E, v = some (.ref E) ∧ Keep h0 h [] ∧ oLs Z h E [c0, c1, c2])
    obtain ⟨T111, X111, e111, st111⟩ := getF X110 hx hZ hown (host := "") (Or.inl (hw _ (List.mem_of_getElem? (i := 65) rfl))) Via.refl e110 G_1 (g := (mkF m 27 #[.val (.ref a), .val .null, .val (.int (2 : Int32)), .val (.ref c1), .unset] [(.ref c1)])) rfl rfl (hb hby d4_27)
    refine oPreX st111 ?_
    show oEndX p e s below T111 (mkF m 30 #[.val (.ref a), .val .null, .val (.int (2 : Int32)), .val (.ref c1), .unset] [(.ref c2)]) n0 2 5 (fun v h => ∃ E, v = some (.ref E) ∧ Keep h0 h [] ∧ oLs Z h E [c0, c1, c2])
    refine oPreX (fun _ => XS.astoreN X111.here hx rfl (hb hby d4_30) rfl rfl (l' := #[.val (.ref a), .val .null, .val (.int (2 : Int32)), .val (.ref c2), .unset]) rfl) ?_
    show oEndX p e s below T111 (mkF m 31 #[.val (.ref a), .val .null, .val (.int (2 : Int32)), .val (.ref c2), .unset] []) n0 2 5 (fun v h => ∃ E, v = some (.ref E) ∧ Keep h0 h [] ∧ oLs Z h E [c0, c1, c2])
    refine oPreX (fun _ => XS.goto X111.here hx rfl (pc0 := 31) (pc' := 7) rfl (hb hby d4_31) (by decide) (by decide)) ?_
    show oEndX p e s below T111 (mkF m 7 #[.val (.ref a), .val .null, .val (.int (2 : Int32)), .val (.ref c2), .unset] []) n0 2 5 (fun v h => ∃ E, v = some (.ref E) ∧ Keep h0 h [] ∧ oLs Z h E [c0, c1, c2])
    refine oPreX (fun _ => XS.aloadN X111.here hx rfl (hb hby d4_7) rfl rfl) ?_
    show oEndX p e s below T111 (mkF m 8 #[.val (.ref a), .val .null, .val (.int (2 : Int32)), .val (.ref c2), .unset] [(.ref c2)]) n0 2 5 (fun v h => ∃ E, v = some (.ref E) ∧ Keep h0 h [] ∧ oLs Z h E [c0, c1, c2])
    refine oPreX (fun _ => XS.ifnullNo X111.here hx rfl (hb hby d4_8) rfl) ?_
    show oEndX p e s below T111 (mkF m 11 #[.val (.ref a), .val .null, .val (.int (2 : Int32)), .val (.ref c2), .unset] []) n0 2 5 (fun v h => ∃ E, v = some (.ref E) ∧ Keep h0 h [] ∧ oLs Z h E [c0, c1, c2])
    refine oPreX (fun _ => XS.aloadN X111.here hx rfl (hb hby d4_11) rfl rfl) ?_
    show oEndX p e s below T111 (mkF m 12 #[.val (.ref a), .val .null, .val (.int (2 : Int32)), .val (.ref c2), .unset] [.null]) n0 2 5 (fun v h => ∃ E, v = some (.ref E) ∧ Keep h0 h [] ∧ oLs Z h E [c0, c1, c2])
    refine oPreX (fun _ => XS.ifnullYes X111.here hx rfl (pc0 := 12) (pc' := 23) rfl (hb hby d4_12) rfl (by decide) (by decide)) ?_
    show oEndX p e s below T111 (mkF m 23 #[.val (.ref a), .val .null, .val (.int (2 : Int32)), .val (.ref c2), .unset] []) n0 2 5 (fun v h => ∃ E, v = some (.ref E) ∧ Keep h0 h [] ∧ oLs Z h E [c0, c1, c2])
    refine oPreX (fun _ => XS.iinc X111.here hx rfl (hb hby d4_23) rfl (l' := #[.val (.ref a), .val .null, .val (.int (3 : Int32)), .val (.ref c2), .unset]) rfl) ?_
    show oEndX p e s below T111 (mkF m 26 #[.val (.ref a), .val .null, .val (.int (3 : Int32)), .val (.ref c2), .unset] []) n0 2 5 (fun v h => ∃ E, v = some (.ref E) ∧ Keep h0 h [] ∧ oLs Z h E [c0, c1, c2])
    refine oPreX (fun _ => XS.aloadN X111.here hx rfl (hb hby d4_26) rfl rfl) ?_
    show oEndX p e s below T111 (mkF m 27 #[.val (.ref a), .val .null, .val (.int (3 : Int32)), .val (.ref c2), .unset] [(.ref c2)]) n0 2 5 (fun v h => ∃ E, v = some (.ref E) ∧ Keep h0 h [] ∧ oLs Z h E [c0, c1, c2])
    obtain ⟨T112, X112, e112, st112⟩ := getF X111 hx hZ hown (host := "") (Or.inl (hw _ (List.mem_of_getElem? (i := 65) rfl))) Via.refl e111 G_2 (g := (mkF m 27 #[.val (.ref a), .val .null, .val (.int (3 : Int32)), .val (.ref c2), .unset] [(.ref c2)])) rfl rfl (hb hby d4_27)
    refine oPreX st112 ?_
    show oEndX p e s below T112 (mkF m 30 #[.val (.ref a), .val .null, .val (.int (3 : Int32)), .val (.ref c2), .unset] [.null]) n0 2 5 (fun v h => ∃ E, v = some (.ref E) ∧ Keep h0 h [] ∧ oLs Z h E [c0, c1, c2])
    refine oPreX (fun _ => XS.astoreN X112.here hx rfl (hb hby d4_30) rfl rfl (l' := #[.val (.ref a), .val .null, .val (.int (3 : Int32)), .val .null, .unset]) rfl) ?_
    show oEndX p e s below T112 (mkF m 31 #[.val (.ref a), .val .null, .val (.int (3 : Int32)), .val .null, .unset] []) n0 2 5 (fun v h => ∃ E, v = some (.ref E) ∧ Keep h0 h [] ∧ oLs Z h E [c0, c1, c2])
    refine oPreX (fun _ => XS.goto X112.here hx rfl (pc0 := 31) (pc' := 7) rfl (hb hby d4_31) (by decide) (by decide)) ?_
    show oEndX p e s below T112 (mkF m 7 #[.val (.ref a), .val .null, .val (.int (3 : Int32)), .val .null, .unset] []) n0 2 5 (fun v h => ∃ E, v = some (.ref E) ∧ Keep h0 h [] ∧ oLs Z h E [c0, c1, c2])
    refine oPreX (fun _ => XS.aloadN X112.here hx rfl (hb hby d4_7) rfl rfl) ?_
    show oEndX p e s below T112 (mkF m 8 #[.val (.ref a), .val .null, .val (.int (3 : Int32)), .val .null, .unset] [.null]) n0 2 5 (fun v h => ∃ E, v = some (.ref E) ∧ Keep h0 h [] ∧ oLs Z h E [c0, c1, c2])
    refine oPreX (fun _ => XS.ifnullYes X112.here hx rfl (pc0 := 8) (pc' := 34) rfl (hb hby d4_8) rfl (by decide) (by decide)) ?_
    show oEndX p e s below T112 (mkF m 34 #[.val (.ref a), .val .null, .val (.int (3 : Int32)), .val .null, .unset] []) n0 2 5 (fun v h => ∃ E, v = some (.ref E) ∧ Keep h0 h [] ∧ oLs Z h E [c0, c1, c2])
    refine oPreX (fun _ => XS.iloadN X112.here hx rfl (hb hby d4_34) rfl) ?_
    show oEndX p e s below T112 (mkF m 35 #[.val (.ref a), .val .null, .val (.int (3 : Int32)), .val .null, .unset] [(.int (3 : Int32))]) n0 2 5 (fun v h => ∃ E, v = some (.ref E) ∧ Keep h0 h [] ∧ oLs Z h E [c0, c1, c2])
    refine oPreX (fun _ => XS.ifYes X112.here hx rfl (pc0 := 35) (pc' := 42) rfl (hb hby d4_35) rfl ((if0 _ _).trans ((feq (by decide : ¬ (3 : Int32) = 0)).2)) (by decide) (by decide)) ?_
    show oEndX p e s below T112 (mkF m 42 #[.val (.ref a), .val .null, .val (.int (3 : Int32)), .val .null, .unset] []) n0 2 5 (fun v h => ∃ E, v = some (.ref E) ∧ Keep h0 h [] ∧ oLs Z h E [c0, c1, c2])
    refine oPreX (fun _ => XS.iloadN X112.here hx rfl (hb hby d4_42) rfl) ?_
    show oEndX p e s below T112 (mkF m 43 #[.val (.ref a), .val .null, .val (.int (3 : Int32)), .val .null, .unset] [(.int (3 : Int32))]) n0 2 5 (fun v h => ∃ E, v = some (.ref E) ∧ Keep h0 h [] ∧ oLs Z h E [c0, c1, c2])
    obtain ⟨T1, h1, kA, X1, e1, E1, A1, O1, st1⟩ := newR X112 hx hZ hown (hw _ (List.mem_of_getElem? (i := 67) rfl)) (hw _ (List.mem_of_getElem? (i := 68) rfl)) e112 (g := (mkF m 43 #[.val (.ref a), .val .null, .val (.int (3 : Int32)), .val .null, .unset] [(.int (3 : Int32))])) rfl (hb hby d4_43) rfl (by decide) (cap := 3) (by decide) (by decide) (by decide) (by decide)
    obtain ⟨b, gb⟩ : ∃ z, z = h0.size := ⟨_, rfl⟩
    rw [← gb] at A1 st1
    have hb0 : h0.size ≤ b := Nat.le_of_eq gb.symm
    have hbn : n0 ≤ b := Nat.le_trans Z0 hb0
    have V0 : oFill Z h1 b kA 3 [c0, c1, c2] 0 := ⟨_, A1, rfl, sz_new _ _ _, fun i hi => absurd hi (Nat.not_lt_zero i)⟩
    have K0 : Keep h0 h1 [] := (Keep.refl h0 []).ext E1
    refine oPreX st1 ?_
    show oEndX p e s below T1 (mkF m 46 #[.val (.ref a), .val .null, .val (.int (3 : Int32)), .val .null, .unset] [(.ref b)]) n0 2 5 (fun v h => ∃ E, v = some (.ref E) ∧ Keep h0 h [] ∧ oLs Z h E [c0, c1, c2])
    refine oPreX (fun _ => XS.astoreN X1.here hx rfl (hb hby d4_46) rfl rfl (l' := #[.val (.ref a), .val .null, .val (.int (3 : Int32)), .val (.ref b), .unset]) rfl) ?_
    show oEndX p e s below T1 (mkF m 47 #[.val (.ref a), .val .null, .val (.int (3 : Int32)), .val (.ref b), .unset] []) n0 2 5 (fun v h => ∃ E, v = some (.ref E) ∧ Keep h0 h [] ∧ oLs Z h E [c0, c1, c2])
    refine oPreX (fun _ => XS.iconst X1.here hx rfl (hb hby d4_47)) ?_
    show oEndX p e s below T1 (mkF m 48 #[.val (.ref a), .val .null, .val (.int (3 : Int32)), .val (.ref b), .unset] [(.int (0 : Int32))]) n0 2 5 (fun v h => ∃ E, v = some (.ref E) ∧ Keep h0 h [] ∧ oLs Z h E [c0, c1, c2])
    refine oPreX (fun _ => XS.istoreN X1.here hx rfl (hb hby d4_48) rfl (l' := #[.val (.ref a), .val .null, .val (.int (0 : Int32)), .val (.ref b), .unset]) rfl) ?_
    show oEndX p e s below T1 (mkF m 49 #[.val (.ref a), .val .null, .val (.int (0 : Int32)), .val (.ref b), .unset] []) n0 2 5 (fun v h => ∃ E, v = some (.ref E) ∧ Keep h0 h [] ∧ oLs Z h E [c0, c1, c2])
    refine oPreX (fun _ => XS.aloadN X1.here hx rfl (hb hby d4_49) rfl rfl) ?_
    show oEndX p e s below T1 (mkF m 50 #[.val (.ref a), .val .null, .val (.int (0 : Int32)), .val (.ref b), .unset] [(.ref a)]) n0 2 5 (fun v h => ∃ E, v = some (.ref E) ∧ Keep h0 h [] ∧ oLs Z h E [c0, c1, c2])
    obtain ⟨T130, X130, e130, st130⟩ := getF X1 hx hZ hown (host := "") (Or.inl (hw _ (List.mem_of_getElem? (i := 44) rfl))) Via.refl e1 (F_fc.keep K0 (by simp)) (g := (mkF m 50 #[.val (.ref a), .val .null, .val (.int (0 : Int32)), .val (.ref b), .unset] [(.ref a)])) rfl rfl (hb hby d4_50)
    refine oPreX st130 ?_
    show oEndX p e s below T130 (mkF m 53 #[.val (.ref a), .val .null, .val (.int (0 : Int32)), .val (.ref b), .unset] [(.ref c0)]) n0 2 5 (fun v h => ∃ E, v = some (.ref E) ∧ Keep h0 h [] ∧ oLs Z h E [c0, c1, c2])
    refine oPreX (fun _ => XS.astore X130.here hx rfl (hb hby d4_53) rfl rfl (l' := #[.val (.ref a), .val .null, .val (.int (0 : Int32)), .val (.ref b), .val (.ref c0)]) rfl) ?_
    show oEndX p e s below T130 (mkF m 55 #[.val (.ref a), .val .null, .val (.int (0 : Int32)), .val (.ref b), .val (.ref c0)] []) n0 2 5 (fun v h => ∃ E, v = some (.ref E) ∧ Keep h0 h [] ∧ oLs Z h E [c0, c1, c2])
    refine oPreX (fun _ => XS.aload X130.here hx rfl (hb hby d4_55) rfl rfl) ?_
    show oEndX p e s below T130 (mkF m 57 #[.val (.ref a), .val .null, .val (.int (0 : Int32)), .val (.ref b), .val (.ref c0)] [(.ref c0)]) n0 2 5 (fun v h => ∃ E, v = some (.ref E) ∧ Keep h0 h [] ∧ oLs Z h E [c0, c1, c2])
    refine oPreX (fun _ => XS.ifnullNo X130.here hx rfl (hb hby d4_57) rfl) ?_
    show oEndX p e s below T130 (mkF m 60 #[.val (.ref a), .val .null, .val (.int (0 : Int32)), .val (.ref b), .val (.ref c0)] []) n0 2 5 (fun v h => ∃ E, v = some (.ref E) ∧ Keep h0 h [] ∧ oLs Z h E [c0, c1, c2])
    refine oPreX (fun _ => XS.aloadN X130.here hx rfl (hb hby d4_60) rfl rfl) ?_
    show oEndX p e s below T130 (mkF m 61 #[.val (.ref a), .val .null, .val (.int (0 : Int32)), .val (.ref b), .val (.ref c0)] [.null]) n0 2 5 (fun v h => ∃ E, v = some (.ref E) ∧ Keep h0 h [] ∧ oLs Z h E [c0, c1, c2])
    refine oPreX (fun _ => XS.ifnullYes X130.here hx rfl (pc0 := 61) (pc' := 73) rfl (hb hby d4_61) rfl (by decide) (by decide)) ?_
    show oEndX p e s below T130 (mkF m 73 #[.val (.ref a), .val .null, .val (.int (0 : Int32)), .val (.ref b), .val (.ref c0)] []) n0 2 5 (fun v h => ∃ E, v = some (.ref E) ∧ Keep h0 h [] ∧ oLs Z h E [c0, c1, c2])
    refine oPreX (fun _ => XS.aloadN X130.here hx rfl (hb hby d4_73) rfl rfl) ?_
    show oEndX p e s below T130 (mkF m 74 #[.val (.ref a), .val .null, .val (.int (0 : Int32)), .val (.ref b), .val (.ref c0)] [(.ref b)]) n0 2 5 (fun v h => ∃ E, v = some (.ref E) ∧ Keep h0 h [] ∧ oLs Z h E [c0, c1, c2])
    refine oPreX (fun _ => XS.iloadN X130.here hx rfl (hb hby d4_74) rfl) ?_
    show oEndX p e s below T130 (mkF m 75 #[.val (.ref a), .val .null, .val (.int (0 : Int32)), .val (.ref b), .val (.ref c0)] [(.int (0 : Int32)), (.ref b)]) n0 2 5 (fun v h => ∃ E, v = some (.ref E) ∧ Keep h0 h [] ∧ oLs Z h E [c0, c1, c2])
    refine oPreX (fun _ => XS.iinc X130.here hx rfl (hb hby d4_75) rfl (l' := #[.val (.ref a), .val .null, .val (.int (1 : Int32)), .val (.ref b), .val (.ref c0)]) rfl) ?_
    show oEndX p e s below T130 (mkF m 78 #[.val (.ref a), .val .null, .val (.int (1 : Int32)), .val (.ref b), .val (.ref c0)] [(.int (0 : Int32)), (.ref b)]) n0 2 5 (fun v h => ∃ E, v = some (.ref E) ∧ Keep h0 h [] ∧ oLs Z h E [c0, c1, c2])
    refine oPreX (fun _ => XS.aload X130.here hx rfl (hb hby d4_78) rfl rfl) ?_
    show oEndX p e s below T130 (mkF m 80 #[.val (.ref a), .val .null, .val (.int (1 : Int32)), .val (.ref b), .val (.ref c0)] [(.ref c0), (.int (0 : Int32)), (.ref b)]) n0 2 5 (fun v h => ∃ E, v = some (.ref E) ∧ Keep h0 h [] ∧ oLs Z h E [c0, c1, c2])
    obtain ⟨T140, h140, L140, X140, e140, V140, K140, N140, W140, st140⟩ := oSt X130 hx hZ e130 V0 O1 K0 hb0 N0 hbn (0 : Int32) (by decide) (by decide) (y := c0) rfl (E_0.keep K0) (g := (mkF m 80 #[.val (.ref a), .val .null, .val (.int (1 : Int32)), .val (.ref b), .val (.ref c0)] [(.ref c0), (.int (0 : Int32)), (.ref b)])) rfl (rest := []) rfl (hb hby d4_80)
    refine oPreX st140 ?_
    show oEndX p e s below T140 (mkF m 81 #[.val (.ref a), .val .null, .val (.int (1 : Int32)), .val (.ref b), .val (.ref c0)] []) n0 2 5 (fun v h => ∃ E, v = some (.ref E) ∧ Keep h0 h [] ∧ oLs Z h E [c0, c1, c2])
    refine oPreX (fun _ => XS.aload X140.here hx rfl (hb hby d4_81) rfl rfl) ?_
    show oEndX p e s below T140 (mkF m 83 #[.val (.ref a), .val .null, .val (.int (1 : Int32)), .val (.ref b), .val (.ref c0)] [(.ref c0)]) n0 2 5 (fun v h => ∃ E, v = some (.ref E) ∧ Keep h0 h [] ∧ oLs Z h E [c0, c1, c2])
    obtain ⟨T150, X150, e150, st150⟩ := getF X140 hx hZ hown (host := "") (Or.inl (hw _ (List.mem_of_getElem? (i := 65) rfl))) Via.refl e140 (G_0.keep K140 (by simp)) (g := (mkF m 83 #[.val (.ref a), .val .null, .val (.int (1 : Int32)), .val (.ref b), .val (.ref c0)] [(.ref c0)])) rfl rfl (hb hby d4_83)
    refine oPreX st150 ?_
    show oEndX p e s below T150 (mkF m 86 #[.val (.ref a), .val .null, .val (.int (1 : Int32)), .val (.ref b), .val (.ref c0)] [(.ref c1)]) n0 2 5 (fun v h => ∃ E, v = some (.ref E) ∧ Keep h0 h [] ∧ oLs Z h E [c0, c1, c2])
    refine oPreX (fun _ => XS.astore X150.here hx rfl (hb hby d4_86) rfl rfl (l' := #[.val (.ref a), .val .null, .val (.int (1 : Int32)), .val (.ref b), .val (.ref c1)]) rfl) ?_
    show oEndX p e s below T150 (mkF m 88 #[.val (.ref a), .val .null, .val (.int (1 : Int32)), .val (.ref b), .val (.ref c1)] []) n0 2 5 (fun v h => ∃ E, v = some (.ref E) ∧ Keep h0 h [] ∧ oLs Z h E [c0, c1, c2])
    refine oPreX (fun _ => XS.goto X150.here hx rfl (pc0 := 88) (pc' := 55) rfl (hb hby d4_88) (by decide) (by decide)) ?_
    show oEndX p e s below T150 (mkF m 55 #[.val (.ref a), .val .null, .val (.int (1 : Int32)), .val (.ref b), .val (.ref c1)] []) n0 2 5 (fun v h => ∃ E, v = some (.ref E) ∧ Keep h0 h [] ∧ oLs Z h E [c0, c1, c2])
    refine oPreX (fun _ => XS.aload X150.here hx rfl (hb hby d4_55) rfl rfl) ?_
    show oEndX p e s below T150 (mkF m 57 #[.val (.ref a), .val .null, .val (.int (1 : Int32)), .val (.ref b), .val (.ref c1)] [(.ref c1)]) n0 2 5 (fun v h => ∃ E, v = some (.ref E) ∧ Keep h0 h [] ∧ oLs Z h E [c0, c1, c2])
    refine oPreX (fun _ => XS.ifnullNo X150.here hx rfl (hb hby d4_57) rfl) ?_
    show oEndX p e s below T150 (mkF m 60 #[.val (.ref a), .val .null, .val (.int (1 : Int32)), .val (.ref b), .val (.ref c1)] []) n0 2 5 (fun v h => ∃ E, v = some (.ref E) ∧ Keep h0 h [] ∧ oLs Z h E [c0, c1, c2])
    refine oPreX (fun _ => XS.aloadN X150.here hx rfl (hb hby d4_60) rfl rfl) ?_
    show oEndX p e s below T150 (mkF m 61 #[.val (.ref a), .val .null, .val (.int (1 : Int32)), .val (.ref b), .val (.ref c1)] [.null]) n0 2 5 (fun v h => ∃ E, v = some (.ref E) ∧ Keep h0 h [] ∧ oLs Z h E [c0, c1, c2])
    refine oPreX (fun _ => XS.ifnullYes X150.here hx rfl (pc0 := 61) (pc' := 73) rfl (hb hby d4_61) rfl (by decide) (by decide)) ?_
    show oEndX p e s below T150 (mkF m 73 #[.val (.ref a), .val .null, .val (.int (1 : Int32)), .val (.ref b), .val (.ref c1)] []) n0 2 5 (fun v h => ∃ E, v = some (.ref E) ∧ Keep h0 h [] ∧ oLs Z h E [c0, c1, c2])
    refine oPreX (fun _ => XS.aloadN X150.here hx rfl (hb hby d4_73) rfl rfl) ?_
    show oEndX p e s below T150 (mkF m 74 #[.val (.ref a), .val .null, .val (.int (1 : Int32)), .val (.ref b), .val (.ref c1)] [(.ref b)]) n0 2 5 (fun v h => ∃ E, v = some (.ref E) ∧ Keep h0 h [] ∧ oLs Z h E [c0, c1, c2])
    refine oPreX (fun _ => XS.iloadN X150.here hx rfl (hb hby d4_74) rfl) ?_
    show oEndX p e s below T150 (mkF m 75 #[.val (.ref a), .val .null, .val (.int (1 : Int32)), .val (.ref b), .val (.ref c1)] [(.int (1 : Int32)), (.ref b)]) n0 2 5 (fun v h => ∃ E, v = some (.ref E) ∧ Keep h0 h [] ∧ oLs Z h E [c0, c1, c2])
    refine oPreX (fun _ => XS.iinc X150.here hx rfl (hb hby d4_75) rfl (l' := #[.val (.ref a), .val .null, .val (.int (2 : Int32)), .val (.ref b), .val (.ref c1)]) rfl) ?_
    show oEndX p e s below T150 (mkF m 78 #[.val (.ref a), .val .null, .val (.int (2 : Int32)), .val (.ref b), .val (.ref c1)] [(.int (1 : Int32)), (.ref b)]) n0 2 5 (fun v h => ∃ E, v = some (.ref E) ∧ Keep h0 h [] ∧ oLs Z h E [c0, c1, c2])
    refine oPreX (fun _ => XS.aload X150.here hx rfl (hb hby d4_78) rfl rfl) ?_
    show oEndX p e s below T150 (mkF m 80 #[.val (.ref a), .val .null, .val (.int (2 : Int32)), .val (.ref b), .val (.ref c1)] [(.ref c1), (.int (1 : Int32)), (.ref b)]) n0 2 5 (fun v h => ∃ E, v = some (.ref E) ∧ Keep h0 h [] ∧ oLs Z h E [c0, c1, c2])
    obtain ⟨T141, h141, L141, X141, e141, V141, K141, N141, W141, st141⟩ := oSt X150 hx hZ e150 V140 O1 K140 hb0 N140 hbn (1 : Int32) (by decide) (by decide) (y := c1) rfl (E_1.keep K140) (g := (mkF m 80 #[.val (.ref a), .val .null, .val (.int (2 : Int32)), .val (.ref b), .val (.ref c1)] [(.ref c1), (.int (1 : Int32)), (.ref b)])) rfl (rest := []) rfl (hb hby d4_80)
    refine oPreX st141 ?_
    show oEndX p e s below T141 (mkF m 81 #[.val (.ref a), .val .null, .val (.int (2 : Int32)), .val (.ref b), .val (.ref c1)] []) n0 2 5 (fun v h => ∃ E, v = some (.ref E) ∧ Keep h0 h [] ∧ oLs Z h E [c0, c1, c2])
    refine oPreX (fun _ => XS.aload X141.here hx rfl (hb hby d4_81) rfl rfl) ?_
    show oEndX p e s below T141 (mkF m 83 #[.val (.ref a), .val .null, .val (.int (2 : Int32)), .val (.ref b), .val (.ref c1)] [(.ref c1)]) n0 2 5 (fun v h => ∃ E, v = some (.ref E) ∧ Keep h0 h [] ∧ oLs Z h E [c0, c1, c2])
    obtain ⟨T151, X151, e151, st151⟩ := getF X141 hx hZ hown (host := "") (Or.inl (hw _ (List.mem_of_getElem? (i := 65) rfl))) Via.refl e141 (G_1.keep K141 (by simp)) (g := (mkF m 83 #[.val (.ref a), .val .null, .val (.int (2 : Int32)), .val (.ref b), .val (.ref c1)] [(.ref c1)])) rfl rfl (hb hby d4_83)
    refine oPreX st151 ?_
    show oEndX p e s below T151 (mkF m 86 #[.val (.ref a), .val .null, .val (.int (2 : Int32)), .val (.ref b), .val (.ref c1)] [(.ref c2)]) n0 2 5 (fun v h => ∃ E, v = some (.ref E) ∧ Keep h0 h [] ∧ oLs Z h E [c0, c1, c2])
    refine oPreX (fun _ => XS.astore X151.here hx rfl (hb hby d4_86) rfl rfl (l' := #[.val (.ref a), .val .null, .val (.int (2 : Int32)), .val (.ref b), .val (.ref c2)]) rfl) ?_
    show oEndX p e s below T151 (mkF m 88 #[.val (.ref a), .val .null, .val (.int (2 : Int32)), .val (.ref b), .val (.ref c2)] []) n0 2 5 (fun v h => ∃ E, v = some (.ref E) ∧ Keep h0 h [] ∧ oLs Z h E [c0, c1, c2])
    refine oPreX (fun _ => XS.goto X151.here hx rfl (pc0 := 88) (pc' := 55) rfl (hb hby d4_88) (by decide) (by decide)) ?_
    show oEndX p e s below T151 (mkF m 55 #[.val (.ref a), .val .null, .val (.int (2 : Int32)), .val (.ref b), .val (.ref c2)] []) n0 2 5 (fun v h => ∃ E, v = some (.ref E) ∧ Keep h0 h [] ∧ oLs Z h E [c0, c1, c2])
    refine oPreX (fun _ => XS.aload X151.here hx rfl (hb hby d4_55) rfl rfl) ?_
    show oEndX p e s below T151 (mkF m 57 #[.val (.ref a), .val .null, .val (.int (2 : Int32)), .val (.ref b), .val (.ref c2)] [(.ref c2)]) n0 2 5 (fun v h => ∃ E, v = some (.ref E) ∧ Keep h0 h [] ∧ oLs Z h E [c0, c1, c2])
    refine oPreX (fun _ => XS.ifnullNo X151.here hx rfl (hb hby d4_57) rfl) ?_
    show oEndX p e s below T151 (mkF m 60 #[.val (.ref a), .val .null, .val (.int (2 : Int32)), .val (.ref b), .val (.ref c2)] []) n0 2 5 (fun v h => ∃ E, v = some (.ref E) ∧ Keep h0 h [] ∧ oLs Z h E [c0, c1, c2])
    refine oPreX (fun _ => XS.aloadN X151.here hx rfl (hb hby d4_60) rfl rfl) ?_
    show oEndX p e s below T151 (mkF m 61 #[.val (.ref a), .val .null, .val (.int (2 : Int32)), .val (.ref b), .val (.ref c2)] [.null]) n0 2 5 (fun v h => ∃ E, v = some (.ref E) ∧ Keep h0 h [] ∧ oLs Z h E [c0, c1, c2])
    refine oPreX (fun _ => XS.ifnullYes X151.here hx rfl (pc0 := 61) (pc' := 73) rfl (hb hby d4_61) rfl (by decide) (by decide)) ?_
    show oEndX p e s below T151 (mkF m 73 #[.val (.ref a), .val .null, .val (.int (2 : Int32)), .val (.ref b), .val (.ref c2)] []) n0 2 5 (fun v h => ∃ E, v = some (.ref E) ∧ Keep h0 h [] ∧ oLs Z h E [c0, c1, c2])
    refine oPreX (fun _ => XS.aloadN X151.here hx rfl (hb hby d4_73) rfl rfl) ?_
    show oEndX p e s below T151 (mkF m 74 #[.val (.ref a), .val .null, .val (.int (2 : Int32)), .val (.ref b), .val (.ref c2)] [(.ref b)]) n0 2 5 (fun v h => ∃ E, v = some (.ref E) ∧ Keep h0 h [] ∧ oLs Z h E [c0, c1, c2])
    refine oPreX (fun _ => XS.iloadN X151.here hx rfl (hb hby d4_74) rfl) ?_
    show oEndX p e s below T151 (mkF m 75 #[.val (.ref a), .val .null, .val (.int (2 : Int32)), .val (.ref b), .val (.ref c2)] [(.int (2 : Int32)), (.ref b)]) n0 2 5 (fun v h => ∃ E, v = some (.ref E) ∧ Keep h0 h [] ∧ oLs Z h E [c0, c1, c2])
    refine oPreX (fun _ => XS.iinc X151.here hx rfl (hb hby d4_75) rfl (l' := #[.val (.ref a), .val .null, .val (.int (3 : Int32)), .val (.ref b), .val (.ref c2)]) rfl) ?_
    show oEndX p e s below T151 (mkF m 78 #[.val (.ref a), .val .null, .val (.int (3 : Int32)), .val (.ref b), .val (.ref c2)] [(.int (2 : Int32)), (.ref b)]) n0 2 5 (fun v h => ∃ E, v = some (.ref E) ∧ Keep h0 h [] ∧ oLs Z h E [c0, c1, c2])
    refine oPreX (fun _ => XS.aload X151.here hx rfl (hb hby d4_78) rfl rfl) ?_
    show oEndX p e s below T151 (mkF m 80 #[.val (.ref a), .val .null, .val (.int (3 : Int32)), .val (.ref b), .val (.ref c2)] [(.ref c2), (.int (2 : Int32)), (.ref b)]) n0 2 5 (fun v h => ∃ E, v = some (.ref E) ∧ Keep h0 h [] ∧ oLs Z h E [c0, c1, c2])
    obtain ⟨T142, h142, L142, X142, e142, V142, K142, N142, W142, st142⟩ := oSt X151 hx hZ e151 V141 O1 K141 hb0 N141 hbn (2 : Int32) (by decide) (by decide) (y := c2) rfl (E_2.keep K141) (g := (mkF m 80 #[.val (.ref a), .val .null, .val (.int (3 : Int32)), .val (.ref b), .val (.ref c2)] [(.ref c2), (.int (2 : Int32)), (.ref b)])) rfl (rest := []) rfl (hb hby d4_80)
    refine oPreX st142 ?_
    show oEndX p e s below T142 (mkF m 81 #[.val (.ref a), .val .null, .val (.int (3 : Int32)), .val (.ref b), .val (.ref c2)] []) n0 2 5 (fun v h => ∃ E, v = some (.ref E) ∧ Keep h0 h [] ∧ oLs Z h E [c0, c1, c2])
    refine oPreX (fun _ => XS.aload X142.here hx rfl (hb hby d4_81) rfl rfl) ?_
    show oEndX p e s below T142 (mkF m 83 #[.val (.ref a), .val .null, .val (.int (3 : Int32)), .val (.ref b), .val (.ref c2)] [(.ref c2)]) n0 2 5 (fun v h => ∃ E, v = some (.ref E) ∧ Keep h0 h [] ∧ oLs Z h E [c0, c1, c2])
    obtain ⟨T152, X152, e152, st152⟩ := getF X142 hx hZ hown (host := "") (Or.inl (hw _ (List.mem_of_getElem? (i := 65) rfl))) Via.refl e142 (G_2.keep K142 (by simp)) (g := (mkF m 83 #[.val (.ref a), .val .null, .val (.int (3 : Int32)), .val (.ref b), .val (.ref c2)] [(.ref c2)])) rfl rfl (hb hby d4_83)
    refine oPreX st152 ?_
    show oEndX p e s below T152 (mkF m 86 #[.val (.ref a), .val .null, .val (.int (3 : Int32)), .val (.ref b), .val (.ref c2)] [.null]) n0 2 5 (fun v h => ∃ E, v = some (.ref E) ∧ Keep h0 h [] ∧ oLs Z h E [c0, c1, c2])
    refine oPreX (fun _ => XS.astore X152.here hx rfl (hb hby d4_86) rfl rfl (l' := #[.val (.ref a), .val .null, .val (.int (3 : Int32)), .val (.ref b), .val .null]) rfl) ?_
    show oEndX p e s below T152 (mkF m 88 #[.val (.ref a), .val .null, .val (.int (3 : Int32)), .val (.ref b), .val .null] []) n0 2 5 (fun v h => ∃ E, v = some (.ref E) ∧ Keep h0 h [] ∧ oLs Z h E [c0, c1, c2])
    refine oPreX (fun _ => XS.goto X152.here hx rfl (pc0 := 88) (pc' := 55) rfl (hb hby d4_88) (by decide) (by decide)) ?_
    show oEndX p e s below T152 (mkF m 55 #[.val (.ref a), .val .null, .val (.int (3 : Int32)), .val (.ref b), .val .null] []) n0 2 5 (fun v h => ∃ E, v = some (.ref E) ∧ Keep h0 h [] ∧ oLs Z h E [c0, c1, c2])
    refine oPreX (fun _ => XS.aload X152.here hx rfl (hb hby d4_55) rfl rfl) ?_
    show oEndX p e s below T152 (mkF m 57 #[.val (.ref a), .val .null, .val (.int (3 : Int32)), .val (.ref b), .val .null] [.null]) n0 2 5 (fun v h => ∃ E, v = some (.ref E) ∧ Keep h0 h [] ∧ oLs Z h E [c0, c1, c2])
    refine oPreX (fun _ => XS.ifnullYes X152.here hx rfl (pc0 := 57) (pc' := 91) rfl (hb hby d4_57) rfl (by decide) (by decide)) ?_
    show oEndX p e s below T152 (mkF m 91 #[.val (.ref a), .val .null, .val (.int (3 : Int32)), .val (.ref b), .val .null] []) n0 2 5 (fun v h => ∃ E, v = some (.ref E) ∧ Keep h0 h [] ∧ oLs Z h E [c0, c1, c2])
    obtain ⟨T5, h5, X5, e5, E5, A5, D5, -, st5⟩ := newO X152 hx hZ hown (hw _ (List.mem_of_getElem? (i := 70) rfl)) (hw _ (List.mem_of_getElem? (i := 71) rfl)) (hw _ (List.mem_of_getElem? (i := 56) rfl)) e152 (g := (mkF m 91 #[.val (.ref a), .val .null, .val (.int (3 : Int32)), .val (.ref b), .val .null] [])) rfl (hb hby d4_91) (by decide) (by decide)
    obtain ⟨E, gE⟩ : ∃ z, z = h142.size := ⟨_, rfl⟩
    rw [← gE] at A5 D5 st5
    have V5 := oFill_ext E5 V142
    have K5 : Keep h0 h5 [] := K142.ext E5
    have hE0 : h0.size ≤ E := by rw [gE]; exact K142.1
    have hbE : b ≠ E := by obtain ⟨cz, Az, -⟩ := V142; exact Nat.ne_of_lt (by rw [gE]; exact Az.lt)
    have F_elm : Fld Z h5 E "org/provenote/core/xml/XmlElement$Elements" "elements" "[Lorg/provenote/core/xml/XmlElement;" .null := D5 (Or.inr (hw _ (List.mem_of_getElem? (i := 59) rfl))) (ty := (.array (.object "org/provenote/core/xml/XmlElement"))) (by decide)
    have F_mod : Fld Z h5 E "java/util/AbstractList" "modCount" "I" (.int (0 : Int32)) := D5 (Or.inl (hw _ (List.mem_of_getElem? (i := 88) rfl))) (ty := .int) (by decide)
    refine oPreX st5 ?_
    show oEndX p e s below T5 (mkF m 94 #[.val (.ref a), .val .null, .val (.int (3 : Int32)), .val (.ref b), .val .null] [(.ref E)]) n0 2 5 (fun v h => ∃ E, v = some (.ref E) ∧ Keep h0 h [] ∧ oLs Z h E [c0, c1, c2])
    refine oPreX (fun _ => XS.dup X5.here hx rfl (hb hby d4_94) rfl rfl) ?_
    show oEndX p e s below T5 (mkF m 95 #[.val (.ref a), .val .null, .val (.int (3 : Int32)), .val (.ref b), .val .null] [(.ref E), (.ref E)]) n0 2 5 (fun v h => ∃ E, v = some (.ref E) ∧ Keep h0 h [] ∧ oLs Z h E [c0, c1, c2])
    refine oPreX (fun _ => XS.aloadN X5.here hx rfl (hb hby d4_95) rfl rfl) ?_
    show oEndX p e s below T5 (mkF m 96 #[.val (.ref a), .val .null, .val (.int (3 : Int32)), .val (.ref b), .val .null] [(.ref b), (.ref E), (.ref E)]) n0 2 5 (fun v h => ∃ E, v = some (.ref E) ∧ Keep h0 h [] ∧ oLs Z h E [c0, c1, c2])
    obtain ⟨_, _, ⟨T6, L6, k6, n6⟩, -, X6, ⟨Lc6, hQ6, l6, y6, z6⟩, st6⟩ := X5.specialBack hx (y := (⟨"org/provenote/core/xml/XmlElement$Elements", "<init>", "([Lorg/provenote/core/xml/XmlElement;)V"⟩ : MethodName)) rfl hown (mvT hZ (hw _ (List.mem_of_getElem? (i := 72) rfl))) (mvT hZ (hw _ (List.mem_of_getElem? (i := 73) rfl))) (mvT hZ (hw _ (List.mem_of_getElem? (i := 74) rfl))) (by decide) (backOf (W := 1) (rm7 l Z a0 hw [] E b .null h5 n0 (Nat.le_trans Z0 K5.1) A5 F_elm (Nat.le_trans Z0 hE0) F_mod) hZ (hw _ (List.mem_of_getElem? (i := 74) rfl)) (hw _ (List.mem_of_getElem? (i := 56) rfl)) (by decide) (by decide)) (g := (mkF m 96 #[.val (.ref a), .val .null, .val (.int (3 : Int32)), .val (.ref b), .val .null] [(.ref b), (.ref E), (.ref E)])) rfl (by rw [hml]; rfl) (Steps.refl _) (a := E) (argsL := [(.ref b)]) (rest := [(.ref E)]) (lenOf pd_3 rfl) rfl (by show 2 * 0 + _ ≤ _; exact Nat.le_of_eq rfl) (hb hby d4_96) (fun _ _ => ⟨rfl, e5, (by decide : 2 + 0 ≤ _), (by decide : 5 + 0 ≤ _)⟩)
    dsimp only [Pt.U, Pt.locs, Pt.cells, Pt.slots] at X6 l6 y6 z6 st6 hQ6
    subst l6
    rw [y6, z6] at X6
    obtain ⟨rfl, N6q, K6, A6, F6⟩ := hQ6
    have N6 := Fr.app N142 N6q
    refine oPreX (fun _ q => st6.trans q) ?_
    obtain ⟨cl5, r1, -, r3, r4⟩ := V5
    show oEndX p e s below T6 (mkF m 99 #[.val (.ref a), .val .null, .val (.int (3 : Int32)), .val (.ref b), .val .null] [(.ref E)]) n0 2 5 (fun v h => ∃ E, v = some (.ref E) ∧ Keep h0 h [] ∧ oLs Z h E [c0, c1, c2])
    obtain ⟨fs, hr, hrun, hended, hW, hsame⟩ := X6.leave (v := some (.ref E)) (fun h => by rw [hret] at h; cases h) hlk
    have stp : Steps p.tables e below (T6.setTop (mkF m 99 #[.val (.ref a), .val .null, .val (.int (3 : Int32)), .val (.ref b), .val .null] [(.ref E)])) (T6.setFrames fs) := by
      jvm_step X6.here [X6.here.top, hx, (hb hby d4_99), X6.method', hret, Value.isRef, FieldType.isReference]
      first | (intro acts; rw [hr _ acts rfl rfl rfl]) | rw [hr _ _ rfl rfl rfl]
      exact Steps.refl _
    exact ⟨_, _, _, stp, hrun, hended, hW, hsame.mono (by decide) (by decide), N6, ⟨E, rfl, oKeep0 K5 K6 hE0, b, cl5, A6, F6, ⟨K6.2.1 _ _ r1.1 (oNi hbE), r1.2⟩, r3, r4⟩⟩
  obtain ⟨tq, L, v, hs, hrun, hended, hW, hsame, hN, hQ⟩ := main
  exact ⟨tq, _, castTop (ef_4 m a) hs, hrun, hended, v, L, rfl, ⟨hQ, hN⟩, ⟨_, rfl⟩, hW, hsame⟩
theorem d3_0 : decode prog_99_method_12_code 0 = .ok (.aload_n 0, 1) := by decide +kernel
theorem d3_1 : decode prog_99_method_12_code 1 = .ok (.aconst_null, 1) := by decide +kernel
theorem d3_2 : decode prog_99_method_12_code 2 = .ok (.invokevirtual 57, 3) := by decide +kernel
theorem d3_5 : decode prog_99_method_12_code 5 = .ok (.areturn, 1) := by decide +kernel
set_option maxRecDepth 65536 in
set_option maxHeartbeats 40000000 in
theorem oRC0 (l : Launch) (Z : State) (a0 : Array Value) (hw : ∀ d ∈ tables_1, d.before a0 Z = true) (ws : List Jvm.Cond) (a : Addr)  (h0 : Heap) (n0 : Nat) (Z0 : n0 ≤ h0.size) (E_a : Exa Z h0 a "org/provenote/core/xml/XmlElement") (F_fc : Fld Z h0 a "org/provenote/core/xml/XmlElement" "firstChild" "Lorg/provenote/core/xml/XmlElement;" .null) {wC : Addr} (S_NC : Sta Z h0 "org/provenote/core/xml/XmlElement" "NO_CHILDREN" "Ljava/util/List;" (.ref wC)) (L_C : oLs Z h0 wC []) :
    MetFree l (⟨"org/provenote/core/xml/XmlElement", "children", "()Ljava/util/List;"⟩ : MethodName) (head1 (Jvm.Cond.code (⟨"org/provenote/core/xml/XmlElement", "children", "()Ljava/util/List;"⟩ : MethodName) prog_99_method_12_code 1 (some (.object "java/util/List")) :: ws) ({ frames := 5, cells := 2, slots := 5, locals := 66 } : Room)) (fun ar U => ar = #[(.ref a)] ∧ Z.Warmed39 U.vm ∧ U.heap = h0) (fun _ _ _ _ _ => True) (fun _ U o U' => ∃ v L, o = .returned v ∧ oQS Z [] h0 n0 v U'.heap L ∧ FrameEnd U o U' L ({ frames := 5, cells := 2, slots := 5, locals := 66 } : Room).cells ({ frames := 5, cells := 2, slots := 5, locals := 66 } : Room).slots) := by
  refine MetFree.of_bodySF (plainFor_of_name pn_4) hisR ?_
  intro p e s m args below meth c s₁ Bd hml0 hP hK
  obtain ⟨rfl, hZ, hh⟩ := hP
  have hx := Bd.exec
  have hby := Bd.bytes
  have hml : c.maxLocals = 1 := hml0
  have hret := Bd.returns
  have hlk : meth.locks = false := Bd.notSynchronized
  have hown : s.vm.findClass "org/provenote/core/xml/XmlElement" = some m.cls := findClass_of_methodNamed Bd.named
  have X0 : Stand p l e ({ frames := 5, cells := 2, slots := 5, locals := 66 } : Room) s m #[(.ref a)] below meth c s₁ [] 0 0 := Stand.of_body Bd
  have e0 : s₁.heap = h0 := by rw [← hh, Bd.state]; rfl
  have N0 := Fr.nil n0
  have main : oEndX p e s below s₁ (mkF m 0 #[.val (.ref a)] []) n0 2 5 (fun v h => ∃ E, v = some (.ref E) ∧ Keep h0 h [] ∧ oLs Z h E []) := by
    show oEndX p e s below s₁ (mkF m 0 #[.val (.ref a)] []) n0 2 5 (fun v h => ∃ E, v = some (.ref E) ∧ Keep h0 h [] ∧ oLs Z h E [])
    refine oPreX (fun _ => XS.aloadN X0.here hx rfl (hb hby d3_0) rfl rfl) ?_
    show oEndX p e s below s₁ (mkF m 1 #[.val (.ref a)] [(.ref a)]) n0 2 5 (fun v h => ∃ E, v = some (.ref E) ∧ Keep h0 h [] ∧ oLs Z h E [])
    refine oPreX (fun _ => XS.aconstNull X0.here hx rfl (hb hby d3_1)) ?_
    show oEndX p e s below s₁ (mkF m 2 #[.val (.ref a)] [.null, (.ref a)]) n0 2 5 (fun v h => ∃ E, v = some (.ref E) ∧ Keep h0 h [] ∧ oLs Z h E [])
    obtain ⟨cI, kI, hcI, hkI, -, hniab, -, -⟩ := Cond.instantiable_spec (mvT (args := #[]) hZ (hw _ (List.mem_of_getElem? (i := 1) rfl)))
    have hni : kI.isInterface = false := (Bool.or_eq_false_iff.mp hniab).1
    have hsel : (Jvm.Cond.selects (⟨"org/provenote/core/xml/XmlElement", "select", "(Ljava/lang/String;)Ljava/util/List;"⟩ : MethodName).cls (⟨"org/provenote/core/xml/XmlElement", "select", "(Ljava/lang/String;)Ljava/util/List;"⟩ : MethodName) (⟨"org/provenote/core/xml/XmlElement", "select", "(Ljava/lang/String;)Ljava/util/List;"⟩ : MethodName)).before #[(.ref a)] s = true := Jvm.Stand.selects_self_of_private hcI hkI hni (Cond.privateMethod_at (mvP hZ (hw _ (List.mem_of_getElem? (i := 42) rfl)) (args := #[]))) (mvT hZ (hw _ (List.mem_of_getElem? (i := 41) rfl))) (by decide)
    obtain ⟨cq2, q2, q2'⟩ := E_a.cell
    obtain ⟨_, _, ⟨T2, L2, k2, n2⟩, -, X2, ⟨Lc2, hQ2, l2, y2, z2⟩, st2⟩ := X0.privateBack hx (y := (⟨"org/provenote/core/xml/XmlElement", "select", "(Ljava/lang/String;)Ljava/util/List;"⟩ : MethodName)) hown (mvT hZ (hw _ (List.mem_of_getElem? (i := 40) rfl))) (mvT hZ (hw _ (List.mem_of_getElem? (i := 41) rfl))) hsel (Cond.privateMethod_at (mvP hZ (hw _ (List.mem_of_getElem? (i := 42) rfl)) (args := #[]))) (mvT hZ (hw _ (List.mem_of_getElem? (i := 43) rfl))) (by decide) (backOf (W := 0) (oRS0 l Z a0 hw [] a  h0 n0 Z0 F_fc  S_NC L_C) hZ (hw _ (List.mem_of_getElem? (i := 43) rfl)) (hw _ (List.mem_of_getElem? (i := 2) rfl)) (by decide) (by decide)) (g := (mkF m 2 #[.val (.ref a)] [.null, (.ref a)])) rfl (by rw [hml]; rfl) (Steps.refl _) (a := a) (by rw [e0]; exact q2) q2' (argsL := [.null]) (rest := []) (lenOf pd_1 rfl) rfl (by show 2 * 0 + _ ≤ _; exact Nat.le_of_eq rfl) (hb hby d3_2) (fun _ _ => ⟨rfl, e0, (by decide : 0 + 2 ≤ _), (by decide : 0 + 5 ≤ _)⟩)
    dsimp only [Pt.U, Pt.locs, Pt.cells, Pt.slots] at X2 l2 y2 z2 st2 hQ2
    subst l2
    rw [y2, z2] at X2
    obtain ⟨⟨E, rfl, K2, Ls2⟩, N2q⟩ := hQ2
    have N2 := Fr.app N0 N2q
    refine oPreX (fun _ q => st2.trans q) ?_
    show oEndX p e s below T2 (mkF m 5 #[.val (.ref a)] [(.ref E)]) n0 2 5 (fun v h => ∃ E, v = some (.ref E) ∧ Keep h0 h [] ∧ oLs Z h E [])
    obtain ⟨fs, hr, hrun, hended, hW, hsame⟩ := X2.leave (v := some (.ref E)) (fun h => by rw [hret] at h; cases h) hlk
    have stp : Steps p.tables e below (T2.setTop (mkF m 5 #[.val (.ref a)] [(.ref E)])) (T2.setFrames fs) := by
      jvm_step X2.here [X2.here.top, hx, (hb hby d3_5), X2.method', hret, Value.isRef, FieldType.isReference]
      first | (intro acts; rw [hr _ acts rfl rfl rfl]) | rw [hr _ _ rfl rfl rfl]
      exact Steps.refl _
    exact ⟨_, _, _, stp, hrun, hended, hW, hsame, N2, ⟨E, rfl, K2, Ls2⟩⟩
  obtain ⟨tq, L, v, hs, hrun, hended, hW, hsame, hN, hQ⟩ := main
  exact ⟨tq, _, castTop (ef_3 m a) hs, hrun, hended, v, L, rfl, ⟨hQ, hN⟩, ⟨_, rfl⟩, hW, hsame⟩
set_option maxRecDepth 65536 in
set_option maxHeartbeats 40000000 in
theorem oRC1 (l : Launch) (Z : State) (a0 : Array Value) (hw : ∀ d ∈ tables_1, d.before a0 Z = true) (ws : List Jvm.Cond) (a : Addr) (c0 : Addr) (h0 : Heap) (n0 : Nat) (Z0 : n0 ≤ h0.size) (E_a : Exa Z h0 a "org/provenote/core/xml/XmlElement") (F_fc : Fld Z h0 a "org/provenote/core/xml/XmlElement" "firstChild" "Lorg/provenote/core/xml/XmlElement;" (.ref c0)) (E_0 : Exa Z h0 c0 "org/provenote/core/xml/XmlElement") (G_0 : Fld Z h0 c0 "org/provenote/core/xml/XmlElement" "nextSibling" "Lorg/provenote/core/xml/XmlElement;" .null) {wC : Addr} (S_NC : Sta Z h0 "org/provenote/core/xml/XmlElement" "NO_CHILDREN" "Ljava/util/List;" (.ref wC)) (L_C : oLs Z h0 wC []) :
    MetFree l (⟨"org/provenote/core/xml/XmlElement", "children", "()Ljava/util/List;"⟩ : MethodName) (head1 (Jvm.Cond.code (⟨"org/provenote/core/xml/XmlElement", "children", "()Ljava/util/List;"⟩ : MethodName) prog_99_method_12_code 1 (some (.object "java/util/List")) :: ws) ({ frames := 5, cells := 2, slots := 5, locals := 66 } : Room)) (fun ar U => ar = #[(.ref a)] ∧ Z.Warmed39 U.vm ∧ U.heap = h0) (fun _ _ _ _ _ => True) (fun _ U o U' => ∃ v L, o = .returned v ∧ oQS Z [c0] h0 n0 v U'.heap L ∧ FrameEnd U o U' L ({ frames := 5, cells := 2, slots := 5, locals := 66 } : Room).cells ({ frames := 5, cells := 2, slots := 5, locals := 66 } : Room).slots) := by
  refine MetFree.of_bodySF (plainFor_of_name pn_4) hisR ?_
  intro p e s m args below meth c s₁ Bd hml0 hP hK
  obtain ⟨rfl, hZ, hh⟩ := hP
  have hx := Bd.exec
  have hby := Bd.bytes
  have hml : c.maxLocals = 1 := hml0
  have hret := Bd.returns
  have hlk : meth.locks = false := Bd.notSynchronized
  have hown : s.vm.findClass "org/provenote/core/xml/XmlElement" = some m.cls := findClass_of_methodNamed Bd.named
  have X0 : Stand p l e ({ frames := 5, cells := 2, slots := 5, locals := 66 } : Room) s m #[(.ref a)] below meth c s₁ [] 0 0 := Stand.of_body Bd
  have e0 : s₁.heap = h0 := by rw [← hh, Bd.state]; rfl
  have N0 := Fr.nil n0
  have main : oEndX p e s below s₁ (mkF m 0 #[.val (.ref a)] []) n0 2 5 (fun v h => ∃ E, v = some (.ref E) ∧ Keep h0 h [] ∧ oLs Z h E [c0]) := by
    show oEndX p e s below s₁ (mkF m 0 #[.val (.ref a)] []) n0 2 5 (fun v h => ∃ E, v = some (.ref E) ∧ Keep h0 h [] ∧ oLs Z h E [c0])
    refine oPreX (fun _ => XS.aloadN X0.here hx rfl (hb hby d3_0) rfl rfl) ?_
    show oEndX p e s below s₁ (mkF m 1 #[.val (.ref a)] [(.ref a)]) n0 2 5 (fun v h => ∃ E, v = some (.ref E) ∧ Keep h0 h [] ∧ oLs Z h E [c0])
    refine oPreX (fun _ => XS.aconstNull X0.here hx rfl (hb hby d3_1)) ?_
    show oEndX p e s below s₁ (mkF m 2 #[.val (.ref a)] [.null, (.ref a)]) n0 2 5 (fun v h => ∃ E, v = some (.ref E) ∧ Keep h0 h [] ∧ oLs Z h E [c0])
    obtain ⟨cI, kI, hcI, hkI, -, hniab, -, -⟩ := Cond.instantiable_spec (mvT (args := #[]) hZ (hw _ (List.mem_of_getElem? (i := 1) rfl)))
    have hni : kI.isInterface = false := (Bool.or_eq_false_iff.mp hniab).1
    have hsel : (Jvm.Cond.selects (⟨"org/provenote/core/xml/XmlElement", "select", "(Ljava/lang/String;)Ljava/util/List;"⟩ : MethodName).cls (⟨"org/provenote/core/xml/XmlElement", "select", "(Ljava/lang/String;)Ljava/util/List;"⟩ : MethodName) (⟨"org/provenote/core/xml/XmlElement", "select", "(Ljava/lang/String;)Ljava/util/List;"⟩ : MethodName)).before #[(.ref a)] s = true := Jvm.Stand.selects_self_of_private hcI hkI hni (Cond.privateMethod_at (mvP hZ (hw _ (List.mem_of_getElem? (i := 42) rfl)) (args := #[]))) (mvT hZ (hw _ (List.mem_of_getElem? (i := 41) rfl))) (by decide)
    obtain ⟨cq2, q2, q2'⟩ := E_a.cell
    obtain ⟨_, _, ⟨T2, L2, k2, n2⟩, -, X2, ⟨Lc2, hQ2, l2, y2, z2⟩, st2⟩ := X0.privateBack hx (y := (⟨"org/provenote/core/xml/XmlElement", "select", "(Ljava/lang/String;)Ljava/util/List;"⟩ : MethodName)) hown (mvT hZ (hw _ (List.mem_of_getElem? (i := 40) rfl))) (mvT hZ (hw _ (List.mem_of_getElem? (i := 41) rfl))) hsel (Cond.privateMethod_at (mvP hZ (hw _ (List.mem_of_getElem? (i := 42) rfl)) (args := #[]))) (mvT hZ (hw _ (List.mem_of_getElem? (i := 43) rfl))) (by decide) (backOf (W := 0) (oRS1 l Z a0 hw [] a c0 h0 n0 Z0 F_fc E_0 G_0 S_NC L_C) hZ (hw _ (List.mem_of_getElem? (i := 43) rfl)) (hw _ (List.mem_of_getElem? (i := 2) rfl)) (by decide) (by decide)) (g := (mkF m 2 #[.val (.ref a)] [.null, (.ref a)])) rfl (by rw [hml]; rfl) (Steps.refl _) (a := a) (by rw [e0]; exact q2) q2' (argsL := [.null]) (rest := []) (lenOf pd_1 rfl) rfl (by show 2 * 0 + _ ≤ _; exact Nat.le_of_eq rfl) (hb hby d3_2) (fun _ _ => ⟨rfl, e0, (by decide : 0 + 2 ≤ _), (by decide : 0 + 5 ≤ _)⟩)
    dsimp only [Pt.U, Pt.locs, Pt.cells, Pt.slots] at X2 l2 y2 z2 st2 hQ2
    subst l2
    rw [y2, z2] at X2
    obtain ⟨⟨E, rfl, K2, Ls2⟩, N2q⟩ := hQ2
    have N2 := Fr.app N0 N2q
    refine oPreX (fun _ q => st2.trans q) ?_
    show oEndX p e s below T2 (mkF m 5 #[.val (.ref a)] [(.ref E)]) n0 2 5 (fun v h => ∃ E, v = some (.ref E) ∧ Keep h0 h [] ∧ oLs Z h E [c0])
    obtain ⟨fs, hr, hrun, hended, hW, hsame⟩ := X2.leave (v := some (.ref E)) (fun h => by rw [hret] at h; cases h) hlk
    have stp : Steps p.tables e below (T2.setTop (mkF m 5 #[.val (.ref a)] [(.ref E)])) (T2.setFrames fs) := by
      jvm_step X2.here [X2.here.top, hx, (hb hby d3_5), X2.method', hret, Value.isRef, FieldType.isReference]
      first | (intro acts; rw [hr _ acts rfl rfl rfl]) | rw [hr _ _ rfl rfl rfl]
      exact Steps.refl _
    exact ⟨_, _, _, stp, hrun, hended, hW, hsame, N2, ⟨E, rfl, K2, Ls2⟩⟩
  obtain ⟨tq, L, v, hs, hrun, hended, hW, hsame, hN, hQ⟩ := main
  exact ⟨tq, _, castTop (ef_3 m a) hs, hrun, hended, v, L, rfl, ⟨hQ, hN⟩, ⟨_, rfl⟩, hW, hsame⟩
set_option maxRecDepth 65536 in
set_option maxHeartbeats 40000000 in
theorem oRC2 (l : Launch) (Z : State) (a0 : Array Value) (hw : ∀ d ∈ tables_1, d.before a0 Z = true) (ws : List Jvm.Cond) (a : Addr) (c0 c1 : Addr) (h0 : Heap) (n0 : Nat) (Z0 : n0 ≤ h0.size) (E_a : Exa Z h0 a "org/provenote/core/xml/XmlElement") (F_fc : Fld Z h0 a "org/provenote/core/xml/XmlElement" "firstChild" "Lorg/provenote/core/xml/XmlElement;" (.ref c0)) (E_0 : Exa Z h0 c0 "org/provenote/core/xml/XmlElement") (G_0 : Fld Z h0 c0 "org/provenote/core/xml/XmlElement" "nextSibling" "Lorg/provenote/core/xml/XmlElement;" (.ref c1)) (E_1 : Exa Z h0 c1 "org/provenote/core/xml/XmlElement") (G_1 : Fld Z h0 c1 "org/provenote/core/xml/XmlElement" "nextSibling" "Lorg/provenote/core/xml/XmlElement;" .null) {wC : Addr} (S_NC : Sta Z h0 "org/provenote/core/xml/XmlElement" "NO_CHILDREN" "Ljava/util/List;" (.ref wC)) (L_C : oLs Z h0 wC []) :
    MetFree l (⟨"org/provenote/core/xml/XmlElement", "children", "()Ljava/util/List;"⟩ : MethodName) (head1 (Jvm.Cond.code (⟨"org/provenote/core/xml/XmlElement", "children", "()Ljava/util/List;"⟩ : MethodName) prog_99_method_12_code 1 (some (.object "java/util/List")) :: ws) ({ frames := 5, cells := 2, slots := 5, locals := 66 } : Room)) (fun ar U => ar = #[(.ref a)] ∧ Z.Warmed39 U.vm ∧ U.heap = h0) (fun _ _ _ _ _ => True) (fun _ U o U' => ∃ v L, o = .returned v ∧ oQS Z [c0, c1] h0 n0 v U'.heap L ∧ FrameEnd U o U' L ({ frames := 5, cells := 2, slots := 5, locals := 66 } : Room).cells ({ frames := 5, cells := 2, slots := 5, locals := 66 } : Room).slots) := by
  refine MetFree.of_bodySF (plainFor_of_name pn_4) hisR ?_
  intro p e s m args below meth c s₁ Bd hml0 hP hK
  obtain ⟨rfl, hZ, hh⟩ := hP
  have hx := Bd.exec
  have hby := Bd.bytes
  have hml : c.maxLocals = 1 := hml0
  have hret := Bd.returns
  have hlk : meth.locks = false := Bd.notSynchronized
  have hown : s.vm.findClass "org/provenote/core/xml/XmlElement" = some m.cls := findClass_of_methodNamed Bd.named
  have X0 : Stand p l e ({ frames := 5, cells := 2, slots := 5, locals := 66 } : Room) s m #[(.ref a)] below meth c s₁ [] 0 0 := Stand.of_body Bd
  have e0 : s₁.heap = h0 := by rw [← hh, Bd.state]; rfl
  have N0 := Fr.nil n0
  have main : oEndX p e s below s₁ (mkF m 0 #[.val (.ref a)] []) n0 2 5 (fun v h => ∃ E, v = some (.ref E) ∧ Keep h0 h [] ∧ oLs Z h E [c0, c1]) := by
    show oEndX p e s below s₁ (mkF m 0 #[.val (.ref a)] []) n0 2 5 (fun v h => ∃ E, v = some (.ref E) ∧ Keep h0 h [] ∧ oLs Z h E [c0, c1])
    refine oPreX (fun _ => XS.aloadN X0.here hx rfl (hb hby d3_0) rfl rfl) ?_
    show oEndX p e s below s₁ (mkF m 1 #[.val (.ref a)] [(.ref a)]) n0 2 5 (fun v h => ∃ E, v = some (.ref E) ∧ Keep h0 h [] ∧ oLs Z h E [c0, c1])
    refine oPreX (fun _ => XS.aconstNull X0.here hx rfl (hb hby d3_1)) ?_
    show oEndX p e s below s₁ (mkF m 2 #[.val (.ref a)] [.null, (.ref a)]) n0 2 5 (fun v h => ∃ E, v = some (.ref E) ∧ Keep h0 h [] ∧ oLs Z h E [c0, c1])
    obtain ⟨cI, kI, hcI, hkI, -, hniab, -, -⟩ := Cond.instantiable_spec (mvT (args := #[]) hZ (hw _ (List.mem_of_getElem? (i := 1) rfl)))
    have hni : kI.isInterface = false := (Bool.or_eq_false_iff.mp hniab).1
    have hsel : (Jvm.Cond.selects (⟨"org/provenote/core/xml/XmlElement", "select", "(Ljava/lang/String;)Ljava/util/List;"⟩ : MethodName).cls (⟨"org/provenote/core/xml/XmlElement", "select", "(Ljava/lang/String;)Ljava/util/List;"⟩ : MethodName) (⟨"org/provenote/core/xml/XmlElement", "select", "(Ljava/lang/String;)Ljava/util/List;"⟩ : MethodName)).before #[(.ref a)] s = true := Jvm.Stand.selects_self_of_private hcI hkI hni (Cond.privateMethod_at (mvP hZ (hw _ (List.mem_of_getElem? (i := 42) rfl)) (args := #[]))) (mvT hZ (hw _ (List.mem_of_getElem? (i := 41) rfl))) (by decide)
    obtain ⟨cq2, q2, q2'⟩ := E_a.cell
    obtain ⟨_, _, ⟨T2, L2, k2, n2⟩, -, X2, ⟨Lc2, hQ2, l2, y2, z2⟩, st2⟩ := X0.privateBack hx (y := (⟨"org/provenote/core/xml/XmlElement", "select", "(Ljava/lang/String;)Ljava/util/List;"⟩ : MethodName)) hown (mvT hZ (hw _ (List.mem_of_getElem? (i := 40) rfl))) (mvT hZ (hw _ (List.mem_of_getElem? (i := 41) rfl))) hsel (Cond.privateMethod_at (mvP hZ (hw _ (List.mem_of_getElem? (i := 42) rfl)) (args := #[]))) (mvT hZ (hw _ (List.mem_of_getElem? (i := 43) rfl))) (by decide) (backOf (W := 0) (oRS2 l Z a0 hw [] a c0 c1 h0 n0 Z0 F_fc E_0 G_0 E_1 G_1 S_NC L_C) hZ (hw _ (List.mem_of_getElem? (i := 43) rfl)) (hw _ (List.mem_of_getElem? (i := 2) rfl)) (by decide) (by decide)) (g := (mkF m 2 #[.val (.ref a)] [.null, (.ref a)])) rfl (by rw [hml]; rfl) (Steps.refl _) (a := a) (by rw [e0]; exact q2) q2' (argsL := [.null]) (rest := []) (lenOf pd_1 rfl) rfl (by show 2 * 0 + _ ≤ _; exact Nat.le_of_eq rfl) (hb hby d3_2) (fun _ _ => ⟨rfl, e0, (by decide : 0 + 2 ≤ _), (by decide : 0 + 5 ≤ _)⟩)
    dsimp only [Pt.U, Pt.locs, Pt.cells, Pt.slots] at X2 l2 y2 z2 st2 hQ2
    subst l2
    rw [y2, z2] at X2
    obtain ⟨⟨E, rfl, K2, Ls2⟩, N2q⟩ := hQ2
    have N2 := Fr.app N0 N2q
    refine oPreX (fun _ q => st2.trans q) ?_
    show oEndX p e s below T2 (mkF m 5 #[.val (.ref a)] [(.ref E)]) n0 2 5 (fun v h => ∃ E, v = some (.ref E) ∧ Keep h0 h [] ∧ oLs Z h E [c0, c1])
    obtain ⟨fs, hr, hrun, hended, hW, hsame⟩ := X2.leave (v := some (.ref E)) (fun h => by rw [hret] at h; cases h) hlk
    have stp : Steps p.tables e below (T2.setTop (mkF m 5 #[.val (.ref a)] [(.ref E)])) (T2.setFrames fs) := by
      jvm_step X2.here [X2.here.top, hx, (hb hby d3_5), X2.method', hret, Value.isRef, FieldType.isReference]
      first | (intro acts; rw [hr _ acts rfl rfl rfl]) | rw [hr _ _ rfl rfl rfl]
      exact Steps.refl _
    exact ⟨_, _, _, stp, hrun, hended, hW, hsame, N2, ⟨E, rfl, K2, Ls2⟩⟩
  obtain ⟨tq, L, v, hs, hrun, hended, hW, hsame, hN, hQ⟩ := main
  exact ⟨tq, _, castTop (ef_3 m a) hs, hrun, hended, v, L, rfl, ⟨hQ, hN⟩, ⟨_, rfl⟩, hW, hsame⟩
set_option maxRecDepth 65536 in
set_option maxHeartbeats 40000000 in
theorem oRC3 (l : Launch) (Z : State) (a0 : Array Value) (hw : ∀ d ∈ tables_1, d.before a0 Z = true) (ws : List Jvm.Cond) (a : Addr) (c0 c1 c2 : Addr) (h0 : Heap) (n0 : Nat) (Z0 : n0 ≤ h0.size) (E_a : Exa Z h0 a "org/provenote/core/xml/XmlElement") (F_fc : Fld Z h0 a "org/provenote/core/xml/XmlElement" "firstChild" "Lorg/provenote/core/xml/XmlElement;" (.ref c0)) (E_0 : Exa Z h0 c0 "org/provenote/core/xml/XmlElement") (G_0 : Fld Z h0 c0 "org/provenote/core/xml/XmlElement" "nextSibling" "Lorg/provenote/core/xml/XmlElement;" (.ref c1)) (E_1 : Exa Z h0 c1 "org/provenote/core/xml/XmlElement") (G_1 : Fld Z h0 c1 "org/provenote/core/xml/XmlElement" "nextSibling" "Lorg/provenote/core/xml/XmlElement;" (.ref c2)) (E_2 : Exa Z h0 c2 "org/provenote/core/xml/XmlElement") (G_2 : Fld Z h0 c2 "org/provenote/core/xml/XmlElement" "nextSibling" "Lorg/provenote/core/xml/XmlElement;" .null) {wC : Addr} (S_NC : Sta Z h0 "org/provenote/core/xml/XmlElement" "NO_CHILDREN" "Ljava/util/List;" (.ref wC)) (L_C : oLs Z h0 wC []) :
    MetFree l (⟨"org/provenote/core/xml/XmlElement", "children", "()Ljava/util/List;"⟩ : MethodName) (head1 (Jvm.Cond.code (⟨"org/provenote/core/xml/XmlElement", "children", "()Ljava/util/List;"⟩ : MethodName) prog_99_method_12_code 1 (some (.object "java/util/List")) :: ws) ({ frames := 5, cells := 2, slots := 5, locals := 66 } : Room)) (fun ar U => ar = #[(.ref a)] ∧ Z.Warmed39 U.vm ∧ U.heap = h0) (fun _ _ _ _ _ => True) (fun _ U o U' => ∃ v L, o = .returned v ∧ oQS Z [c0, c1, c2] h0 n0 v U'.heap L ∧ FrameEnd U o U' L ({ frames := 5, cells := 2, slots := 5, locals := 66 } : Room).cells ({ frames := 5, cells := 2, slots := 5, locals := 66 } : Room).slots) := by
  refine MetFree.of_bodySF (plainFor_of_name pn_4) hisR ?_
  intro p e s m args below meth c s₁ Bd hml0 hP hK
  obtain ⟨rfl, hZ, hh⟩ := hP
  have hx := Bd.exec
  have hby := Bd.bytes
  have hml : c.maxLocals = 1 := hml0
  have hret := Bd.returns
  have hlk : meth.locks = false := Bd.notSynchronized
  have hown : s.vm.findClass "org/provenote/core/xml/XmlElement" = some m.cls := findClass_of_methodNamed Bd.named
  have X0 : Stand p l e ({ frames := 5, cells := 2, slots := 5, locals := 66 } : Room) s m #[(.ref a)] below meth c s₁ [] 0 0 := Stand.of_body Bd
  have e0 : s₁.heap = h0 := by rw [← hh, Bd.state]; rfl
  have N0 := Fr.nil n0
  have main : oEndX p e s below s₁ (mkF m 0 #[.val (.ref a)] []) n0 2 5 (fun v h => ∃ E, v = some (.ref E) ∧ Keep h0 h [] ∧ oLs Z h E [c0, c1, c2]) := by
    show oEndX p e s below s₁ (mkF m 0 #[.val (.ref a)] []) n0 2 5 (fun v h => ∃ E, v = some (.ref E) ∧ Keep h0 h [] ∧ oLs Z h E [c0, c1, c2])
    refine oPreX (fun _ => XS.aloadN X0.here hx rfl (hb hby d3_0) rfl rfl) ?_
    show oEndX p e s below s₁ (mkF m 1 #[.val (.ref a)] [(.ref a)]) n0 2 5 (fun v h => ∃ E, v = some (.ref E) ∧ Keep h0 h [] ∧ oLs Z h E [c0, c1, c2])
    refine oPreX (fun _ => XS.aconstNull X0.here hx rfl (hb hby d3_1)) ?_
    show oEndX p e s below s₁ (mkF m 2 #[.val (.ref a)] [.null, (.ref a)]) n0 2 5 (fun v h => ∃ E, v = some (.ref E) ∧ Keep h0 h [] ∧ oLs Z h E [c0, c1, c2])
    obtain ⟨cI, kI, hcI, hkI, -, hniab, -, -⟩ := Cond.instantiable_spec (mvT (args := #[]) hZ (hw _ (List.mem_of_getElem? (i := 1) rfl)))
    have hni : kI.isInterface = false := (Bool.or_eq_false_iff.mp hniab).1
    have hsel : (Jvm.Cond.selects (⟨"org/provenote/core/xml/XmlElement", "select", "(Ljava/lang/String;)Ljava/util/List;"⟩ : MethodName).cls (⟨"org/provenote/core/xml/XmlElement", "select", "(Ljava/lang/String;)Ljava/util/List;"⟩ : MethodName) (⟨"org/provenote/core/xml/XmlElement", "select", "(Ljava/lang/String;)Ljava/util/List;"⟩ : MethodName)).before #[(.ref a)] s = true := Jvm.Stand.selects_self_of_private hcI hkI hni (Cond.privateMethod_at (mvP hZ (hw _ (List.mem_of_getElem? (i := 42) rfl)) (args := #[]))) (mvT hZ (hw _ (List.mem_of_getElem? (i := 41) rfl))) (by decide)
    obtain ⟨cq2, q2, q2'⟩ := E_a.cell
    obtain ⟨_, _, ⟨T2, L2, k2, n2⟩, -, X2, ⟨Lc2, hQ2, l2, y2, z2⟩, st2⟩ := X0.privateBack hx (y := (⟨"org/provenote/core/xml/XmlElement", "select", "(Ljava/lang/String;)Ljava/util/List;"⟩ : MethodName)) hown (mvT hZ (hw _ (List.mem_of_getElem? (i := 40) rfl))) (mvT hZ (hw _ (List.mem_of_getElem? (i := 41) rfl))) hsel (Cond.privateMethod_at (mvP hZ (hw _ (List.mem_of_getElem? (i := 42) rfl)) (args := #[]))) (mvT hZ (hw _ (List.mem_of_getElem? (i := 43) rfl))) (by decide) (backOf (W := 0) (oRS3 l Z a0 hw [] a c0 c1 c2 h0 n0 Z0 F_fc E_0 G_0 E_1 G_1 E_2 G_2 S_NC L_C) hZ (hw _ (List.mem_of_getElem? (i := 43) rfl)) (hw _ (List.mem_of_getElem? (i := 2) rfl)) (by decide) (by decide)) (g := (mkF m 2 #[.val (.ref a)] [.null, (.ref a)])) rfl (by rw [hml]; rfl) (Steps.refl _) (a := a) (by rw [e0]; exact q2) q2' (argsL := [.null]) (rest := []) (lenOf pd_1 rfl) rfl (by show 2 * 0 + _ ≤ _; exact Nat.le_of_eq rfl) (hb hby d3_2) (fun _ _ => ⟨rfl, e0, (by decide : 0 + 2 ≤ _), (by decide : 0 + 5 ≤ _)⟩)
    dsimp only [Pt.U, Pt.locs, Pt.cells, Pt.slots] at X2 l2 y2 z2 st2 hQ2
    subst l2
    rw [y2, z2] at X2
    obtain ⟨⟨E, rfl, K2, Ls2⟩, N2q⟩ := hQ2
    have N2 := Fr.app N0 N2q
    refine oPreX (fun _ q => st2.trans q) ?_
    show oEndX p e s below T2 (mkF m 5 #[.val (.ref a)] [(.ref E)]) n0 2 5 (fun v h => ∃ E, v = some (.ref E) ∧ Keep h0 h [] ∧ oLs Z h E [c0, c1, c2])
    obtain ⟨fs, hr, hrun, hended, hW, hsame⟩ := X2.leave (v := some (.ref E)) (fun h => by rw [hret] at h; cases h) hlk
    have stp : Steps p.tables e below (T2.setTop (mkF m 5 #[.val (.ref a)] [(.ref E)])) (T2.setFrames fs) := by
      jvm_step X2.here [X2.here.top, hx, (hb hby d3_5), X2.method', hret, Value.isRef, FieldType.isReference]
      first | (intro acts; rw [hr _ acts rfl rfl rfl]) | rw [hr _ _ rfl rfl rfl]
      exact Steps.refl _
    exact ⟨_, _, _, stp, hrun, hended, hW, hsame, N2, ⟨E, rfl, K2, Ls2⟩⟩
  obtain ⟨tq, L, v, hs, hrun, hended, hW, hsame, hN, hQ⟩ := main
  exact ⟨tq, _, castTop (ef_3 m a) hs, hrun, hended, v, L, rfl, ⟨hQ, hN⟩, ⟨_, rfl⟩, hW, hsame⟩
/-- a write into an element leaves a list as it was -/
theorem oLs_wr {Z : State} {a0 : Array Value} {h h' : Heap} {E x : Addr} {cs : List Addr} {sl : Nat} {v : Value} {n1 n2 : Nat} (F : oLs Z h E cs) (W : Wr h h' x sl v) (A : Exa Z h x "org/provenote/core/xml/XmlElement") (w1 : (Jvm.Cond.instantiable "org/provenote/core/xml/XmlElement" n1).before a0 Z = true) (w2 : (Jvm.Cond.instantiable "org/provenote/core/xml/XmlElement$Elements" n2).before a0 Z = true) : oLs Z h' E cs := by
  obtain ⟨b, cl, r1, r2, r3, r4, r5⟩ := F
  have q1 : E ≠ x := Exa.ne r1 A (by decide)
  have q2 : b ≠ x := fun q => by
    subst q
    obtain ⟨cell, k, g1, g2, g3, -, -⟩ := A
    cases g1.symm.trans r3.1
    obtain ⟨-, k', hk', comp, hkind⟩ := r3.2.1
    cases g3.symm.trans hk'
    obtain ⟨cI, kI, hfI, hkI, hkindI, -⟩ := Cond.instantiable_spec w1
    cases g2.symm.trans hfI
    cases g3.symm.trans hkI
    rw [hkindI] at hkind
    cases hkind
  exact ⟨b, cl, r1.wr W, r2.other W (Or.inl q1), r3.other W q2, r4, r5⟩
theorem oOrd {Z : State} {args : Array Value} {t : Term} {a : Addr} {C n d : String} {v : Value} (ev : t.eval args Z none [] Z = some (.ref a)) (e2 : (Term.field t C n d).eval args Z none [] Z = some v) : Z.fieldOf? a C n d = some v := by
  simpa [Term.eval, ev] using e2
theorem oLen0 {Z : State} {args : Array Value} {t : Term} {a : Addr} {cl : Cell} {ty : FieldType} (ev : t.eval args Z none [] Z = some (.ref a)) (A : Arr Z Z.heap a cl ty) (h : (Term.length t).eval args Z none [] Z = some (.int 0)) : cl.slots.size = (0 : Int32).toNatClampNeg := by
  have e := A.fin (U := Z) ⟨rfl, rfl, fun c k hk => ⟨k, hk, rfl⟩⟩
  have h31 := Jvm.Free.SBG.length_lt ev e h
  have q : (Term.length t).eval args Z none [] Z = some (.int (Int32.ofNat cl.slots.size)) := by simp [Term.eval, ev, e, h31]
  have h2 : Int32.ofNat cl.slots.size = 0 := by simpa using Option.some.inj (q.symm.trans h)
  have h3 := congrArg Int32.toInt h2
  rw [Int32.toInt_ofNat_small h31] at h3
  have h4 : (0 : Int32).toInt = 0 := by decide
  have h5 : (0 : Int32).toNatClampNeg = 0 := by decide
  rw [h4] at h3
  rw [h5]
  omega
def oEndE (p : Program) (e : Env) (s : State) (below : List Frame) (T : State) (g : JFrame) (n0 : Nat) (h : Heap) (cells slots : Nat) (w : Option Value) : Prop := ∃ h', h.size ≤ h'.size ∧ oEnd p e s below T g n0 h' cells slots w
theorem oPreE {p : Program} {e : Env} {s : State} {below : List Frame} {T T' : State} {g g' : JFrame} {n0 : Nat} {h : Heap} {cells slots : Nat} {w : Option Value}
    (k : ∀ target, Steps p.tables e below (T'.setTop g') target → Steps p.tables e below (T.setTop g) target) (q : oEndE p e s below T' g' n0 h cells slots w) : oEndE p e s below T g n0 h cells slots w := by
  obtain ⟨h', hh, q⟩ := q
  exact ⟨h', hh, oPre k q⟩
set_option maxRecDepth 65536 in
set_option maxHeartbeats 40000000 in
theorem oCase0 {p : Program} {l : Launch} {e : Env} {s : State} {m : MethodId} {args : Array Value} {below : List Frame} {meth : Method} {c : Code} {T : State} {locs : List Loc} {Z : State} {a0 : Array Value} {h : Heap} {n0 : Nat} (X : Stand p l e room_1 s m args below meth c T locs 28 92) (hx : p.tables.exec = Jvm.exec) (hby : c.code = code) (hml : c.maxLocals = 9) (hret : meth.sig.returnType = some .boolean) (hlk : meth.locks = false) (hown : s.vm.findClass "org/provenote/core/xml/XmlElementAddPinLaw" = some m.cls) (hZ : Z.Warmed39 s.vm) (hw : ∀ d ∈ tables_1, d.before a0 Z = true) (eT : T.heap = h) (N : Fr n0 locs) (Z0 : n0 ≤ h.size) {eP eA eB eC : Addr} (E_eP : Exa Z h eP "org/provenote/core/xml/XmlElement") (F_eP : Fld Z h eP "org/provenote/core/xml/XmlElement" "firstChild" "Lorg/provenote/core/xml/XmlElement;" .null) (G_eP : Fld Z h eP "org/provenote/core/xml/XmlElement" "nextSibling" "Lorg/provenote/core/xml/XmlElement;" .null) (g_eP : n0 ≤ eP) (E_eA : Exa Z h eA "org/provenote/core/xml/XmlElement") (F_eA : Fld Z h eA "org/provenote/core/xml/XmlElement" "firstChild" "Lorg/provenote/core/xml/XmlElement;" .null) (G_eA : Fld Z h eA "org/provenote/core/xml/XmlElement" "nextSibling" "Lorg/provenote/core/xml/XmlElement;" .null) (g_eA : n0 ≤ eA) (E_eB : Exa Z h eB "org/provenote/core/xml/XmlElement") (F_eB : Fld Z h eB "org/provenote/core/xml/XmlElement" "firstChild" "Lorg/provenote/core/xml/XmlElement;" .null) (G_eB : Fld Z h eB "org/provenote/core/xml/XmlElement" "nextSibling" "Lorg/provenote/core/xml/XmlElement;" .null) (g_eB : n0 ≤ eB) (E_eC : Exa Z h eC "org/provenote/core/xml/XmlElement") (F_eC : Fld Z h eC "org/provenote/core/xml/XmlElement" "firstChild" "Lorg/provenote/core/xml/XmlElement;" .null) (G_eC : Fld Z h eC "org/provenote/core/xml/XmlElement" "nextSibling" "Lorg/provenote/core/xml/XmlElement;" .null) (g_eC : n0 ≤ eC) (n_eP_eA : eP ≠ eA) (n_eP_eB : eP ≠ eB) (n_eP_eC : eP ≠ eC) (n_eA_eB : eA ≠ eB) (n_eA_eC : eA ≠ eC) (n_eB_eC : eB ≠ eC) {wC : Addr} (S_NC : Sta Z h "org/provenote/core/xml/XmlElement" "NO_CHILDREN" "Ljava/util/List;" (.ref wC)) (L_C : oLs Z h wC []) (p1 p2 : Int32) : oEndE p e s below T (mkF m 71 #[.val (.int p1), .val (.int p2), .val (.int (0 : Int32)), .val (.ref eP), .val (.ref eA), .val (.ref eB), .val (.ref eC), .unset, .unset] []) n0 h 32 102 (some (.int 1)) := by
  have K0 : Keep h h [] := Keep.refl h []
  show oEndE p e s below T (mkF m 71 #[.val (.int p1), .val (.int p2), .val (.int (0 : Int32)), .val (.ref eP), .val (.ref eA), .val (.ref eB), .val (.ref eC), .unset, .unset] []) n0 h 32 102 (some (.int 1))
  refine oPreE (fun _ => XS.iloadN X.here hx rfl (hb hby at_71) rfl) ?_
  show oEndE p e s below T (mkF m 72 #[.val (.int p1), .val (.int p2), .val (.int (0 : Int32)), .val (.ref eP), .val (.ref eA), .val (.ref eB), .val (.ref eC), .unset, .unset] [(.int (0 : Int32))]) n0 h 32 102 (some (.int 1))
  refine oPreE (fun _ => XS.iconst X.here hx rfl (hb hby at_72)) ?_
  show oEndE p e s below T (mkF m 73 #[.val (.int p1), .val (.int p2), .val (.int (0 : Int32)), .val (.ref eP), .val (.ref eA), .val (.ref eB), .val (.ref eC), .unset, .unset] [(.int (1 : Int32)), (.int (0 : Int32))]) n0 h 32 102 (some (.int 1))
  refine oPreE (fun _ => XS.icmpYes X.here hx rfl (pc0 := 73) (pc' := 83) rfl (hb hby at_73) rfl (((tlt (by decide : (0 : Int32) < 1)).1)) (by decide) (by decide)) ?_
  show oEndE p e s below T (mkF m 83 #[.val (.int p1), .val (.int p2), .val (.int (0 : Int32)), .val (.ref eP), .val (.ref eA), .val (.ref eB), .val (.ref eC), .unset, .unset] []) n0 h 32 102 (some (.int 1))
  refine oPreE (fun _ => XS.iloadN X.here hx rfl (hb hby at_83) rfl) ?_
  show oEndE p e s below T (mkF m 84 #[.val (.int p1), .val (.int p2), .val (.int (0 : Int32)), .val (.ref eP), .val (.ref eA), .val (.ref eB), .val (.ref eC), .unset, .unset] [(.int (0 : Int32))]) n0 h 32 102 (some (.int 1))
  refine oPreE (fun _ => XS.iconst X.here hx rfl (hb hby at_84)) ?_
  show oEndE p e s below T (mkF m 85 #[.val (.int p1), .val (.int p2), .val (.int (0 : Int32)), .val (.ref eP), .val (.ref eA), .val (.ref eB), .val (.ref eC), .unset, .unset] [(.int (2 : Int32)), (.int (0 : Int32))]) n0 h 32 102 (some (.int 1))
  refine oPreE (fun _ => XS.icmpYes X.here hx rfl (pc0 := 85) (pc' := 96) rfl (hb hby at_85) rfl (((tlt (by decide : (0 : Int32) < 2)).1)) (by decide) (by decide)) ?_
  show oEndE p e s below T (mkF m 96 #[.val (.int p1), .val (.int p2), .val (.int (0 : Int32)), .val (.ref eP), .val (.ref eA), .val (.ref eB), .val (.ref eC), .unset, .unset] []) n0 h 32 102 (some (.int 1))
  refine oPreE (fun _ => XS.iloadN X.here hx rfl (hb hby at_96) rfl) ?_
  show oEndE p e s below T (mkF m 97 #[.val (.int p1), .val (.int p2), .val (.int (0 : Int32)), .val (.ref eP), .val (.ref eA), .val (.ref eB), .val (.ref eC), .unset, .unset] [(.int (0 : Int32))]) n0 h 32 102 (some (.int 1))
  refine oPreE (fun _ => XS.iconst X.here hx rfl (hb hby at_97)) ?_
  show oEndE p e s below T (mkF m 98 #[.val (.int p1), .val (.int p2), .val (.int (0 : Int32)), .val (.ref eP), .val (.ref eA), .val (.ref eB), .val (.ref eC), .unset, .unset] [(.int (3 : Int32)), (.int (0 : Int32))]) n0 h 32 102 (some (.int 1))
  refine oPreE (fun _ => XS.icmpYes X.here hx rfl (pc0 := 98) (pc' := 109) rfl (hb hby at_98) rfl (((tlt (by decide : (0 : Int32) < 3)).1)) (by decide) (by decide)) ?_
  show oEndE p e s below T (mkF m 109 #[.val (.int p1), .val (.int p2), .val (.int (0 : Int32)), .val (.ref eP), .val (.ref eA), .val (.ref eB), .val (.ref eC), .unset, .unset] []) n0 h 32 102 (some (.int 1))
  refine oPreE (fun _ => XS.aloadN X.here hx rfl (hb hby at_109) rfl rfl) ?_
  show oEndE p e s below T (mkF m 110 #[.val (.int p1), .val (.int p2), .val (.int (0 : Int32)), .val (.ref eP), .val (.ref eA), .val (.ref eB), .val (.ref eC), .unset, .unset] [(.ref eP)]) n0 h 32 102 (some (.int 1))
  obtain ⟨cq110, kq110, qa110, qb110, qc110⟩ := isOf hZ eT E_eP
  obtain ⟨_, _, ⟨T110, L110, k110, n110⟩, -, X110, ⟨Lc110, hQ110, l110, y110, z110⟩, st110⟩ := X.virtualBack hx (y := (⟨"org/provenote/core/xml/XmlElement", "children", "()Ljava/util/List;"⟩ : MethodName)) (z := (⟨"org/provenote/core/xml/XmlElement", "children", "()Ljava/util/List;"⟩ : MethodName)) hown (mvT hZ (hw _ (List.mem_of_getElem? (i := 35) rfl))) (mvT hZ (hw _ (List.mem_of_getElem? (i := 36) rfl))) (notFace_of_selects (args := #[]) (mvT hZ (hw _ (List.mem_of_getElem? (i := 38) rfl)))) (mvT hZ (hw _ (List.mem_of_getElem? (i := 38) rfl))) (mvT hZ (hw _ (List.mem_of_getElem? (i := 37) rfl))) (by decide) (backOf (W := 0) (oRC0 l Z a0 hw [] eP  h n0 Z0 E_eP F_eP  S_NC L_C) hZ (hw _ (List.mem_of_getElem? (i := 39) rfl)) (hw _ (List.mem_of_getElem? (i := 2) rfl)) (by decide) (by decide)) qa110 qc110 (g := (mkF m 110 #[.val (.int p1), .val (.int p2), .val (.int (0 : Int32)), .val (.ref eP), .val (.ref eA), .val (.ref eB), .val (.ref eC), .unset, .unset] [(.ref eP)])) rfl (by rw [hml]; rfl) (Steps.refl _) (argsL := []) (rest := []) (lenOf pd_2 rfl) rfl (by show 2 * 0 + _ ≤ _; exact Nat.le_of_eq rfl) (hb hby at_110) (fun _ _ => ⟨rfl, eT, (by decide : 28 + 2 ≤ _), (by decide : 92 + 5 ≤ _)⟩)
  dsimp only [Pt.U, Pt.locs, Pt.cells, Pt.slots] at X110 l110 y110 z110 st110 hQ110
  subst l110
  rw [y110, z110] at X110
  obtain ⟨⟨E1, rfl, K110, Ls110⟩, N110q⟩ := hQ110
  have N110 := Fr.app N N110q
  refine oPreE (fun _ q => st110.trans q) ?_
  have Z110 : n0 ≤ T110.heap.size := Nat.le_trans Z0 K110.1
  show oEndE p e s below T110 (mkF m 113 #[.val (.int p1), .val (.int p2), .val (.int (0 : Int32)), .val (.ref eP), .val (.ref eA), .val (.ref eB), .val (.ref eC), .unset, .unset] [(.ref E1)]) n0 h 32 102 (some (.int 1))
  refine oPreE (fun _ => XS.astore X110.here hx rfl (hb hby at_113) rfl rfl (l' := #[.val (.int p1), .val (.int p2), .val (.int (0 : Int32)), .val (.ref eP), .val (.ref eA), .val (.ref eB), .val (.ref eC), .val (.ref E1), .unset]) rfl) ?_
  show oEndE p e s below T110 (mkF m 115 #[.val (.int p1), .val (.int p2), .val (.int (0 : Int32)), .val (.ref eP), .val (.ref eA), .val (.ref eB), .val (.ref eC), .val (.ref E1), .unset] []) n0 h 32 102 (some (.int 1))
  refine oPreE (fun _ => XS.aload X110.here hx rfl (hb hby at_115) rfl rfl) ?_
  obtain ⟨b1, cl1, r1, r2, r3, r4, r5⟩ := Ls110
  have r4' : cl1.slots.size = (0 : Int32).toNatClampNeg := r4
  have e_at := (rfl : T110.heap = T110.heap)
  show oEndE p e s below T110 (mkF m 117 #[.val (.int p1), .val (.int p2), .val (.int (0 : Int32)), .val (.ref eP), .val (.ref eA), .val (.ref eB), .val (.ref eC), .val (.ref E1), .unset] [(.ref E1)]) n0 h 32 102 (some (.int 1))
  obtain ⟨cq117, kq117, qa117, qb117, qc117⟩ := isOf hZ rfl r1
  obtain ⟨_, _, ⟨T117, L117, k117, n117⟩, -, X117, ⟨Lc117, hQ117, l117, y117, z117⟩, st117⟩ := X110.interfaceBack hx (xi := (⟨"java/util/List", "size", "()I"⟩ : MethodName)) (y := (⟨"org/provenote/core/xml/XmlElement$Elements", "size", "()I"⟩ : MethodName)) hown (mvT hZ (hw _ (List.mem_of_getElem? (i := 48) rfl))) (mvT hZ (hw _ (List.mem_of_getElem? (i := 49) rfl))) (mvT hZ (hw _ (List.mem_of_getElem? (i := 50) rfl))) (mvT hZ (hw _ (List.mem_of_getElem? (i := 51) rfl))) (mvT hZ (hw _ (List.mem_of_getElem? (i := 52) rfl))) (mvT hZ (hw _ (List.mem_of_getElem? (i := 53) rfl))) (mvT hZ (hw _ (List.mem_of_getElem? (i := 54) rfl))) (mvT hZ (hw _ (List.mem_of_getElem? (i := 55) rfl))) (by decide) (backOf (W := 0) (rm5 l Z a0 hw [] E1 b1 cl1 0 T110.heap n0 Z110 r2 r3 r4' (by decide)) hZ (hw _ (List.mem_of_getElem? (i := 57) rfl)) (hw _ (List.mem_of_getElem? (i := 56) rfl)) (by decide) (by decide)) qa117 qb117 qc117 (g := (mkF m 117 #[.val (.int p1), .val (.int p2), .val (.int (0 : Int32)), .val (.ref eP), .val (.ref eA), .val (.ref eB), .val (.ref eC), .val (.ref E1), .unset] [(.ref E1)])) rfl (by rw [hml]; rfl) (Steps.refl _) (argsL := []) (rest := []) (lenOf pd_5 rfl) rfl (by show 2 * 0 + _ ≤ _; exact Nat.le_of_eq rfl) (hb hby at_117) (fun _ _ => ⟨rfl, rfl, (by decide : 30 + 0 ≤ _), (by decide : 97 + 0 ≤ _)⟩)
  dsimp only [Pt.U, Pt.locs, Pt.cells, Pt.slots] at X117 l117 y117 z117 st117 hQ117
  subst l117
  rw [y117, z117] at X117
  obtain ⟨rfl, N117q, e117⟩ := hQ117
  have N117 := Fr.app N110 N117q
  refine oPreE (fun _ q => st117.trans q) ?_
  show oEndE p e s below T117 (mkF m 122 #[.val (.int p1), .val (.int p2), .val (.int (0 : Int32)), .val (.ref eP), .val (.ref eA), .val (.ref eB), .val (.ref eC), .val (.ref E1), .unset] [(.int (0 : Int32))]) n0 h 32 102 (some (.int 1))
  refine oPreE (fun _ => XS.iloadN X117.here hx rfl (hb hby at_122) rfl) ?_
  show oEndE p e s below T117 (mkF m 123 #[.val (.int p1), .val (.int p2), .val (.int (0 : Int32)), .val (.ref eP), .val (.ref eA), .val (.ref eB), .val (.ref eC), .val (.ref E1), .unset] [(.int (0 : Int32)), (.int (0 : Int32))]) n0 h 32 102 (some (.int 1))
  refine oPreE (fun _ => XS.icmpYes X117.here hx rfl (pc0 := 123) (pc' := 128) rfl (hb hby at_123) rfl (((teq (rfl : (0 : Int32) = 0)).1)) (by decide) (by decide)) ?_
  show oEndE p e s below T117 (mkF m 128 #[.val (.int p1), .val (.int p2), .val (.int (0 : Int32)), .val (.ref eP), .val (.ref eA), .val (.ref eB), .val (.ref eC), .val (.ref E1), .unset] []) n0 h 32 102 (some (.int 1))
  refine oPreE (fun _ => XS.iloadN X117.here hx rfl (hb hby at_128) rfl) ?_
  show oEndE p e s below T117 (mkF m 129 #[.val (.int p1), .val (.int p2), .val (.int (0 : Int32)), .val (.ref eP), .val (.ref eA), .val (.ref eB), .val (.ref eC), .val (.ref E1), .unset] [(.int (0 : Int32))]) n0 h 32 102 (some (.int 1))
  refine oPreE (fun _ => XS.iconst X117.here hx rfl (hb hby at_129)) ?_
  show oEndE p e s below T117 (mkF m 130 #[.val (.int p1), .val (.int p2), .val (.int (0 : Int32)), .val (.ref eP), .val (.ref eA), .val (.ref eB), .val (.ref eC), .val (.ref E1), .unset] [(.int (1 : Int32)), (.int (0 : Int32))]) n0 h 32 102 (some (.int 1))
  refine oPreE (fun _ => XS.icmpYes X117.here hx rfl (pc0 := 130) (pc' := 148) rfl (hb hby at_130) rfl (((tlt (by decide : (0 : Int32) < 1)).1)) (by decide) (by decide)) ?_
  show oEndE p e s below T117 (mkF m 148 #[.val (.int p1), .val (.int p2), .val (.int (0 : Int32)), .val (.ref eP), .val (.ref eA), .val (.ref eB), .val (.ref eC), .val (.ref E1), .unset] []) n0 h 32 102 (some (.int 1))
  refine oPreE (fun _ => XS.iloadN X117.here hx rfl (hb hby at_148) rfl) ?_
  show oEndE p e s below T117 (mkF m 149 #[.val (.int p1), .val (.int p2), .val (.int (0 : Int32)), .val (.ref eP), .val (.ref eA), .val (.ref eB), .val (.ref eC), .val (.ref E1), .unset] [(.int (0 : Int32))]) n0 h 32 102 (some (.int 1))
  refine oPreE (fun _ => XS.iconst X117.here hx rfl (hb hby at_149)) ?_
  show oEndE p e s below T117 (mkF m 150 #[.val (.int p1), .val (.int p2), .val (.int (0 : Int32)), .val (.ref eP), .val (.ref eA), .val (.ref eB), .val (.ref eC), .val (.ref E1), .unset] [(.int (2 : Int32)), (.int (0 : Int32))]) n0 h 32 102 (some (.int 1))
  refine oPreE (fun _ => XS.icmpYes X117.here hx rfl (pc0 := 150) (pc' := 168) rfl (hb hby at_150) rfl (((tlt (by decide : (0 : Int32) < 2)).1)) (by decide) (by decide)) ?_
  show oEndE p e s below T117 (mkF m 168 #[.val (.int p1), .val (.int p2), .val (.int (0 : Int32)), .val (.ref eP), .val (.ref eA), .val (.ref eB), .val (.ref eC), .val (.ref E1), .unset] []) n0 h 32 102 (some (.int 1))
  refine oPreE (fun _ => XS.iloadN X117.here hx rfl (hb hby at_168) rfl) ?_
  show oEndE p e s below T117 (mkF m 169 #[.val (.int p1), .val (.int p2), .val (.int (0 : Int32)), .val (.ref eP), .val (.ref eA), .val (.ref eB), .val (.ref eC), .val (.ref E1), .unset] [(.int (0 : Int32))]) n0 h 32 102 (some (.int 1))
  refine oPreE (fun _ => XS.iconst X117.here hx rfl (hb hby at_169)) ?_
  show oEndE p e s below T117 (mkF m 170 #[.val (.int p1), .val (.int p2), .val (.int (0 : Int32)), .val (.ref eP), .val (.ref eA), .val (.ref eB), .val (.ref eC), .val (.ref E1), .unset] [(.int (3 : Int32)), (.int (0 : Int32))]) n0 h 32 102 (some (.int 1))
  refine oPreE (fun _ => XS.icmpYes X117.here hx rfl (pc0 := 170) (pc' := 188) rfl (hb hby at_170) rfl (((tlt (by decide : (0 : Int32) < 3)).1)) (by decide) (by decide)) ?_
  show oEndE p e s below T117 (mkF m 188 #[.val (.int p1), .val (.int p2), .val (.int (0 : Int32)), .val (.ref eP), .val (.ref eA), .val (.ref eB), .val (.ref eC), .val (.ref E1), .unset] []) n0 h 32 102 (some (.int 1))
  refine oPreE (fun _ => XS.iloadN X117.here hx rfl (hb hby at_188) rfl) ?_
  show oEndE p e s below T117 (mkF m 189 #[.val (.int p1), .val (.int p2), .val (.int (0 : Int32)), .val (.ref eP), .val (.ref eA), .val (.ref eB), .val (.ref eC), .val (.ref E1), .unset] [(.int (0 : Int32))]) n0 h 32 102 (some (.int 1))
  refine oPreE (fun _ => XS.iconst X117.here hx rfl (hb hby at_189)) ?_
  show oEndE p e s below T117 (mkF m 190 #[.val (.int p1), .val (.int p2), .val (.int (0 : Int32)), .val (.ref eP), .val (.ref eA), .val (.ref eB), .val (.ref eC), .val (.ref E1), .unset] [(.int (3 : Int32)), (.int (0 : Int32))]) n0 h 32 102 (some (.int 1))
  refine oPreE (fun _ => XS.icmpYes X117.here hx rfl (pc0 := 190) (pc' := 198) rfl (hb hby at_190) rfl (((feq (by decide : ¬ (0 : Int32) = 3)).2)) (by decide) (by decide)) ?_
  show oEndE p e s below T117 (mkF m 198 #[.val (.int p1), .val (.int p2), .val (.int (0 : Int32)), .val (.ref eP), .val (.ref eA), .val (.ref eB), .val (.ref eC), .val (.ref E1), .unset] []) n0 h 32 102 (some (.int 1))
  refine oPreE (fun _ => XS.iloadN X117.here hx rfl (hb hby at_198) rfl) ?_
  show oEndE p e s below T117 (mkF m 199 #[.val (.int p1), .val (.int p2), .val (.int (0 : Int32)), .val (.ref eP), .val (.ref eA), .val (.ref eB), .val (.ref eC), .val (.ref E1), .unset] [(.int (0 : Int32))]) n0 h 32 102 (some (.int 1))
  refine oPreE (fun _ => XS.iconst X117.here hx rfl (hb hby at_199)) ?_
  show oEndE p e s below T117 (mkF m 200 #[.val (.int p1), .val (.int p2), .val (.int (0 : Int32)), .val (.ref eP), .val (.ref eA), .val (.ref eB), .val (.ref eC), .val (.ref E1), .unset] [(.int (2 : Int32)), (.int (0 : Int32))]) n0 h 32 102 (some (.int 1))
  refine oPreE (fun _ => XS.icmpYes X117.here hx rfl (pc0 := 200) (pc' := 208) rfl (hb hby at_200) rfl (((feq (by decide : ¬ (0 : Int32) = 2)).2)) (by decide) (by decide)) ?_
  show oEndE p e s below T117 (mkF m 208 #[.val (.int p1), .val (.int p2), .val (.int (0 : Int32)), .val (.ref eP), .val (.ref eA), .val (.ref eB), .val (.ref eC), .val (.ref E1), .unset] []) n0 h 32 102 (some (.int 1))
  refine oPreE (fun _ => XS.aload X117.here hx rfl (hb hby at_208) rfl rfl) ?_
  show oEndE p e s below T117 (mkF m 210 #[.val (.int p1), .val (.int p2), .val (.int (0 : Int32)), .val (.ref eP), .val (.ref eA), .val (.ref eB), .val (.ref eC), .val (.ref E1), .unset] [(.ref eA)]) n0 h 32 102 (some (.int 1))
  refine oPreE (fun _ => XS.astore X117.here hx rfl (hb hby at_210) rfl rfl (l' := #[.val (.int p1), .val (.int p2), .val (.int (0 : Int32)), .val (.ref eP), .val (.ref eA), .val (.ref eB), .val (.ref eC), .val (.ref E1), .val (.ref eA)]) rfl) ?_
  show oEndE p e s below T117 (mkF m 212 #[.val (.int p1), .val (.int p2), .val (.int (0 : Int32)), .val (.ref eP), .val (.ref eA), .val (.ref eB), .val (.ref eC), .val (.ref E1), .val (.ref eA)] []) n0 h 32 102 (some (.int 1))
  refine oPreE (fun _ => XS.aload X117.here hx rfl (hb hby at_212) rfl rfl) ?_
  have EL1 := E_eA.keep K110
  have FL1 := F_eA.keep K110 (by simp)
  have SL1 := oSta_keep K110 S_NC
  have LL1 := oLs_keep K110 L_C
  show oEndE p e s below T117 (mkF m 214 #[.val (.int p1), .val (.int p2), .val (.int (0 : Int32)), .val (.ref eP), .val (.ref eA), .val (.ref eB), .val (.ref eC), .val (.ref E1), .val (.ref eA)] [(.ref eA)]) n0 h 32 102 (some (.int 1))
  obtain ⟨cq214, kq214, qa214, qb214, qc214⟩ := isOf hZ e117 EL1
  obtain ⟨_, _, ⟨T214, L214, k214, n214⟩, -, X214, ⟨Lc214, hQ214, l214, y214, z214⟩, st214⟩ := X117.virtualBack hx (y := (⟨"org/provenote/core/xml/XmlElement", "children", "()Ljava/util/List;"⟩ : MethodName)) (z := (⟨"org/provenote/core/xml/XmlElement", "children", "()Ljava/util/List;"⟩ : MethodName)) hown (mvT hZ (hw _ (List.mem_of_getElem? (i := 35) rfl))) (mvT hZ (hw _ (List.mem_of_getElem? (i := 36) rfl))) (notFace_of_selects (args := #[]) (mvT hZ (hw _ (List.mem_of_getElem? (i := 38) rfl)))) (mvT hZ (hw _ (List.mem_of_getElem? (i := 38) rfl))) (mvT hZ (hw _ (List.mem_of_getElem? (i := 37) rfl))) (by decide) (backOf (W := 0) (oRC0 l Z a0 hw [] eA T110.heap n0 Z110 EL1 FL1 SL1 LL1) hZ (hw _ (List.mem_of_getElem? (i := 39) rfl)) (hw _ (List.mem_of_getElem? (i := 2) rfl)) (by decide) (by decide)) qa214 qc214 (g := (mkF m 214 #[.val (.int p1), .val (.int p2), .val (.int (0 : Int32)), .val (.ref eP), .val (.ref eA), .val (.ref eB), .val (.ref eC), .val (.ref E1), .val (.ref eA)] [(.ref eA)])) rfl (by rw [hml]; rfl) (Steps.refl _) (argsL := []) (rest := []) (lenOf pd_2 rfl) rfl (by show 2 * 0 + _ ≤ _; exact Nat.le_of_eq rfl) (hb hby at_214) (fun _ _ => ⟨rfl, e117, (by decide : 30 + 2 ≤ _), (by decide : 97 + 5 ≤ _)⟩)
  dsimp only [Pt.U, Pt.locs, Pt.cells, Pt.slots] at X214 l214 y214 z214 st214 hQ214
  subst l214
  rw [y214, z214] at X214
  obtain ⟨⟨E2, rfl, K214, Ls214⟩, N214q⟩ := hQ214
  have N214 := Fr.app N117 N214q
  refine oPreE (fun _ q => st214.trans q) ?_
  have Z214 : n0 ≤ T214.heap.size := Nat.le_trans Z110 K214.1
  clear r1 r2 r3 r4 r5
  obtain ⟨b2, cl2, r1, r2, r3, r4, r5⟩ := Ls214
  have r4' : cl2.slots.size = (0 : Int32).toNatClampNeg := r4
  show oEndE p e s below T214 (mkF m 217 #[.val (.int p1), .val (.int p2), .val (.int (0 : Int32)), .val (.ref eP), .val (.ref eA), .val (.ref eB), .val (.ref eC), .val (.ref E1), .val (.ref eA)] [(.ref E2)]) n0 h 32 102 (some (.int 1))
  obtain ⟨cq217, kq217, qa217, qb217, qc217⟩ := isOf hZ rfl r1
  obtain ⟨_, _, ⟨T217, L217, k217, n217⟩, -, X217, ⟨Lc217, hQ217, l217, y217, z217⟩, st217⟩ := X214.interfaceBack hx (xi := (⟨"java/util/List", "size", "()I"⟩ : MethodName)) (y := (⟨"org/provenote/core/xml/XmlElement$Elements", "size", "()I"⟩ : MethodName)) hown (mvT hZ (hw _ (List.mem_of_getElem? (i := 48) rfl))) (mvT hZ (hw _ (List.mem_of_getElem? (i := 49) rfl))) (mvT hZ (hw _ (List.mem_of_getElem? (i := 50) rfl))) (mvT hZ (hw _ (List.mem_of_getElem? (i := 51) rfl))) (mvT hZ (hw _ (List.mem_of_getElem? (i := 52) rfl))) (mvT hZ (hw _ (List.mem_of_getElem? (i := 53) rfl))) (mvT hZ (hw _ (List.mem_of_getElem? (i := 54) rfl))) (mvT hZ (hw _ (List.mem_of_getElem? (i := 55) rfl))) (by decide) (backOf (W := 0) (rm5 l Z a0 hw [] E2 b2 cl2 0 T214.heap n0 Z214 r2 r3 r4' (by decide)) hZ (hw _ (List.mem_of_getElem? (i := 57) rfl)) (hw _ (List.mem_of_getElem? (i := 56) rfl)) (by decide) (by decide)) qa217 qb217 qc217 (g := (mkF m 217 #[.val (.int p1), .val (.int p2), .val (.int (0 : Int32)), .val (.ref eP), .val (.ref eA), .val (.ref eB), .val (.ref eC), .val (.ref E1), .val (.ref eA)] [(.ref E2)])) rfl (by rw [hml]; rfl) (Steps.refl _) (argsL := []) (rest := []) (lenOf pd_5 rfl) rfl (by show 2 * 0 + _ ≤ _; exact Nat.le_of_eq rfl) (hb hby at_217) (fun _ _ => ⟨rfl, rfl, (by decide : 32 + 0 ≤ _), (by decide : 102 + 0 ≤ _)⟩)
  dsimp only [Pt.U, Pt.locs, Pt.cells, Pt.slots] at X217 l217 y217 z217 st217 hQ217
  subst l217
  rw [y217, z217] at X217
  obtain ⟨rfl, N217q, e217⟩ := hQ217
  have N217 := Fr.app N214 N217q
  refine oPreE (fun _ q => st217.trans q) ?_
  show oEndE p e s below T217 (mkF m 222 #[.val (.int p1), .val (.int p2), .val (.int (0 : Int32)), .val (.ref eP), .val (.ref eA), .val (.ref eB), .val (.ref eC), .val (.ref E1), .val (.ref eA)] [(.int (0 : Int32))]) n0 h 32 102 (some (.int 1))
  refine oPreE (fun _ => XS.ifNo X217.here hx rfl (hb hby at_222) rfl ((if0 _ _).trans ((teq (rfl : (0 : Int32) = 0)).2))) ?_
  show oEndE p e s below T217 (mkF m 225 #[.val (.int p1), .val (.int p2), .val (.int (0 : Int32)), .val (.ref eP), .val (.ref eA), .val (.ref eB), .val (.ref eC), .val (.ref E1), .val (.ref eA)] []) n0 h 32 102 (some (.int 1))
  refine oPreE (fun _ => XS.iconst X217.here hx rfl (hb hby at_225)) ?_
  show oEndE p e s below T217 (mkF m 226 #[.val (.int p1), .val (.int p2), .val (.int (0 : Int32)), .val (.ref eP), .val (.ref eA), .val (.ref eB), .val (.ref eC), .val (.ref E1), .val (.ref eA)] [(.int (1 : Int32))]) n0 h 32 102 (some (.int 1))
  refine oPreE (fun _ => XS.goto X217.here hx rfl (pc0 := 226) (pc' := 230) rfl (hb hby at_226) (by decide) (by decide)) ?_
  show oEndE p e s below T217 (mkF m 230 #[.val (.int p1), .val (.int p2), .val (.int (0 : Int32)), .val (.ref eP), .val (.ref eA), .val (.ref eB), .val (.ref eC), .val (.ref E1), .val (.ref eA)] [(.int (1 : Int32))]) n0 h 32 102 (some (.int 1))
  obtain ⟨fs, hr, hrun, hended, hW, hsame⟩ := X217.leave (v := some (.int 1)) (fun h => by rw [hret] at h; cases h) hlk
  exact ⟨_, Nat.le_trans (Nat.le_trans (Nat.le_refl _) K110.1) K214.1, _, _, retN X217 hx (t := .boolean) hret (by simp) (hb hby at_230) hr, hrun, hended, hW, hsame, N217, e217⟩
set_option maxRecDepth 65536 in
set_option maxHeartbeats 40000000 in
theorem oCase1 {p : Program} {l : Launch} {e : Env} {s : State} {m : MethodId} {args : Array Value} {below : List Frame} {meth : Method} {c : Code} {T : State} {locs : List Loc} {Z : State} {a0 : Array Value} {h : Heap} {n0 : Nat} (X : Stand p l e room_1 s m args below meth c T locs 28 92) (hx : p.tables.exec = Jvm.exec) (hby : c.code = code) (hml : c.maxLocals = 9) (hret : meth.sig.returnType = some .boolean) (hlk : meth.locks = false) (hown : s.vm.findClass "org/provenote/core/xml/XmlElementAddPinLaw" = some m.cls) (hZ : Z.Warmed39 s.vm) (hw : ∀ d ∈ tables_1, d.before a0 Z = true) (eT : T.heap = h) (N : Fr n0 locs) (Z0 : n0 ≤ h.size) {eP eA eB eC : Addr} (E_eP : Exa Z h eP "org/provenote/core/xml/XmlElement") (F_eP : Fld Z h eP "org/provenote/core/xml/XmlElement" "firstChild" "Lorg/provenote/core/xml/XmlElement;" .null) (G_eP : Fld Z h eP "org/provenote/core/xml/XmlElement" "nextSibling" "Lorg/provenote/core/xml/XmlElement;" .null) (g_eP : n0 ≤ eP) (E_eA : Exa Z h eA "org/provenote/core/xml/XmlElement") (F_eA : Fld Z h eA "org/provenote/core/xml/XmlElement" "firstChild" "Lorg/provenote/core/xml/XmlElement;" .null) (G_eA : Fld Z h eA "org/provenote/core/xml/XmlElement" "nextSibling" "Lorg/provenote/core/xml/XmlElement;" .null) (g_eA : n0 ≤ eA) (E_eB : Exa Z h eB "org/provenote/core/xml/XmlElement") (F_eB : Fld Z h eB "org/provenote/core/xml/XmlElement" "firstChild" "Lorg/provenote/core/xml/XmlElement;" .null) (G_eB : Fld Z h eB "org/provenote/core/xml/XmlElement" "nextSibling" "Lorg/provenote/core/xml/XmlElement;" .null) (g_eB : n0 ≤ eB) (E_eC : Exa Z h eC "org/provenote/core/xml/XmlElement") (F_eC : Fld Z h eC "org/provenote/core/xml/XmlElement" "firstChild" "Lorg/provenote/core/xml/XmlElement;" .null) (G_eC : Fld Z h eC "org/provenote/core/xml/XmlElement" "nextSibling" "Lorg/provenote/core/xml/XmlElement;" .null) (g_eC : n0 ≤ eC) (n_eP_eA : eP ≠ eA) (n_eP_eB : eP ≠ eB) (n_eP_eC : eP ≠ eC) (n_eA_eB : eA ≠ eB) (n_eA_eC : eA ≠ eC) (n_eB_eC : eB ≠ eC) {wC : Addr} (S_NC : Sta Z h "org/provenote/core/xml/XmlElement" "NO_CHILDREN" "Ljava/util/List;" (.ref wC)) (L_C : oLs Z h wC []) (p1 p2 : Int32) : oEndE p e s below T (mkF m 71 #[.val (.int p1), .val (.int p2), .val (.int (1 : Int32)), .val (.ref eP), .val (.ref eA), .val (.ref eB), .val (.ref eC), .unset, .unset] []) n0 h 32 102 (some (.int 1)) := by
  have K0 : Keep h h [] := Keep.refl h []
  show oEndE p e s below T (mkF m 71 #[.val (.int p1), .val (.int p2), .val (.int (1 : Int32)), .val (.ref eP), .val (.ref eA), .val (.ref eB), .val (.ref eC), .unset, .unset] []) n0 h 32 102 (some (.int 1))
  refine oPreE (fun _ => XS.iloadN X.here hx rfl (hb hby at_71) rfl) ?_
  show oEndE p e s below T (mkF m 72 #[.val (.int p1), .val (.int p2), .val (.int (1 : Int32)), .val (.ref eP), .val (.ref eA), .val (.ref eB), .val (.ref eC), .unset, .unset] [(.int (1 : Int32))]) n0 h 32 102 (some (.int 1))
  refine oPreE (fun _ => XS.iconst X.here hx rfl (hb hby at_72)) ?_
  show oEndE p e s below T (mkF m 73 #[.val (.int p1), .val (.int p2), .val (.int (1 : Int32)), .val (.ref eP), .val (.ref eA), .val (.ref eB), .val (.ref eC), .unset, .unset] [(.int (1 : Int32)), (.int (1 : Int32))]) n0 h 32 102 (some (.int 1))
  refine oPreE (fun _ => XS.icmpNo X.here hx rfl (hb hby at_73) rfl (((flt (by decide : ¬ (1 : Int32) < 1)).1))) ?_
  show oEndE p e s below T (mkF m 76 #[.val (.int p1), .val (.int p2), .val (.int (1 : Int32)), .val (.ref eP), .val (.ref eA), .val (.ref eB), .val (.ref eC), .unset, .unset] []) n0 h 32 102 (some (.int 1))
  refine oPreE (fun _ => XS.aloadN X.here hx rfl (hb hby at_76) rfl rfl) ?_
  show oEndE p e s below T (mkF m 77 #[.val (.int p1), .val (.int p2), .val (.int (1 : Int32)), .val (.ref eP), .val (.ref eA), .val (.ref eB), .val (.ref eC), .unset, .unset] [(.ref eP)]) n0 h 32 102 (some (.int 1))
  refine oPreE (fun _ => XS.aload X.here hx rfl (hb hby at_77) rfl rfl) ?_
  show oEndE p e s below T (mkF m 79 #[.val (.int p1), .val (.int p2), .val (.int (1 : Int32)), .val (.ref eP), .val (.ref eA), .val (.ref eB), .val (.ref eC), .unset, .unset] [(.ref eA), (.ref eP)]) n0 h 32 102 (some (.int 1))
  refine oPreE (fun _ => XS.aconstNull X.here hx rfl (hb hby at_79)) ?_
  show oEndE p e s below T (mkF m 80 #[.val (.int p1), .val (.int p2), .val (.int (1 : Int32)), .val (.ref eP), .val (.ref eA), .val (.ref eB), .val (.ref eC), .unset, .unset] [.null, (.ref eA), (.ref eP)]) n0 h 32 102 (some (.int 1))
  obtain ⟨cq80, kq80, qa80, qb80, qc80⟩ := isOf hZ eT E_eP
  obtain ⟨_, _, ⟨T80, L80, k80, n80⟩, -, X80, ⟨Lc80, hQ80, l80, y80, z80⟩, st80⟩ := X.virtualBack hx (y := (⟨"org/provenote/core/xml/XmlElement", "add", "(Lorg/provenote/core/xml/XmlElement;Lorg/provenote/core/xml/XmlElement;)V"⟩ : MethodName)) (z := (⟨"org/provenote/core/xml/XmlElement", "add", "(Lorg/provenote/core/xml/XmlElement;Lorg/provenote/core/xml/XmlElement;)V"⟩ : MethodName)) hown (mvT hZ (hw _ (List.mem_of_getElem? (i := 60) rfl))) (mvT hZ (hw _ (List.mem_of_getElem? (i := 61) rfl))) (notFace_of_selects (args := #[]) (mvT hZ (hw _ (List.mem_of_getElem? (i := 63) rfl)))) (mvT hZ (hw _ (List.mem_of_getElem? (i := 63) rfl))) (mvT hZ (hw _ (List.mem_of_getElem? (i := 62) rfl))) (by decide) (backOf (W := 0) (rm6n l Z a0 hw [] eP eA _ h n0 Z0 E_eP F_eP g_eP) hZ (hw _ (List.mem_of_getElem? (i := 64) rfl)) (hw _ (List.mem_of_getElem? (i := 2) rfl)) (by decide) (by decide)) qa80 qc80 (g := (mkF m 80 #[.val (.int p1), .val (.int p2), .val (.int (1 : Int32)), .val (.ref eP), .val (.ref eA), .val (.ref eB), .val (.ref eC), .unset, .unset] [.null, (.ref eA), (.ref eP)])) rfl (by rw [hml]; rfl) (Steps.refl _) (argsL := [(.ref eA), .null]) (rest := []) (lenOf pd_4 rfl) rfl (by show 2 * 0 + _ ≤ _; exact Nat.le_of_eq rfl) (hb hby at_80) (fun _ _ => ⟨rfl, eT, (by decide : 28 + 0 ≤ _), (by decide : 92 + 0 ≤ _)⟩)
  dsimp only [Pt.U, Pt.locs, Pt.cells, Pt.slots] at X80 l80 y80 z80 st80 hQ80
  subst l80
  rw [y80, z80] at X80
  obtain ⟨rfl, N80q, W80⟩ := hQ80
  have N80 := Fr.app N N80q
  refine oPreE (fun _ q => st80.trans q) ?_
  have Z80 : n0 ≤ T80.heap.size := by rw [W80.size]; exact Z0
  have E_eP_80 := E_eP.wr W80
  have F_eP_80 := F_eP.same W80
  have G_eP_80 := G_eP.other W80 (Or.inr (slot_ne (Or.inl (hw _ (List.mem_of_getElem? (i := 66) rfl))) (Or.inl (hw _ (List.mem_of_getElem? (i := 45) rfl))) (by decide) (t := (.object "org/provenote/core/xml/XmlElement")) (t' := (.object "org/provenote/core/xml/XmlElement")) (by decide) (by decide)))
  have E_eA_80 := E_eA.wr W80
  have F_eA_80 := F_eA.other W80 (Or.inl n_eP_eA.symm)
  have G_eA_80 := G_eA.other W80 (Or.inl n_eP_eA.symm)
  have E_eB_80 := E_eB.wr W80
  have F_eB_80 := F_eB.other W80 (Or.inl n_eP_eB.symm)
  have G_eB_80 := G_eB.other W80 (Or.inl n_eP_eB.symm)
  have E_eC_80 := E_eC.wr W80
  have F_eC_80 := F_eC.other W80 (Or.inl n_eP_eC.symm)
  have G_eC_80 := G_eC.other W80 (Or.inl n_eP_eC.symm)
  have S_NC_80 := S_NC.wr W80
  have L_C_80 : oLs Z T80.heap wC [] := oLs_wr L_C W80 E_eP (hw _ (List.mem_of_getElem? (i := 1) rfl)) (hw _ (List.mem_of_getElem? (i := 71) rfl))
  show oEndE p e s below T80 (mkF m 83 #[.val (.int p1), .val (.int p2), .val (.int (1 : Int32)), .val (.ref eP), .val (.ref eA), .val (.ref eB), .val (.ref eC), .unset, .unset] []) n0 h 32 102 (some (.int 1))
  refine oPreE (fun _ => XS.iloadN X80.here hx rfl (hb hby at_83) rfl) ?_
  show oEndE p e s below T80 (mkF m 84 #[.val (.int p1), .val (.int p2), .val (.int (1 : Int32)), .val (.ref eP), .val (.ref eA), .val (.ref eB), .val (.ref eC), .unset, .unset] [(.int (1 : Int32))]) n0 h 32 102 (some (.int 1))
  refine oPreE (fun _ => XS.iconst X80.here hx rfl (hb hby at_84)) ?_
  show oEndE p e s below T80 (mkF m 85 #[.val (.int p1), .val (.int p2), .val (.int (1 : Int32)), .val (.ref eP), .val (.ref eA), .val (.ref eB), .val (.ref eC), .unset, .unset] [(.int (2 : Int32)), (.int (1 : Int32))]) n0 h 32 102 (some (.int 1))
  refine oPreE (fun _ => XS.icmpYes X80.here hx rfl (pc0 := 85) (pc' := 96) rfl (hb hby at_85) rfl (((tlt (by decide : (1 : Int32) < 2)).1)) (by decide) (by decide)) ?_
  show oEndE p e s below T80 (mkF m 96 #[.val (.int p1), .val (.int p2), .val (.int (1 : Int32)), .val (.ref eP), .val (.ref eA), .val (.ref eB), .val (.ref eC), .unset, .unset] []) n0 h 32 102 (some (.int 1))
  refine oPreE (fun _ => XS.iloadN X80.here hx rfl (hb hby at_96) rfl) ?_
  show oEndE p e s below T80 (mkF m 97 #[.val (.int p1), .val (.int p2), .val (.int (1 : Int32)), .val (.ref eP), .val (.ref eA), .val (.ref eB), .val (.ref eC), .unset, .unset] [(.int (1 : Int32))]) n0 h 32 102 (some (.int 1))
  refine oPreE (fun _ => XS.iconst X80.here hx rfl (hb hby at_97)) ?_
  show oEndE p e s below T80 (mkF m 98 #[.val (.int p1), .val (.int p2), .val (.int (1 : Int32)), .val (.ref eP), .val (.ref eA), .val (.ref eB), .val (.ref eC), .unset, .unset] [(.int (3 : Int32)), (.int (1 : Int32))]) n0 h 32 102 (some (.int 1))
  refine oPreE (fun _ => XS.icmpYes X80.here hx rfl (pc0 := 98) (pc' := 109) rfl (hb hby at_98) rfl (((tlt (by decide : (1 : Int32) < 3)).1)) (by decide) (by decide)) ?_
  show oEndE p e s below T80 (mkF m 109 #[.val (.int p1), .val (.int p2), .val (.int (1 : Int32)), .val (.ref eP), .val (.ref eA), .val (.ref eB), .val (.ref eC), .unset, .unset] []) n0 h 32 102 (some (.int 1))
  refine oPreE (fun _ => XS.aloadN X80.here hx rfl (hb hby at_109) rfl rfl) ?_
  show oEndE p e s below T80 (mkF m 110 #[.val (.int p1), .val (.int p2), .val (.int (1 : Int32)), .val (.ref eP), .val (.ref eA), .val (.ref eB), .val (.ref eC), .unset, .unset] [(.ref eP)]) n0 h 32 102 (some (.int 1))
  obtain ⟨cq110, kq110, qa110, qb110, qc110⟩ := isOf hZ rfl E_eP_80
  obtain ⟨_, _, ⟨T110, L110, k110, n110⟩, -, X110, ⟨Lc110, hQ110, l110, y110, z110⟩, st110⟩ := X80.virtualBack hx (y := (⟨"org/provenote/core/xml/XmlElement", "children", "()Ljava/util/List;"⟩ : MethodName)) (z := (⟨"org/provenote/core/xml/XmlElement", "children", "()Ljava/util/List;"⟩ : MethodName)) hown (mvT hZ (hw _ (List.mem_of_getElem? (i := 35) rfl))) (mvT hZ (hw _ (List.mem_of_getElem? (i := 36) rfl))) (notFace_of_selects (args := #[]) (mvT hZ (hw _ (List.mem_of_getElem? (i := 38) rfl)))) (mvT hZ (hw _ (List.mem_of_getElem? (i := 38) rfl))) (mvT hZ (hw _ (List.mem_of_getElem? (i := 37) rfl))) (by decide) (backOf (W := 0) (oRC1 l Z a0 hw [] eP eA T80.heap n0 Z80 E_eP_80 F_eP_80 E_eA_80 G_eA_80 S_NC_80 L_C_80) hZ (hw _ (List.mem_of_getElem? (i := 39) rfl)) (hw _ (List.mem_of_getElem? (i := 2) rfl)) (by decide) (by decide)) qa110 qc110 (g := (mkF m 110 #[.val (.int p1), .val (.int p2), .val (.int (1 : Int32)), .val (.ref eP), .val (.ref eA), .val (.ref eB), .val (.ref eC), .unset, .unset] [(.ref eP)])) rfl (by rw [hml]; rfl) (Steps.refl _) (argsL := []) (rest := []) (lenOf pd_2 rfl) rfl (by show 2 * 0 + _ ≤ _; exact Nat.le_of_eq rfl) (hb hby at_110) (fun _ _ => ⟨rfl, rfl, (by decide : 28 + 2 ≤ _), (by decide : 92 + 5 ≤ _)⟩)
  dsimp only [Pt.U, Pt.locs, Pt.cells, Pt.slots] at X110 l110 y110 z110 st110 hQ110
  subst l110
  rw [y110, z110] at X110
  obtain ⟨⟨E1, rfl, K110, Ls110⟩, N110q⟩ := hQ110
  have N110 := Fr.app N80 N110q
  refine oPreE (fun _ q => st110.trans q) ?_
  have Z110 : n0 ≤ T110.heap.size := Nat.le_trans Z80 K110.1
  show oEndE p e s below T110 (mkF m 113 #[.val (.int p1), .val (.int p2), .val (.int (1 : Int32)), .val (.ref eP), .val (.ref eA), .val (.ref eB), .val (.ref eC), .unset, .unset] [(.ref E1)]) n0 h 32 102 (some (.int 1))
  refine oPreE (fun _ => XS.astore X110.here hx rfl (hb hby at_113) rfl rfl (l' := #[.val (.int p1), .val (.int p2), .val (.int (1 : Int32)), .val (.ref eP), .val (.ref eA), .val (.ref eB), .val (.ref eC), .val (.ref E1), .unset]) rfl) ?_
  show oEndE p e s below T110 (mkF m 115 #[.val (.int p1), .val (.int p2), .val (.int (1 : Int32)), .val (.ref eP), .val (.ref eA), .val (.ref eB), .val (.ref eC), .val (.ref E1), .unset] []) n0 h 32 102 (some (.int 1))
  refine oPreE (fun _ => XS.aload X110.here hx rfl (hb hby at_115) rfl rfl) ?_
  obtain ⟨b1, cl1, r1, r2, r3, r4, r5⟩ := Ls110
  have r4' : cl1.slots.size = (1 : Int32).toNatClampNeg := r4
  have e_at := (rfl : T110.heap = T110.heap)
  show oEndE p e s below T110 (mkF m 117 #[.val (.int p1), .val (.int p2), .val (.int (1 : Int32)), .val (.ref eP), .val (.ref eA), .val (.ref eB), .val (.ref eC), .val (.ref E1), .unset] [(.ref E1)]) n0 h 32 102 (some (.int 1))
  obtain ⟨cq117, kq117, qa117, qb117, qc117⟩ := isOf hZ rfl r1
  obtain ⟨_, _, ⟨T117, L117, k117, n117⟩, -, X117, ⟨Lc117, hQ117, l117, y117, z117⟩, st117⟩ := X110.interfaceBack hx (xi := (⟨"java/util/List", "size", "()I"⟩ : MethodName)) (y := (⟨"org/provenote/core/xml/XmlElement$Elements", "size", "()I"⟩ : MethodName)) hown (mvT hZ (hw _ (List.mem_of_getElem? (i := 48) rfl))) (mvT hZ (hw _ (List.mem_of_getElem? (i := 49) rfl))) (mvT hZ (hw _ (List.mem_of_getElem? (i := 50) rfl))) (mvT hZ (hw _ (List.mem_of_getElem? (i := 51) rfl))) (mvT hZ (hw _ (List.mem_of_getElem? (i := 52) rfl))) (mvT hZ (hw _ (List.mem_of_getElem? (i := 53) rfl))) (mvT hZ (hw _ (List.mem_of_getElem? (i := 54) rfl))) (mvT hZ (hw _ (List.mem_of_getElem? (i := 55) rfl))) (by decide) (backOf (W := 0) (rm5 l Z a0 hw [] E1 b1 cl1 1 T110.heap n0 Z110 r2 r3 r4' (by decide)) hZ (hw _ (List.mem_of_getElem? (i := 57) rfl)) (hw _ (List.mem_of_getElem? (i := 56) rfl)) (by decide) (by decide)) qa117 qb117 qc117 (g := (mkF m 117 #[.val (.int p1), .val (.int p2), .val (.int (1 : Int32)), .val (.ref eP), .val (.ref eA), .val (.ref eB), .val (.ref eC), .val (.ref E1), .unset] [(.ref E1)])) rfl (by rw [hml]; rfl) (Steps.refl _) (argsL := []) (rest := []) (lenOf pd_5 rfl) rfl (by show 2 * 0 + _ ≤ _; exact Nat.le_of_eq rfl) (hb hby at_117) (fun _ _ => ⟨rfl, rfl, (by decide : 30 + 0 ≤ _), (by decide : 97 + 0 ≤ _)⟩)
  dsimp only [Pt.U, Pt.locs, Pt.cells, Pt.slots] at X117 l117 y117 z117 st117 hQ117
  subst l117
  rw [y117, z117] at X117
  obtain ⟨rfl, N117q, e117⟩ := hQ117
  have N117 := Fr.app N110 N117q
  refine oPreE (fun _ q => st117.trans q) ?_
  show oEndE p e s below T117 (mkF m 122 #[.val (.int p1), .val (.int p2), .val (.int (1 : Int32)), .val (.ref eP), .val (.ref eA), .val (.ref eB), .val (.ref eC), .val (.ref E1), .unset] [(.int (1 : Int32))]) n0 h 32 102 (some (.int 1))
  refine oPreE (fun _ => XS.iloadN X117.here hx rfl (hb hby at_122) rfl) ?_
  show oEndE p e s below T117 (mkF m 123 #[.val (.int p1), .val (.int p2), .val (.int (1 : Int32)), .val (.ref eP), .val (.ref eA), .val (.ref eB), .val (.ref eC), .val (.ref E1), .unset] [(.int (1 : Int32)), (.int (1 : Int32))]) n0 h 32 102 (some (.int 1))
  refine oPreE (fun _ => XS.icmpYes X117.here hx rfl (pc0 := 123) (pc' := 128) rfl (hb hby at_123) rfl (((teq (rfl : (1 : Int32) = 1)).1)) (by decide) (by decide)) ?_
  show oEndE p e s below T117 (mkF m 128 #[.val (.int p1), .val (.int p2), .val (.int (1 : Int32)), .val (.ref eP), .val (.ref eA), .val (.ref eB), .val (.ref eC), .val (.ref E1), .unset] []) n0 h 32 102 (some (.int 1))
  refine oPreE (fun _ => XS.iloadN X117.here hx rfl (hb hby at_128) rfl) ?_
  show oEndE p e s below T117 (mkF m 129 #[.val (.int p1), .val (.int p2), .val (.int (1 : Int32)), .val (.ref eP), .val (.ref eA), .val (.ref eB), .val (.ref eC), .val (.ref E1), .unset] [(.int (1 : Int32))]) n0 h 32 102 (some (.int 1))
  refine oPreE (fun _ => XS.iconst X117.here hx rfl (hb hby at_129)) ?_
  show oEndE p e s below T117 (mkF m 130 #[.val (.int p1), .val (.int p2), .val (.int (1 : Int32)), .val (.ref eP), .val (.ref eA), .val (.ref eB), .val (.ref eC), .val (.ref E1), .unset] [(.int (1 : Int32)), (.int (1 : Int32))]) n0 h 32 102 (some (.int 1))
  refine oPreE (fun _ => XS.icmpNo X117.here hx rfl (hb hby at_130) rfl (((flt (by decide : ¬ (1 : Int32) < 1)).1))) ?_
  show oEndE p e s below T117 (mkF m 133 #[.val (.int p1), .val (.int p2), .val (.int (1 : Int32)), .val (.ref eP), .val (.ref eA), .val (.ref eB), .val (.ref eC), .val (.ref E1), .unset] []) n0 h 32 102 (some (.int 1))
  refine oPreE (fun _ => XS.aload X117.here hx rfl (hb hby at_133) rfl rfl) ?_
  show oEndE p e s below T117 (mkF m 135 #[.val (.int p1), .val (.int p2), .val (.int (1 : Int32)), .val (.ref eP), .val (.ref eA), .val (.ref eB), .val (.ref eC), .val (.ref E1), .unset] [(.ref E1)]) n0 h 32 102 (some (.int 1))
  refine oPreE (fun _ => XS.iconst X117.here hx rfl (hb hby at_135)) ?_
  show oEndE p e s below T117 (mkF m 136 #[.val (.int p1), .val (.int p2), .val (.int (1 : Int32)), .val (.ref eP), .val (.ref eA), .val (.ref eB), .val (.ref eC), .val (.ref E1), .unset] [(.int (0 : Int32)), (.ref E1)]) n0 h 32 102 (some (.int 1))
  obtain ⟨cq136, kq136, qa136, qb136, qc136⟩ := isOf hZ e117 r1
  obtain ⟨_, _, ⟨T136, L136, k136, n136⟩, -, X136, ⟨Lc136, hQ136, l136, y136, z136⟩, st136⟩ := X117.interfaceBack hx (xi := (⟨"java/util/List", "get", "(I)Ljava/lang/Object;"⟩ : MethodName)) (y := (⟨"org/provenote/core/xml/XmlElement$Elements", "get", "(I)Ljava/lang/Object;"⟩ : MethodName)) hown (mvT hZ (hw _ (List.mem_of_getElem? (i := 89) rfl))) (mvT hZ (hw _ (List.mem_of_getElem? (i := 90) rfl))) (mvT hZ (hw _ (List.mem_of_getElem? (i := 91) rfl))) (mvT hZ (hw _ (List.mem_of_getElem? (i := 92) rfl))) (mvT hZ (hw _ (List.mem_of_getElem? (i := 93) rfl))) (mvT hZ (hw _ (List.mem_of_getElem? (i := 94) rfl))) (mvT hZ (hw _ (List.mem_of_getElem? (i := 95) rfl))) (mvT hZ (hw _ (List.mem_of_getElem? (i := 55) rfl))) (by decide) (backOf (W := 0) (rm10 l Z a0 hw [] E1 0 b1 eA cl1 T110.heap n0 Z110 r1 r2 r3 (inb_of r4' ⟨by decide, by decide⟩) (r5 0 (by simp))) hZ (hw _ (List.mem_of_getElem? (i := 96) rfl)) (hw _ (List.mem_of_getElem? (i := 56) rfl)) (by decide) (by decide)) qa136 qb136 qc136 (g := (mkF m 136 #[.val (.int p1), .val (.int p2), .val (.int (1 : Int32)), .val (.ref eP), .val (.ref eA), .val (.ref eB), .val (.ref eC), .val (.ref E1), .unset] [(.int (0 : Int32)), (.ref E1)])) rfl (by rw [hml]; rfl) (Steps.refl _) (argsL := [(.int (0 : Int32))]) (rest := []) (lenOf pd_6 rfl) rfl (by show 2 * 0 + _ ≤ _; exact Nat.le_of_eq rfl) (hb hby at_136) (fun _ _ => ⟨rfl, e117, (by decide : 30 + 0 ≤ _), (by decide : 97 + 0 ≤ _)⟩)
  dsimp only [Pt.U, Pt.locs, Pt.cells, Pt.slots] at X136 l136 y136 z136 st136 hQ136
  subst l136
  rw [y136, z136] at X136
  obtain ⟨rfl, N136q, e136⟩ := hQ136
  have N136 := Fr.app N117 N136q
  refine oPreE (fun _ q => st136.trans q) ?_
  show oEndE p e s below T136 (mkF m 141 #[.val (.int p1), .val (.int p2), .val (.int (1 : Int32)), .val (.ref eP), .val (.ref eA), .val (.ref eB), .val (.ref eC), .val (.ref E1), .unset] [(.ref eA)]) n0 h 32 102 (some (.int 1))
  refine oPreE (fun _ => XS.aload X136.here hx rfl (hb hby at_141) rfl rfl) ?_
  show oEndE p e s below T136 (mkF m 143 #[.val (.int p1), .val (.int p2), .val (.int (1 : Int32)), .val (.ref eP), .val (.ref eA), .val (.ref eB), .val (.ref eC), .val (.ref E1), .unset] [(.ref eA), (.ref eA)]) n0 h 32 102 (some (.int 1))
  refine oPreE (fun _ => Jvm.RoadKit.acmp (g := (mkF m 143 #[.val (.int p1), .val (.int p2), .val (.int (1 : Int32)), .val (.ref eP), .val (.ref eA), .val (.ref eB), .val (.ref eC), .val (.ref E1), .unset] [(.ref eA), (.ref eA)])) X136 hx rfl rfl rfl (pc0 := 143) (pc' := 148) (same := true) rfl (hb hby at_143) rfl (decide_eq_true rfl) (by decide) (by decide)) ?_
  show oEndE p e s below T136 (mkF m 148 #[.val (.int p1), .val (.int p2), .val (.int (1 : Int32)), .val (.ref eP), .val (.ref eA), .val (.ref eB), .val (.ref eC), .val (.ref E1), .unset] []) n0 h 32 102 (some (.int 1))
  refine oPreE (fun _ => XS.iloadN X136.here hx rfl (hb hby at_148) rfl) ?_
  show oEndE p e s below T136 (mkF m 149 #[.val (.int p1), .val (.int p2), .val (.int (1 : Int32)), .val (.ref eP), .val (.ref eA), .val (.ref eB), .val (.ref eC), .val (.ref E1), .unset] [(.int (1 : Int32))]) n0 h 32 102 (some (.int 1))
  refine oPreE (fun _ => XS.iconst X136.here hx rfl (hb hby at_149)) ?_
  show oEndE p e s below T136 (mkF m 150 #[.val (.int p1), .val (.int p2), .val (.int (1 : Int32)), .val (.ref eP), .val (.ref eA), .val (.ref eB), .val (.ref eC), .val (.ref E1), .unset] [(.int (2 : Int32)), (.int (1 : Int32))]) n0 h 32 102 (some (.int 1))
  refine oPreE (fun _ => XS.icmpYes X136.here hx rfl (pc0 := 150) (pc' := 168) rfl (hb hby at_150) rfl (((tlt (by decide : (1 : Int32) < 2)).1)) (by decide) (by decide)) ?_
  show oEndE p e s below T136 (mkF m 168 #[.val (.int p1), .val (.int p2), .val (.int (1 : Int32)), .val (.ref eP), .val (.ref eA), .val (.ref eB), .val (.ref eC), .val (.ref E1), .unset] []) n0 h 32 102 (some (.int 1))
  refine oPreE (fun _ => XS.iloadN X136.here hx rfl (hb hby at_168) rfl) ?_
  show oEndE p e s below T136 (mkF m 169 #[.val (.int p1), .val (.int p2), .val (.int (1 : Int32)), .val (.ref eP), .val (.ref eA), .val (.ref eB), .val (.ref eC), .val (.ref E1), .unset] [(.int (1 : Int32))]) n0 h 32 102 (some (.int 1))
  refine oPreE (fun _ => XS.iconst X136.here hx rfl (hb hby at_169)) ?_
  show oEndE p e s below T136 (mkF m 170 #[.val (.int p1), .val (.int p2), .val (.int (1 : Int32)), .val (.ref eP), .val (.ref eA), .val (.ref eB), .val (.ref eC), .val (.ref E1), .unset] [(.int (3 : Int32)), (.int (1 : Int32))]) n0 h 32 102 (some (.int 1))
  refine oPreE (fun _ => XS.icmpYes X136.here hx rfl (pc0 := 170) (pc' := 188) rfl (hb hby at_170) rfl (((tlt (by decide : (1 : Int32) < 3)).1)) (by decide) (by decide)) ?_
  show oEndE p e s below T136 (mkF m 188 #[.val (.int p1), .val (.int p2), .val (.int (1 : Int32)), .val (.ref eP), .val (.ref eA), .val (.ref eB), .val (.ref eC), .val (.ref E1), .unset] []) n0 h 32 102 (some (.int 1))
  refine oPreE (fun _ => XS.iloadN X136.here hx rfl (hb hby at_188) rfl) ?_
  show oEndE p e s below T136 (mkF m 189 #[.val (.int p1), .val (.int p2), .val (.int (1 : Int32)), .val (.ref eP), .val (.ref eA), .val (.ref eB), .val (.ref eC), .val (.ref E1), .unset] [(.int (1 : Int32))]) n0 h 32 102 (some (.int 1))
  refine oPreE (fun _ => XS.iconst X136.here hx rfl (hb hby at_189)) ?_
  show oEndE p e s below T136 (mkF m 190 #[.val (.int p1), .val (.int p2), .val (.int (1 : Int32)), .val (.ref eP), .val (.ref eA), .val (.ref eB), .val (.ref eC), .val (.ref E1), .unset] [(.int (3 : Int32)), (.int (1 : Int32))]) n0 h 32 102 (some (.int 1))
  refine oPreE (fun _ => XS.icmpYes X136.here hx rfl (pc0 := 190) (pc' := 198) rfl (hb hby at_190) rfl (((feq (by decide : ¬ (1 : Int32) = 3)).2)) (by decide) (by decide)) ?_
  show oEndE p e s below T136 (mkF m 198 #[.val (.int p1), .val (.int p2), .val (.int (1 : Int32)), .val (.ref eP), .val (.ref eA), .val (.ref eB), .val (.ref eC), .val (.ref E1), .unset] []) n0 h 32 102 (some (.int 1))
  refine oPreE (fun _ => XS.iloadN X136.here hx rfl (hb hby at_198) rfl) ?_
  show oEndE p e s below T136 (mkF m 199 #[.val (.int p1), .val (.int p2), .val (.int (1 : Int32)), .val (.ref eP), .val (.ref eA), .val (.ref eB), .val (.ref eC), .val (.ref E1), .unset] [(.int (1 : Int32))]) n0 h 32 102 (some (.int 1))
  refine oPreE (fun _ => XS.iconst X136.here hx rfl (hb hby at_199)) ?_
  show oEndE p e s below T136 (mkF m 200 #[.val (.int p1), .val (.int p2), .val (.int (1 : Int32)), .val (.ref eP), .val (.ref eA), .val (.ref eB), .val (.ref eC), .val (.ref E1), .unset] [(.int (2 : Int32)), (.int (1 : Int32))]) n0 h 32 102 (some (.int 1))
  refine oPreE (fun _ => XS.icmpYes X136.here hx rfl (pc0 := 200) (pc' := 208) rfl (hb hby at_200) rfl (((feq (by decide : ¬ (1 : Int32) = 2)).2)) (by decide) (by decide)) ?_
  show oEndE p e s below T136 (mkF m 208 #[.val (.int p1), .val (.int p2), .val (.int (1 : Int32)), .val (.ref eP), .val (.ref eA), .val (.ref eB), .val (.ref eC), .val (.ref E1), .unset] []) n0 h 32 102 (some (.int 1))
  refine oPreE (fun _ => XS.aload X136.here hx rfl (hb hby at_208) rfl rfl) ?_
  show oEndE p e s below T136 (mkF m 210 #[.val (.int p1), .val (.int p2), .val (.int (1 : Int32)), .val (.ref eP), .val (.ref eA), .val (.ref eB), .val (.ref eC), .val (.ref E1), .unset] [(.ref eA)]) n0 h 32 102 (some (.int 1))
  refine oPreE (fun _ => XS.astore X136.here hx rfl (hb hby at_210) rfl rfl (l' := #[.val (.int p1), .val (.int p2), .val (.int (1 : Int32)), .val (.ref eP), .val (.ref eA), .val (.ref eB), .val (.ref eC), .val (.ref E1), .val (.ref eA)]) rfl) ?_
  show oEndE p e s below T136 (mkF m 212 #[.val (.int p1), .val (.int p2), .val (.int (1 : Int32)), .val (.ref eP), .val (.ref eA), .val (.ref eB), .val (.ref eC), .val (.ref E1), .val (.ref eA)] []) n0 h 32 102 (some (.int 1))
  refine oPreE (fun _ => XS.aload X136.here hx rfl (hb hby at_212) rfl rfl) ?_
  have EL1 := E_eA_80.keep K110
  have FL1 := F_eA_80.keep K110 (by simp)
  have SL1 := oSta_keep K110 S_NC_80
  have LL1 := oLs_keep K110 L_C_80
  show oEndE p e s below T136 (mkF m 214 #[.val (.int p1), .val (.int p2), .val (.int (1 : Int32)), .val (.ref eP), .val (.ref eA), .val (.ref eB), .val (.ref eC), .val (.ref E1), .val (.ref eA)] [(.ref eA)]) n0 h 32 102 (some (.int 1))
  obtain ⟨cq214, kq214, qa214, qb214, qc214⟩ := isOf hZ e136 EL1
  obtain ⟨_, _, ⟨T214, L214, k214, n214⟩, -, X214, ⟨Lc214, hQ214, l214, y214, z214⟩, st214⟩ := X136.virtualBack hx (y := (⟨"org/provenote/core/xml/XmlElement", "children", "()Ljava/util/List;"⟩ : MethodName)) (z := (⟨"org/provenote/core/xml/XmlElement", "children", "()Ljava/util/List;"⟩ : MethodName)) hown (mvT hZ (hw _ (List.mem_of_getElem? (i := 35) rfl))) (mvT hZ (hw _ (List.mem_of_getElem? (i := 36) rfl))) (notFace_of_selects (args := #[]) (mvT hZ (hw _ (List.mem_of_getElem? (i := 38) rfl)))) (mvT hZ (hw _ (List.mem_of_getElem? (i := 38) rfl))) (mvT hZ (hw _ (List.mem_of_getElem? (i := 37) rfl))) (by decide) (backOf (W := 0) (oRC0 l Z a0 hw [] eA T110.heap n0 Z110 EL1 FL1 SL1 LL1) hZ (hw _ (List.mem_of_getElem? (i := 39) rfl)) (hw _ (List.mem_of_getElem? (i := 2) rfl)) (by decide) (by decide)) qa214 qc214 (g := (mkF m 214 #[.val (.int p1), .val (.int p2), .val (.int (1 : Int32)), .val (.ref eP), .val (.ref eA), .val (.ref eB), .val (.ref eC), .val (.ref E1), .val (.ref eA)] [(.ref eA)])) rfl (by rw [hml]; rfl) (Steps.refl _) (argsL := []) (rest := []) (lenOf pd_2 rfl) rfl (by show 2 * 0 + _ ≤ _; exact Nat.le_of_eq rfl) (hb hby at_214) (fun _ _ => ⟨rfl, e136, (by decide : 30 + 2 ≤ _), (by decide : 97 + 5 ≤ _)⟩)
  dsimp only [Pt.U, Pt.locs, Pt.cells, Pt.slots] at X214 l214 y214 z214 st214 hQ214
  subst l214
  rw [y214, z214] at X214
  obtain ⟨⟨E2, rfl, K214, Ls214⟩, N214q⟩ := hQ214
  have N214 := Fr.app N136 N214q
  refine oPreE (fun _ q => st214.trans q) ?_
  have Z214 : n0 ≤ T214.heap.size := Nat.le_trans Z110 K214.1
  clear r1 r2 r3 r4 r5
  obtain ⟨b2, cl2, r1, r2, r3, r4, r5⟩ := Ls214
  have r4' : cl2.slots.size = (0 : Int32).toNatClampNeg := r4
  show oEndE p e s below T214 (mkF m 217 #[.val (.int p1), .val (.int p2), .val (.int (1 : Int32)), .val (.ref eP), .val (.ref eA), .val (.ref eB), .val (.ref eC), .val (.ref E1), .val (.ref eA)] [(.ref E2)]) n0 h 32 102 (some (.int 1))
  obtain ⟨cq217, kq217, qa217, qb217, qc217⟩ := isOf hZ rfl r1
  obtain ⟨_, _, ⟨T217, L217, k217, n217⟩, -, X217, ⟨Lc217, hQ217, l217, y217, z217⟩, st217⟩ := X214.interfaceBack hx (xi := (⟨"java/util/List", "size", "()I"⟩ : MethodName)) (y := (⟨"org/provenote/core/xml/XmlElement$Elements", "size", "()I"⟩ : MethodName)) hown (mvT hZ (hw _ (List.mem_of_getElem? (i := 48) rfl))) (mvT hZ (hw _ (List.mem_of_getElem? (i := 49) rfl))) (mvT hZ (hw _ (List.mem_of_getElem? (i := 50) rfl))) (mvT hZ (hw _ (List.mem_of_getElem? (i := 51) rfl))) (mvT hZ (hw _ (List.mem_of_getElem? (i := 52) rfl))) (mvT hZ (hw _ (List.mem_of_getElem? (i := 53) rfl))) (mvT hZ (hw _ (List.mem_of_getElem? (i := 54) rfl))) (mvT hZ (hw _ (List.mem_of_getElem? (i := 55) rfl))) (by decide) (backOf (W := 0) (rm5 l Z a0 hw [] E2 b2 cl2 0 T214.heap n0 Z214 r2 r3 r4' (by decide)) hZ (hw _ (List.mem_of_getElem? (i := 57) rfl)) (hw _ (List.mem_of_getElem? (i := 56) rfl)) (by decide) (by decide)) qa217 qb217 qc217 (g := (mkF m 217 #[.val (.int p1), .val (.int p2), .val (.int (1 : Int32)), .val (.ref eP), .val (.ref eA), .val (.ref eB), .val (.ref eC), .val (.ref E1), .val (.ref eA)] [(.ref E2)])) rfl (by rw [hml]; rfl) (Steps.refl _) (argsL := []) (rest := []) (lenOf pd_5 rfl) rfl (by show 2 * 0 + _ ≤ _; exact Nat.le_of_eq rfl) (hb hby at_217) (fun _ _ => ⟨rfl, rfl, (by decide : 32 + 0 ≤ _), (by decide : 102 + 0 ≤ _)⟩)
  dsimp only [Pt.U, Pt.locs, Pt.cells, Pt.slots] at X217 l217 y217 z217 st217 hQ217
  subst l217
  rw [y217, z217] at X217
  obtain ⟨rfl, N217q, e217⟩ := hQ217
  have N217 := Fr.app N214 N217q
  refine oPreE (fun _ q => st217.trans q) ?_
  show oEndE p e s below T217 (mkF m 222 #[.val (.int p1), .val (.int p2), .val (.int (1 : Int32)), .val (.ref eP), .val (.ref eA), .val (.ref eB), .val (.ref eC), .val (.ref E1), .val (.ref eA)] [(.int (0 : Int32))]) n0 h 32 102 (some (.int 1))
  refine oPreE (fun _ => XS.ifNo X217.here hx rfl (hb hby at_222) rfl ((if0 _ _).trans ((teq (rfl : (0 : Int32) = 0)).2))) ?_
  show oEndE p e s below T217 (mkF m 225 #[.val (.int p1), .val (.int p2), .val (.int (1 : Int32)), .val (.ref eP), .val (.ref eA), .val (.ref eB), .val (.ref eC), .val (.ref E1), .val (.ref eA)] []) n0 h 32 102 (some (.int 1))
  refine oPreE (fun _ => XS.iconst X217.here hx rfl (hb hby at_225)) ?_
  show oEndE p e s below T217 (mkF m 226 #[.val (.int p1), .val (.int p2), .val (.int (1 : Int32)), .val (.ref eP), .val (.ref eA), .val (.ref eB), .val (.ref eC), .val (.ref E1), .val (.ref eA)] [(.int (1 : Int32))]) n0 h 32 102 (some (.int 1))
  refine oPreE (fun _ => XS.goto X217.here hx rfl (pc0 := 226) (pc' := 230) rfl (hb hby at_226) (by decide) (by decide)) ?_
  show oEndE p e s below T217 (mkF m 230 #[.val (.int p1), .val (.int p2), .val (.int (1 : Int32)), .val (.ref eP), .val (.ref eA), .val (.ref eB), .val (.ref eC), .val (.ref E1), .val (.ref eA)] [(.int (1 : Int32))]) n0 h 32 102 (some (.int 1))
  obtain ⟨fs, hr, hrun, hended, hW, hsame⟩ := X217.leave (v := some (.int 1)) (fun h => by rw [hret] at h; cases h) hlk
  have hsz : T80.heap.size = h.size := by rw [W80.size]
  exact ⟨_, Nat.le_trans (Nat.le_trans (Nat.le_of_eq hsz.symm) K110.1) K214.1, _, _, retN X217 hx (t := .boolean) hret (by simp) (hb hby at_230) hr, hrun, hended, hW, hsame, N217, e217⟩
set_option maxRecDepth 65536 in
set_option maxHeartbeats 40000000 in
theorem oCase2 {p : Program} {l : Launch} {e : Env} {s : State} {m : MethodId} {args : Array Value} {below : List Frame} {meth : Method} {c : Code} {T : State} {locs : List Loc} {Z : State} {a0 : Array Value} {h : Heap} {n0 : Nat} (X : Stand p l e room_1 s m args below meth c T locs 28 92) (hx : p.tables.exec = Jvm.exec) (hby : c.code = code) (hml : c.maxLocals = 9) (hret : meth.sig.returnType = some .boolean) (hlk : meth.locks = false) (hown : s.vm.findClass "org/provenote/core/xml/XmlElementAddPinLaw" = some m.cls) (hZ : Z.Warmed39 s.vm) (hw : ∀ d ∈ tables_1, d.before a0 Z = true) (eT : T.heap = h) (N : Fr n0 locs) (Z0 : n0 ≤ h.size) {eP eA eB eC : Addr} (E_eP : Exa Z h eP "org/provenote/core/xml/XmlElement") (F_eP : Fld Z h eP "org/provenote/core/xml/XmlElement" "firstChild" "Lorg/provenote/core/xml/XmlElement;" .null) (G_eP : Fld Z h eP "org/provenote/core/xml/XmlElement" "nextSibling" "Lorg/provenote/core/xml/XmlElement;" .null) (g_eP : n0 ≤ eP) (E_eA : Exa Z h eA "org/provenote/core/xml/XmlElement") (F_eA : Fld Z h eA "org/provenote/core/xml/XmlElement" "firstChild" "Lorg/provenote/core/xml/XmlElement;" .null) (G_eA : Fld Z h eA "org/provenote/core/xml/XmlElement" "nextSibling" "Lorg/provenote/core/xml/XmlElement;" .null) (g_eA : n0 ≤ eA) (E_eB : Exa Z h eB "org/provenote/core/xml/XmlElement") (F_eB : Fld Z h eB "org/provenote/core/xml/XmlElement" "firstChild" "Lorg/provenote/core/xml/XmlElement;" .null) (G_eB : Fld Z h eB "org/provenote/core/xml/XmlElement" "nextSibling" "Lorg/provenote/core/xml/XmlElement;" .null) (g_eB : n0 ≤ eB) (E_eC : Exa Z h eC "org/provenote/core/xml/XmlElement") (F_eC : Fld Z h eC "org/provenote/core/xml/XmlElement" "firstChild" "Lorg/provenote/core/xml/XmlElement;" .null) (G_eC : Fld Z h eC "org/provenote/core/xml/XmlElement" "nextSibling" "Lorg/provenote/core/xml/XmlElement;" .null) (g_eC : n0 ≤ eC) (n_eP_eA : eP ≠ eA) (n_eP_eB : eP ≠ eB) (n_eP_eC : eP ≠ eC) (n_eA_eB : eA ≠ eB) (n_eA_eC : eA ≠ eC) (n_eB_eC : eB ≠ eC) {wC : Addr} (S_NC : Sta Z h "org/provenote/core/xml/XmlElement" "NO_CHILDREN" "Ljava/util/List;" (.ref wC)) (L_C : oLs Z h wC []) (p1 p2 : Int32) : oEndE p e s below T (mkF m 71 #[.val (.int p1), .val (.int p2), .val (.int (2 : Int32)), .val (.ref eP), .val (.ref eA), .val (.ref eB), .val (.ref eC), .unset, .unset] []) n0 h 32 102 (some (.int 1)) := by
  have K0 : Keep h h [] := Keep.refl h []
  show oEndE p e s below T (mkF m 71 #[.val (.int p1), .val (.int p2), .val (.int (2 : Int32)), .val (.ref eP), .val (.ref eA), .val (.ref eB), .val (.ref eC), .unset, .unset] []) n0 h 32 102 (some (.int 1))
  refine oPreE (fun _ => XS.iloadN X.here hx rfl (hb hby at_71) rfl) ?_
  show oEndE p e s below T (mkF m 72 #[.val (.int p1), .val (.int p2), .val (.int (2 : Int32)), .val (.ref eP), .val (.ref eA), .val (.ref eB), .val (.ref eC), .unset, .unset] [(.int (2 : Int32))]) n0 h 32 102 (some (.int 1))
  refine oPreE (fun _ => XS.iconst X.here hx rfl (hb hby at_72)) ?_
  show oEndE p e s below T (mkF m 73 #[.val (.int p1), .val (.int p2), .val (.int (2 : Int32)), .val (.ref eP), .val (.ref eA), .val (.ref eB), .val (.ref eC), .unset, .unset] [(.int (1 : Int32)), (.int (2 : Int32))]) n0 h 32 102 (some (.int 1))
  refine oPreE (fun _ => XS.icmpNo X.here hx rfl (hb hby at_73) rfl (((flt (by decide : ¬ (2 : Int32) < 1)).1))) ?_
  show oEndE p e s below T (mkF m 76 #[.val (.int p1), .val (.int p2), .val (.int (2 : Int32)), .val (.ref eP), .val (.ref eA), .val (.ref eB), .val (.ref eC), .unset, .unset] []) n0 h 32 102 (some (.int 1))
  refine oPreE (fun _ => XS.aloadN X.here hx rfl (hb hby at_76) rfl rfl) ?_
  show oEndE p e s below T (mkF m 77 #[.val (.int p1), .val (.int p2), .val (.int (2 : Int32)), .val (.ref eP), .val (.ref eA), .val (.ref eB), .val (.ref eC), .unset, .unset] [(.ref eP)]) n0 h 32 102 (some (.int 1))
  refine oPreE (fun _ => XS.aload X.here hx rfl (hb hby at_77) rfl rfl) ?_
  show oEndE p e s below T (mkF m 79 #[.val (.int p1), .val (.int p2), .val (.int (2 : Int32)), .val (.ref eP), .val (.ref eA), .val (.ref eB), .val (.ref eC), .unset, .unset] [(.ref eA), (.ref eP)]) n0 h 32 102 (some (.int 1))
  refine oPreE (fun _ => XS.aconstNull X.here hx rfl (hb hby at_79)) ?_
  show oEndE p e s below T (mkF m 80 #[.val (.int p1), .val (.int p2), .val (.int (2 : Int32)), .val (.ref eP), .val (.ref eA), .val (.ref eB), .val (.ref eC), .unset, .unset] [.null, (.ref eA), (.ref eP)]) n0 h 32 102 (some (.int 1))
  obtain ⟨cq80, kq80, qa80, qb80, qc80⟩ := isOf hZ eT E_eP
  obtain ⟨_, _, ⟨T80, L80, k80, n80⟩, -, X80, ⟨Lc80, hQ80, l80, y80, z80⟩, st80⟩ := X.virtualBack hx (y := (⟨"org/provenote/core/xml/XmlElement", "add", "(Lorg/provenote/core/xml/XmlElement;Lorg/provenote/core/xml/XmlElement;)V"⟩ : MethodName)) (z := (⟨"org/provenote/core/xml/XmlElement", "add", "(Lorg/provenote/core/xml/XmlElement;Lorg/provenote/core/xml/XmlElement;)V"⟩ : MethodName)) hown (mvT hZ (hw _ (List.mem_of_getElem? (i := 60) rfl))) (mvT hZ (hw _ (List.mem_of_getElem? (i := 61) rfl))) (notFace_of_selects (args := #[]) (mvT hZ (hw _ (List.mem_of_getElem? (i := 63) rfl)))) (mvT hZ (hw _ (List.mem_of_getElem? (i := 63) rfl))) (mvT hZ (hw _ (List.mem_of_getElem? (i := 62) rfl))) (by decide) (backOf (W := 0) (rm6n l Z a0 hw [] eP eA _ h n0 Z0 E_eP F_eP g_eP) hZ (hw _ (List.mem_of_getElem? (i := 64) rfl)) (hw _ (List.mem_of_getElem? (i := 2) rfl)) (by decide) (by decide)) qa80 qc80 (g := (mkF m 80 #[.val (.int p1), .val (.int p2), .val (.int (2 : Int32)), .val (.ref eP), .val (.ref eA), .val (.ref eB), .val (.ref eC), .unset, .unset] [.null, (.ref eA), (.ref eP)])) rfl (by rw [hml]; rfl) (Steps.refl _) (argsL := [(.ref eA), .null]) (rest := []) (lenOf pd_4 rfl) rfl (by show 2 * 0 + _ ≤ _; exact Nat.le_of_eq rfl) (hb hby at_80) (fun _ _ => ⟨rfl, eT, (by decide : 28 + 0 ≤ _), (by decide : 92 + 0 ≤ _)⟩)
  dsimp only [Pt.U, Pt.locs, Pt.cells, Pt.slots] at X80 l80 y80 z80 st80 hQ80
  subst l80
  rw [y80, z80] at X80
  obtain ⟨rfl, N80q, W80⟩ := hQ80
  have N80 := Fr.app N N80q
  refine oPreE (fun _ q => st80.trans q) ?_
  have Z80 : n0 ≤ T80.heap.size := by rw [W80.size]; exact Z0
  have E_eP_80 := E_eP.wr W80
  have F_eP_80 := F_eP.same W80
  have G_eP_80 := G_eP.other W80 (Or.inr (slot_ne (Or.inl (hw _ (List.mem_of_getElem? (i := 66) rfl))) (Or.inl (hw _ (List.mem_of_getElem? (i := 45) rfl))) (by decide) (t := (.object "org/provenote/core/xml/XmlElement")) (t' := (.object "org/provenote/core/xml/XmlElement")) (by decide) (by decide)))
  have E_eA_80 := E_eA.wr W80
  have F_eA_80 := F_eA.other W80 (Or.inl n_eP_eA.symm)
  have G_eA_80 := G_eA.other W80 (Or.inl n_eP_eA.symm)
  have E_eB_80 := E_eB.wr W80
  have F_eB_80 := F_eB.other W80 (Or.inl n_eP_eB.symm)
  have G_eB_80 := G_eB.other W80 (Or.inl n_eP_eB.symm)
  have E_eC_80 := E_eC.wr W80
  have F_eC_80 := F_eC.other W80 (Or.inl n_eP_eC.symm)
  have G_eC_80 := G_eC.other W80 (Or.inl n_eP_eC.symm)
  have S_NC_80 := S_NC.wr W80
  have L_C_80 : oLs Z T80.heap wC [] := oLs_wr L_C W80 E_eP (hw _ (List.mem_of_getElem? (i := 1) rfl)) (hw _ (List.mem_of_getElem? (i := 71) rfl))
  show oEndE p e s below T80 (mkF m 83 #[.val (.int p1), .val (.int p2), .val (.int (2 : Int32)), .val (.ref eP), .val (.ref eA), .val (.ref eB), .val (.ref eC), .unset, .unset] []) n0 h 32 102 (some (.int 1))
  refine oPreE (fun _ => XS.iloadN X80.here hx rfl (hb hby at_83) rfl) ?_
  show oEndE p e s below T80 (mkF m 84 #[.val (.int p1), .val (.int p2), .val (.int (2 : Int32)), .val (.ref eP), .val (.ref eA), .val (.ref eB), .val (.ref eC), .unset, .unset] [(.int (2 : Int32))]) n0 h 32 102 (some (.int 1))
  refine oPreE (fun _ => XS.iconst X80.here hx rfl (hb hby at_84)) ?_
  show oEndE p e s below T80 (mkF m 85 #[.val (.int p1), .val (.int p2), .val (.int (2 : Int32)), .val (.ref eP), .val (.ref eA), .val (.ref eB), .val (.ref eC), .unset, .unset] [(.int (2 : Int32)), (.int (2 : Int32))]) n0 h 32 102 (some (.int 1))
  refine oPreE (fun _ => XS.icmpNo X80.here hx rfl (hb hby at_85) rfl (((flt (by decide : ¬ (2 : Int32) < 2)).1))) ?_
  show oEndE p e s below T80 (mkF m 88 #[.val (.int p1), .val (.int p2), .val (.int (2 : Int32)), .val (.ref eP), .val (.ref eA), .val (.ref eB), .val (.ref eC), .unset, .unset] []) n0 h 32 102 (some (.int 1))
  refine oPreE (fun _ => XS.aloadN X80.here hx rfl (hb hby at_88) rfl rfl) ?_
  show oEndE p e s below T80 (mkF m 89 #[.val (.int p1), .val (.int p2), .val (.int (2 : Int32)), .val (.ref eP), .val (.ref eA), .val (.ref eB), .val (.ref eC), .unset, .unset] [(.ref eP)]) n0 h 32 102 (some (.int 1))
  refine oPreE (fun _ => XS.aload X80.here hx rfl (hb hby at_89) rfl rfl) ?_
  show oEndE p e s below T80 (mkF m 91 #[.val (.int p1), .val (.int p2), .val (.int (2 : Int32)), .val (.ref eP), .val (.ref eA), .val (.ref eB), .val (.ref eC), .unset, .unset] [(.ref eB), (.ref eP)]) n0 h 32 102 (some (.int 1))
  refine oPreE (fun _ => XS.aload X80.here hx rfl (hb hby at_91) rfl rfl) ?_
  show oEndE p e s below T80 (mkF m 93 #[.val (.int p1), .val (.int p2), .val (.int (2 : Int32)), .val (.ref eP), .val (.ref eA), .val (.ref eB), .val (.ref eC), .unset, .unset] [(.ref eA), (.ref eB), (.ref eP)]) n0 h 32 102 (some (.int 1))
  obtain ⟨cq93, kq93, qa93, qb93, qc93⟩ := isOf hZ rfl E_eP_80
  obtain ⟨_, _, ⟨T93, L93, k93, n93⟩, -, X93, ⟨Lc93, hQ93, l93, y93, z93⟩, st93⟩ := X80.virtualBack hx (y := (⟨"org/provenote/core/xml/XmlElement", "add", "(Lorg/provenote/core/xml/XmlElement;Lorg/provenote/core/xml/XmlElement;)V"⟩ : MethodName)) (z := (⟨"org/provenote/core/xml/XmlElement", "add", "(Lorg/provenote/core/xml/XmlElement;Lorg/provenote/core/xml/XmlElement;)V"⟩ : MethodName)) hown (mvT hZ (hw _ (List.mem_of_getElem? (i := 60) rfl))) (mvT hZ (hw _ (List.mem_of_getElem? (i := 61) rfl))) (notFace_of_selects (args := #[]) (mvT hZ (hw _ (List.mem_of_getElem? (i := 63) rfl)))) (mvT hZ (hw _ (List.mem_of_getElem? (i := 63) rfl))) (mvT hZ (hw _ (List.mem_of_getElem? (i := 62) rfl))) (by decide) (backOf (W := 0) (rm6 l Z a0 hw [] eP eB eA _ T80.heap n0 Z80 E_eA_80 G_eA_80 g_eA) hZ (hw _ (List.mem_of_getElem? (i := 64) rfl)) (hw _ (List.mem_of_getElem? (i := 2) rfl)) (by decide) (by decide)) qa93 qc93 (g := (mkF m 93 #[.val (.int p1), .val (.int p2), .val (.int (2 : Int32)), .val (.ref eP), .val (.ref eA), .val (.ref eB), .val (.ref eC), .unset, .unset] [(.ref eA), (.ref eB), (.ref eP)])) rfl (by rw [hml]; rfl) (Steps.refl _) (argsL := [(.ref eB), (.ref eA)]) (rest := []) (lenOf pd_4 rfl) rfl (by show 2 * 0 + _ ≤ _; exact Nat.le_of_eq rfl) (hb hby at_93) (fun _ _ => ⟨rfl, rfl, (by decide : 28 + 0 ≤ _), (by decide : 92 + 0 ≤ _)⟩)
  dsimp only [Pt.U, Pt.locs, Pt.cells, Pt.slots] at X93 l93 y93 z93 st93 hQ93
  subst l93
  rw [y93, z93] at X93
  obtain ⟨rfl, N93q, W93⟩ := hQ93
  have N93 := Fr.app N80 N93q
  refine oPreE (fun _ q => st93.trans q) ?_
  have Z93 : n0 ≤ T93.heap.size := by rw [W93.size]; exact Z80
  have E_eP_93 := E_eP_80.wr W93
  have F_eP_93 := F_eP_80.other W93 (Or.inl n_eP_eA)
  have G_eP_93 := G_eP_80.other W93 (Or.inl n_eP_eA)
  have E_eA_93 := E_eA_80.wr W93
  have F_eA_93 := F_eA_80.other W93 (Or.inr (slot_ne (Or.inl (hw _ (List.mem_of_getElem? (i := 45) rfl))) (Or.inl (hw _ (List.mem_of_getElem? (i := 66) rfl))) (by decide) (t := (.object "org/provenote/core/xml/XmlElement")) (t' := (.object "org/provenote/core/xml/XmlElement")) (by decide) (by decide)))
  have G_eA_93 := G_eA_80.same W93
  have E_eB_93 := E_eB_80.wr W93
  have F_eB_93 := F_eB_80.other W93 (Or.inl n_eA_eB.symm)
  have G_eB_93 := G_eB_80.other W93 (Or.inl n_eA_eB.symm)
  have E_eC_93 := E_eC_80.wr W93
  have F_eC_93 := F_eC_80.other W93 (Or.inl n_eA_eC.symm)
  have G_eC_93 := G_eC_80.other W93 (Or.inl n_eA_eC.symm)
  have S_NC_93 := S_NC_80.wr W93
  have L_C_93 : oLs Z T93.heap wC [] := oLs_wr L_C_80 W93 E_eA_80 (hw _ (List.mem_of_getElem? (i := 1) rfl)) (hw _ (List.mem_of_getElem? (i := 71) rfl))
  show oEndE p e s below T93 (mkF m 96 #[.val (.int p1), .val (.int p2), .val (.int (2 : Int32)), .val (.ref eP), .val (.ref eA), .val (.ref eB), .val (.ref eC), .unset, .unset] []) n0 h 32 102 (some (.int 1))
  refine oPreE (fun _ => XS.iloadN X93.here hx rfl (hb hby at_96) rfl) ?_
  show oEndE p e s below T93 (mkF m 97 #[.val (.int p1), .val (.int p2), .val (.int (2 : Int32)), .val (.ref eP), .val (.ref eA), .val (.ref eB), .val (.ref eC), .unset, .unset] [(.int (2 : Int32))]) n0 h 32 102 (some (.int 1))
  refine oPreE (fun _ => XS.iconst X93.here hx rfl (hb hby at_97)) ?_
  show oEndE p e s below T93 (mkF m 98 #[.val (.int p1), .val (.int p2), .val (.int (2 : Int32)), .val (.ref eP), .val (.ref eA), .val (.ref eB), .val (.ref eC), .unset, .unset] [(.int (3 : Int32)), (.int (2 : Int32))]) n0 h 32 102 (some (.int 1))
  refine oPreE (fun _ => XS.icmpYes X93.here hx rfl (pc0 := 98) (pc' := 109) rfl (hb hby at_98) rfl (((tlt (by decide : (2 : Int32) < 3)).1)) (by decide) (by decide)) ?_
  show oEndE p e s below T93 (mkF m 109 #[.val (.int p1), .val (.int p2), .val (.int (2 : Int32)), .val (.ref eP), .val (.ref eA), .val (.ref eB), .val (.ref eC), .unset, .unset] []) n0 h 32 102 (some (.int 1))
  refine oPreE (fun _ => XS.aloadN X93.here hx rfl (hb hby at_109) rfl rfl) ?_
  show oEndE p e s below T93 (mkF m 110 #[.val (.int p1), .val (.int p2), .val (.int (2 : Int32)), .val (.ref eP), .val (.ref eA), .val (.ref eB), .val (.ref eC), .unset, .unset] [(.ref eP)]) n0 h 32 102 (some (.int 1))
  obtain ⟨cq110, kq110, qa110, qb110, qc110⟩ := isOf hZ rfl E_eP_93
  obtain ⟨_, _, ⟨T110, L110, k110, n110⟩, -, X110, ⟨Lc110, hQ110, l110, y110, z110⟩, st110⟩ := X93.virtualBack hx (y := (⟨"org/provenote/core/xml/XmlElement", "children", "()Ljava/util/List;"⟩ : MethodName)) (z := (⟨"org/provenote/core/xml/XmlElement", "children", "()Ljava/util/List;"⟩ : MethodName)) hown (mvT hZ (hw _ (List.mem_of_getElem? (i := 35) rfl))) (mvT hZ (hw _ (List.mem_of_getElem? (i := 36) rfl))) (notFace_of_selects (args := #[]) (mvT hZ (hw _ (List.mem_of_getElem? (i := 38) rfl)))) (mvT hZ (hw _ (List.mem_of_getElem? (i := 38) rfl))) (mvT hZ (hw _ (List.mem_of_getElem? (i := 37) rfl))) (by decide) (backOf (W := 0) (oRC2 l Z a0 hw [] eP eA eB T93.heap n0 Z93 E_eP_93 F_eP_93 E_eA_93 G_eA_93 E_eB_93 G_eB_93 S_NC_93 L_C_93) hZ (hw _ (List.mem_of_getElem? (i := 39) rfl)) (hw _ (List.mem_of_getElem? (i := 2) rfl)) (by decide) (by decide)) qa110 qc110 (g := (mkF m 110 #[.val (.int p1), .val (.int p2), .val (.int (2 : Int32)), .val (.ref eP), .val (.ref eA), .val (.ref eB), .val (.ref eC), .unset, .unset] [(.ref eP)])) rfl (by rw [hml]; rfl) (Steps.refl _) (argsL := []) (rest := []) (lenOf pd_2 rfl) rfl (by show 2 * 0 + _ ≤ _; exact Nat.le_of_eq rfl) (hb hby at_110) (fun _ _ => ⟨rfl, rfl, (by decide : 28 + 2 ≤ _), (by decide : 92 + 5 ≤ _)⟩)
  dsimp only [Pt.U, Pt.locs, Pt.cells, Pt.slots] at X110 l110 y110 z110 st110 hQ110
  subst l110
  rw [y110, z110] at X110
  obtain ⟨⟨E1, rfl, K110, Ls110⟩, N110q⟩ := hQ110
  have N110 := Fr.app N93 N110q
  refine oPreE (fun _ q => st110.trans q) ?_
  have Z110 : n0 ≤ T110.heap.size := Nat.le_trans Z93 K110.1
  show oEndE p e s below T110 (mkF m 113 #[.val (.int p1), .val (.int p2), .val (.int (2 : Int32)), .val (.ref eP), .val (.ref eA), .val (.ref eB), .val (.ref eC), .unset, .unset] [(.ref E1)]) n0 h 32 102 (some (.int 1))
  refine oPreE (fun _ => XS.astore X110.here hx rfl (hb hby at_113) rfl rfl (l' := #[.val (.int p1), .val (.int p2), .val (.int (2 : Int32)), .val (.ref eP), .val (.ref eA), .val (.ref eB), .val (.ref eC), .val (.ref E1), .unset]) rfl) ?_
  show oEndE p e s below T110 (mkF m 115 #[.val (.int p1), .val (.int p2), .val (.int (2 : Int32)), .val (.ref eP), .val (.ref eA), .val (.ref eB), .val (.ref eC), .val (.ref E1), .unset] []) n0 h 32 102 (some (.int 1))
  refine oPreE (fun _ => XS.aload X110.here hx rfl (hb hby at_115) rfl rfl) ?_
  obtain ⟨b1, cl1, r1, r2, r3, r4, r5⟩ := Ls110
  have r4' : cl1.slots.size = (2 : Int32).toNatClampNeg := r4
  have e_at := (rfl : T110.heap = T110.heap)
  show oEndE p e s below T110 (mkF m 117 #[.val (.int p1), .val (.int p2), .val (.int (2 : Int32)), .val (.ref eP), .val (.ref eA), .val (.ref eB), .val (.ref eC), .val (.ref E1), .unset] [(.ref E1)]) n0 h 32 102 (some (.int 1))
  obtain ⟨cq117, kq117, qa117, qb117, qc117⟩ := isOf hZ rfl r1
  obtain ⟨_, _, ⟨T117, L117, k117, n117⟩, -, X117, ⟨Lc117, hQ117, l117, y117, z117⟩, st117⟩ := X110.interfaceBack hx (xi := (⟨"java/util/List", "size", "()I"⟩ : MethodName)) (y := (⟨"org/provenote/core/xml/XmlElement$Elements", "size", "()I"⟩ : MethodName)) hown (mvT hZ (hw _ (List.mem_of_getElem? (i := 48) rfl))) (mvT hZ (hw _ (List.mem_of_getElem? (i := 49) rfl))) (mvT hZ (hw _ (List.mem_of_getElem? (i := 50) rfl))) (mvT hZ (hw _ (List.mem_of_getElem? (i := 51) rfl))) (mvT hZ (hw _ (List.mem_of_getElem? (i := 52) rfl))) (mvT hZ (hw _ (List.mem_of_getElem? (i := 53) rfl))) (mvT hZ (hw _ (List.mem_of_getElem? (i := 54) rfl))) (mvT hZ (hw _ (List.mem_of_getElem? (i := 55) rfl))) (by decide) (backOf (W := 0) (rm5 l Z a0 hw [] E1 b1 cl1 2 T110.heap n0 Z110 r2 r3 r4' (by decide)) hZ (hw _ (List.mem_of_getElem? (i := 57) rfl)) (hw _ (List.mem_of_getElem? (i := 56) rfl)) (by decide) (by decide)) qa117 qb117 qc117 (g := (mkF m 117 #[.val (.int p1), .val (.int p2), .val (.int (2 : Int32)), .val (.ref eP), .val (.ref eA), .val (.ref eB), .val (.ref eC), .val (.ref E1), .unset] [(.ref E1)])) rfl (by rw [hml]; rfl) (Steps.refl _) (argsL := []) (rest := []) (lenOf pd_5 rfl) rfl (by show 2 * 0 + _ ≤ _; exact Nat.le_of_eq rfl) (hb hby at_117) (fun _ _ => ⟨rfl, rfl, (by decide : 30 + 0 ≤ _), (by decide : 97 + 0 ≤ _)⟩)
  dsimp only [Pt.U, Pt.locs, Pt.cells, Pt.slots] at X117 l117 y117 z117 st117 hQ117
  subst l117
  rw [y117, z117] at X117
  obtain ⟨rfl, N117q, e117⟩ := hQ117
  have N117 := Fr.app N110 N117q
  refine oPreE (fun _ q => st117.trans q) ?_
  show oEndE p e s below T117 (mkF m 122 #[.val (.int p1), .val (.int p2), .val (.int (2 : Int32)), .val (.ref eP), .val (.ref eA), .val (.ref eB), .val (.ref eC), .val (.ref E1), .unset] [(.int (2 : Int32))]) n0 h 32 102 (some (.int 1))
  refine oPreE (fun _ => XS.iloadN X117.here hx rfl (hb hby at_122) rfl) ?_
  show oEndE p e s below T117 (mkF m 123 #[.val (.int p1), .val (.int p2), .val (.int (2 : Int32)), .val (.ref eP), .val (.ref eA), .val (.ref eB), .val (.ref eC), .val (.ref E1), .unset] [(.int (2 : Int32)), (.int (2 : Int32))]) n0 h 32 102 (some (.int 1))
  refine oPreE (fun _ => XS.icmpYes X117.here hx rfl (pc0 := 123) (pc' := 128) rfl (hb hby at_123) rfl (((teq (rfl : (2 : Int32) = 2)).1)) (by decide) (by decide)) ?_
  show oEndE p e s below T117 (mkF m 128 #[.val (.int p1), .val (.int p2), .val (.int (2 : Int32)), .val (.ref eP), .val (.ref eA), .val (.ref eB), .val (.ref eC), .val (.ref E1), .unset] []) n0 h 32 102 (some (.int 1))
  refine oPreE (fun _ => XS.iloadN X117.here hx rfl (hb hby at_128) rfl) ?_
  show oEndE p e s below T117 (mkF m 129 #[.val (.int p1), .val (.int p2), .val (.int (2 : Int32)), .val (.ref eP), .val (.ref eA), .val (.ref eB), .val (.ref eC), .val (.ref E1), .unset] [(.int (2 : Int32))]) n0 h 32 102 (some (.int 1))
  refine oPreE (fun _ => XS.iconst X117.here hx rfl (hb hby at_129)) ?_
  show oEndE p e s below T117 (mkF m 130 #[.val (.int p1), .val (.int p2), .val (.int (2 : Int32)), .val (.ref eP), .val (.ref eA), .val (.ref eB), .val (.ref eC), .val (.ref E1), .unset] [(.int (1 : Int32)), (.int (2 : Int32))]) n0 h 32 102 (some (.int 1))
  refine oPreE (fun _ => XS.icmpNo X117.here hx rfl (hb hby at_130) rfl (((flt (by decide : ¬ (2 : Int32) < 1)).1))) ?_
  show oEndE p e s below T117 (mkF m 133 #[.val (.int p1), .val (.int p2), .val (.int (2 : Int32)), .val (.ref eP), .val (.ref eA), .val (.ref eB), .val (.ref eC), .val (.ref E1), .unset] []) n0 h 32 102 (some (.int 1))
  refine oPreE (fun _ => XS.aload X117.here hx rfl (hb hby at_133) rfl rfl) ?_
  show oEndE p e s below T117 (mkF m 135 #[.val (.int p1), .val (.int p2), .val (.int (2 : Int32)), .val (.ref eP), .val (.ref eA), .val (.ref eB), .val (.ref eC), .val (.ref E1), .unset] [(.ref E1)]) n0 h 32 102 (some (.int 1))
  refine oPreE (fun _ => XS.iconst X117.here hx rfl (hb hby at_135)) ?_
  show oEndE p e s below T117 (mkF m 136 #[.val (.int p1), .val (.int p2), .val (.int (2 : Int32)), .val (.ref eP), .val (.ref eA), .val (.ref eB), .val (.ref eC), .val (.ref E1), .unset] [(.int (0 : Int32)), (.ref E1)]) n0 h 32 102 (some (.int 1))
  obtain ⟨cq136, kq136, qa136, qb136, qc136⟩ := isOf hZ e117 r1
  obtain ⟨_, _, ⟨T136, L136, k136, n136⟩, -, X136, ⟨Lc136, hQ136, l136, y136, z136⟩, st136⟩ := X117.interfaceBack hx (xi := (⟨"java/util/List", "get", "(I)Ljava/lang/Object;"⟩ : MethodName)) (y := (⟨"org/provenote/core/xml/XmlElement$Elements", "get", "(I)Ljava/lang/Object;"⟩ : MethodName)) hown (mvT hZ (hw _ (List.mem_of_getElem? (i := 89) rfl))) (mvT hZ (hw _ (List.mem_of_getElem? (i := 90) rfl))) (mvT hZ (hw _ (List.mem_of_getElem? (i := 91) rfl))) (mvT hZ (hw _ (List.mem_of_getElem? (i := 92) rfl))) (mvT hZ (hw _ (List.mem_of_getElem? (i := 93) rfl))) (mvT hZ (hw _ (List.mem_of_getElem? (i := 94) rfl))) (mvT hZ (hw _ (List.mem_of_getElem? (i := 95) rfl))) (mvT hZ (hw _ (List.mem_of_getElem? (i := 55) rfl))) (by decide) (backOf (W := 0) (rm10 l Z a0 hw [] E1 0 b1 eA cl1 T110.heap n0 Z110 r1 r2 r3 (inb_of r4' ⟨by decide, by decide⟩) (r5 0 (by simp))) hZ (hw _ (List.mem_of_getElem? (i := 96) rfl)) (hw _ (List.mem_of_getElem? (i := 56) rfl)) (by decide) (by decide)) qa136 qb136 qc136 (g := (mkF m 136 #[.val (.int p1), .val (.int p2), .val (.int (2 : Int32)), .val (.ref eP), .val (.ref eA), .val (.ref eB), .val (.ref eC), .val (.ref E1), .unset] [(.int (0 : Int32)), (.ref E1)])) rfl (by rw [hml]; rfl) (Steps.refl _) (argsL := [(.int (0 : Int32))]) (rest := []) (lenOf pd_6 rfl) rfl (by show 2 * 0 + _ ≤ _; exact Nat.le_of_eq rfl) (hb hby at_136) (fun _ _ => ⟨rfl, e117, (by decide : 30 + 0 ≤ _), (by decide : 97 + 0 ≤ _)⟩)
  dsimp only [Pt.U, Pt.locs, Pt.cells, Pt.slots] at X136 l136 y136 z136 st136 hQ136
  subst l136
  rw [y136, z136] at X136
  obtain ⟨rfl, N136q, e136⟩ := hQ136
  have N136 := Fr.app N117 N136q
  refine oPreE (fun _ q => st136.trans q) ?_
  show oEndE p e s below T136 (mkF m 141 #[.val (.int p1), .val (.int p2), .val (.int (2 : Int32)), .val (.ref eP), .val (.ref eA), .val (.ref eB), .val (.ref eC), .val (.ref E1), .unset] [(.ref eA)]) n0 h 32 102 (some (.int 1))
  refine oPreE (fun _ => XS.aload X136.here hx rfl (hb hby at_141) rfl rfl) ?_
  show oEndE p e s below T136 (mkF m 143 #[.val (.int p1), .val (.int p2), .val (.int (2 : Int32)), .val (.ref eP), .val (.ref eA), .val (.ref eB), .val (.ref eC), .val (.ref E1), .unset] [(.ref eA), (.ref eA)]) n0 h 32 102 (some (.int 1))
  refine oPreE (fun _ => Jvm.RoadKit.acmp (g := (mkF m 143 #[.val (.int p1), .val (.int p2), .val (.int (2 : Int32)), .val (.ref eP), .val (.ref eA), .val (.ref eB), .val (.ref eC), .val (.ref E1), .unset] [(.ref eA), (.ref eA)])) X136 hx rfl rfl rfl (pc0 := 143) (pc' := 148) (same := true) rfl (hb hby at_143) rfl (decide_eq_true rfl) (by decide) (by decide)) ?_
  show oEndE p e s below T136 (mkF m 148 #[.val (.int p1), .val (.int p2), .val (.int (2 : Int32)), .val (.ref eP), .val (.ref eA), .val (.ref eB), .val (.ref eC), .val (.ref E1), .unset] []) n0 h 32 102 (some (.int 1))
  refine oPreE (fun _ => XS.iloadN X136.here hx rfl (hb hby at_148) rfl) ?_
  show oEndE p e s below T136 (mkF m 149 #[.val (.int p1), .val (.int p2), .val (.int (2 : Int32)), .val (.ref eP), .val (.ref eA), .val (.ref eB), .val (.ref eC), .val (.ref E1), .unset] [(.int (2 : Int32))]) n0 h 32 102 (some (.int 1))
  refine oPreE (fun _ => XS.iconst X136.here hx rfl (hb hby at_149)) ?_
  show oEndE p e s below T136 (mkF m 150 #[.val (.int p1), .val (.int p2), .val (.int (2 : Int32)), .val (.ref eP), .val (.ref eA), .val (.ref eB), .val (.ref eC), .val (.ref E1), .unset] [(.int (2 : Int32)), (.int (2 : Int32))]) n0 h 32 102 (some (.int 1))
  refine oPreE (fun _ => XS.icmpNo X136.here hx rfl (hb hby at_150) rfl (((flt (by decide : ¬ (2 : Int32) < 2)).1))) ?_
  show oEndE p e s below T136 (mkF m 153 #[.val (.int p1), .val (.int p2), .val (.int (2 : Int32)), .val (.ref eP), .val (.ref eA), .val (.ref eB), .val (.ref eC), .val (.ref E1), .unset] []) n0 h 32 102 (some (.int 1))
  refine oPreE (fun _ => XS.aload X136.here hx rfl (hb hby at_153) rfl rfl) ?_
  show oEndE p e s below T136 (mkF m 155 #[.val (.int p1), .val (.int p2), .val (.int (2 : Int32)), .val (.ref eP), .val (.ref eA), .val (.ref eB), .val (.ref eC), .val (.ref E1), .unset] [(.ref E1)]) n0 h 32 102 (some (.int 1))
  refine oPreE (fun _ => XS.iconst X136.here hx rfl (hb hby at_155)) ?_
  show oEndE p e s below T136 (mkF m 156 #[.val (.int p1), .val (.int p2), .val (.int (2 : Int32)), .val (.ref eP), .val (.ref eA), .val (.ref eB), .val (.ref eC), .val (.ref E1), .unset] [(.int (1 : Int32)), (.ref E1)]) n0 h 32 102 (some (.int 1))
  obtain ⟨cq156, kq156, qa156, qb156, qc156⟩ := isOf hZ e136 r1
  obtain ⟨_, _, ⟨T156, L156, k156, n156⟩, -, X156, ⟨Lc156, hQ156, l156, y156, z156⟩, st156⟩ := X136.interfaceBack hx (xi := (⟨"java/util/List", "get", "(I)Ljava/lang/Object;"⟩ : MethodName)) (y := (⟨"org/provenote/core/xml/XmlElement$Elements", "get", "(I)Ljava/lang/Object;"⟩ : MethodName)) hown (mvT hZ (hw _ (List.mem_of_getElem? (i := 89) rfl))) (mvT hZ (hw _ (List.mem_of_getElem? (i := 90) rfl))) (mvT hZ (hw _ (List.mem_of_getElem? (i := 91) rfl))) (mvT hZ (hw _ (List.mem_of_getElem? (i := 92) rfl))) (mvT hZ (hw _ (List.mem_of_getElem? (i := 93) rfl))) (mvT hZ (hw _ (List.mem_of_getElem? (i := 94) rfl))) (mvT hZ (hw _ (List.mem_of_getElem? (i := 95) rfl))) (mvT hZ (hw _ (List.mem_of_getElem? (i := 55) rfl))) (by decide) (backOf (W := 0) (rm10 l Z a0 hw [] E1 1 b1 eB cl1 T110.heap n0 Z110 r1 r2 r3 (inb_of r4' ⟨by decide, by decide⟩) (r5 1 (by simp))) hZ (hw _ (List.mem_of_getElem? (i := 96) rfl)) (hw _ (List.mem_of_getElem? (i := 56) rfl)) (by decide) (by decide)) qa156 qb156 qc156 (g := (mkF m 156 #[.val (.int p1), .val (.int p2), .val (.int (2 : Int32)), .val (.ref eP), .val (.ref eA), .val (.ref eB), .val (.ref eC), .val (.ref E1), .unset] [(.int (1 : Int32)), (.ref E1)])) rfl (by rw [hml]; rfl) (Steps.refl _) (argsL := [(.int (1 : Int32))]) (rest := []) (lenOf pd_6 rfl) rfl (by show 2 * 0 + _ ≤ _; exact Nat.le_of_eq rfl) (hb hby at_156) (fun _ _ => ⟨rfl, e136, (by decide : 30 + 0 ≤ _), (by decide : 97 + 0 ≤ _)⟩)
  dsimp only [Pt.U, Pt.locs, Pt.cells, Pt.slots] at X156 l156 y156 z156 st156 hQ156
  subst l156
  rw [y156, z156] at X156
  obtain ⟨rfl, N156q, e156⟩ := hQ156
  have N156 := Fr.app N136 N156q
  refine oPreE (fun _ q => st156.trans q) ?_
  show oEndE p e s below T156 (mkF m 161 #[.val (.int p1), .val (.int p2), .val (.int (2 : Int32)), .val (.ref eP), .val (.ref eA), .val (.ref eB), .val (.ref eC), .val (.ref E1), .unset] [(.ref eB)]) n0 h 32 102 (some (.int 1))
  refine oPreE (fun _ => XS.aload X156.here hx rfl (hb hby at_161) rfl rfl) ?_
  show oEndE p e s below T156 (mkF m 163 #[.val (.int p1), .val (.int p2), .val (.int (2 : Int32)), .val (.ref eP), .val (.ref eA), .val (.ref eB), .val (.ref eC), .val (.ref E1), .unset] [(.ref eB), (.ref eB)]) n0 h 32 102 (some (.int 1))
  refine oPreE (fun _ => Jvm.RoadKit.acmp (g := (mkF m 163 #[.val (.int p1), .val (.int p2), .val (.int (2 : Int32)), .val (.ref eP), .val (.ref eA), .val (.ref eB), .val (.ref eC), .val (.ref E1), .unset] [(.ref eB), (.ref eB)])) X156 hx rfl rfl rfl (pc0 := 163) (pc' := 168) (same := true) rfl (hb hby at_163) rfl (decide_eq_true rfl) (by decide) (by decide)) ?_
  show oEndE p e s below T156 (mkF m 168 #[.val (.int p1), .val (.int p2), .val (.int (2 : Int32)), .val (.ref eP), .val (.ref eA), .val (.ref eB), .val (.ref eC), .val (.ref E1), .unset] []) n0 h 32 102 (some (.int 1))
  refine oPreE (fun _ => XS.iloadN X156.here hx rfl (hb hby at_168) rfl) ?_
  show oEndE p e s below T156 (mkF m 169 #[.val (.int p1), .val (.int p2), .val (.int (2 : Int32)), .val (.ref eP), .val (.ref eA), .val (.ref eB), .val (.ref eC), .val (.ref E1), .unset] [(.int (2 : Int32))]) n0 h 32 102 (some (.int 1))
  refine oPreE (fun _ => XS.iconst X156.here hx rfl (hb hby at_169)) ?_
  show oEndE p e s below T156 (mkF m 170 #[.val (.int p1), .val (.int p2), .val (.int (2 : Int32)), .val (.ref eP), .val (.ref eA), .val (.ref eB), .val (.ref eC), .val (.ref E1), .unset] [(.int (3 : Int32)), (.int (2 : Int32))]) n0 h 32 102 (some (.int 1))
  refine oPreE (fun _ => XS.icmpYes X156.here hx rfl (pc0 := 170) (pc' := 188) rfl (hb hby at_170) rfl (((tlt (by decide : (2 : Int32) < 3)).1)) (by decide) (by decide)) ?_
  show oEndE p e s below T156 (mkF m 188 #[.val (.int p1), .val (.int p2), .val (.int (2 : Int32)), .val (.ref eP), .val (.ref eA), .val (.ref eB), .val (.ref eC), .val (.ref E1), .unset] []) n0 h 32 102 (some (.int 1))
  refine oPreE (fun _ => XS.iloadN X156.here hx rfl (hb hby at_188) rfl) ?_
  show oEndE p e s below T156 (mkF m 189 #[.val (.int p1), .val (.int p2), .val (.int (2 : Int32)), .val (.ref eP), .val (.ref eA), .val (.ref eB), .val (.ref eC), .val (.ref E1), .unset] [(.int (2 : Int32))]) n0 h 32 102 (some (.int 1))
  refine oPreE (fun _ => XS.iconst X156.here hx rfl (hb hby at_189)) ?_
  show oEndE p e s below T156 (mkF m 190 #[.val (.int p1), .val (.int p2), .val (.int (2 : Int32)), .val (.ref eP), .val (.ref eA), .val (.ref eB), .val (.ref eC), .val (.ref E1), .unset] [(.int (3 : Int32)), (.int (2 : Int32))]) n0 h 32 102 (some (.int 1))
  refine oPreE (fun _ => XS.icmpYes X156.here hx rfl (pc0 := 190) (pc' := 198) rfl (hb hby at_190) rfl (((feq (by decide : ¬ (2 : Int32) = 3)).2)) (by decide) (by decide)) ?_
  show oEndE p e s below T156 (mkF m 198 #[.val (.int p1), .val (.int p2), .val (.int (2 : Int32)), .val (.ref eP), .val (.ref eA), .val (.ref eB), .val (.ref eC), .val (.ref E1), .unset] []) n0 h 32 102 (some (.int 1))
  refine oPreE (fun _ => XS.iloadN X156.here hx rfl (hb hby at_198) rfl) ?_
  show oEndE p e s below T156 (mkF m 199 #[.val (.int p1), .val (.int p2), .val (.int (2 : Int32)), .val (.ref eP), .val (.ref eA), .val (.ref eB), .val (.ref eC), .val (.ref E1), .unset] [(.int (2 : Int32))]) n0 h 32 102 (some (.int 1))
  refine oPreE (fun _ => XS.iconst X156.here hx rfl (hb hby at_199)) ?_
  show oEndE p e s below T156 (mkF m 200 #[.val (.int p1), .val (.int p2), .val (.int (2 : Int32)), .val (.ref eP), .val (.ref eA), .val (.ref eB), .val (.ref eC), .val (.ref E1), .unset] [(.int (2 : Int32)), (.int (2 : Int32))]) n0 h 32 102 (some (.int 1))
  refine oPreE (fun _ => XS.icmpNo X156.here hx rfl (hb hby at_200) rfl (((teq (rfl : (2 : Int32) = 2)).2))) ?_
  show oEndE p e s below T156 (mkF m 203 #[.val (.int p1), .val (.int p2), .val (.int (2 : Int32)), .val (.ref eP), .val (.ref eA), .val (.ref eB), .val (.ref eC), .val (.ref E1), .unset] []) n0 h 32 102 (some (.int 1))
  refine oPreE (fun _ => XS.aload X156.here hx rfl (hb hby at_203) rfl rfl) ?_
  show oEndE p e s below T156 (mkF m 205 #[.val (.int p1), .val (.int p2), .val (.int (2 : Int32)), .val (.ref eP), .val (.ref eA), .val (.ref eB), .val (.ref eC), .val (.ref E1), .unset] [(.ref eB)]) n0 h 32 102 (some (.int 1))
  refine oPreE (fun _ => XS.goto X156.here hx rfl (pc0 := 205) (pc' := 210) rfl (hb hby at_205) (by decide) (by decide)) ?_
  show oEndE p e s below T156 (mkF m 210 #[.val (.int p1), .val (.int p2), .val (.int (2 : Int32)), .val (.ref eP), .val (.ref eA), .val (.ref eB), .val (.ref eC), .val (.ref E1), .unset] [(.ref eB)]) n0 h 32 102 (some (.int 1))
  refine oPreE (fun _ => XS.astore X156.here hx rfl (hb hby at_210) rfl rfl (l' := #[.val (.int p1), .val (.int p2), .val (.int (2 : Int32)), .val (.ref eP), .val (.ref eA), .val (.ref eB), .val (.ref eC), .val (.ref E1), .val (.ref eB)]) rfl) ?_
  show oEndE p e s below T156 (mkF m 212 #[.val (.int p1), .val (.int p2), .val (.int (2 : Int32)), .val (.ref eP), .val (.ref eA), .val (.ref eB), .val (.ref eC), .val (.ref E1), .val (.ref eB)] []) n0 h 32 102 (some (.int 1))
  refine oPreE (fun _ => XS.aload X156.here hx rfl (hb hby at_212) rfl rfl) ?_
  have EL1 := E_eB_93.keep K110
  have FL1 := F_eB_93.keep K110 (by simp)
  have SL1 := oSta_keep K110 S_NC_93
  have LL1 := oLs_keep K110 L_C_93
  show oEndE p e s below T156 (mkF m 214 #[.val (.int p1), .val (.int p2), .val (.int (2 : Int32)), .val (.ref eP), .val (.ref eA), .val (.ref eB), .val (.ref eC), .val (.ref E1), .val (.ref eB)] [(.ref eB)]) n0 h 32 102 (some (.int 1))
  obtain ⟨cq214, kq214, qa214, qb214, qc214⟩ := isOf hZ e156 EL1
  obtain ⟨_, _, ⟨T214, L214, k214, n214⟩, -, X214, ⟨Lc214, hQ214, l214, y214, z214⟩, st214⟩ := X156.virtualBack hx (y := (⟨"org/provenote/core/xml/XmlElement", "children", "()Ljava/util/List;"⟩ : MethodName)) (z := (⟨"org/provenote/core/xml/XmlElement", "children", "()Ljava/util/List;"⟩ : MethodName)) hown (mvT hZ (hw _ (List.mem_of_getElem? (i := 35) rfl))) (mvT hZ (hw _ (List.mem_of_getElem? (i := 36) rfl))) (notFace_of_selects (args := #[]) (mvT hZ (hw _ (List.mem_of_getElem? (i := 38) rfl)))) (mvT hZ (hw _ (List.mem_of_getElem? (i := 38) rfl))) (mvT hZ (hw _ (List.mem_of_getElem? (i := 37) rfl))) (by decide) (backOf (W := 0) (oRC0 l Z a0 hw [] eB T110.heap n0 Z110 EL1 FL1 SL1 LL1) hZ (hw _ (List.mem_of_getElem? (i := 39) rfl)) (hw _ (List.mem_of_getElem? (i := 2) rfl)) (by decide) (by decide)) qa214 qc214 (g := (mkF m 214 #[.val (.int p1), .val (.int p2), .val (.int (2 : Int32)), .val (.ref eP), .val (.ref eA), .val (.ref eB), .val (.ref eC), .val (.ref E1), .val (.ref eB)] [(.ref eB)])) rfl (by rw [hml]; rfl) (Steps.refl _) (argsL := []) (rest := []) (lenOf pd_2 rfl) rfl (by show 2 * 0 + _ ≤ _; exact Nat.le_of_eq rfl) (hb hby at_214) (fun _ _ => ⟨rfl, e156, (by decide : 30 + 2 ≤ _), (by decide : 97 + 5 ≤ _)⟩)
  dsimp only [Pt.U, Pt.locs, Pt.cells, Pt.slots] at X214 l214 y214 z214 st214 hQ214
  subst l214
  rw [y214, z214] at X214
  obtain ⟨⟨E2, rfl, K214, Ls214⟩, N214q⟩ := hQ214
  have N214 := Fr.app N156 N214q
  refine oPreE (fun _ q => st214.trans q) ?_
  have Z214 : n0 ≤ T214.heap.size := Nat.le_trans Z110 K214.1
  clear r1 r2 r3 r4 r5
  obtain ⟨b2, cl2, r1, r2, r3, r4, r5⟩ := Ls214
  have r4' : cl2.slots.size = (0 : Int32).toNatClampNeg := r4
  show oEndE p e s below T214 (mkF m 217 #[.val (.int p1), .val (.int p2), .val (.int (2 : Int32)), .val (.ref eP), .val (.ref eA), .val (.ref eB), .val (.ref eC), .val (.ref E1), .val (.ref eB)] [(.ref E2)]) n0 h 32 102 (some (.int 1))
  obtain ⟨cq217, kq217, qa217, qb217, qc217⟩ := isOf hZ rfl r1
  obtain ⟨_, _, ⟨T217, L217, k217, n217⟩, -, X217, ⟨Lc217, hQ217, l217, y217, z217⟩, st217⟩ := X214.interfaceBack hx (xi := (⟨"java/util/List", "size", "()I"⟩ : MethodName)) (y := (⟨"org/provenote/core/xml/XmlElement$Elements", "size", "()I"⟩ : MethodName)) hown (mvT hZ (hw _ (List.mem_of_getElem? (i := 48) rfl))) (mvT hZ (hw _ (List.mem_of_getElem? (i := 49) rfl))) (mvT hZ (hw _ (List.mem_of_getElem? (i := 50) rfl))) (mvT hZ (hw _ (List.mem_of_getElem? (i := 51) rfl))) (mvT hZ (hw _ (List.mem_of_getElem? (i := 52) rfl))) (mvT hZ (hw _ (List.mem_of_getElem? (i := 53) rfl))) (mvT hZ (hw _ (List.mem_of_getElem? (i := 54) rfl))) (mvT hZ (hw _ (List.mem_of_getElem? (i := 55) rfl))) (by decide) (backOf (W := 0) (rm5 l Z a0 hw [] E2 b2 cl2 0 T214.heap n0 Z214 r2 r3 r4' (by decide)) hZ (hw _ (List.mem_of_getElem? (i := 57) rfl)) (hw _ (List.mem_of_getElem? (i := 56) rfl)) (by decide) (by decide)) qa217 qb217 qc217 (g := (mkF m 217 #[.val (.int p1), .val (.int p2), .val (.int (2 : Int32)), .val (.ref eP), .val (.ref eA), .val (.ref eB), .val (.ref eC), .val (.ref E1), .val (.ref eB)] [(.ref E2)])) rfl (by rw [hml]; rfl) (Steps.refl _) (argsL := []) (rest := []) (lenOf pd_5 rfl) rfl (by show 2 * 0 + _ ≤ _; exact Nat.le_of_eq rfl) (hb hby at_217) (fun _ _ => ⟨rfl, rfl, (by decide : 32 + 0 ≤ _), (by decide : 102 + 0 ≤ _)⟩)
  dsimp only [Pt.U, Pt.locs, Pt.cells, Pt.slots] at X217 l217 y217 z217 st217 hQ217
  subst l217
  rw [y217, z217] at X217
  obtain ⟨rfl, N217q, e217⟩ := hQ217
  have N217 := Fr.app N214 N217q
  refine oPreE (fun _ q => st217.trans q) ?_
  show oEndE p e s below T217 (mkF m 222 #[.val (.int p1), .val (.int p2), .val (.int (2 : Int32)), .val (.ref eP), .val (.ref eA), .val (.ref eB), .val (.ref eC), .val (.ref E1), .val (.ref eB)] [(.int (0 : Int32))]) n0 h 32 102 (some (.int 1))
  refine oPreE (fun _ => XS.ifNo X217.here hx rfl (hb hby at_222) rfl ((if0 _ _).trans ((teq (rfl : (0 : Int32) = 0)).2))) ?_
  show oEndE p e s below T217 (mkF m 225 #[.val (.int p1), .val (.int p2), .val (.int (2 : Int32)), .val (.ref eP), .val (.ref eA), .val (.ref eB), .val (.ref eC), .val (.ref E1), .val (.ref eB)] []) n0 h 32 102 (some (.int 1))
  refine oPreE (fun _ => XS.iconst X217.here hx rfl (hb hby at_225)) ?_
  show oEndE p e s below T217 (mkF m 226 #[.val (.int p1), .val (.int p2), .val (.int (2 : Int32)), .val (.ref eP), .val (.ref eA), .val (.ref eB), .val (.ref eC), .val (.ref E1), .val (.ref eB)] [(.int (1 : Int32))]) n0 h 32 102 (some (.int 1))
  refine oPreE (fun _ => XS.goto X217.here hx rfl (pc0 := 226) (pc' := 230) rfl (hb hby at_226) (by decide) (by decide)) ?_
  show oEndE p e s below T217 (mkF m 230 #[.val (.int p1), .val (.int p2), .val (.int (2 : Int32)), .val (.ref eP), .val (.ref eA), .val (.ref eB), .val (.ref eC), .val (.ref E1), .val (.ref eB)] [(.int (1 : Int32))]) n0 h 32 102 (some (.int 1))
  obtain ⟨fs, hr, hrun, hended, hW, hsame⟩ := X217.leave (v := some (.int 1)) (fun h => by rw [hret] at h; cases h) hlk
  have hsz : T93.heap.size = h.size := by rw [W93.size, W80.size]
  exact ⟨_, Nat.le_trans (Nat.le_trans (Nat.le_of_eq hsz.symm) K110.1) K214.1, _, _, retN X217 hx (t := .boolean) hret (by simp) (hb hby at_230) hr, hrun, hended, hW, hsame, N217, e217⟩
set_option maxRecDepth 65536 in
set_option maxHeartbeats 40000000 in
theorem oCase3 {p : Program} {l : Launch} {e : Env} {s : State} {m : MethodId} {args : Array Value} {below : List Frame} {meth : Method} {c : Code} {T : State} {locs : List Loc} {Z : State} {a0 : Array Value} {h : Heap} {n0 : Nat} (X : Stand p l e room_1 s m args below meth c T locs 28 92) (hx : p.tables.exec = Jvm.exec) (hby : c.code = code) (hml : c.maxLocals = 9) (hret : meth.sig.returnType = some .boolean) (hlk : meth.locks = false) (hown : s.vm.findClass "org/provenote/core/xml/XmlElementAddPinLaw" = some m.cls) (hZ : Z.Warmed39 s.vm) (hw : ∀ d ∈ tables_1, d.before a0 Z = true) (eT : T.heap = h) (N : Fr n0 locs) (Z0 : n0 ≤ h.size) {eP eA eB eC : Addr} (E_eP : Exa Z h eP "org/provenote/core/xml/XmlElement") (F_eP : Fld Z h eP "org/provenote/core/xml/XmlElement" "firstChild" "Lorg/provenote/core/xml/XmlElement;" .null) (G_eP : Fld Z h eP "org/provenote/core/xml/XmlElement" "nextSibling" "Lorg/provenote/core/xml/XmlElement;" .null) (g_eP : n0 ≤ eP) (E_eA : Exa Z h eA "org/provenote/core/xml/XmlElement") (F_eA : Fld Z h eA "org/provenote/core/xml/XmlElement" "firstChild" "Lorg/provenote/core/xml/XmlElement;" .null) (G_eA : Fld Z h eA "org/provenote/core/xml/XmlElement" "nextSibling" "Lorg/provenote/core/xml/XmlElement;" .null) (g_eA : n0 ≤ eA) (E_eB : Exa Z h eB "org/provenote/core/xml/XmlElement") (F_eB : Fld Z h eB "org/provenote/core/xml/XmlElement" "firstChild" "Lorg/provenote/core/xml/XmlElement;" .null) (G_eB : Fld Z h eB "org/provenote/core/xml/XmlElement" "nextSibling" "Lorg/provenote/core/xml/XmlElement;" .null) (g_eB : n0 ≤ eB) (E_eC : Exa Z h eC "org/provenote/core/xml/XmlElement") (F_eC : Fld Z h eC "org/provenote/core/xml/XmlElement" "firstChild" "Lorg/provenote/core/xml/XmlElement;" .null) (G_eC : Fld Z h eC "org/provenote/core/xml/XmlElement" "nextSibling" "Lorg/provenote/core/xml/XmlElement;" .null) (g_eC : n0 ≤ eC) (n_eP_eA : eP ≠ eA) (n_eP_eB : eP ≠ eB) (n_eP_eC : eP ≠ eC) (n_eA_eB : eA ≠ eB) (n_eA_eC : eA ≠ eC) (n_eB_eC : eB ≠ eC) {wC : Addr} (S_NC : Sta Z h "org/provenote/core/xml/XmlElement" "NO_CHILDREN" "Ljava/util/List;" (.ref wC)) (L_C : oLs Z h wC []) (p1 p2 : Int32) : oEndE p e s below T (mkF m 71 #[.val (.int p1), .val (.int p2), .val (.int (3 : Int32)), .val (.ref eP), .val (.ref eA), .val (.ref eB), .val (.ref eC), .unset, .unset] []) n0 h 32 102 (some (.int 1)) := by
  have K0 : Keep h h [] := Keep.refl h []
  show oEndE p e s below T (mkF m 71 #[.val (.int p1), .val (.int p2), .val (.int (3 : Int32)), .val (.ref eP), .val (.ref eA), .val (.ref eB), .val (.ref eC), .unset, .unset] []) n0 h 32 102 (some (.int 1))
  refine oPreE (fun _ => XS.iloadN X.here hx rfl (hb hby at_71) rfl) ?_
  show oEndE p e s below T (mkF m 72 #[.val (.int p1), .val (.int p2), .val (.int (3 : Int32)), .val (.ref eP), .val (.ref eA), .val (.ref eB), .val (.ref eC), .unset, .unset] [(.int (3 : Int32))]) n0 h 32 102 (some (.int 1))
  refine oPreE (fun _ => XS.iconst X.here hx rfl (hb hby at_72)) ?_
  show oEndE p e s below T (mkF m 73 #[.val (.int p1), .val (.int p2), .val (.int (3 : Int32)), .val (.ref eP), .val (.ref eA), .val (.ref eB), .val (.ref eC), .unset, .unset] [(.int (1 : Int32)), (.int (3 : Int32))]) n0 h 32 102 (some (.int 1))
  refine oPreE (fun _ => XS.icmpNo X.here hx rfl (hb hby at_73) rfl (((flt (by decide : ¬ (3 : Int32) < 1)).1))) ?_
  show oEndE p e s below T (mkF m 76 #[.val (.int p1), .val (.int p2), .val (.int (3 : Int32)), .val (.ref eP), .val (.ref eA), .val (.ref eB), .val (.ref eC), .unset, .unset] []) n0 h 32 102 (some (.int 1))
  refine oPreE (fun _ => XS.aloadN X.here hx rfl (hb hby at_76) rfl rfl) ?_
  show oEndE p e s below T (mkF m 77 #[.val (.int p1), .val (.int p2), .val (.int (3 : Int32)), .val (.ref eP), .val (.ref eA), .val (.ref eB), .val (.ref eC), .unset, .unset] [(.ref eP)]) n0 h 32 102 (some (.int 1))
  refine oPreE (fun _ => XS.aload X.here hx rfl (hb hby at_77) rfl rfl) ?_
  show oEndE p e s below T (mkF m 79 #[.val (.int p1), .val (.int p2), .val (.int (3 : Int32)), .val (.ref eP), .val (.ref eA), .val (.ref eB), .val (.ref eC), .unset, .unset] [(.ref eA), (.ref eP)]) n0 h 32 102 (some (.int 1))
  refine oPreE (fun _ => XS.aconstNull X.here hx rfl (hb hby at_79)) ?_
  show oEndE p e s below T (mkF m 80 #[.val (.int p1), .val (.int p2), .val (.int (3 : Int32)), .val (.ref eP), .val (.ref eA), .val (.ref eB), .val (.ref eC), .unset, .unset] [.null, (.ref eA), (.ref eP)]) n0 h 32 102 (some (.int 1))
  obtain ⟨cq80, kq80, qa80, qb80, qc80⟩ := isOf hZ eT E_eP
  obtain ⟨_, _, ⟨T80, L80, k80, n80⟩, -, X80, ⟨Lc80, hQ80, l80, y80, z80⟩, st80⟩ := X.virtualBack hx (y := (⟨"org/provenote/core/xml/XmlElement", "add", "(Lorg/provenote/core/xml/XmlElement;Lorg/provenote/core/xml/XmlElement;)V"⟩ : MethodName)) (z := (⟨"org/provenote/core/xml/XmlElement", "add", "(Lorg/provenote/core/xml/XmlElement;Lorg/provenote/core/xml/XmlElement;)V"⟩ : MethodName)) hown (mvT hZ (hw _ (List.mem_of_getElem? (i := 60) rfl))) (mvT hZ (hw _ (List.mem_of_getElem? (i := 61) rfl))) (notFace_of_selects (args := #[]) (mvT hZ (hw _ (List.mem_of_getElem? (i := 63) rfl)))) (mvT hZ (hw _ (List.mem_of_getElem? (i := 63) rfl))) (mvT hZ (hw _ (List.mem_of_getElem? (i := 62) rfl))) (by decide) (backOf (W := 0) (rm6n l Z a0 hw [] eP eA _ h n0 Z0 E_eP F_eP g_eP) hZ (hw _ (List.mem_of_getElem? (i := 64) rfl)) (hw _ (List.mem_of_getElem? (i := 2) rfl)) (by decide) (by decide)) qa80 qc80 (g := (mkF m 80 #[.val (.int p1), .val (.int p2), .val (.int (3 : Int32)), .val (.ref eP), .val (.ref eA), .val (.ref eB), .val (.ref eC), .unset, .unset] [.null, (.ref eA), (.ref eP)])) rfl (by rw [hml]; rfl) (Steps.refl _) (argsL := [(.ref eA), .null]) (rest := []) (lenOf pd_4 rfl) rfl (by show 2 * 0 + _ ≤ _; exact Nat.le_of_eq rfl) (hb hby at_80) (fun _ _ => ⟨rfl, eT, (by decide : 28 + 0 ≤ _), (by decide : 92 + 0 ≤ _)⟩)
  dsimp only [Pt.U, Pt.locs, Pt.cells, Pt.slots] at X80 l80 y80 z80 st80 hQ80
  subst l80
  rw [y80, z80] at X80
  obtain ⟨rfl, N80q, W80⟩ := hQ80
  have N80 := Fr.app N N80q
  refine oPreE (fun _ q => st80.trans q) ?_
  have Z80 : n0 ≤ T80.heap.size := by rw [W80.size]; exact Z0
  have E_eP_80 := E_eP.wr W80
  have F_eP_80 := F_eP.same W80
  have G_eP_80 := G_eP.other W80 (Or.inr (slot_ne (Or.inl (hw _ (List.mem_of_getElem? (i := 66) rfl))) (Or.inl (hw _ (List.mem_of_getElem? (i := 45) rfl))) (by decide) (t := (.object "org/provenote/core/xml/XmlElement")) (t' := (.object "org/provenote/core/xml/XmlElement")) (by decide) (by decide)))
  have E_eA_80 := E_eA.wr W80
  have F_eA_80 := F_eA.other W80 (Or.inl n_eP_eA.symm)
  have G_eA_80 := G_eA.other W80 (Or.inl n_eP_eA.symm)
  have E_eB_80 := E_eB.wr W80
  have F_eB_80 := F_eB.other W80 (Or.inl n_eP_eB.symm)
  have G_eB_80 := G_eB.other W80 (Or.inl n_eP_eB.symm)
  have E_eC_80 := E_eC.wr W80
  have F_eC_80 := F_eC.other W80 (Or.inl n_eP_eC.symm)
  have G_eC_80 := G_eC.other W80 (Or.inl n_eP_eC.symm)
  have S_NC_80 := S_NC.wr W80
  have L_C_80 : oLs Z T80.heap wC [] := oLs_wr L_C W80 E_eP (hw _ (List.mem_of_getElem? (i := 1) rfl)) (hw _ (List.mem_of_getElem? (i := 71) rfl))
  show oEndE p e s below T80 (mkF m 83 #[.val (.int p1), .val (.int p2), .val (.int (3 : Int32)), .val (.ref eP), .val (.ref eA), .val (.ref eB), .val (.ref eC), .unset, .unset] []) n0 h 32 102 (some (.int 1))
  refine oPreE (fun _ => XS.iloadN X80.here hx rfl (hb hby at_83) rfl) ?_
  show oEndE p e s below T80 (mkF m 84 #[.val (.int p1), .val (.int p2), .val (.int (3 : Int32)), .val (.ref eP), .val (.ref eA), .val (.ref eB), .val (.ref eC), .unset, .unset] [(.int (3 : Int32))]) n0 h 32 102 (some (.int 1))
  refine oPreE (fun _ => XS.iconst X80.here hx rfl (hb hby at_84)) ?_
  show oEndE p e s below T80 (mkF m 85 #[.val (.int p1), .val (.int p2), .val (.int (3 : Int32)), .val (.ref eP), .val (.ref eA), .val (.ref eB), .val (.ref eC), .unset, .unset] [(.int (2 : Int32)), (.int (3 : Int32))]) n0 h 32 102 (some (.int 1))
  refine oPreE (fun _ => XS.icmpNo X80.here hx rfl (hb hby at_85) rfl (((flt (by decide : ¬ (3 : Int32) < 2)).1))) ?_
  show oEndE p e s below T80 (mkF m 88 #[.val (.int p1), .val (.int p2), .val (.int (3 : Int32)), .val (.ref eP), .val (.ref eA), .val (.ref eB), .val (.ref eC), .unset, .unset] []) n0 h 32 102 (some (.int 1))
  refine oPreE (fun _ => XS.aloadN X80.here hx rfl (hb hby at_88) rfl rfl) ?_
  show oEndE p e s below T80 (mkF m 89 #[.val (.int p1), .val (.int p2), .val (.int (3 : Int32)), .val (.ref eP), .val (.ref eA), .val (.ref eB), .val (.ref eC), .unset, .unset] [(.ref eP)]) n0 h 32 102 (some (.int 1))
  refine oPreE (fun _ => XS.aload X80.here hx rfl (hb hby at_89) rfl rfl) ?_
  show oEndE p e s below T80 (mkF m 91 #[.val (.int p1), .val (.int p2), .val (.int (3 : Int32)), .val (.ref eP), .val (.ref eA), .val (.ref eB), .val (.ref eC), .unset, .unset] [(.ref eB), (.ref eP)]) n0 h 32 102 (some (.int 1))
  refine oPreE (fun _ => XS.aload X80.here hx rfl (hb hby at_91) rfl rfl) ?_
  show oEndE p e s below T80 (mkF m 93 #[.val (.int p1), .val (.int p2), .val (.int (3 : Int32)), .val (.ref eP), .val (.ref eA), .val (.ref eB), .val (.ref eC), .unset, .unset] [(.ref eA), (.ref eB), (.ref eP)]) n0 h 32 102 (some (.int 1))
  obtain ⟨cq93, kq93, qa93, qb93, qc93⟩ := isOf hZ rfl E_eP_80
  obtain ⟨_, _, ⟨T93, L93, k93, n93⟩, -, X93, ⟨Lc93, hQ93, l93, y93, z93⟩, st93⟩ := X80.virtualBack hx (y := (⟨"org/provenote/core/xml/XmlElement", "add", "(Lorg/provenote/core/xml/XmlElement;Lorg/provenote/core/xml/XmlElement;)V"⟩ : MethodName)) (z := (⟨"org/provenote/core/xml/XmlElement", "add", "(Lorg/provenote/core/xml/XmlElement;Lorg/provenote/core/xml/XmlElement;)V"⟩ : MethodName)) hown (mvT hZ (hw _ (List.mem_of_getElem? (i := 60) rfl))) (mvT hZ (hw _ (List.mem_of_getElem? (i := 61) rfl))) (notFace_of_selects (args := #[]) (mvT hZ (hw _ (List.mem_of_getElem? (i := 63) rfl)))) (mvT hZ (hw _ (List.mem_of_getElem? (i := 63) rfl))) (mvT hZ (hw _ (List.mem_of_getElem? (i := 62) rfl))) (by decide) (backOf (W := 0) (rm6 l Z a0 hw [] eP eB eA _ T80.heap n0 Z80 E_eA_80 G_eA_80 g_eA) hZ (hw _ (List.mem_of_getElem? (i := 64) rfl)) (hw _ (List.mem_of_getElem? (i := 2) rfl)) (by decide) (by decide)) qa93 qc93 (g := (mkF m 93 #[.val (.int p1), .val (.int p2), .val (.int (3 : Int32)), .val (.ref eP), .val (.ref eA), .val (.ref eB), .val (.ref eC), .unset, .unset] [(.ref eA), (.ref eB), (.ref eP)])) rfl (by rw [hml]; rfl) (Steps.refl _) (argsL := [(.ref eB), (.ref eA)]) (rest := []) (lenOf pd_4 rfl) rfl (by show 2 * 0 + _ ≤ _; exact Nat.le_of_eq rfl) (hb hby at_93) (fun _ _ => ⟨rfl, rfl, (by decide : 28 + 0 ≤ _), (by decide : 92 + 0 ≤ _)⟩)
  dsimp only [Pt.U, Pt.locs, Pt.cells, Pt.slots] at X93 l93 y93 z93 st93 hQ93
  subst l93
  rw [y93, z93] at X93
  obtain ⟨rfl, N93q, W93⟩ := hQ93
  have N93 := Fr.app N80 N93q
  refine oPreE (fun _ q => st93.trans q) ?_
  have Z93 : n0 ≤ T93.heap.size := by rw [W93.size]; exact Z80
  have E_eP_93 := E_eP_80.wr W93
  have F_eP_93 := F_eP_80.other W93 (Or.inl n_eP_eA)
  have G_eP_93 := G_eP_80.other W93 (Or.inl n_eP_eA)
  have E_eA_93 := E_eA_80.wr W93
  have F_eA_93 := F_eA_80.other W93 (Or.inr (slot_ne (Or.inl (hw _ (List.mem_of_getElem? (i := 45) rfl))) (Or.inl (hw _ (List.mem_of_getElem? (i := 66) rfl))) (by decide) (t := (.object "org/provenote/core/xml/XmlElement")) (t' := (.object "org/provenote/core/xml/XmlElement")) (by decide) (by decide)))
  have G_eA_93 := G_eA_80.same W93
  have E_eB_93 := E_eB_80.wr W93
  have F_eB_93 := F_eB_80.other W93 (Or.inl n_eA_eB.symm)
  have G_eB_93 := G_eB_80.other W93 (Or.inl n_eA_eB.symm)
  have E_eC_93 := E_eC_80.wr W93
  have F_eC_93 := F_eC_80.other W93 (Or.inl n_eA_eC.symm)
  have G_eC_93 := G_eC_80.other W93 (Or.inl n_eA_eC.symm)
  have S_NC_93 := S_NC_80.wr W93
  have L_C_93 : oLs Z T93.heap wC [] := oLs_wr L_C_80 W93 E_eA_80 (hw _ (List.mem_of_getElem? (i := 1) rfl)) (hw _ (List.mem_of_getElem? (i := 71) rfl))
  show oEndE p e s below T93 (mkF m 96 #[.val (.int p1), .val (.int p2), .val (.int (3 : Int32)), .val (.ref eP), .val (.ref eA), .val (.ref eB), .val (.ref eC), .unset, .unset] []) n0 h 32 102 (some (.int 1))
  refine oPreE (fun _ => XS.iloadN X93.here hx rfl (hb hby at_96) rfl) ?_
  show oEndE p e s below T93 (mkF m 97 #[.val (.int p1), .val (.int p2), .val (.int (3 : Int32)), .val (.ref eP), .val (.ref eA), .val (.ref eB), .val (.ref eC), .unset, .unset] [(.int (3 : Int32))]) n0 h 32 102 (some (.int 1))
  refine oPreE (fun _ => XS.iconst X93.here hx rfl (hb hby at_97)) ?_
  show oEndE p e s below T93 (mkF m 98 #[.val (.int p1), .val (.int p2), .val (.int (3 : Int32)), .val (.ref eP), .val (.ref eA), .val (.ref eB), .val (.ref eC), .unset, .unset] [(.int (3 : Int32)), (.int (3 : Int32))]) n0 h 32 102 (some (.int 1))
  refine oPreE (fun _ => XS.icmpNo X93.here hx rfl (hb hby at_98) rfl (((flt (by decide : ¬ (3 : Int32) < 3)).1))) ?_
  show oEndE p e s below T93 (mkF m 101 #[.val (.int p1), .val (.int p2), .val (.int (3 : Int32)), .val (.ref eP), .val (.ref eA), .val (.ref eB), .val (.ref eC), .unset, .unset] []) n0 h 32 102 (some (.int 1))
  refine oPreE (fun _ => XS.aloadN X93.here hx rfl (hb hby at_101) rfl rfl) ?_
  show oEndE p e s below T93 (mkF m 102 #[.val (.int p1), .val (.int p2), .val (.int (3 : Int32)), .val (.ref eP), .val (.ref eA), .val (.ref eB), .val (.ref eC), .unset, .unset] [(.ref eP)]) n0 h 32 102 (some (.int 1))
  refine oPreE (fun _ => XS.aload X93.here hx rfl (hb hby at_102) rfl rfl) ?_
  show oEndE p e s below T93 (mkF m 104 #[.val (.int p1), .val (.int p2), .val (.int (3 : Int32)), .val (.ref eP), .val (.ref eA), .val (.ref eB), .val (.ref eC), .unset, .unset] [(.ref eC), (.ref eP)]) n0 h 32 102 (some (.int 1))
  refine oPreE (fun _ => XS.aload X93.here hx rfl (hb hby at_104) rfl rfl) ?_
  show oEndE p e s below T93 (mkF m 106 #[.val (.int p1), .val (.int p2), .val (.int (3 : Int32)), .val (.ref eP), .val (.ref eA), .val (.ref eB), .val (.ref eC), .unset, .unset] [(.ref eB), (.ref eC), (.ref eP)]) n0 h 32 102 (some (.int 1))
  obtain ⟨cq106, kq106, qa106, qb106, qc106⟩ := isOf hZ rfl E_eP_93
  obtain ⟨_, _, ⟨T106, L106, k106, n106⟩, -, X106, ⟨Lc106, hQ106, l106, y106, z106⟩, st106⟩ := X93.virtualBack hx (y := (⟨"org/provenote/core/xml/XmlElement", "add", "(Lorg/provenote/core/xml/XmlElement;Lorg/provenote/core/xml/XmlElement;)V"⟩ : MethodName)) (z := (⟨"org/provenote/core/xml/XmlElement", "add", "(Lorg/provenote/core/xml/XmlElement;Lorg/provenote/core/xml/XmlElement;)V"⟩ : MethodName)) hown (mvT hZ (hw _ (List.mem_of_getElem? (i := 60) rfl))) (mvT hZ (hw _ (List.mem_of_getElem? (i := 61) rfl))) (notFace_of_selects (args := #[]) (mvT hZ (hw _ (List.mem_of_getElem? (i := 63) rfl)))) (mvT hZ (hw _ (List.mem_of_getElem? (i := 63) rfl))) (mvT hZ (hw _ (List.mem_of_getElem? (i := 62) rfl))) (by decide) (backOf (W := 0) (rm6 l Z a0 hw [] eP eC eB _ T93.heap n0 Z93 E_eB_93 G_eB_93 g_eB) hZ (hw _ (List.mem_of_getElem? (i := 64) rfl)) (hw _ (List.mem_of_getElem? (i := 2) rfl)) (by decide) (by decide)) qa106 qc106 (g := (mkF m 106 #[.val (.int p1), .val (.int p2), .val (.int (3 : Int32)), .val (.ref eP), .val (.ref eA), .val (.ref eB), .val (.ref eC), .unset, .unset] [(.ref eB), (.ref eC), (.ref eP)])) rfl (by rw [hml]; rfl) (Steps.refl _) (argsL := [(.ref eC), (.ref eB)]) (rest := []) (lenOf pd_4 rfl) rfl (by show 2 * 0 + _ ≤ _; exact Nat.le_of_eq rfl) (hb hby at_106) (fun _ _ => ⟨rfl, rfl, (by decide : 28 + 0 ≤ _), (by decide : 92 + 0 ≤ _)⟩)
  dsimp only [Pt.U, Pt.locs, Pt.cells, Pt.slots] at X106 l106 y106 z106 st106 hQ106
  subst l106
  rw [y106, z106] at X106
  obtain ⟨rfl, N106q, W106⟩ := hQ106
  have N106 := Fr.app N93 N106q
  refine oPreE (fun _ q => st106.trans q) ?_
  have Z106 : n0 ≤ T106.heap.size := by rw [W106.size]; exact Z93
  have E_eP_106 := E_eP_93.wr W106
  have F_eP_106 := F_eP_93.other W106 (Or.inl n_eP_eB)
  have G_eP_106 := G_eP_93.other W106 (Or.inl n_eP_eB)
  have E_eA_106 := E_eA_93.wr W106
  have F_eA_106 := F_eA_93.other W106 (Or.inl n_eA_eB)
  have G_eA_106 := G_eA_93.other W106 (Or.inl n_eA_eB)
  have E_eB_106 := E_eB_93.wr W106
  have F_eB_106 := F_eB_93.other W106 (Or.inr (slot_ne (Or.inl (hw _ (List.mem_of_getElem? (i := 45) rfl))) (Or.inl (hw _ (List.mem_of_getElem? (i := 66) rfl))) (by decide) (t := (.object "org/provenote/core/xml/XmlElement")) (t' := (.object "org/provenote/core/xml/XmlElement")) (by decide) (by decide)))
  have G_eB_106 := G_eB_93.same W106
  have E_eC_106 := E_eC_93.wr W106
  have F_eC_106 := F_eC_93.other W106 (Or.inl n_eB_eC.symm)
  have G_eC_106 := G_eC_93.other W106 (Or.inl n_eB_eC.symm)
  have S_NC_106 := S_NC_93.wr W106
  have L_C_106 : oLs Z T106.heap wC [] := oLs_wr L_C_93 W106 E_eB_93 (hw _ (List.mem_of_getElem? (i := 1) rfl)) (hw _ (List.mem_of_getElem? (i := 71) rfl))
  show oEndE p e s below T106 (mkF m 109 #[.val (.int p1), .val (.int p2), .val (.int (3 : Int32)), .val (.ref eP), .val (.ref eA), .val (.ref eB), .val (.ref eC), .unset, .unset] []) n0 h 32 102 (some (.int 1))
  refine oPreE (fun _ => XS.aloadN X106.here hx rfl (hb hby at_109) rfl rfl) ?_
  show oEndE p e s below T106 (mkF m 110 #[.val (.int p1), .val (.int p2), .val (.int (3 : Int32)), .val (.ref eP), .val (.ref eA), .val (.ref eB), .val (.ref eC), .unset, .unset] [(.ref eP)]) n0 h 32 102 (some (.int 1))
  obtain ⟨cq110, kq110, qa110, qb110, qc110⟩ := isOf hZ rfl E_eP_106
  obtain ⟨_, _, ⟨T110, L110, k110, n110⟩, -, X110, ⟨Lc110, hQ110, l110, y110, z110⟩, st110⟩ := X106.virtualBack hx (y := (⟨"org/provenote/core/xml/XmlElement", "children", "()Ljava/util/List;"⟩ : MethodName)) (z := (⟨"org/provenote/core/xml/XmlElement", "children", "()Ljava/util/List;"⟩ : MethodName)) hown (mvT hZ (hw _ (List.mem_of_getElem? (i := 35) rfl))) (mvT hZ (hw _ (List.mem_of_getElem? (i := 36) rfl))) (notFace_of_selects (args := #[]) (mvT hZ (hw _ (List.mem_of_getElem? (i := 38) rfl)))) (mvT hZ (hw _ (List.mem_of_getElem? (i := 38) rfl))) (mvT hZ (hw _ (List.mem_of_getElem? (i := 37) rfl))) (by decide) (backOf (W := 0) (oRC3 l Z a0 hw [] eP eA eB eC T106.heap n0 Z106 E_eP_106 F_eP_106 E_eA_106 G_eA_106 E_eB_106 G_eB_106 E_eC_106 G_eC_106 S_NC_106 L_C_106) hZ (hw _ (List.mem_of_getElem? (i := 39) rfl)) (hw _ (List.mem_of_getElem? (i := 2) rfl)) (by decide) (by decide)) qa110 qc110 (g := (mkF m 110 #[.val (.int p1), .val (.int p2), .val (.int (3 : Int32)), .val (.ref eP), .val (.ref eA), .val (.ref eB), .val (.ref eC), .unset, .unset] [(.ref eP)])) rfl (by rw [hml]; rfl) (Steps.refl _) (argsL := []) (rest := []) (lenOf pd_2 rfl) rfl (by show 2 * 0 + _ ≤ _; exact Nat.le_of_eq rfl) (hb hby at_110) (fun _ _ => ⟨rfl, rfl, (by decide : 28 + 2 ≤ _), (by decide : 92 + 5 ≤ _)⟩)
  dsimp only [Pt.U, Pt.locs, Pt.cells, Pt.slots] at X110 l110 y110 z110 st110 hQ110
  subst l110
  rw [y110, z110] at X110
  obtain ⟨⟨E1, rfl, K110, Ls110⟩, N110q⟩ := hQ110
  have N110 := Fr.app N106 N110q
  refine oPreE (fun _ q => st110.trans q) ?_
  have Z110 : n0 ≤ T110.heap.size := Nat.le_trans Z106 K110.1
  show oEndE p e s below T110 (mkF m 113 #[.val (.int p1), .val (.int p2), .val (.int (3 : Int32)), .val (.ref eP), .val (.ref eA), .val (.ref eB), .val (.ref eC), .unset, .unset] [(.ref E1)]) n0 h 32 102 (some (.int 1))
  refine oPreE (fun _ => XS.astore X110.here hx rfl (hb hby at_113) rfl rfl (l' := #[.val (.int p1), .val (.int p2), .val (.int (3 : Int32)), .val (.ref eP), .val (.ref eA), .val (.ref eB), .val (.ref eC), .val (.ref E1), .unset]) rfl) ?_
  show oEndE p e s below T110 (mkF m 115 #[.val (.int p1), .val (.int p2), .val (.int (3 : Int32)), .val (.ref eP), .val (.ref eA), .val (.ref eB), .val (.ref eC), .val (.ref E1), .unset] []) n0 h 32 102 (some (.int 1))
  refine oPreE (fun _ => XS.aload X110.here hx rfl (hb hby at_115) rfl rfl) ?_
  obtain ⟨b1, cl1, r1, r2, r3, r4, r5⟩ := Ls110
  have r4' : cl1.slots.size = (3 : Int32).toNatClampNeg := r4
  have e_at := (rfl : T110.heap = T110.heap)
  show oEndE p e s below T110 (mkF m 117 #[.val (.int p1), .val (.int p2), .val (.int (3 : Int32)), .val (.ref eP), .val (.ref eA), .val (.ref eB), .val (.ref eC), .val (.ref E1), .unset] [(.ref E1)]) n0 h 32 102 (some (.int 1))
  obtain ⟨cq117, kq117, qa117, qb117, qc117⟩ := isOf hZ rfl r1
  obtain ⟨_, _, ⟨T117, L117, k117, n117⟩, -, X117, ⟨Lc117, hQ117, l117, y117, z117⟩, st117⟩ := X110.interfaceBack hx (xi := (⟨"java/util/List", "size", "()I"⟩ : MethodName)) (y := (⟨"org/provenote/core/xml/XmlElement$Elements", "size", "()I"⟩ : MethodName)) hown (mvT hZ (hw _ (List.mem_of_getElem? (i := 48) rfl))) (mvT hZ (hw _ (List.mem_of_getElem? (i := 49) rfl))) (mvT hZ (hw _ (List.mem_of_getElem? (i := 50) rfl))) (mvT hZ (hw _ (List.mem_of_getElem? (i := 51) rfl))) (mvT hZ (hw _ (List.mem_of_getElem? (i := 52) rfl))) (mvT hZ (hw _ (List.mem_of_getElem? (i := 53) rfl))) (mvT hZ (hw _ (List.mem_of_getElem? (i := 54) rfl))) (mvT hZ (hw _ (List.mem_of_getElem? (i := 55) rfl))) (by decide) (backOf (W := 0) (rm5 l Z a0 hw [] E1 b1 cl1 3 T110.heap n0 Z110 r2 r3 r4' (by decide)) hZ (hw _ (List.mem_of_getElem? (i := 57) rfl)) (hw _ (List.mem_of_getElem? (i := 56) rfl)) (by decide) (by decide)) qa117 qb117 qc117 (g := (mkF m 117 #[.val (.int p1), .val (.int p2), .val (.int (3 : Int32)), .val (.ref eP), .val (.ref eA), .val (.ref eB), .val (.ref eC), .val (.ref E1), .unset] [(.ref E1)])) rfl (by rw [hml]; rfl) (Steps.refl _) (argsL := []) (rest := []) (lenOf pd_5 rfl) rfl (by show 2 * 0 + _ ≤ _; exact Nat.le_of_eq rfl) (hb hby at_117) (fun _ _ => ⟨rfl, rfl, (by decide : 30 + 0 ≤ _), (by decide : 97 + 0 ≤ _)⟩)
  dsimp only [Pt.U, Pt.locs, Pt.cells, Pt.slots] at X117 l117 y117 z117 st117 hQ117
  subst l117
  rw [y117, z117] at X117
  obtain ⟨rfl, N117q, e117⟩ := hQ117
  have N117 := Fr.app N110 N117q
  refine oPreE (fun _ q => st117.trans q) ?_
  show oEndE p e s below T117 (mkF m 122 #[.val (.int p1), .val (.int p2), .val (.int (3 : Int32)), .val (.ref eP), .val (.ref eA), .val (.ref eB), .val (.ref eC), .val (.ref E1), .unset] [(.int (3 : Int32))]) n0 h 32 102 (some (.int 1))
  refine oPreE (fun _ => XS.iloadN X117.here hx rfl (hb hby at_122) rfl) ?_
  show oEndE p e s below T117 (mkF m 123 #[.val (.int p1), .val (.int p2), .val (.int (3 : Int32)), .val (.ref eP), .val (.ref eA), .val (.ref eB), .val (.ref eC), .val (.ref E1), .unset] [(.int (3 : Int32)), (.int (3 : Int32))]) n0 h 32 102 (some (.int 1))
  refine oPreE (fun _ => XS.icmpYes X117.here hx rfl (pc0 := 123) (pc' := 128) rfl (hb hby at_123) rfl (((teq (rfl : (3 : Int32) = 3)).1)) (by decide) (by decide)) ?_
  show oEndE p e s below T117 (mkF m 128 #[.val (.int p1), .val (.int p2), .val (.int (3 : Int32)), .val (.ref eP), .val (.ref eA), .val (.ref eB), .val (.ref eC), .val (.ref E1), .unset] []) n0 h 32 102 (some (.int 1))
  refine oPreE (fun _ => XS.iloadN X117.here hx rfl (hb hby at_128) rfl) ?_
  show oEndE p e s below T117 (mkF m 129 #[.val (.int p1), .val (.int p2), .val (.int (3 : Int32)), .val (.ref eP), .val (.ref eA), .val (.ref eB), .val (.ref eC), .val (.ref E1), .unset] [(.int (3 : Int32))]) n0 h 32 102 (some (.int 1))
  refine oPreE (fun _ => XS.iconst X117.here hx rfl (hb hby at_129)) ?_
  show oEndE p e s below T117 (mkF m 130 #[.val (.int p1), .val (.int p2), .val (.int (3 : Int32)), .val (.ref eP), .val (.ref eA), .val (.ref eB), .val (.ref eC), .val (.ref E1), .unset] [(.int (1 : Int32)), (.int (3 : Int32))]) n0 h 32 102 (some (.int 1))
  refine oPreE (fun _ => XS.icmpNo X117.here hx rfl (hb hby at_130) rfl (((flt (by decide : ¬ (3 : Int32) < 1)).1))) ?_
  show oEndE p e s below T117 (mkF m 133 #[.val (.int p1), .val (.int p2), .val (.int (3 : Int32)), .val (.ref eP), .val (.ref eA), .val (.ref eB), .val (.ref eC), .val (.ref E1), .unset] []) n0 h 32 102 (some (.int 1))
  refine oPreE (fun _ => XS.aload X117.here hx rfl (hb hby at_133) rfl rfl) ?_
  show oEndE p e s below T117 (mkF m 135 #[.val (.int p1), .val (.int p2), .val (.int (3 : Int32)), .val (.ref eP), .val (.ref eA), .val (.ref eB), .val (.ref eC), .val (.ref E1), .unset] [(.ref E1)]) n0 h 32 102 (some (.int 1))
  refine oPreE (fun _ => XS.iconst X117.here hx rfl (hb hby at_135)) ?_
  show oEndE p e s below T117 (mkF m 136 #[.val (.int p1), .val (.int p2), .val (.int (3 : Int32)), .val (.ref eP), .val (.ref eA), .val (.ref eB), .val (.ref eC), .val (.ref E1), .unset] [(.int (0 : Int32)), (.ref E1)]) n0 h 32 102 (some (.int 1))
  obtain ⟨cq136, kq136, qa136, qb136, qc136⟩ := isOf hZ e117 r1
  obtain ⟨_, _, ⟨T136, L136, k136, n136⟩, -, X136, ⟨Lc136, hQ136, l136, y136, z136⟩, st136⟩ := X117.interfaceBack hx (xi := (⟨"java/util/List", "get", "(I)Ljava/lang/Object;"⟩ : MethodName)) (y := (⟨"org/provenote/core/xml/XmlElement$Elements", "get", "(I)Ljava/lang/Object;"⟩ : MethodName)) hown (mvT hZ (hw _ (List.mem_of_getElem? (i := 89) rfl))) (mvT hZ (hw _ (List.mem_of_getElem? (i := 90) rfl))) (mvT hZ (hw _ (List.mem_of_getElem? (i := 91) rfl))) (mvT hZ (hw _ (List.mem_of_getElem? (i := 92) rfl))) (mvT hZ (hw _ (List.mem_of_getElem? (i := 93) rfl))) (mvT hZ (hw _ (List.mem_of_getElem? (i := 94) rfl))) (mvT hZ (hw _ (List.mem_of_getElem? (i := 95) rfl))) (mvT hZ (hw _ (List.mem_of_getElem? (i := 55) rfl))) (by decide) (backOf (W := 0) (rm10 l Z a0 hw [] E1 0 b1 eA cl1 T110.heap n0 Z110 r1 r2 r3 (inb_of r4' ⟨by decide, by decide⟩) (r5 0 (by simp))) hZ (hw _ (List.mem_of_getElem? (i := 96) rfl)) (hw _ (List.mem_of_getElem? (i := 56) rfl)) (by decide) (by decide)) qa136 qb136 qc136 (g := (mkF m 136 #[.val (.int p1), .val (.int p2), .val (.int (3 : Int32)), .val (.ref eP), .val (.ref eA), .val (.ref eB), .val (.ref eC), .val (.ref E1), .unset] [(.int (0 : Int32)), (.ref E1)])) rfl (by rw [hml]; rfl) (Steps.refl _) (argsL := [(.int (0 : Int32))]) (rest := []) (lenOf pd_6 rfl) rfl (by show 2 * 0 + _ ≤ _; exact Nat.le_of_eq rfl) (hb hby at_136) (fun _ _ => ⟨rfl, e117, (by decide : 30 + 0 ≤ _), (by decide : 97 + 0 ≤ _)⟩)
  dsimp only [Pt.U, Pt.locs, Pt.cells, Pt.slots] at X136 l136 y136 z136 st136 hQ136
  subst l136
  rw [y136, z136] at X136
  obtain ⟨rfl, N136q, e136⟩ := hQ136
  have N136 := Fr.app N117 N136q
  refine oPreE (fun _ q => st136.trans q) ?_
  show oEndE p e s below T136 (mkF m 141 #[.val (.int p1), .val (.int p2), .val (.int (3 : Int32)), .val (.ref eP), .val (.ref eA), .val (.ref eB), .val (.ref eC), .val (.ref E1), .unset] [(.ref eA)]) n0 h 32 102 (some (.int 1))
  refine oPreE (fun _ => XS.aload X136.here hx rfl (hb hby at_141) rfl rfl) ?_
  show oEndE p e s below T136 (mkF m 143 #[.val (.int p1), .val (.int p2), .val (.int (3 : Int32)), .val (.ref eP), .val (.ref eA), .val (.ref eB), .val (.ref eC), .val (.ref E1), .unset] [(.ref eA), (.ref eA)]) n0 h 32 102 (some (.int 1))
  refine oPreE (fun _ => Jvm.RoadKit.acmp (g := (mkF m 143 #[.val (.int p1), .val (.int p2), .val (.int (3 : Int32)), .val (.ref eP), .val (.ref eA), .val (.ref eB), .val (.ref eC), .val (.ref E1), .unset] [(.ref eA), (.ref eA)])) X136 hx rfl rfl rfl (pc0 := 143) (pc' := 148) (same := true) rfl (hb hby at_143) rfl (decide_eq_true rfl) (by decide) (by decide)) ?_
  show oEndE p e s below T136 (mkF m 148 #[.val (.int p1), .val (.int p2), .val (.int (3 : Int32)), .val (.ref eP), .val (.ref eA), .val (.ref eB), .val (.ref eC), .val (.ref E1), .unset] []) n0 h 32 102 (some (.int 1))
  refine oPreE (fun _ => XS.iloadN X136.here hx rfl (hb hby at_148) rfl) ?_
  show oEndE p e s below T136 (mkF m 149 #[.val (.int p1), .val (.int p2), .val (.int (3 : Int32)), .val (.ref eP), .val (.ref eA), .val (.ref eB), .val (.ref eC), .val (.ref E1), .unset] [(.int (3 : Int32))]) n0 h 32 102 (some (.int 1))
  refine oPreE (fun _ => XS.iconst X136.here hx rfl (hb hby at_149)) ?_
  show oEndE p e s below T136 (mkF m 150 #[.val (.int p1), .val (.int p2), .val (.int (3 : Int32)), .val (.ref eP), .val (.ref eA), .val (.ref eB), .val (.ref eC), .val (.ref E1), .unset] [(.int (2 : Int32)), (.int (3 : Int32))]) n0 h 32 102 (some (.int 1))
  refine oPreE (fun _ => XS.icmpNo X136.here hx rfl (hb hby at_150) rfl (((flt (by decide : ¬ (3 : Int32) < 2)).1))) ?_
  show oEndE p e s below T136 (mkF m 153 #[.val (.int p1), .val (.int p2), .val (.int (3 : Int32)), .val (.ref eP), .val (.ref eA), .val (.ref eB), .val (.ref eC), .val (.ref E1), .unset] []) n0 h 32 102 (some (.int 1))
  refine oPreE (fun _ => XS.aload X136.here hx rfl (hb hby at_153) rfl rfl) ?_
  show oEndE p e s below T136 (mkF m 155 #[.val (.int p1), .val (.int p2), .val (.int (3 : Int32)), .val (.ref eP), .val (.ref eA), .val (.ref eB), .val (.ref eC), .val (.ref E1), .unset] [(.ref E1)]) n0 h 32 102 (some (.int 1))
  refine oPreE (fun _ => XS.iconst X136.here hx rfl (hb hby at_155)) ?_
  show oEndE p e s below T136 (mkF m 156 #[.val (.int p1), .val (.int p2), .val (.int (3 : Int32)), .val (.ref eP), .val (.ref eA), .val (.ref eB), .val (.ref eC), .val (.ref E1), .unset] [(.int (1 : Int32)), (.ref E1)]) n0 h 32 102 (some (.int 1))
  obtain ⟨cq156, kq156, qa156, qb156, qc156⟩ := isOf hZ e136 r1
  obtain ⟨_, _, ⟨T156, L156, k156, n156⟩, -, X156, ⟨Lc156, hQ156, l156, y156, z156⟩, st156⟩ := X136.interfaceBack hx (xi := (⟨"java/util/List", "get", "(I)Ljava/lang/Object;"⟩ : MethodName)) (y := (⟨"org/provenote/core/xml/XmlElement$Elements", "get", "(I)Ljava/lang/Object;"⟩ : MethodName)) hown (mvT hZ (hw _ (List.mem_of_getElem? (i := 89) rfl))) (mvT hZ (hw _ (List.mem_of_getElem? (i := 90) rfl))) (mvT hZ (hw _ (List.mem_of_getElem? (i := 91) rfl))) (mvT hZ (hw _ (List.mem_of_getElem? (i := 92) rfl))) (mvT hZ (hw _ (List.mem_of_getElem? (i := 93) rfl))) (mvT hZ (hw _ (List.mem_of_getElem? (i := 94) rfl))) (mvT hZ (hw _ (List.mem_of_getElem? (i := 95) rfl))) (mvT hZ (hw _ (List.mem_of_getElem? (i := 55) rfl))) (by decide) (backOf (W := 0) (rm10 l Z a0 hw [] E1 1 b1 eB cl1 T110.heap n0 Z110 r1 r2 r3 (inb_of r4' ⟨by decide, by decide⟩) (r5 1 (by simp))) hZ (hw _ (List.mem_of_getElem? (i := 96) rfl)) (hw _ (List.mem_of_getElem? (i := 56) rfl)) (by decide) (by decide)) qa156 qb156 qc156 (g := (mkF m 156 #[.val (.int p1), .val (.int p2), .val (.int (3 : Int32)), .val (.ref eP), .val (.ref eA), .val (.ref eB), .val (.ref eC), .val (.ref E1), .unset] [(.int (1 : Int32)), (.ref E1)])) rfl (by rw [hml]; rfl) (Steps.refl _) (argsL := [(.int (1 : Int32))]) (rest := []) (lenOf pd_6 rfl) rfl (by show 2 * 0 + _ ≤ _; exact Nat.le_of_eq rfl) (hb hby at_156) (fun _ _ => ⟨rfl, e136, (by decide : 30 + 0 ≤ _), (by decide : 97 + 0 ≤ _)⟩)
  dsimp only [Pt.U, Pt.locs, Pt.cells, Pt.slots] at X156 l156 y156 z156 st156 hQ156
  subst l156
  rw [y156, z156] at X156
  obtain ⟨rfl, N156q, e156⟩ := hQ156
  have N156 := Fr.app N136 N156q
  refine oPreE (fun _ q => st156.trans q) ?_
  show oEndE p e s below T156 (mkF m 161 #[.val (.int p1), .val (.int p2), .val (.int (3 : Int32)), .val (.ref eP), .val (.ref eA), .val (.ref eB), .val (.ref eC), .val (.ref E1), .unset] [(.ref eB)]) n0 h 32 102 (some (.int 1))
  refine oPreE (fun _ => XS.aload X156.here hx rfl (hb hby at_161) rfl rfl) ?_
  show oEndE p e s below T156 (mkF m 163 #[.val (.int p1), .val (.int p2), .val (.int (3 : Int32)), .val (.ref eP), .val (.ref eA), .val (.ref eB), .val (.ref eC), .val (.ref E1), .unset] [(.ref eB), (.ref eB)]) n0 h 32 102 (some (.int 1))
  refine oPreE (fun _ => Jvm.RoadKit.acmp (g := (mkF m 163 #[.val (.int p1), .val (.int p2), .val (.int (3 : Int32)), .val (.ref eP), .val (.ref eA), .val (.ref eB), .val (.ref eC), .val (.ref E1), .unset] [(.ref eB), (.ref eB)])) X156 hx rfl rfl rfl (pc0 := 163) (pc' := 168) (same := true) rfl (hb hby at_163) rfl (decide_eq_true rfl) (by decide) (by decide)) ?_
  show oEndE p e s below T156 (mkF m 168 #[.val (.int p1), .val (.int p2), .val (.int (3 : Int32)), .val (.ref eP), .val (.ref eA), .val (.ref eB), .val (.ref eC), .val (.ref E1), .unset] []) n0 h 32 102 (some (.int 1))
  refine oPreE (fun _ => XS.iloadN X156.here hx rfl (hb hby at_168) rfl) ?_
  show oEndE p e s below T156 (mkF m 169 #[.val (.int p1), .val (.int p2), .val (.int (3 : Int32)), .val (.ref eP), .val (.ref eA), .val (.ref eB), .val (.ref eC), .val (.ref E1), .unset] [(.int (3 : Int32))]) n0 h 32 102 (some (.int 1))
  refine oPreE (fun _ => XS.iconst X156.here hx rfl (hb hby at_169)) ?_
  show oEndE p e s below T156 (mkF m 170 #[.val (.int p1), .val (.int p2), .val (.int (3 : Int32)), .val (.ref eP), .val (.ref eA), .val (.ref eB), .val (.ref eC), .val (.ref E1), .unset] [(.int (3 : Int32)), (.int (3 : Int32))]) n0 h 32 102 (some (.int 1))
  refine oPreE (fun _ => XS.icmpNo X156.here hx rfl (hb hby at_170) rfl (((flt (by decide : ¬ (3 : Int32) < 3)).1))) ?_
  show oEndE p e s below T156 (mkF m 173 #[.val (.int p1), .val (.int p2), .val (.int (3 : Int32)), .val (.ref eP), .val (.ref eA), .val (.ref eB), .val (.ref eC), .val (.ref E1), .unset] []) n0 h 32 102 (some (.int 1))
  refine oPreE (fun _ => XS.aload X156.here hx rfl (hb hby at_173) rfl rfl) ?_
  show oEndE p e s below T156 (mkF m 175 #[.val (.int p1), .val (.int p2), .val (.int (3 : Int32)), .val (.ref eP), .val (.ref eA), .val (.ref eB), .val (.ref eC), .val (.ref E1), .unset] [(.ref E1)]) n0 h 32 102 (some (.int 1))
  refine oPreE (fun _ => XS.iconst X156.here hx rfl (hb hby at_175)) ?_
  show oEndE p e s below T156 (mkF m 176 #[.val (.int p1), .val (.int p2), .val (.int (3 : Int32)), .val (.ref eP), .val (.ref eA), .val (.ref eB), .val (.ref eC), .val (.ref E1), .unset] [(.int (2 : Int32)), (.ref E1)]) n0 h 32 102 (some (.int 1))
  obtain ⟨cq176, kq176, qa176, qb176, qc176⟩ := isOf hZ e156 r1
  obtain ⟨_, _, ⟨T176, L176, k176, n176⟩, -, X176, ⟨Lc176, hQ176, l176, y176, z176⟩, st176⟩ := X156.interfaceBack hx (xi := (⟨"java/util/List", "get", "(I)Ljava/lang/Object;"⟩ : MethodName)) (y := (⟨"org/provenote/core/xml/XmlElement$Elements", "get", "(I)Ljava/lang/Object;"⟩ : MethodName)) hown (mvT hZ (hw _ (List.mem_of_getElem? (i := 89) rfl))) (mvT hZ (hw _ (List.mem_of_getElem? (i := 90) rfl))) (mvT hZ (hw _ (List.mem_of_getElem? (i := 91) rfl))) (mvT hZ (hw _ (List.mem_of_getElem? (i := 92) rfl))) (mvT hZ (hw _ (List.mem_of_getElem? (i := 93) rfl))) (mvT hZ (hw _ (List.mem_of_getElem? (i := 94) rfl))) (mvT hZ (hw _ (List.mem_of_getElem? (i := 95) rfl))) (mvT hZ (hw _ (List.mem_of_getElem? (i := 55) rfl))) (by decide) (backOf (W := 0) (rm10 l Z a0 hw [] E1 2 b1 eC cl1 T110.heap n0 Z110 r1 r2 r3 (inb_of r4' ⟨by decide, by decide⟩) (r5 2 (by simp))) hZ (hw _ (List.mem_of_getElem? (i := 96) rfl)) (hw _ (List.mem_of_getElem? (i := 56) rfl)) (by decide) (by decide)) qa176 qb176 qc176 (g := (mkF m 176 #[.val (.int p1), .val (.int p2), .val (.int (3 : Int32)), .val (.ref eP), .val (.ref eA), .val (.ref eB), .val (.ref eC), .val (.ref E1), .unset] [(.int (2 : Int32)), (.ref E1)])) rfl (by rw [hml]; rfl) (Steps.refl _) (argsL := [(.int (2 : Int32))]) (rest := []) (lenOf pd_6 rfl) rfl (by show 2 * 0 + _ ≤ _; exact Nat.le_of_eq rfl) (hb hby at_176) (fun _ _ => ⟨rfl, e156, (by decide : 30 + 0 ≤ _), (by decide : 97 + 0 ≤ _)⟩)
  dsimp only [Pt.U, Pt.locs, Pt.cells, Pt.slots] at X176 l176 y176 z176 st176 hQ176
  subst l176
  rw [y176, z176] at X176
  obtain ⟨rfl, N176q, e176⟩ := hQ176
  have N176 := Fr.app N156 N176q
  refine oPreE (fun _ q => st176.trans q) ?_
  show oEndE p e s below T176 (mkF m 181 #[.val (.int p1), .val (.int p2), .val (.int (3 : Int32)), .val (.ref eP), .val (.ref eA), .val (.ref eB), .val (.ref eC), .val (.ref E1), .unset] [(.ref eC)]) n0 h 32 102 (some (.int 1))
  refine oPreE (fun _ => XS.aload X176.here hx rfl (hb hby at_181) rfl rfl) ?_
  show oEndE p e s below T176 (mkF m 183 #[.val (.int p1), .val (.int p2), .val (.int (3 : Int32)), .val (.ref eP), .val (.ref eA), .val (.ref eB), .val (.ref eC), .val (.ref E1), .unset] [(.ref eC), (.ref eC)]) n0 h 32 102 (some (.int 1))
  refine oPreE (fun _ => Jvm.RoadKit.acmp (g := (mkF m 183 #[.val (.int p1), .val (.int p2), .val (.int (3 : Int32)), .val (.ref eP), .val (.ref eA), .val (.ref eB), .val (.ref eC), .val (.ref E1), .unset] [(.ref eC), (.ref eC)])) X176 hx rfl rfl rfl (pc0 := 183) (pc' := 188) (same := true) rfl (hb hby at_183) rfl (decide_eq_true rfl) (by decide) (by decide)) ?_
  show oEndE p e s below T176 (mkF m 188 #[.val (.int p1), .val (.int p2), .val (.int (3 : Int32)), .val (.ref eP), .val (.ref eA), .val (.ref eB), .val (.ref eC), .val (.ref E1), .unset] []) n0 h 32 102 (some (.int 1))
  refine oPreE (fun _ => XS.iloadN X176.here hx rfl (hb hby at_188) rfl) ?_
  show oEndE p e s below T176 (mkF m 189 #[.val (.int p1), .val (.int p2), .val (.int (3 : Int32)), .val (.ref eP), .val (.ref eA), .val (.ref eB), .val (.ref eC), .val (.ref E1), .unset] [(.int (3 : Int32))]) n0 h 32 102 (some (.int 1))
  refine oPreE (fun _ => XS.iconst X176.here hx rfl (hb hby at_189)) ?_
  show oEndE p e s below T176 (mkF m 190 #[.val (.int p1), .val (.int p2), .val (.int (3 : Int32)), .val (.ref eP), .val (.ref eA), .val (.ref eB), .val (.ref eC), .val (.ref E1), .unset] [(.int (3 : Int32)), (.int (3 : Int32))]) n0 h 32 102 (some (.int 1))
  refine oPreE (fun _ => XS.icmpNo X176.here hx rfl (hb hby at_190) rfl (((teq (rfl : (3 : Int32) = 3)).2))) ?_
  show oEndE p e s below T176 (mkF m 193 #[.val (.int p1), .val (.int p2), .val (.int (3 : Int32)), .val (.ref eP), .val (.ref eA), .val (.ref eB), .val (.ref eC), .val (.ref E1), .unset] []) n0 h 32 102 (some (.int 1))
  refine oPreE (fun _ => XS.aload X176.here hx rfl (hb hby at_193) rfl rfl) ?_
  show oEndE p e s below T176 (mkF m 195 #[.val (.int p1), .val (.int p2), .val (.int (3 : Int32)), .val (.ref eP), .val (.ref eA), .val (.ref eB), .val (.ref eC), .val (.ref E1), .unset] [(.ref eC)]) n0 h 32 102 (some (.int 1))
  refine oPreE (fun _ => XS.goto X176.here hx rfl (pc0 := 195) (pc' := 210) rfl (hb hby at_195) (by decide) (by decide)) ?_
  show oEndE p e s below T176 (mkF m 210 #[.val (.int p1), .val (.int p2), .val (.int (3 : Int32)), .val (.ref eP), .val (.ref eA), .val (.ref eB), .val (.ref eC), .val (.ref E1), .unset] [(.ref eC)]) n0 h 32 102 (some (.int 1))
  refine oPreE (fun _ => XS.astore X176.here hx rfl (hb hby at_210) rfl rfl (l' := #[.val (.int p1), .val (.int p2), .val (.int (3 : Int32)), .val (.ref eP), .val (.ref eA), .val (.ref eB), .val (.ref eC), .val (.ref E1), .val (.ref eC)]) rfl) ?_
  show oEndE p e s below T176 (mkF m 212 #[.val (.int p1), .val (.int p2), .val (.int (3 : Int32)), .val (.ref eP), .val (.ref eA), .val (.ref eB), .val (.ref eC), .val (.ref E1), .val (.ref eC)] []) n0 h 32 102 (some (.int 1))
  refine oPreE (fun _ => XS.aload X176.here hx rfl (hb hby at_212) rfl rfl) ?_
  have EL1 := E_eC_106.keep K110
  have FL1 := F_eC_106.keep K110 (by simp)
  have SL1 := oSta_keep K110 S_NC_106
  have LL1 := oLs_keep K110 L_C_106
  show oEndE p e s below T176 (mkF m 214 #[.val (.int p1), .val (.int p2), .val (.int (3 : Int32)), .val (.ref eP), .val (.ref eA), .val (.ref eB), .val (.ref eC), .val (.ref E1), .val (.ref eC)] [(.ref eC)]) n0 h 32 102 (some (.int 1))
  obtain ⟨cq214, kq214, qa214, qb214, qc214⟩ := isOf hZ e176 EL1
  obtain ⟨_, _, ⟨T214, L214, k214, n214⟩, -, X214, ⟨Lc214, hQ214, l214, y214, z214⟩, st214⟩ := X176.virtualBack hx (y := (⟨"org/provenote/core/xml/XmlElement", "children", "()Ljava/util/List;"⟩ : MethodName)) (z := (⟨"org/provenote/core/xml/XmlElement", "children", "()Ljava/util/List;"⟩ : MethodName)) hown (mvT hZ (hw _ (List.mem_of_getElem? (i := 35) rfl))) (mvT hZ (hw _ (List.mem_of_getElem? (i := 36) rfl))) (notFace_of_selects (args := #[]) (mvT hZ (hw _ (List.mem_of_getElem? (i := 38) rfl)))) (mvT hZ (hw _ (List.mem_of_getElem? (i := 38) rfl))) (mvT hZ (hw _ (List.mem_of_getElem? (i := 37) rfl))) (by decide) (backOf (W := 0) (oRC0 l Z a0 hw [] eC T110.heap n0 Z110 EL1 FL1 SL1 LL1) hZ (hw _ (List.mem_of_getElem? (i := 39) rfl)) (hw _ (List.mem_of_getElem? (i := 2) rfl)) (by decide) (by decide)) qa214 qc214 (g := (mkF m 214 #[.val (.int p1), .val (.int p2), .val (.int (3 : Int32)), .val (.ref eP), .val (.ref eA), .val (.ref eB), .val (.ref eC), .val (.ref E1), .val (.ref eC)] [(.ref eC)])) rfl (by rw [hml]; rfl) (Steps.refl _) (argsL := []) (rest := []) (lenOf pd_2 rfl) rfl (by show 2 * 0 + _ ≤ _; exact Nat.le_of_eq rfl) (hb hby at_214) (fun _ _ => ⟨rfl, e176, (by decide : 30 + 2 ≤ _), (by decide : 97 + 5 ≤ _)⟩)
  dsimp only [Pt.U, Pt.locs, Pt.cells, Pt.slots] at X214 l214 y214 z214 st214 hQ214
  subst l214
  rw [y214, z214] at X214
  obtain ⟨⟨E2, rfl, K214, Ls214⟩, N214q⟩ := hQ214
  have N214 := Fr.app N176 N214q
  refine oPreE (fun _ q => st214.trans q) ?_
  have Z214 : n0 ≤ T214.heap.size := Nat.le_trans Z110 K214.1
  clear r1 r2 r3 r4 r5
  obtain ⟨b2, cl2, r1, r2, r3, r4, r5⟩ := Ls214
  have r4' : cl2.slots.size = (0 : Int32).toNatClampNeg := r4
  show oEndE p e s below T214 (mkF m 217 #[.val (.int p1), .val (.int p2), .val (.int (3 : Int32)), .val (.ref eP), .val (.ref eA), .val (.ref eB), .val (.ref eC), .val (.ref E1), .val (.ref eC)] [(.ref E2)]) n0 h 32 102 (some (.int 1))
  obtain ⟨cq217, kq217, qa217, qb217, qc217⟩ := isOf hZ rfl r1
  obtain ⟨_, _, ⟨T217, L217, k217, n217⟩, -, X217, ⟨Lc217, hQ217, l217, y217, z217⟩, st217⟩ := X214.interfaceBack hx (xi := (⟨"java/util/List", "size", "()I"⟩ : MethodName)) (y := (⟨"org/provenote/core/xml/XmlElement$Elements", "size", "()I"⟩ : MethodName)) hown (mvT hZ (hw _ (List.mem_of_getElem? (i := 48) rfl))) (mvT hZ (hw _ (List.mem_of_getElem? (i := 49) rfl))) (mvT hZ (hw _ (List.mem_of_getElem? (i := 50) rfl))) (mvT hZ (hw _ (List.mem_of_getElem? (i := 51) rfl))) (mvT hZ (hw _ (List.mem_of_getElem? (i := 52) rfl))) (mvT hZ (hw _ (List.mem_of_getElem? (i := 53) rfl))) (mvT hZ (hw _ (List.mem_of_getElem? (i := 54) rfl))) (mvT hZ (hw _ (List.mem_of_getElem? (i := 55) rfl))) (by decide) (backOf (W := 0) (rm5 l Z a0 hw [] E2 b2 cl2 0 T214.heap n0 Z214 r2 r3 r4' (by decide)) hZ (hw _ (List.mem_of_getElem? (i := 57) rfl)) (hw _ (List.mem_of_getElem? (i := 56) rfl)) (by decide) (by decide)) qa217 qb217 qc217 (g := (mkF m 217 #[.val (.int p1), .val (.int p2), .val (.int (3 : Int32)), .val (.ref eP), .val (.ref eA), .val (.ref eB), .val (.ref eC), .val (.ref E1), .val (.ref eC)] [(.ref E2)])) rfl (by rw [hml]; rfl) (Steps.refl _) (argsL := []) (rest := []) (lenOf pd_5 rfl) rfl (by show 2 * 0 + _ ≤ _; exact Nat.le_of_eq rfl) (hb hby at_217) (fun _ _ => ⟨rfl, rfl, (by decide : 32 + 0 ≤ _), (by decide : 102 + 0 ≤ _)⟩)
  dsimp only [Pt.U, Pt.locs, Pt.cells, Pt.slots] at X217 l217 y217 z217 st217 hQ217
  subst l217
  rw [y217, z217] at X217
  obtain ⟨rfl, N217q, e217⟩ := hQ217
  have N217 := Fr.app N214 N217q
  refine oPreE (fun _ q => st217.trans q) ?_
  show oEndE p e s below T217 (mkF m 222 #[.val (.int p1), .val (.int p2), .val (.int (3 : Int32)), .val (.ref eP), .val (.ref eA), .val (.ref eB), .val (.ref eC), .val (.ref E1), .val (.ref eC)] [(.int (0 : Int32))]) n0 h 32 102 (some (.int 1))
  refine oPreE (fun _ => XS.ifNo X217.here hx rfl (hb hby at_222) rfl ((if0 _ _).trans ((teq (rfl : (0 : Int32) = 0)).2))) ?_
  show oEndE p e s below T217 (mkF m 225 #[.val (.int p1), .val (.int p2), .val (.int (3 : Int32)), .val (.ref eP), .val (.ref eA), .val (.ref eB), .val (.ref eC), .val (.ref E1), .val (.ref eC)] []) n0 h 32 102 (some (.int 1))
  refine oPreE (fun _ => XS.iconst X217.here hx rfl (hb hby at_225)) ?_
  show oEndE p e s below T217 (mkF m 226 #[.val (.int p1), .val (.int p2), .val (.int (3 : Int32)), .val (.ref eP), .val (.ref eA), .val (.ref eB), .val (.ref eC), .val (.ref E1), .val (.ref eC)] [(.int (1 : Int32))]) n0 h 32 102 (some (.int 1))
  refine oPreE (fun _ => XS.goto X217.here hx rfl (pc0 := 226) (pc' := 230) rfl (hb hby at_226) (by decide) (by decide)) ?_
  show oEndE p e s below T217 (mkF m 230 #[.val (.int p1), .val (.int p2), .val (.int (3 : Int32)), .val (.ref eP), .val (.ref eA), .val (.ref eB), .val (.ref eC), .val (.ref E1), .val (.ref eC)] [(.int (1 : Int32))]) n0 h 32 102 (some (.int 1))
  obtain ⟨fs, hr, hrun, hended, hW, hsame⟩ := X217.leave (v := some (.int 1)) (fun h => by rw [hret] at h; cases h) hlk
  have hsz : T106.heap.size = h.size := by rw [W106.size, W93.size, W80.size]
  exact ⟨_, Nat.le_trans (Nat.le_trans (Nat.le_of_eq hsz.symm) K110.1) K214.1, _, _, retN X217 hx (t := .boolean) hret (by simp) (hb hby at_230) hr, hrun, hended, hW, hsame, N217, e217⟩
theorem pn_0 : plainName "org/provenote/core/xml/XmlElementAddPinLaw" = true := by first | (simp [plainName, overriddenIn]; done) | decide +kernel
theorem ef_0 (m : MethodId) (p1 p2 : Int32) : entryFrame m #[(.int p1), (.int p2)] maxLocals = mkF m 0 #[.val (.int p1), .val (.int p2), .unset, .unset, .unset, .unset, .unset, .unset, .unset] [] := by first | (simp [entryFrame, mkF, argsToLocals, Value.category, maxLocals]; done) | rfl
theorem oThree (x : Int32) : (x &&& (3 : Int32)) = 0 ∨ (x &&& (3 : Int32)) = 1 ∨ (x &&& (3 : Int32)) = 2 ∨ (x &&& (3 : Int32)) = 3 := by
  have h := c_and x (3 : Int32) (by decide)
  have h3 : (3 : Int32).toInt = 3 := by decide
  have h0 : (0 : Int32).toInt = 0 := by decide
  have h1 : (1 : Int32).toInt = 1 := by decide
  have h2 : (2 : Int32).toInt = 2 := by decide
  simp only [← Int32.toInt_inj, h0, h1, h2, h3]
  omega
set_option maxRecDepth 65536 in
set_option maxHeartbeats 400000000 in
theorem oR0 (l : Launch) (Z : State) (a0 : Array Value) (hw : ∀ d ∈ tables_1, d.before a0 Z = true) (ws : List Jvm.Cond) (p1 p2 : Int32) {wN wC : Addr} (S_N : Sta Z Z.heap "org/provenote/core/xml/XmlAttributes" "NONE" "Lorg/provenote/core/xml/XmlAttributes;" (.ref wN)) (S_NC : Sta Z Z.heap "org/provenote/core/xml/XmlElement" "NO_CHILDREN" "Ljava/util/List;" (.ref wC)) (L_C : oLs Z Z.heap wC []) :
    MetFree l x (head1 (Jvm.Cond.code x code maxLocals ret :: ws) room_1) (fun a U => a = #[(.int p1), (.int p2)] ∧ Z.Warmed39 U.vm ∧ U.heap = Z.heap) (fun _ _ _ _ _ => True) (fun _ U o U' => ∃ v L, o = .returned v ∧ (v = some (.int 1) ∧ Fr Z.heap.size L) ∧ ReturnedEndW U o U' L room_1.cells room_1.slots) := by
  refine MetFree.of_bodySF (plainFor_of_name pn_0) hisR ?_
  intro p e s m args below meth c s₁ Bd hml0 hP hK
  obtain ⟨rfl, hZs, hh⟩ := hP
  have hx := Bd.exec
  have hby := Bd.bytes
  have hml : c.maxLocals = 9 := hml0
  have hown0 : s.vm.findClass "org/provenote/core/xml/XmlElementAddPinLaw" = some m.cls := findClass_of_methodNamed Bd.named
  have Xs : Stand p l e room_1 (s.setVm s.vm) m #[(.int p1), (.int p2)] below meth c s₁ [] 0 0 := Stand.of_body Bd
  have e0 : s₁.heap = Z.heap := by rw [← hh, Bd.state]; rfl
  have hS0 : s.Since s.vm 0 := (State.WarmedH.refl s).since 0
  have wS : ∀ a ∈ Bundle.stringAtoms, a.before a0 Z = true := fun d hd => hw d ((by decide +kernel : ∀ d ∈ Bundle.stringAtoms, d ∈ tables_1) d hd)
  have K0 : Keep Z.heap Z.heap [] := Keep.refl _ []
  have N0 := Fr.nil Z.heap.size
  obtain ⟨T01, h01, X01, e01, E01, A01, D01, -, st01⟩ := newO Xs hx hZs hown0 (hw _ (List.mem_of_getElem? (i := 0) rfl)) (hw _ (List.mem_of_getElem? (i := 1) rfl)) (hw _ (List.mem_of_getElem? (i := 2) rfl)) e0 (g := (mkF m 4 #[.val (.int p1), .val (.int p2), .val (.int (p1 &&& (3 : Int32))), .unset, .unset, .unset, .unset, .unset, .unset] [])) rfl (hb hby at_4) (by decide) (by decide)
  obtain ⟨eP, gq0⟩ : ∃ z, z = Z.heap.size := ⟨_, rfl⟩
  rw [← gq0] at A01 D01 st01
  have lo0 : Z.heap.size ≤ eP := Nat.le_of_eq gq0.symm
  have g_eP : Z.heap.size ≤ eP := Nat.le_trans K0.1 lo0
  obtain ⟨r02, T02, h02, k02, X02, e02, E02, hS02, hk02, hZ02, hown02, st02⟩ := ldcS (s := s) (vm0 := s.vm) X01 hx hZs hown0 (hw _ (List.mem_of_getElem? (i := 3) rfl)) wS e01 hS0 (Nat.le_trans (Nat.zero_le _) E01.1) (g := (mkF m 8 #[.val (.int p1), .val (.int p2), .val (.int (p1 &&& (3 : Int32))), .unset, .unset, .unset, .unset, .unset, .unset] [(.ref eP), (.ref eP)])) rfl (hb hby at_8) (n := 4) (by decide) (by decide) (by decide) (by decide)
  obtain ⟨r03, T03, h03, k03, X03, e03, E03, hS03, hk03, hZ03, hown03, st03⟩ := ldcS (s := s) (vm0 := T02.vm) X02 hx hZ02 hown02 (hw _ (List.mem_of_getElem? (i := 11) rfl)) wS e02 hS02 hk02 (g := (mkF m 10 #[.val (.int p1), .val (.int p2), .val (.int (p1 &&& (3 : Int32))), .unset, .unset, .unset, .unset, .unset, .unset] [(.ref r02), (.ref eP), (.ref eP)])) rfl (hb hby at_10) (n := 0) (by decide) (by decide) (by decide) (by decide)
  have Ke0 : Keep Z.heap h03 [] := (((Keep.refl Z.heap []).ext E01).ext E02).ext E03
  obtain ⟨T04, X04, e04, st04⟩ := getS2 X03 hx hZ03 hown03 (host := "") (Or.inl (hw _ (List.mem_of_getElem? (i := 12) rfl))) Via.refl e03 (oSta_keep (oKeepN K0 Ke0) S_N) (g := (mkF m 13 #[.val (.int p1), .val (.int p2), .val (.int (p1 &&& (3 : Int32))), .unset, .unset, .unset, .unset, .unset, .unset] [(.int p2), (.ref r03), (.ref r02), (.ref eP), (.ref eP)])) rfl (hb hby at_13)
  have Zq0 : Z.heap.size ≤ h03.size := Nat.le_trans K0.1 Ke0.1
  obtain ⟨_, _, ⟨T05, L05, k05, n05⟩, -, X05, hS05, hg05, ⟨Lc05, hQ05, l05, y05, z05⟩, st05⟩ := X04.specialBackS hx (y := (⟨"org/provenote/core/xml/XmlElement", "<init>", "(Ljava/lang/String;Ljava/lang/String;ILorg/provenote/core/xml/XmlAttributes;)V"⟩ : MethodName)) rfl hown03 (mvT hZ03 (hw _ (List.mem_of_getElem? (i := 15) rfl))) (mvT hZ03 (hw _ (List.mem_of_getElem? (i := 16) rfl))) (mvT hZ03 (hw _ (List.mem_of_getElem? (i := 17) rfl))) (by decide) (backOfS (W := 1) (oRI l Z a0 hw [] eP r02 r03 p2 wN h03 Z.heap.size Zq0 ((A01.ext E02).ext E03) (fun Lq hq => ((D01 Lq hq).ext E02).ext E03) g_eP) hZ03 (hw _ (List.mem_of_getElem? (i := 17) rfl)) (hw _ (List.mem_of_getElem? (i := 2) rfl)) (by decide) (by decide)) (g := (mkF m 16 #[.val (.int p1), .val (.int p2), .val (.int (p1 &&& (3 : Int32))), .unset, .unset, .unset, .unset, .unset, .unset] [(.ref wN), (.int p2), (.ref r03), (.ref r02), (.ref eP), (.ref eP)])) rfl (by rw [hml]; rfl) (Steps.refl _) (a := eP) (argsL := [(.ref r02), (.ref r03), (.int p2), (.ref wN)]) (rest := [(.ref eP)]) (lenOf pd_0 rfl) rfl (by show 2 * 0 + _ ≤ _; exact Nat.le_of_eq rfl) (hb hby at_16) (fun _ _ => ⟨rfl, e04, (by decide : 5 + 2 ≤ _), (by decide : 19 + 4 ≤ _)⟩)
  dsimp only [Pt.U, Pt.locs, Pt.cells, Pt.slots] at X05 l05 y05 z05 st05 hQ05 hS05 hg05
  subst l05
  rw [y05, z05] at X05
  obtain ⟨rfl, Nq0, Kq0, Aq0, Fq0, Gq0⟩ := hQ05
  obtain ⟨Xr0, hSr0, hZr0, hor0⟩ := rebS hS03 (show k03 ≤ T04.heap.size by rw [e04]; exact hk03) X05 hS05 hg05 hZ03 hown03
  have Nr0 := Fr.app N0 Nq0
  have Ks0 : Keep Z.heap T05.heap [] := oKeep0 Ke0 Kq0 lo0
  have Kr0 : Keep Z.heap T05.heap [] := oKeepN K0 Ks0
  obtain ⟨T11, h11, X11, e11, E11, A11, D11, -, st11⟩ := newO Xr0 hx hZr0 hor0 (hw _ (List.mem_of_getElem? (i := 0) rfl)) (hw _ (List.mem_of_getElem? (i := 1) rfl)) (hw _ (List.mem_of_getElem? (i := 2) rfl)) rfl (g := (mkF m 20 #[.val (.int p1), .val (.int p2), .val (.int (p1 &&& (3 : Int32))), .val (.ref eP), .unset, .unset, .unset, .unset, .unset] [])) rfl (hb hby at_20) (by decide) (by decide)
  obtain ⟨eA, gq1⟩ : ∃ z, z = T05.heap.size := ⟨_, rfl⟩
  rw [← gq1] at A11 D11 st11
  have lo1 : T05.heap.size ≤ eA := Nat.le_of_eq gq1.symm
  have g_eA : Z.heap.size ≤ eA := Nat.le_trans Kr0.1 lo1
  obtain ⟨r12, T12, h12, k12, X12, e12, E12, hS12, hk12, hZ12, hown12, st12⟩ := ldcS (s := s) (vm0 := T05.vm) X11 hx hZr0 hor0 (hw _ (List.mem_of_getElem? (i := 32) rfl)) wS e11 hSr0 (Nat.le_trans (Nat.le_refl _) E11.1) (g := (mkF m 24 #[.val (.int p1), .val (.int p2), .val (.int (p1 &&& (3 : Int32))), .val (.ref eP), .unset, .unset, .unset, .unset, .unset] [(.ref eA), (.ref eA)])) rfl (hb hby at_24) (n := 4) (by decide) (by decide) (by decide) (by decide)
  obtain ⟨r13, T13, h13, k13, X13, e13, E13, hS13, hk13, hZ13, hown13, st13⟩ := ldcS (s := s) (vm0 := T12.vm) X12 hx hZ12 hown12 (hw _ (List.mem_of_getElem? (i := 11) rfl)) wS e12 hS12 hk12 (g := (mkF m 26 #[.val (.int p1), .val (.int p2), .val (.int (p1 &&& (3 : Int32))), .val (.ref eP), .unset, .unset, .unset, .unset, .unset] [(.ref r12), (.ref eA), (.ref eA)])) rfl (hb hby at_26) (n := 0) (by decide) (by decide) (by decide) (by decide)
  have Ke1 : Keep T05.heap h13 [] := (((Keep.refl T05.heap []).ext E11).ext E12).ext E13
  obtain ⟨T14, X14, e14, st14⟩ := getS2 X13 hx hZ13 hown13 (host := "") (Or.inl (hw _ (List.mem_of_getElem? (i := 12) rfl))) Via.refl e13 (oSta_keep (oKeepN Kr0 Ke1) S_N) (g := (mkF m 29 #[.val (.int p1), .val (.int p2), .val (.int (p1 &&& (3 : Int32))), .val (.ref eP), .unset, .unset, .unset, .unset, .unset] [(.int p2), (.ref r13), (.ref r12), (.ref eA), (.ref eA)])) rfl (hb hby at_29)
  have Zq1 : Z.heap.size ≤ h13.size := Nat.le_trans Kr0.1 Ke1.1
  obtain ⟨_, _, ⟨T15, L15, k15, n15⟩, -, X15, hS15, hg15, ⟨Lc15, hQ15, l15, y15, z15⟩, st15⟩ := X14.specialBackS hx (y := (⟨"org/provenote/core/xml/XmlElement", "<init>", "(Ljava/lang/String;Ljava/lang/String;ILorg/provenote/core/xml/XmlAttributes;)V"⟩ : MethodName)) rfl hown13 (mvT hZ13 (hw _ (List.mem_of_getElem? (i := 15) rfl))) (mvT hZ13 (hw _ (List.mem_of_getElem? (i := 16) rfl))) (mvT hZ13 (hw _ (List.mem_of_getElem? (i := 17) rfl))) (by decide) (backOfS (W := 1) (oRI l Z a0 hw [] eA r12 r13 p2 wN h13 Z.heap.size Zq1 ((A11.ext E12).ext E13) (fun Lq hq => ((D11 Lq hq).ext E12).ext E13) g_eA) hZ13 (hw _ (List.mem_of_getElem? (i := 17) rfl)) (hw _ (List.mem_of_getElem? (i := 2) rfl)) (by decide) (by decide)) (g := (mkF m 32 #[.val (.int p1), .val (.int p2), .val (.int (p1 &&& (3 : Int32))), .val (.ref eP), .unset, .unset, .unset, .unset, .unset] [(.ref wN), (.int p2), (.ref r13), (.ref r12), (.ref eA), (.ref eA)])) rfl (by rw [hml]; rfl) (Steps.refl _) (a := eA) (argsL := [(.ref r12), (.ref r13), (.int p2), (.ref wN)]) (rest := [(.ref eA)]) (lenOf pd_0 rfl) rfl (by show 2 * 0 + _ ≤ _; exact Nat.le_of_eq rfl) (hb hby at_32) (fun _ _ => ⟨rfl, e14, (by decide : 12 + 2 ≤ _), (by decide : 42 + 4 ≤ _)⟩)
  dsimp only [Pt.U, Pt.locs, Pt.cells, Pt.slots] at X15 l15 y15 z15 st15 hQ15 hS15 hg15
  subst l15
  rw [y15, z15] at X15
  obtain ⟨rfl, Nq1, Kq1, Aq1, Fq1, Gq1⟩ := hQ15
  obtain ⟨Xr1, hSr1, hZr1, hor1⟩ := rebS hS13 (show k13 ≤ T14.heap.size by rw [e14]; exact hk13) X15 hS15 hg15 hZ13 hown13
  have Nr1 := Fr.app Nr0 Nq1
  have Ks1 : Keep T05.heap T15.heap [] := oKeep0 Ke1 Kq1 lo1
  have Kr1 : Keep Z.heap T15.heap [] := oKeepN Kr0 Ks1
  have n_eP_eA : eP ≠ eA := Nat.ne_of_lt (by rw [gq1]; exact Aq0.lt)
  have E_eP_1 := Aq0.keep Ks1
  have F_eP_1 := Fq0.keep Ks1 (by simp)
  have G_eP_1 := Gq0.keep Ks1 (by simp)
  obtain ⟨T21, h21, X21, e21, E21, A21, D21, -, st21⟩ := newO Xr1 hx hZr1 hor1 (hw _ (List.mem_of_getElem? (i := 0) rfl)) (hw _ (List.mem_of_getElem? (i := 1) rfl)) (hw _ (List.mem_of_getElem? (i := 2) rfl)) rfl (g := (mkF m 37 #[.val (.int p1), .val (.int p2), .val (.int (p1 &&& (3 : Int32))), .val (.ref eP), .val (.ref eA), .unset, .unset, .unset, .unset] [])) rfl (hb hby at_37) (by decide) (by decide)
  obtain ⟨eB, gq2⟩ : ∃ z, z = T15.heap.size := ⟨_, rfl⟩
  rw [← gq2] at A21 D21 st21
  have lo2 : T15.heap.size ≤ eB := Nat.le_of_eq gq2.symm
  have g_eB : Z.heap.size ≤ eB := Nat.le_trans Kr1.1 lo2
  obtain ⟨r22, T22, h22, k22, X22, e22, E22, hS22, hk22, hZ22, hown22, st22⟩ := ldcS (s := s) (vm0 := T15.vm) X21 hx hZr1 hor1 (hw _ (List.mem_of_getElem? (i := 33) rfl)) wS e21 hSr1 (Nat.le_trans (Nat.le_refl _) E21.1) (g := (mkF m 41 #[.val (.int p1), .val (.int p2), .val (.int (p1 &&& (3 : Int32))), .val (.ref eP), .val (.ref eA), .unset, .unset, .unset, .unset] [(.ref eB), (.ref eB)])) rfl (hb hby at_41) (n := 4) (by decide) (by decide) (by decide) (by decide)
  obtain ⟨r23, T23, h23, k23, X23, e23, E23, hS23, hk23, hZ23, hown23, st23⟩ := ldcS (s := s) (vm0 := T22.vm) X22 hx hZ22 hown22 (hw _ (List.mem_of_getElem? (i := 11) rfl)) wS e22 hS22 hk22 (g := (mkF m 43 #[.val (.int p1), .val (.int p2), .val (.int (p1 &&& (3 : Int32))), .val (.ref eP), .val (.ref eA), .unset, .unset, .unset, .unset] [(.ref r22), (.ref eB), (.ref eB)])) rfl (hb hby at_43) (n := 0) (by decide) (by decide) (by decide) (by decide)
  have Ke2 : Keep T15.heap h23 [] := (((Keep.refl T15.heap []).ext E21).ext E22).ext E23
  obtain ⟨T24, X24, e24, st24⟩ := getS2 X23 hx hZ23 hown23 (host := "") (Or.inl (hw _ (List.mem_of_getElem? (i := 12) rfl))) Via.refl e23 (oSta_keep (oKeepN Kr1 Ke2) S_N) (g := (mkF m 46 #[.val (.int p1), .val (.int p2), .val (.int (p1 &&& (3 : Int32))), .val (.ref eP), .val (.ref eA), .unset, .unset, .unset, .unset] [(.int p2), (.ref r23), (.ref r22), (.ref eB), (.ref eB)])) rfl (hb hby at_46)
  have Zq2 : Z.heap.size ≤ h23.size := Nat.le_trans Kr1.1 Ke2.1
  obtain ⟨_, _, ⟨T25, L25, k25, n25⟩, -, X25, hS25, hg25, ⟨Lc25, hQ25, l25, y25, z25⟩, st25⟩ := X24.specialBackS hx (y := (⟨"org/provenote/core/xml/XmlElement", "<init>", "(Ljava/lang/String;Ljava/lang/String;ILorg/provenote/core/xml/XmlAttributes;)V"⟩ : MethodName)) rfl hown23 (mvT hZ23 (hw _ (List.mem_of_getElem? (i := 15) rfl))) (mvT hZ23 (hw _ (List.mem_of_getElem? (i := 16) rfl))) (mvT hZ23 (hw _ (List.mem_of_getElem? (i := 17) rfl))) (by decide) (backOfS (W := 1) (oRI l Z a0 hw [] eB r22 r23 p2 wN h23 Z.heap.size Zq2 ((A21.ext E22).ext E23) (fun Lq hq => ((D21 Lq hq).ext E22).ext E23) g_eB) hZ23 (hw _ (List.mem_of_getElem? (i := 17) rfl)) (hw _ (List.mem_of_getElem? (i := 2) rfl)) (by decide) (by decide)) (g := (mkF m 49 #[.val (.int p1), .val (.int p2), .val (.int (p1 &&& (3 : Int32))), .val (.ref eP), .val (.ref eA), .unset, .unset, .unset, .unset] [(.ref wN), (.int p2), (.ref r23), (.ref r22), (.ref eB), (.ref eB)])) rfl (by rw [hml]; rfl) (Steps.refl _) (a := eB) (argsL := [(.ref r22), (.ref r23), (.int p2), (.ref wN)]) (rest := [(.ref eB)]) (lenOf pd_0 rfl) rfl (by show 2 * 0 + _ ≤ _; exact Nat.le_of_eq rfl) (hb hby at_49) (fun _ _ => ⟨rfl, e24, (by decide : 19 + 2 ≤ _), (by decide : 65 + 4 ≤ _)⟩)
  dsimp only [Pt.U, Pt.locs, Pt.cells, Pt.slots] at X25 l25 y25 z25 st25 hQ25 hS25 hg25
  subst l25
  rw [y25, z25] at X25
  obtain ⟨rfl, Nq2, Kq2, Aq2, Fq2, Gq2⟩ := hQ25
  obtain ⟨Xr2, hSr2, hZr2, hor2⟩ := rebS hS23 (show k23 ≤ T24.heap.size by rw [e24]; exact hk23) X25 hS25 hg25 hZ23 hown23
  have Nr2 := Fr.app Nr1 Nq2
  have Ks2 : Keep T15.heap T25.heap [] := oKeep0 Ke2 Kq2 lo2
  have Kr2 : Keep Z.heap T25.heap [] := oKeepN Kr1 Ks2
  have n_eP_eB : eP ≠ eB := Nat.ne_of_lt (by rw [gq2]; exact E_eP_1.lt)
  have n_eA_eB : eA ≠ eB := Nat.ne_of_lt (by rw [gq2]; exact Aq1.lt)
  have E_eP_2 := E_eP_1.keep Ks2
  have F_eP_2 := F_eP_1.keep Ks2 (by simp)
  have G_eP_2 := G_eP_1.keep Ks2 (by simp)
  have E_eA_2 := Aq1.keep Ks2
  have F_eA_2 := Fq1.keep Ks2 (by simp)
  have G_eA_2 := Gq1.keep Ks2 (by simp)
  obtain ⟨T31, h31, X31, e31, E31, A31, D31, -, st31⟩ := newO Xr2 hx hZr2 hor2 (hw _ (List.mem_of_getElem? (i := 0) rfl)) (hw _ (List.mem_of_getElem? (i := 1) rfl)) (hw _ (List.mem_of_getElem? (i := 2) rfl)) rfl (g := (mkF m 54 #[.val (.int p1), .val (.int p2), .val (.int (p1 &&& (3 : Int32))), .val (.ref eP), .val (.ref eA), .val (.ref eB), .unset, .unset, .unset] [])) rfl (hb hby at_54) (by decide) (by decide)
  obtain ⟨eC, gq3⟩ : ∃ z, z = T25.heap.size := ⟨_, rfl⟩
  rw [← gq3] at A31 D31 st31
  have lo3 : T25.heap.size ≤ eC := Nat.le_of_eq gq3.symm
  have g_eC : Z.heap.size ≤ eC := Nat.le_trans Kr2.1 lo3
  obtain ⟨r32, T32, h32, k32, X32, e32, E32, hS32, hk32, hZ32, hown32, st32⟩ := ldcS (s := s) (vm0 := T25.vm) X31 hx hZr2 hor2 (hw _ (List.mem_of_getElem? (i := 34) rfl)) wS e31 hSr2 (Nat.le_trans (Nat.le_refl _) E31.1) (g := (mkF m 58 #[.val (.int p1), .val (.int p2), .val (.int (p1 &&& (3 : Int32))), .val (.ref eP), .val (.ref eA), .val (.ref eB), .unset, .unset, .unset] [(.ref eC), (.ref eC)])) rfl (hb hby at_58) (n := 4) (by decide) (by decide) (by decide) (by decide)
  obtain ⟨r33, T33, h33, k33, X33, e33, E33, hS33, hk33, hZ33, hown33, st33⟩ := ldcS (s := s) (vm0 := T32.vm) X32 hx hZ32 hown32 (hw _ (List.mem_of_getElem? (i := 11) rfl)) wS e32 hS32 hk32 (g := (mkF m 60 #[.val (.int p1), .val (.int p2), .val (.int (p1 &&& (3 : Int32))), .val (.ref eP), .val (.ref eA), .val (.ref eB), .unset, .unset, .unset] [(.ref r32), (.ref eC), (.ref eC)])) rfl (hb hby at_60) (n := 0) (by decide) (by decide) (by decide) (by decide)
  have Ke3 : Keep T25.heap h33 [] := (((Keep.refl T25.heap []).ext E31).ext E32).ext E33
  obtain ⟨T34, X34, e34, st34⟩ := getS2 X33 hx hZ33 hown33 (host := "") (Or.inl (hw _ (List.mem_of_getElem? (i := 12) rfl))) Via.refl e33 (oSta_keep (oKeepN Kr2 Ke3) S_N) (g := (mkF m 63 #[.val (.int p1), .val (.int p2), .val (.int (p1 &&& (3 : Int32))), .val (.ref eP), .val (.ref eA), .val (.ref eB), .unset, .unset, .unset] [(.int p2), (.ref r33), (.ref r32), (.ref eC), (.ref eC)])) rfl (hb hby at_63)
  have Zq3 : Z.heap.size ≤ h33.size := Nat.le_trans Kr2.1 Ke3.1
  obtain ⟨_, _, ⟨T35, L35, k35, n35⟩, -, X35, hS35, hg35, ⟨Lc35, hQ35, l35, y35, z35⟩, st35⟩ := X34.specialBackS hx (y := (⟨"org/provenote/core/xml/XmlElement", "<init>", "(Ljava/lang/String;Ljava/lang/String;ILorg/provenote/core/xml/XmlAttributes;)V"⟩ : MethodName)) rfl hown33 (mvT hZ33 (hw _ (List.mem_of_getElem? (i := 15) rfl))) (mvT hZ33 (hw _ (List.mem_of_getElem? (i := 16) rfl))) (mvT hZ33 (hw _ (List.mem_of_getElem? (i := 17) rfl))) (by decide) (backOfS (W := 1) (oRI l Z a0 hw [] eC r32 r33 p2 wN h33 Z.heap.size Zq3 ((A31.ext E32).ext E33) (fun Lq hq => ((D31 Lq hq).ext E32).ext E33) g_eC) hZ33 (hw _ (List.mem_of_getElem? (i := 17) rfl)) (hw _ (List.mem_of_getElem? (i := 2) rfl)) (by decide) (by decide)) (g := (mkF m 66 #[.val (.int p1), .val (.int p2), .val (.int (p1 &&& (3 : Int32))), .val (.ref eP), .val (.ref eA), .val (.ref eB), .unset, .unset, .unset] [(.ref wN), (.int p2), (.ref r33), (.ref r32), (.ref eC), (.ref eC)])) rfl (by rw [hml]; rfl) (Steps.refl _) (a := eC) (argsL := [(.ref r32), (.ref r33), (.int p2), (.ref wN)]) (rest := [(.ref eC)]) (lenOf pd_0 rfl) rfl (by show 2 * 0 + _ ≤ _; exact Nat.le_of_eq rfl) (hb hby at_66) (fun _ _ => ⟨rfl, e34, (by decide : 26 + 2 ≤ _), (by decide : 88 + 4 ≤ _)⟩)
  dsimp only [Pt.U, Pt.locs, Pt.cells, Pt.slots] at X35 l35 y35 z35 st35 hQ35 hS35 hg35
  subst l35
  rw [y35, z35] at X35
  obtain ⟨rfl, Nq3, Kq3, Aq3, Fq3, Gq3⟩ := hQ35
  obtain ⟨Xr3, hSr3, hZr3, hor3⟩ := rebS hS33 (show k33 ≤ T34.heap.size by rw [e34]; exact hk33) X35 hS35 hg35 hZ33 hown33
  have Nr3 := Fr.app Nr2 Nq3
  have Ks3 : Keep T25.heap T35.heap [] := oKeep0 Ke3 Kq3 lo3
  have Kr3 : Keep Z.heap T35.heap [] := oKeepN Kr2 Ks3
  have n_eP_eC : eP ≠ eC := Nat.ne_of_lt (by rw [gq3]; exact E_eP_2.lt)
  have n_eA_eC : eA ≠ eC := Nat.ne_of_lt (by rw [gq3]; exact E_eA_2.lt)
  have n_eB_eC : eB ≠ eC := Nat.ne_of_lt (by rw [gq3]; exact Aq2.lt)
  have E_eP_3 := E_eP_2.keep Ks3
  have F_eP_3 := F_eP_2.keep Ks3 (by simp)
  have G_eP_3 := G_eP_2.keep Ks3 (by simp)
  have E_eA_3 := E_eA_2.keep Ks3
  have F_eA_3 := F_eA_2.keep Ks3 (by simp)
  have G_eA_3 := G_eA_2.keep Ks3 (by simp)
  have E_eB_3 := Aq2.keep Ks3
  have F_eB_3 := Fq2.keep Ks3 (by simp)
  have G_eB_3 := Gq2.keep Ks3 (by simp)
  have main : oEndE p e (s.setVm T35.vm) below s₁ (mkF m 0 #[.val (.int p1), .val (.int p2), .unset, .unset, .unset, .unset, .unset, .unset, .unset] []) Z.heap.size T35.heap 32 102 (some (.int 1)) := by
    show oEndE p e (s.setVm T35.vm) below s₁ (mkF m 0 #[.val (.int p1), .val (.int p2), .unset, .unset, .unset, .unset, .unset, .unset, .unset] []) Z.heap.size T35.heap 32 102 (some (.int 1))
    refine oPreE (fun _ => XS.iloadN Xs.here hx rfl (hb hby at_0) rfl) ?_
    show oEndE p e (s.setVm T35.vm) below s₁ (mkF m 1 #[.val (.int p1), .val (.int p2), .unset, .unset, .unset, .unset, .unset, .unset, .unset] [(.int p1)]) Z.heap.size T35.heap 32 102 (some (.int 1))
    refine oPreE (fun _ => XS.iconst Xs.here hx rfl (hb hby at_1)) ?_
    show oEndE p e (s.setVm T35.vm) below s₁ (mkF m 2 #[.val (.int p1), .val (.int p2), .unset, .unset, .unset, .unset, .unset, .unset, .unset] [(.int (3 : Int32)), (.int p1)]) Z.heap.size T35.heap 32 102 (some (.int 1))
    refine oPreE (fun _ => XS.iand Xs.here hx rfl (hb hby at_2) rfl) ?_
    show oEndE p e (s.setVm T35.vm) below s₁ (mkF m 3 #[.val (.int p1), .val (.int p2), .unset, .unset, .unset, .unset, .unset, .unset, .unset] [(.int (p1 &&& (3 : Int32)))]) Z.heap.size T35.heap 32 102 (some (.int 1))
    refine oPreE (fun _ => XS.istoreN Xs.here hx rfl (hb hby at_3) rfl (l' := #[.val (.int p1), .val (.int p2), .val (.int (p1 &&& (3 : Int32))), .unset, .unset, .unset, .unset, .unset, .unset]) rfl) ?_
    show oEndE p e (s.setVm T35.vm) below s₁ (mkF m 4 #[.val (.int p1), .val (.int p2), .val (.int (p1 &&& (3 : Int32))), .unset, .unset, .unset, .unset, .unset, .unset] []) Z.heap.size T35.heap 32 102 (some (.int 1))
    refine oPreE st01 ?_
    show oEndE p e (s.setVm T35.vm) below T01 (mkF m 7 #[.val (.int p1), .val (.int p2), .val (.int (p1 &&& (3 : Int32))), .unset, .unset, .unset, .unset, .unset, .unset] [(.ref eP)]) Z.heap.size T35.heap 32 102 (some (.int 1))
    refine oPreE (fun _ => XS.dup X01.here hx rfl (hb hby at_7) rfl rfl) ?_
    show oEndE p e (s.setVm T35.vm) below T01 (mkF m 8 #[.val (.int p1), .val (.int p2), .val (.int (p1 &&& (3 : Int32))), .unset, .unset, .unset, .unset, .unset, .unset] [(.ref eP), (.ref eP)]) Z.heap.size T35.heap 32 102 (some (.int 1))
    refine oPreE st02 ?_
    show oEndE p e (s.setVm T35.vm) below T02 (mkF m 10 #[.val (.int p1), .val (.int p2), .val (.int (p1 &&& (3 : Int32))), .unset, .unset, .unset, .unset, .unset, .unset] [(.ref r02), (.ref eP), (.ref eP)]) Z.heap.size T35.heap 32 102 (some (.int 1))
    refine oPreE st03 ?_
    show oEndE p e (s.setVm T35.vm) below T03 (mkF m 12 #[.val (.int p1), .val (.int p2), .val (.int (p1 &&& (3 : Int32))), .unset, .unset, .unset, .unset, .unset, .unset] [(.ref r03), (.ref r02), (.ref eP), (.ref eP)]) Z.heap.size T35.heap 32 102 (some (.int 1))
    refine oPreE (fun _ => XS.iloadN X03.here hx rfl (hb hby at_12) rfl) ?_
    show oEndE p e (s.setVm T35.vm) below T03 (mkF m 13 #[.val (.int p1), .val (.int p2), .val (.int (p1 &&& (3 : Int32))), .unset, .unset, .unset, .unset, .unset, .unset] [(.int p2), (.ref r03), (.ref r02), (.ref eP), (.ref eP)]) Z.heap.size T35.heap 32 102 (some (.int 1))
    refine oPreE st04 ?_
    show oEndE p e (s.setVm T35.vm) below T04 (mkF m 16 #[.val (.int p1), .val (.int p2), .val (.int (p1 &&& (3 : Int32))), .unset, .unset, .unset, .unset, .unset, .unset] [(.ref wN), (.int p2), (.ref r03), (.ref r02), (.ref eP), (.ref eP)]) Z.heap.size T35.heap 32 102 (some (.int 1))
    refine oPreE (fun _ z => st05.trans z) ?_
    show oEndE p e (s.setVm T35.vm) below T05 (mkF m 19 #[.val (.int p1), .val (.int p2), .val (.int (p1 &&& (3 : Int32))), .unset, .unset, .unset, .unset, .unset, .unset] [(.ref eP)]) Z.heap.size T35.heap 32 102 (some (.int 1))
    refine oPreE (fun _ => XS.astoreN Xr0.here hx rfl (hb hby at_19) rfl rfl (l' := #[.val (.int p1), .val (.int p2), .val (.int (p1 &&& (3 : Int32))), .val (.ref eP), .unset, .unset, .unset, .unset, .unset]) rfl) ?_
    show oEndE p e (s.setVm T35.vm) below T05 (mkF m 20 #[.val (.int p1), .val (.int p2), .val (.int (p1 &&& (3 : Int32))), .val (.ref eP), .unset, .unset, .unset, .unset, .unset] []) Z.heap.size T35.heap 32 102 (some (.int 1))
    refine oPreE st11 ?_
    show oEndE p e (s.setVm T35.vm) below T11 (mkF m 23 #[.val (.int p1), .val (.int p2), .val (.int (p1 &&& (3 : Int32))), .val (.ref eP), .unset, .unset, .unset, .unset, .unset] [(.ref eA)]) Z.heap.size T35.heap 32 102 (some (.int 1))
    refine oPreE (fun _ => XS.dup X11.here hx rfl (hb hby at_23) rfl rfl) ?_
    show oEndE p e (s.setVm T35.vm) below T11 (mkF m 24 #[.val (.int p1), .val (.int p2), .val (.int (p1 &&& (3 : Int32))), .val (.ref eP), .unset, .unset, .unset, .unset, .unset] [(.ref eA), (.ref eA)]) Z.heap.size T35.heap 32 102 (some (.int 1))
    refine oPreE st12 ?_
    show oEndE p e (s.setVm T35.vm) below T12 (mkF m 26 #[.val (.int p1), .val (.int p2), .val (.int (p1 &&& (3 : Int32))), .val (.ref eP), .unset, .unset, .unset, .unset, .unset] [(.ref r12), (.ref eA), (.ref eA)]) Z.heap.size T35.heap 32 102 (some (.int 1))
    refine oPreE st13 ?_
    show oEndE p e (s.setVm T35.vm) below T13 (mkF m 28 #[.val (.int p1), .val (.int p2), .val (.int (p1 &&& (3 : Int32))), .val (.ref eP), .unset, .unset, .unset, .unset, .unset] [(.ref r13), (.ref r12), (.ref eA), (.ref eA)]) Z.heap.size T35.heap 32 102 (some (.int 1))
    refine oPreE (fun _ => XS.iloadN X13.here hx rfl (hb hby at_28) rfl) ?_
    show oEndE p e (s.setVm T35.vm) below T13 (mkF m 29 #[.val (.int p1), .val (.int p2), .val (.int (p1 &&& (3 : Int32))), .val (.ref eP), .unset, .unset, .unset, .unset, .unset] [(.int p2), (.ref r13), (.ref r12), (.ref eA), (.ref eA)]) Z.heap.size T35.heap 32 102 (some (.int 1))
    refine oPreE st14 ?_
    show oEndE p e (s.setVm T35.vm) below T14 (mkF m 32 #[.val (.int p1), .val (.int p2), .val (.int (p1 &&& (3 : Int32))), .val (.ref eP), .unset, .unset, .unset, .unset, .unset] [(.ref wN), (.int p2), (.ref r13), (.ref r12), (.ref eA), (.ref eA)]) Z.heap.size T35.heap 32 102 (some (.int 1))
    refine oPreE (fun _ z => st15.trans z) ?_
    show oEndE p e (s.setVm T35.vm) below T15 (mkF m 35 #[.val (.int p1), .val (.int p2), .val (.int (p1 &&& (3 : Int32))), .val (.ref eP), .unset, .unset, .unset, .unset, .unset] [(.ref eA)]) Z.heap.size T35.heap 32 102 (some (.int 1))
    refine oPreE (fun _ => XS.astore Xr1.here hx rfl (hb hby at_35) rfl rfl (l' := #[.val (.int p1), .val (.int p2), .val (.int (p1 &&& (3 : Int32))), .val (.ref eP), .val (.ref eA), .unset, .unset, .unset, .unset]) rfl) ?_
    show oEndE p e (s.setVm T35.vm) below T15 (mkF m 37 #[.val (.int p1), .val (.int p2), .val (.int (p1 &&& (3 : Int32))), .val (.ref eP), .val (.ref eA), .unset, .unset, .unset, .unset] []) Z.heap.size T35.heap 32 102 (some (.int 1))
    refine oPreE st21 ?_
    show oEndE p e (s.setVm T35.vm) below T21 (mkF m 40 #[.val (.int p1), .val (.int p2), .val (.int (p1 &&& (3 : Int32))), .val (.ref eP), .val (.ref eA), .unset, .unset, .unset, .unset] [(.ref eB)]) Z.heap.size T35.heap 32 102 (some (.int 1))
    refine oPreE (fun _ => XS.dup X21.here hx rfl (hb hby at_40) rfl rfl) ?_
    show oEndE p e (s.setVm T35.vm) below T21 (mkF m 41 #[.val (.int p1), .val (.int p2), .val (.int (p1 &&& (3 : Int32))), .val (.ref eP), .val (.ref eA), .unset, .unset, .unset, .unset] [(.ref eB), (.ref eB)]) Z.heap.size T35.heap 32 102 (some (.int 1))
    refine oPreE st22 ?_
    show oEndE p e (s.setVm T35.vm) below T22 (mkF m 43 #[.val (.int p1), .val (.int p2), .val (.int (p1 &&& (3 : Int32))), .val (.ref eP), .val (.ref eA), .unset, .unset, .unset, .unset] [(.ref r22), (.ref eB), (.ref eB)]) Z.heap.size T35.heap 32 102 (some (.int 1))
    refine oPreE st23 ?_
    show oEndE p e (s.setVm T35.vm) below T23 (mkF m 45 #[.val (.int p1), .val (.int p2), .val (.int (p1 &&& (3 : Int32))), .val (.ref eP), .val (.ref eA), .unset, .unset, .unset, .unset] [(.ref r23), (.ref r22), (.ref eB), (.ref eB)]) Z.heap.size T35.heap 32 102 (some (.int 1))
    refine oPreE (fun _ => XS.iloadN X23.here hx rfl (hb hby at_45) rfl) ?_
    show oEndE p e (s.setVm T35.vm) below T23 (mkF m 46 #[.val (.int p1), .val (.int p2), .val (.int (p1 &&& (3 : Int32))), .val (.ref eP), .val (.ref eA), .unset, .unset, .unset, .unset] [(.int p2), (.ref r23), (.ref r22), (.ref eB), (.ref eB)]) Z.heap.size T35.heap 32 102 (some (.int 1))
    refine oPreE st24 ?_
    show oEndE p e (s.setVm T35.vm) below T24 (mkF m 49 #[.val (.int p1), .val (.int p2), .val (.int (p1 &&& (3 : Int32))), .val (.ref eP), .val (.ref eA), .unset, .unset, .unset, .unset] [(.ref wN), (.int p2), (.ref r23), (.ref r22), (.ref eB), (.ref eB)]) Z.heap.size T35.heap 32 102 (some (.int 1))
    refine oPreE (fun _ z => st25.trans z) ?_
    show oEndE p e (s.setVm T35.vm) below T25 (mkF m 52 #[.val (.int p1), .val (.int p2), .val (.int (p1 &&& (3 : Int32))), .val (.ref eP), .val (.ref eA), .unset, .unset, .unset, .unset] [(.ref eB)]) Z.heap.size T35.heap 32 102 (some (.int 1))
    refine oPreE (fun _ => XS.astore Xr2.here hx rfl (hb hby at_52) rfl rfl (l' := #[.val (.int p1), .val (.int p2), .val (.int (p1 &&& (3 : Int32))), .val (.ref eP), .val (.ref eA), .val (.ref eB), .unset, .unset, .unset]) rfl) ?_
    show oEndE p e (s.setVm T35.vm) below T25 (mkF m 54 #[.val (.int p1), .val (.int p2), .val (.int (p1 &&& (3 : Int32))), .val (.ref eP), .val (.ref eA), .val (.ref eB), .unset, .unset, .unset] []) Z.heap.size T35.heap 32 102 (some (.int 1))
    refine oPreE st31 ?_
    show oEndE p e (s.setVm T35.vm) below T31 (mkF m 57 #[.val (.int p1), .val (.int p2), .val (.int (p1 &&& (3 : Int32))), .val (.ref eP), .val (.ref eA), .val (.ref eB), .unset, .unset, .unset] [(.ref eC)]) Z.heap.size T35.heap 32 102 (some (.int 1))
    refine oPreE (fun _ => XS.dup X31.here hx rfl (hb hby at_57) rfl rfl) ?_
    show oEndE p e (s.setVm T35.vm) below T31 (mkF m 58 #[.val (.int p1), .val (.int p2), .val (.int (p1 &&& (3 : Int32))), .val (.ref eP), .val (.ref eA), .val (.ref eB), .unset, .unset, .unset] [(.ref eC), (.ref eC)]) Z.heap.size T35.heap 32 102 (some (.int 1))
    refine oPreE st32 ?_
    show oEndE p e (s.setVm T35.vm) below T32 (mkF m 60 #[.val (.int p1), .val (.int p2), .val (.int (p1 &&& (3 : Int32))), .val (.ref eP), .val (.ref eA), .val (.ref eB), .unset, .unset, .unset] [(.ref r32), (.ref eC), (.ref eC)]) Z.heap.size T35.heap 32 102 (some (.int 1))
    refine oPreE st33 ?_
    show oEndE p e (s.setVm T35.vm) below T33 (mkF m 62 #[.val (.int p1), .val (.int p2), .val (.int (p1 &&& (3 : Int32))), .val (.ref eP), .val (.ref eA), .val (.ref eB), .unset, .unset, .unset] [(.ref r33), (.ref r32), (.ref eC), (.ref eC)]) Z.heap.size T35.heap 32 102 (some (.int 1))
    refine oPreE (fun _ => XS.iloadN X33.here hx rfl (hb hby at_62) rfl) ?_
    show oEndE p e (s.setVm T35.vm) below T33 (mkF m 63 #[.val (.int p1), .val (.int p2), .val (.int (p1 &&& (3 : Int32))), .val (.ref eP), .val (.ref eA), .val (.ref eB), .unset, .unset, .unset] [(.int p2), (.ref r33), (.ref r32), (.ref eC), (.ref eC)]) Z.heap.size T35.heap 32 102 (some (.int 1))
    refine oPreE st34 ?_
    show oEndE p e (s.setVm T35.vm) below T34 (mkF m 66 #[.val (.int p1), .val (.int p2), .val (.int (p1 &&& (3 : Int32))), .val (.ref eP), .val (.ref eA), .val (.ref eB), .unset, .unset, .unset] [(.ref wN), (.int p2), (.ref r33), (.ref r32), (.ref eC), (.ref eC)]) Z.heap.size T35.heap 32 102 (some (.int 1))
    refine oPreE (fun _ z => st35.trans z) ?_
    show oEndE p e (s.setVm T35.vm) below T35 (mkF m 69 #[.val (.int p1), .val (.int p2), .val (.int (p1 &&& (3 : Int32))), .val (.ref eP), .val (.ref eA), .val (.ref eB), .unset, .unset, .unset] [(.ref eC)]) Z.heap.size T35.heap 32 102 (some (.int 1))
    refine oPreE (fun _ => XS.astore Xr3.here hx rfl (hb hby at_69) rfl rfl (l' := #[.val (.int p1), .val (.int p2), .val (.int (p1 &&& (3 : Int32))), .val (.ref eP), .val (.ref eA), .val (.ref eB), .val (.ref eC), .unset, .unset]) rfl) ?_
    show oEndE p e (s.setVm T35.vm) below T35 (mkF m 71 #[.val (.int p1), .val (.int p2), .val (.int (p1 &&& (3 : Int32))), .val (.ref eP), .val (.ref eA), .val (.ref eB), .val (.ref eC), .unset, .unset] []) Z.heap.size T35.heap 32 102 (some (.int 1))
    have hS4 := oSta_keep Kr3 S_NC
    have hL4 := oLs_keep Kr3 L_C
    rcases oThree p1 with hn | hn | hn | hn
    · rw [hn]
      exact oCase0 Xr3 hx hby hml Bd.returns Bd.notSynchronized hor3 hZr3 hw rfl Nr3 Kr3.1 E_eP_3 F_eP_3 G_eP_3 g_eP E_eA_3 F_eA_3 G_eA_3 g_eA E_eB_3 F_eB_3 G_eB_3 g_eB Aq3 Fq3 Gq3 g_eC n_eP_eA n_eP_eB n_eP_eC n_eA_eB n_eA_eC n_eB_eC hS4 hL4 p1 p2
    · rw [hn]
      exact oCase1 Xr3 hx hby hml Bd.returns Bd.notSynchronized hor3 hZr3 hw rfl Nr3 Kr3.1 E_eP_3 F_eP_3 G_eP_3 g_eP E_eA_3 F_eA_3 G_eA_3 g_eA E_eB_3 F_eB_3 G_eB_3 g_eB Aq3 Fq3 Gq3 g_eC n_eP_eA n_eP_eB n_eP_eC n_eA_eB n_eA_eC n_eB_eC hS4 hL4 p1 p2
    · rw [hn]
      exact oCase2 Xr3 hx hby hml Bd.returns Bd.notSynchronized hor3 hZr3 hw rfl Nr3 Kr3.1 E_eP_3 F_eP_3 G_eP_3 g_eP E_eA_3 F_eA_3 G_eA_3 g_eA E_eB_3 F_eB_3 G_eB_3 g_eB Aq3 Fq3 Gq3 g_eC n_eP_eA n_eP_eB n_eP_eC n_eA_eB n_eA_eC n_eB_eC hS4 hL4 p1 p2
    · rw [hn]
      exact oCase3 Xr3 hx hby hml Bd.returns Bd.notSynchronized hor3 hZr3 hw rfl Nr3 Kr3.1 E_eP_3 F_eP_3 G_eP_3 g_eP E_eA_3 F_eA_3 G_eA_3 g_eA E_eB_3 F_eB_3 G_eB_3 g_eB Aq3 Fq3 Gq3 g_eC n_eP_eA n_eP_eB n_eP_eC n_eA_eB n_eA_eC n_eB_eC hS4 hL4 p1 p2
  obtain ⟨hh', hle, t, L, hs, hrun, hended, hW, hsame, hN, ht⟩ := main
  obtain ⟨q1, q2, q3⟩ := hSr3.ended (U := t) hW (by rw [ht]; exact hle) hsame
  exact ⟨t, _, castTop (ef_0 m p1 p2) hs, hrun, hended, _, L, rfl, ⟨rfl, hN⟩, ⟨_, rfl⟩, q1, q2, q3.mono (by decide) (by decide)⟩
set_option maxRecDepth 65536 in
set_option maxHeartbeats 4000000 in
theorem comes_1 {Post : Tables → Env → Array Value → State → Outcome → State → Prop} (hpost : ∀ tb e args s v u, (limb_1_1.after args s (.returned v) u = true ∧ limb_1_2.after args s (.returned v) u = true ∧ True) → ReturnedEndW s (.returned v) u (Jvm.fieldLocs frame_1_writes args s ++ Jvm.arrayLocs frame_1_arrays args s ++ Jvm.staticLocs frame_1_statics s) 32 6336 → Post tb e args s (.returned v) u) :
    ArmFor flags0 classFile x code maxLocals ret World_1 tables_1 room_1 Calls_1 rest_1 Pre_1 Post := by
  intro l hfl _ _ p e ha hc hk s m args below hf hA hF happ hP
  obtain ⟨hcalls, hrest, hpre⟩ := hP
  obtain ⟨-, -, -, hnamed, -, -, -, hat⟩ := (Spec.applies_iff hf).mp happ
  obtain ⟨hg, hn⟩ := and_e (Cond.before_iff.mp (show (Jvm.Cond.and given_1 narrow_1).before args s = true from hpre))
  obtain ⟨h1, h2⟩ := and_e hg
  obtain ⟨h3, h4⟩ := and_e h2
  obtain ⟨m0, t1⟩ := and_e hn
  obtain ⟨m1, t2⟩ := and_e t1
  obtain ⟨m2, m3⟩ := and_e t2
  obtain ⟨w0, w1, rfl⟩ : ∃ w0 w1 : Value, args = #[w0, w1] := by
    have hs : args.size = 2 := by simpa [Cond.value, given_1] using h1
    obtain ⟨L⟩ := args
    match L, hs with
    | [w0, w1], _ => exact ⟨w0, w1, rfl⟩
  have hw := fun d (hd : d ∈ tables_1) => atoms_spec (ws := Jvm.Cond.code x code maxLocals ret :: tables_1) hat d (List.mem_cons_of_mem _ hd)
  obtain ⟨i7, e6⟩ := is_v h3
  obtain rfl : w0 = (.int i7) := Option.some.inj e6
  obtain ⟨i9, e8⟩ := is_v h4
  obtain rfl : w1 = (.int i9) := Option.some.inj e8
  obtain ⟨wN, -, -, -, evN, -⟩ := Cond.exactly_spec (Cond.before_iff.mpr m0)
  have S_N : Sta s s.heap "org/provenote/core/xml/XmlAttributes" "NONE" "Lorg/provenote/core/xml/XmlAttributes;" (.ref wN) := Sta.start evN (Or.inr ⟨(hw _ (List.mem_of_getElem? (i := 13) rfl)), (hw _ (List.mem_of_getElem? (i := 14) rfl))⟩)
  obtain ⟨wC, -, -, -, evC, -⟩ := Cond.exactly_spec (Cond.before_iff.mpr m1)
  have S_NC : Sta s s.heap "org/provenote/core/xml/XmlElement" "NO_CHILDREN" "Ljava/util/List;" (.ref wC) := Sta.start evC (Or.inr ⟨(hw _ (List.mem_of_getElem? (i := 2) rfl)), (hw _ (List.mem_of_getElem? (i := 47) rfl))⟩)
  have hlen := Cond.eq_int (Cond.before_iff.mpr m3) rfl
  obtain ⟨bA, clA, evA, harr, -⟩ := Term.length_spec hlen
  obtain ⟨cl2, Ar⟩ := Arr.start evA m2
  have L_C : oLs s s.heap wC [] := ⟨bA, cl2, Exa.start evC m1, Fld.start (oOrd evC evA), Ar, oLen0 evA Ar hlen, fun i hi => absurd hi (Nat.not_lt_zero i)⟩
  obtain ⟨n, o, h1, h2, h3, _, L, rfl, ⟨rfl, N⟩, hq⟩ := oR0 l s _ hw tables_1 i7 i9 S_N S_NC L_C p e ha hc hk s m _ below hf ((Spec.applies_iff_loose hf).mp happ).1 ⟨rfl, State.Warmed39.refl s, rfl⟩ trivial
  refine ⟨n, _, h1, h2, h3, hpost _ _ _ _ _ _ ⟨Cond.after_iff.mpr rfl, Cond.after_iff.mpr (eq_i res_at (Term.int_eval (1)) rfl), trivial⟩ ⟨hq.1, hq.2.1, hq.2.2.1, (hq.2.2.2.sift fun y hy => Or.inr (N y hy)).mono (by decide) (by decide)⟩⟩
theorem main_1_1 : Claimed_1_1 := comes_1 fun _ _ _ _ _ _ h hF => ⟨h.1, hF⟩
theorem main_1_2 : Claimed_1_2 := comes_1 fun _ _ _ _ _ _ h hF => ⟨h.2.1, hF⟩
end Jvm.Pilot.@@N@@
namespace Jvm.Pilot.@@N@@
open Jvm Jvm.ClassFile Sem Op Lib Jvm.Free Jvm.Stand Jvm.Pilot.@@N@@.Jvm.D
/-! MADE BY PROGRAM (witnessworld.py) out of the Statement's table words and the real class files: 26 classes; the members and pool entries that the words name. The judged class is class 1, her method 1. -/
namespace start1
open Jvm.ClassFile
def u (s : String) : CpInfo := .utf8 (stringToUtf16 s)
/-- a pool by its gaps: so many unusable entries, then the entry; so many at the end -/
def gap : Nat → List CpInfo → List CpInfo
  | 0, r => r
  | n + 1, r => .unusable :: gap n r
def poolList (es : List (Nat × CpInfo)) (last : Nat) : List CpInfo := es.foldr (fun e r => gap e.1 (e.2 :: r)) (gap last [])
def pool (es : List (Nat × CpInfo)) (last : Nat) : Array CpInfo := ⟨poolList es last⟩
def fileOf (pool : Array CpInfo) (this : Nat) (attrs : Array Attribute := #[]) (ms : Array MethodInfo := #[]) (fl : Nat := 33) (sup : Nat := 0) (ifs : Array Nat := #[]) (fds : Array FieldInfo := #[]) : ClassFile where
  minorVersion := 0
  majorVersion := 65
  constantPool := pool
  accessFlags := fl
  thisClass := this
  superClass := sup
  interfaces := ifs
  fields := fds
  methods := ms
  attributes := attrs
def plain (name : String) (sup : Option ClassId) : Class where
  name := name
  kind := .ordinary
  loader := none
  accessFlags := 33
  super := sup
  interfaces := #[]
  cf := none
  fields := #[]
  methods := #[]
  instanceTypes := #[]
  staticTypes := #[]
  resolved := #[]
  callSites := []
  init := .initialized
  statics := none
  mirror := none

def pool0 : Array CpInfo := pool [(5, u "<init>"), (0, u "()V"), (1, .class_ 10), (1, u "java/lang/Object")] 113

def k0c0 : Code := { maxStack := 0, maxLocals := 1, code := object_method_1_code, exceptionTable := #[], attributes := #[] }
def k0m0 : Method := { name := "<init>", desc := "()V", sig := { parameters := [], returnType := none }, accessFlags := 1, code := some k0c0 }
/-- java/lang/Object -/
def k0 : Class := { plain "java/lang/Object" none with
  accessFlags := 33
  interfaces := #[]
  cf := some (fileOf pool0 8 #[] #[{ accessFlags := 1, nameIndex := 5, descriptorIndex := 6, attributes := #[] }] 33 0 #[] #[])
  fields := #[]
  methods := #[k0m0]
  instanceTypes := #[]
  staticTypes := #[]
  resolved := Array.replicate 124 none
  statics := none }

def pool1 : Array CpInfo := pool [(2, .class_ 4), (1, u "java/lang/Object"), (0, u "<init>"), (0, u "()V"), (0, .class_ 8), (0, u "org/provenote/core/xml/XmlElement"), (0, .string 10), (0, u "p"), (0, .string 12), (0, u ""), (0, .fieldref 14 15), (0, .class_ 16), (0, .nameAndType 17 18), (0, u "org/provenote/core/xml/XmlAttributes"), (0, u "NONE"), (0, u "Lorg/provenote/core/xml/XmlAttributes;"), (0, .methodref 7 20), (0, .nameAndType 5 21), (0, u "(Ljava/lang/String;Ljava/lang/String;ILorg/provenote/core/xml/XmlAttributes;)V"), (0, .string 23), (0, u "a"), (0, .string 25), (0, u "b"), (0, .string 27), (0, u "c"), (0, .methodref 7 29), (0, .nameAndType 30 31), (0, u "add"), (0, u "(Lorg/provenote/core/xml/XmlElement;Lorg/provenote/core/xml/XmlElement;)V"), (0, .methodref 7 33), (0, .nameAndType 34 35), (0, u "children"), (0, u "()Ljava/util/List;"), (0, .interfaceMethodref 37 38), (0, .class_ 39), (0, .nameAndType 40 41), (0, u "java/util/List"), (0, u "size"), (0, u "()I"), (0, .interfaceMethodref 37 43), (0, .nameAndType 44 45), (0, u "get"), (0, u "(I)Ljava/lang/Object;"), (0, .class_ 47), (0, u "org/provenote/core/xml/XmlElementAddPinLaw"), (2, u "law"), (0, u "(II)Z")] 3

def k1m0 : Method := { name := "<init>", desc := "()V", sig := { parameters := [], returnType := none }, accessFlags := 1, code := none }
def k1c1 : Code := { maxStack := 6, maxLocals := 9, code := code, exceptionTable := #[], attributes := #[] }
def k1m1 : Method := { name := "law", desc := "(II)Z", sig := { parameters := [.int, .int], returnType := some .boolean }, accessFlags := 9, code := some k1c1 }
/-- org/provenote/core/xml/XmlElementAddPinLaw -/
def k1 : Class := { plain "org/provenote/core/xml/XmlElementAddPinLaw" (some 0) with
  accessFlags := 49
  interfaces := #[]
  cf := some (fileOf pool1 46 #[] #[{ accessFlags := 1, nameIndex := 5, descriptorIndex := 6, attributes := #[] }, { accessFlags := 9, nameIndex := 50, descriptorIndex := 51, attributes := #[] }] 49 2 #[] #[])
  fields := #[]
  methods := #[k1m0, k1m1]
  instanceTypes := #[]
  staticTypes := #[]
  resolved := Array.replicate 55 none
  statics := none }

def pool2 : Array CpInfo := pool [(1, .methodref 2 3), (0, .class_ 4), (0, .nameAndType 5 6), (0, u "java/lang/Object"), (0, u "<init>"), (0, u "()V"), (0, .string 8), (0, u ""), (0, .fieldref 10 11), (0, .class_ 12), (0, .nameAndType 13 14), (0, u "org/provenote/core/xml/XmlElement"), (0, u "text"), (0, u "Ljava/lang/String;"), (0, .fieldref 10 16), (0, .nameAndType 17 14), (0, u "name"), (0, .fieldref 10 19), (0, .nameAndType 20 14), (0, u "namespace"), (0, .fieldref 10 22), (0, .nameAndType 23 24), (0, u "line"), (0, u "I"), (0, .fieldref 10 26), (0, .nameAndType 27 28), (0, u "attributes"), (0, u "Lorg/provenote/core/xml/XmlAttributes;"), (28, .methodref 10 58), (0, .nameAndType 59 60), (0, u "select"), (0, u "(Ljava/lang/String;)Ljava/util/List;"), (2, .fieldref 10 64), (0, .nameAndType 65 66), (0, u "firstChild"), (0, u "Lorg/provenote/core/xml/XmlElement;"), (4, .fieldref 10 72), (0, .nameAndType 73 66), (0, u "nextSibling"), (0, .fieldref 10 75), (0, .nameAndType 76 77), (0, u "NO_CHILDREN"), (0, u "Ljava/util/List;"), (0, .class_ 79), (0, u "org/provenote/core/xml/XmlElement$Elements"), (0, .methodref 78 81), (0, .nameAndType 5 82), (0, u "([Lorg/provenote/core/xml/XmlElement;)V"), (24, u "(Ljava/lang/String;Ljava/lang/String;ILorg/provenote/core/xml/XmlAttributes;)V"), (10, u "children"), (0, u "()Ljava/util/List;"), (8, u "add"), (0, u "(Lorg/provenote/core/xml/XmlElement;Lorg/provenote/core/xml/XmlElement;)V")] 23

def k2c0 : Code := { maxStack := 2, maxLocals := 5, code := prog_99_method_1_code, exceptionTable := #[], attributes := #[] }
def k2m0 : Method := { name := "<init>", desc := "(Ljava/lang/String;Ljava/lang/String;ILorg/provenote/core/xml/XmlAttributes;)V", sig := { parameters := [(.object "java/lang/String"), (.object "java/lang/String"), .int, (.object "org/provenote/core/xml/XmlAttributes")], returnType := none }, accessFlags := 0, code := some k2c0 }
def k2c1 : Code := { maxStack := 2, maxLocals := 1, code := prog_99_method_12_code, exceptionTable := #[], attributes := #[] }
def k2m1 : Method := { name := "children", desc := "()Ljava/util/List;", sig := { parameters := [], returnType := some (.object "java/util/List") }, accessFlags := 1, code := some k2c1 }
def k2c2 : Code := { maxStack := 3, maxLocals := 5, code := prog_99_method_14_code, exceptionTable := #[], attributes := #[] }
def k2m2 : Method := { name := "select", desc := "(Ljava/lang/String;)Ljava/util/List;", sig := { parameters := [(.object "java/lang/String")], returnType := some (.object "java/util/List") }, accessFlags := 2, code := some k2c2 }
def k2c3 : Code := { maxStack := 2, maxLocals := 3, code := prog_99_method_17_code, exceptionTable := #[], attributes := #[] }
def k2m3 : Method := { name := "add", desc := "(Lorg/provenote/core/xml/XmlElement;Lorg/provenote/core/xml/XmlElement;)V", sig := { parameters := [(.object "org/provenote/core/xml/XmlElement"), (.object "org/provenote/core/xml/XmlElement")], returnType := none }, accessFlags := 0, code := some k2c3 }
/-- org/provenote/core/xml/XmlElement -/
def k2 : Class := { plain "org/provenote/core/xml/XmlElement" (some 0) with
  accessFlags := 49
  interfaces := #[]
  cf := some (fileOf pool2 10 #[.nestMembers #[78]] #[{ accessFlags := 0, nameIndex := 5, descriptorIndex := 107, attributes := #[] }, { accessFlags := 1, nameIndex := 118, descriptorIndex := 119, attributes := #[] }, { accessFlags := 2, nameIndex := 59, descriptorIndex := 60, attributes := #[] }, { accessFlags := 0, nameIndex := 128, descriptorIndex := 129, attributes := #[] }] 49 2 #[] #[{ accessFlags := 26, nameIndex := 76, descriptorIndex := 77, attributes := #[] }, { accessFlags := 18, nameIndex := 17, descriptorIndex := 14, attributes := #[] }, { accessFlags := 18, nameIndex := 20, descriptorIndex := 14, attributes := #[] }, { accessFlags := 18, nameIndex := 23, descriptorIndex := 24, attributes := #[] }, { accessFlags := 18, nameIndex := 27, descriptorIndex := 28, attributes := #[] }, { accessFlags := 2, nameIndex := 65, descriptorIndex := 66, attributes := #[] }, { accessFlags := 2, nameIndex := 73, descriptorIndex := 66, attributes := #[] }, { accessFlags := 2, nameIndex := 13, descriptorIndex := 14, attributes := #[] }])
  fields := #[{ name := "NO_CHILDREN", type := (.object "java/util/List"), accessFlags := 26, slot := 0, constantValue := 0 }, { name := "name", type := (.object "java/lang/String"), accessFlags := 18, slot := 0, constantValue := 0 }, { name := "namespace", type := (.object "java/lang/String"), accessFlags := 18, slot := 1, constantValue := 0 }, { name := "line", type := .int, accessFlags := 18, slot := 2, constantValue := 0 }, { name := "attributes", type := (.object "org/provenote/core/xml/XmlAttributes"), accessFlags := 18, slot := 3, constantValue := 0 }, { name := "firstChild", type := (.object "org/provenote/core/xml/XmlElement"), accessFlags := 2, slot := 4, constantValue := 0 }, { name := "nextSibling", type := (.object "org/provenote/core/xml/XmlElement"), accessFlags := 2, slot := 5, constantValue := 0 }, { name := "text", type := (.object "java/lang/String"), accessFlags := 2, slot := 6, constantValue := 0 }]
  methods := #[k2m0, k2m1, k2m2, k2m3]
  instanceTypes := #[(.object "java/lang/String"), (.object "java/lang/String"), .int, (.object "org/provenote/core/xml/XmlAttributes"), (.object "org/provenote/core/xml/XmlElement"), (.object "org/provenote/core/xml/XmlElement"), (.object "java/lang/String")]
  staticTypes := #[(.object "java/util/List")]
  resolved := Array.replicate 153 none
  statics := some 0 }

def pool3 : Array CpInfo := pool [(1, .class_ 2), (0, u "java/io/Serializable"), (0, .class_ 4), (0, u "java/lang/Object")] 2

/-- java/io/Serializable -/
def k3 : Class := { plain "java/io/Serializable" (some 0) with
  accessFlags := 1537
  interfaces := #[]
  cf := some (fileOf pool3 1 #[] #[] 1537 3 #[] #[])
  fields := #[]
  methods := #[]
  instanceTypes := #[]
  staticTypes := #[]
  resolved := Array.replicate 7 none
  statics := none }

def pool4 : Array CpInfo := pool [(1, .class_ 2), (0, u "java/lang/Comparable"), (0, .class_ 4), (0, u "java/lang/Object")] 7

/-- java/lang/Comparable -/
def k4 : Class := { plain "java/lang/Comparable" (some 0) with
  accessFlags := 1537
  interfaces := #[]
  cf := some (fileOf pool4 1 #[] #[] 1537 3 #[] #[])
  fields := #[]
  methods := #[]
  instanceTypes := #[]
  staticTypes := #[]
  resolved := Array.replicate 12 none
  statics := none }

def pool5 : Array CpInfo := pool [(2, .class_ 4), (1, u "java/lang/CharSequence"), (42, .class_ 48), (0, u "java/lang/CharSequence$1CodePointIterator"), (10, .class_ 60), (0, u "java/lang/CharSequence$1CharIterator"), (5, .class_ 67), (0, u "java/lang/Object")] 63

/-- java/lang/CharSequence -/
def k5 : Class := { plain "java/lang/CharSequence" (some 0) with
  accessFlags := 1537
  interfaces := #[]
  cf := some (fileOf pool5 2 #[.nestMembers #[47, 59]] #[] 1537 66 #[] #[])
  fields := #[]
  methods := #[]
  instanceTypes := #[]
  staticTypes := #[]
  resolved := Array.replicate 131 none
  statics := none }

def pool6 : Array CpInfo := pool [(1, .class_ 2), (0, u "java/lang/constant/Constable"), (0, .class_ 4), (0, u "java/lang/Object")] 6

/-- java/lang/constant/Constable -/
def k6 : Class := { plain "java/lang/constant/Constable" (some 0) with
  accessFlags := 1537
  interfaces := #[]
  cf := some (fileOf pool6 1 #[] #[] 1537 3 #[] #[])
  fields := #[]
  methods := #[]
  instanceTypes := #[]
  staticTypes := #[]
  resolved := Array.replicate 11 none
  statics := none }

def pool7 : Array CpInfo := pool [(1, .class_ 2), (0, u "java/lang/constant/ConstantDesc"), (0, .class_ 4), (0, u "java/lang/Object")] 32

/-- java/lang/constant/ConstantDesc -/
def k7 : Class := { plain "java/lang/constant/ConstantDesc" (some 0) with
  accessFlags := 1537
  interfaces := #[]
  cf := some (fileOf pool7 1 #[] #[] 1537 3 #[] #[])
  fields := #[]
  methods := #[]
  instanceTypes := #[]
  staticTypes := #[]
  resolved := Array.replicate 37 none
  statics := none }

def pool8 : Array CpInfo := pool [(2, .class_ 4), (1, u "java/lang/Object"), (0, u "<init>"), (0, u "()V"), (3, .class_ 12), (1, u "java/lang/String"), (0, u "value"), (0, u "[B"), (2, u "coder"), (0, u "B"), (2, u "hash"), (0, u "I"), (2, u "hashIsZero"), (0, u "Z"), (13, u "COMPACT_STRINGS"), (534, .class_ 576), (0, u "java/lang/CharSequence"), (22, u "CASE_INSENSITIVE_ORDER"), (0, u "Ljava/util/Comparator;"), (500, u "serialPersistentFields"), (0, u "[Ljava/io/ObjectStreamField;"), (0, .class_ 1104), (0, u "java/lang/String$CaseInsensitiveComparator"), (1, .class_ 1107), (0, u "java/io/Serializable"), (0, .class_ 1109), (0, u "java/lang/Comparable"), (0, .class_ 1111), (0, u "java/lang/constant/Constable"), (0, .class_ 1113), (0, u "java/lang/constant/ConstantDesc"), (2, u "serialVersionUID"), (0, u "J"), (3, u "REPL"), (0, u "C"), (2, u "LATIN1"), (1, u "UTF16")] 323

def k8m0 : Method := { name := "<init>", desc := "()V", sig := { parameters := [], returnType := none }, accessFlags := 1, code := none }
/-- java/lang/String -/
def k8 : Class := { plain "java/lang/String" (some 0) with
  accessFlags := 49
  interfaces := #[3, 4, 5, 6, 7]
  cf := some (fileOf pool8 10 #[.nestMembers #[1103]] #[{ accessFlags := 1, nameIndex := 5, descriptorIndex := 6, attributes := #[] }] 49 2 #[1106, 1108, 575, 1110, 1112] #[{ accessFlags := 18, nameIndex := 13, descriptorIndex := 14, attributes := #[] }, { accessFlags := 18, nameIndex := 17, descriptorIndex := 18, attributes := #[] }, { accessFlags := 2, nameIndex := 21, descriptorIndex := 22, attributes := #[] }, { accessFlags := 2, nameIndex := 25, descriptorIndex := 26, attributes := #[] }, { accessFlags := 26, nameIndex := 1116, descriptorIndex := 1117, attributes := #[] }, { accessFlags := 24, nameIndex := 40, descriptorIndex := 26, attributes := #[] }, { accessFlags := 26, nameIndex := 1101, descriptorIndex := 1102, attributes := #[] }, { accessFlags := 26, nameIndex := 1121, descriptorIndex := 1122, attributes := #[] }, { accessFlags := 25, nameIndex := 599, descriptorIndex := 600, attributes := #[] }, { accessFlags := 24, nameIndex := 1125, descriptorIndex := 18, attributes := #[] }, { accessFlags := 24, nameIndex := 1127, descriptorIndex := 18, attributes := #[] }])
  fields := #[{ name := "value", type := (.array .byte), accessFlags := 18, slot := 0, constantValue := 0 }, { name := "coder", type := .byte, accessFlags := 18, slot := 1, constantValue := 0 }, { name := "hash", type := .int, accessFlags := 2, slot := 2, constantValue := 0 }, { name := "hashIsZero", type := .boolean, accessFlags := 2, slot := 3, constantValue := 0 }, { name := "serialVersionUID", type := .long, accessFlags := 26, slot := 0, constantValue := 0 }, { name := "COMPACT_STRINGS", type := .boolean, accessFlags := 24, slot := 1, constantValue := 0 }, { name := "serialPersistentFields", type := (.array (.object "java/io/ObjectStreamField")), accessFlags := 26, slot := 2, constantValue := 0 }, { name := "REPL", type := .char, accessFlags := 26, slot := 3, constantValue := 0 }, { name := "CASE_INSENSITIVE_ORDER", type := (.object "java/util/Comparator"), accessFlags := 25, slot := 4, constantValue := 0 }, { name := "LATIN1", type := .byte, accessFlags := 24, slot := 5, constantValue := 0 }, { name := "UTF16", type := .byte, accessFlags := 24, slot := 6, constantValue := 0 }]
  methods := #[k8m0]
  instanceTypes := #[(.array .byte), .byte, .int, .boolean]
  staticTypes := #[.long, .boolean, (.array (.object "java/io/ObjectStreamField")), .char, (.object "java/util/Comparator"), .byte, .byte]
  resolved := Array.replicate 1451 none
  statics := none }

def pool9 : Array CpInfo := pool [(2, .class_ 4), (1, u "java/util/Map"), (31, .class_ 37), (0, u "java/util/Map$Entry"), (55, .class_ 94), (0, u "java/lang/Object")] 168

/-- java/util/Map -/
def k9 : Class := { plain "java/util/Map" (some 0) with
  accessFlags := 1537
  interfaces := #[]
  cf := some (fileOf pool9 2 #[.nestMembers #[36]] #[] 1537 93 #[] #[])
  fields := #[]
  methods := #[]
  instanceTypes := #[]
  staticTypes := #[]
  resolved := Array.replicate 263 none
  statics := none }

def pool10 : Array CpInfo := pool [(2, .class_ 4), (1, u "java/lang/Object"), (0, u "<init>"), (0, u "()V"), (1, .class_ 10), (1, u "java/util/AbstractMap"), (42, .class_ 54), (0, u "java/util/Map"), (9, u "keySet"), (0, u "Ljava/util/Set;"), (0, .class_ 67), (0, u "java/util/AbstractMap$1"), (5, u "values"), (0, u "Ljava/util/Collection;"), (0, .class_ 76), (0, u "java/util/AbstractMap$2"), (104, .class_ 182), (0, u "java/util/AbstractMap$ViewCollection"), (0, .class_ 184), (0, u "java/util/AbstractMap$SimpleImmutableEntry"), (0, .class_ 186), (0, u "java/util/AbstractMap$SimpleEntry"), (0, .class_ 188), (0, u "java/util/AbstractMap$2$1"), (0, .class_ 190), (0, u "java/util/AbstractMap$1$1")] 5

def k10m0 : Method := { name := "<init>", desc := "()V", sig := { parameters := [], returnType := none }, accessFlags := 4, code := none }
/-- java/util/AbstractMap -/
def k10 : Class := { plain "java/util/AbstractMap" (some 0) with
  accessFlags := 1057
  interfaces := #[9]
  cf := some (fileOf pool10 8 #[.nestMembers #[181, 183, 185, 75, 187, 66, 189]] #[{ accessFlags := 4, nameIndex := 5, descriptorIndex := 6, attributes := #[] }] 1057 2 #[53] #[{ accessFlags := 128, nameIndex := 64, descriptorIndex := 65, attributes := #[] }, { accessFlags := 128, nameIndex := 73, descriptorIndex := 74, attributes := #[] }])
  fields := #[{ name := "keySet", type := (.object "java/util/Set"), accessFlags := 128, slot := 0, constantValue := 0 }, { name := "values", type := (.object "java/util/Collection"), accessFlags := 128, slot := 1, constantValue := 0 }]
  methods := #[k10m0]
  instanceTypes := #[(.object "java/util/Set"), (.object "java/util/Collection")]
  staticTypes := #[]
  resolved := Array.replicate 196 none
  statics := none }

def pool11 : Array CpInfo := pool [(2, .class_ 4), (1, u "java/util/AbstractMap"), (3, .class_ 10), (1, u "org/provenote/core/xml/XmlAttributes"), (0, u "names"), (0, u "[Ljava/lang/String;"), (2, u "values"), (2, u "lines"), (0, u "[I"), (7, u "byName"), (0, u "Ljava/util/Map;"), (37, .class_ 67), (0, u "org/provenote/core/xml/XmlAttributes$1"), (8, u "NONE"), (0, u "Lorg/provenote/core/xml/XmlAttributes;"), (0, u "SEARCHED"), (0, u "I"), (25, .class_ 106), (0, u "org/provenote/core/xml/XmlAttributes$1$1")] 4

/-- org/provenote/core/xml/XmlAttributes -/
def k11 : Class := { plain "org/provenote/core/xml/XmlAttributes" (some 10) with
  accessFlags := 48
  interfaces := #[]
  cf := some (fileOf pool11 8 #[.nestMembers #[66, 105]] #[] 48 2 #[] #[{ accessFlags := 24, nameIndex := 76, descriptorIndex := 77, attributes := #[] }, { accessFlags := 26, nameIndex := 78, descriptorIndex := 79, attributes := #[] }, { accessFlags := 18, nameIndex := 11, descriptorIndex := 12, attributes := #[] }, { accessFlags := 18, nameIndex := 15, descriptorIndex := 12, attributes := #[] }, { accessFlags := 18, nameIndex := 18, descriptorIndex := 19, attributes := #[] }, { accessFlags := 18, nameIndex := 27, descriptorIndex := 28, attributes := #[] }])
  fields := #[{ name := "NONE", type := (.object "org/provenote/core/xml/XmlAttributes"), accessFlags := 24, slot := 0, constantValue := 0 }, { name := "SEARCHED", type := .int, accessFlags := 26, slot := 1, constantValue := 0 }, { name := "names", type := (.array (.object "java/lang/String")), accessFlags := 18, slot := 2, constantValue := 0 }, { name := "values", type := (.array (.object "java/lang/String")), accessFlags := 18, slot := 3, constantValue := 0 }, { name := "lines", type := (.array .int), accessFlags := 18, slot := 4, constantValue := 0 }, { name := "byName", type := (.object "java/util/Map"), accessFlags := 18, slot := 5, constantValue := 0 }]
  methods := #[]
  instanceTypes := #[(.object "java/util/Set"), (.object "java/util/Collection"), (.array (.object "java/lang/String")), (.array (.object "java/lang/String")), (.array .int), (.object "java/util/Map")]
  staticTypes := #[(.object "org/provenote/core/xml/XmlAttributes"), .int]
  resolved := Array.replicate 111 none
  statics := some 1 }

def pool12 : Array CpInfo := pool [(8, .class_ 10), (1, u "java/lang/Iterable"), (24, .class_ 36), (0, u "java/lang/Object")] 25

/-- java/lang/Iterable -/
def k12 : Class := { plain "java/lang/Iterable" (some 0) with
  accessFlags := 1537
  interfaces := #[]
  cf := some (fileOf pool12 8 #[] #[] 1537 35 #[] #[])
  fields := #[]
  methods := #[]
  instanceTypes := #[]
  staticTypes := #[]
  resolved := Array.replicate 62 none
  statics := none }

def pool13 : Array CpInfo := pool [(10, .class_ 12), (1, u "java/util/Collection"), (47, .class_ 61), (0, u "java/lang/Object"), (0, .class_ 63), (0, u "java/lang/Iterable")] 51

/-- java/util/Collection -/
def k13 : Class := { plain "java/util/Collection" (some 0) with
  accessFlags := 1537
  interfaces := #[12]
  cf := some (fileOf pool13 10 #[] #[] 1537 60 #[62] #[])
  fields := #[]
  methods := #[]
  instanceTypes := #[]
  staticTypes := #[]
  resolved := Array.replicate 115 none
  statics := none }

def pool14 : Array CpInfo := pool [(8, .class_ 10), (1, u "java/util/SequencedCollection"), (15, .class_ 27), (0, u "java/lang/Object"), (0, .class_ 29), (0, u "java/util/Collection")] 27

/-- java/util/SequencedCollection -/
def k14 : Class := { plain "java/util/SequencedCollection" (some 0) with
  accessFlags := 1537
  interfaces := #[13]
  cf := some (fileOf pool14 8 #[] #[] 1537 26 #[28] #[])
  fields := #[]
  methods := #[]
  instanceTypes := #[]
  staticTypes := #[]
  resolved := Array.replicate 57 none
  statics := none }

def pool15 : Array CpInfo := pool [(8, .class_ 10), (1, u "java/util/List"), (64, u "get"), (0, u "(I)Ljava/lang/Object;"), (2, u "size"), (0, u "()I"), (22, .class_ 104), (0, u "java/lang/Object"), (15, .class_ 121), (0, u "java/util/SequencedCollection")] 129

def k15m0 : Method := { name := "size", desc := "()I", sig := { parameters := [], returnType := some .int }, accessFlags := 1025, code := none }
def k15m1 : Method := { name := "get", desc := "(I)Ljava/lang/Object;", sig := { parameters := [.int], returnType := some (.object "java/lang/Object") }, accessFlags := 1025, code := none }
/-- java/util/List -/
def k15 : Class := { plain "java/util/List" (some 0) with
  accessFlags := 1537
  interfaces := #[14]
  cf := some (fileOf pool15 8 #[] #[{ accessFlags := 1025, nameIndex := 79, descriptorIndex := 80, attributes := #[] }, { accessFlags := 1025, nameIndex := 75, descriptorIndex := 76, attributes := #[] }] 1537 103 #[120] #[])
  fields := #[]
  methods := #[k15m0, k15m1]
  instanceTypes := #[]
  staticTypes := #[]
  resolved := Array.replicate 251 none
  statics := none }

def pool16 : Array CpInfo := pool [(1, .methodref 2 3), (0, .class_ 4), (0, .nameAndType 5 6), (0, u "java/lang/Object"), (0, u "<init>"), (0, u "()V"), (1, .class_ 10), (1, u "java/util/AbstractCollection"), (66, .class_ 78), (0, u "java/util/Collection")] 81

def k16c0 : Code := { maxStack := 1, maxLocals := 1, code := jdk_22_method_1_code, exceptionTable := #[], attributes := #[] }
def k16m0 : Method := { name := "<init>", desc := "()V", sig := { parameters := [], returnType := none }, accessFlags := 4, code := some k16c0 }
/-- java/util/AbstractCollection -/
def k16 : Class := { plain "java/util/AbstractCollection" (some 0) with
  accessFlags := 1057
  interfaces := #[13]
  cf := some (fileOf pool16 8 #[] #[{ accessFlags := 4, nameIndex := 5, descriptorIndex := 6, attributes := #[] }] 1057 2 #[77] #[])
  fields := #[]
  methods := #[k16m0]
  instanceTypes := #[]
  staticTypes := #[]
  resolved := Array.replicate 160 none
  statics := none }

def pool17 : Array CpInfo := pool [(1, .methodref 2 3), (0, .class_ 4), (0, .nameAndType 5 6), (0, u "java/util/AbstractCollection"), (0, u "<init>"), (0, u "()V"), (0, .fieldref 8 9), (0, .class_ 10), (0, .nameAndType 11 12), (0, u "java/util/AbstractList"), (0, u "modCount"), (0, u "I"), (64, .class_ 78), (0, u "java/util/AbstractList$Itr"), (3, .class_ 83), (0, u "java/util/AbstractList$ListItr"), (9, .class_ 94), (0, u "java/util/AbstractList$RandomAccessSubList"), (3, .class_ 99), (0, u "java/util/AbstractList$SubList"), (33, .class_ 134), (0, u "java/util/List"), (73, .class_ 209), (0, u "java/util/AbstractList$SubList$1"), (0, .class_ 211), (0, u "java/util/AbstractList$RandomAccessSpliterator")] 6

def k17c0 : Code := { maxStack := 2, maxLocals := 1, code := jdk_39_method_1_code, exceptionTable := #[], attributes := #[] }
def k17m0 : Method := { name := "<init>", desc := "()V", sig := { parameters := [], returnType := none }, accessFlags := 4, code := some k17c0 }
/-- java/util/AbstractList -/
def k17 : Class := { plain "java/util/AbstractList" (some 16) with
  accessFlags := 1057
  interfaces := #[15]
  cf := some (fileOf pool17 8 #[.nestMembers #[93, 98, 208, 210, 82, 77]] #[{ accessFlags := 4, nameIndex := 5, descriptorIndex := 6, attributes := #[] }] 1057 2 #[133] #[{ accessFlags := 132, nameIndex := 11, descriptorIndex := 12, attributes := #[] }])
  fields := #[{ name := "modCount", type := .int, accessFlags := 132, slot := 0, constantValue := 0 }]
  methods := #[k17m0]
  instanceTypes := #[.int]
  staticTypes := #[]
  resolved := Array.replicate 218 none
  statics := none }

def pool18 : Array CpInfo := pool [(1, .class_ 2), (0, u "java/util/RandomAccess"), (0, .class_ 4), (0, u "java/lang/Object")] 2

/-- java/util/RandomAccess -/
def k18 : Class := { plain "java/util/RandomAccess" (some 0) with
  accessFlags := 1537
  interfaces := #[]
  cf := some (fileOf pool18 1 #[] #[] 1537 3 #[] #[])
  fields := #[]
  methods := #[]
  instanceTypes := #[]
  staticTypes := #[]
  resolved := Array.replicate 7 none
  statics := none }

def pool19 : Array CpInfo := pool [(1, .methodref 2 3), (0, .class_ 4), (0, .nameAndType 5 6), (0, u "java/util/AbstractList"), (0, u "<init>"), (0, u "()V"), (0, .fieldref 8 9), (0, .class_ 10), (0, .nameAndType 11 12), (0, u "org/provenote/core/xml/XmlElement$Elements"), (0, u "elements"), (0, u "[Lorg/provenote/core/xml/XmlElement;"), (0, .methodref 8 14), (0, .nameAndType 15 16), (0, u "get"), (0, u "(I)Lorg/provenote/core/xml/XmlElement;"), (0, .class_ 18), (0, u "java/util/RandomAccess"), (0, u "([Lorg/provenote/core/xml/XmlElement;)V"), (2, u "size"), (0, u "()I"), (0, u "(I)Ljava/lang/Object;"), (6, .class_ 32), (0, u "org/provenote/core/xml/XmlElement")] 2

def k19c0 : Code := { maxStack := 2, maxLocals := 2, code := prog_100_method_1_code, exceptionTable := #[], attributes := #[] }
def k19m0 : Method := { name := "<init>", desc := "([Lorg/provenote/core/xml/XmlElement;)V", sig := { parameters := [(.array (.object "org/provenote/core/xml/XmlElement"))], returnType := none }, accessFlags := 0, code := some k19c0 }
def k19c1 : Code := { maxStack := 2, maxLocals := 2, code := prog_100_method_2_code, exceptionTable := #[], attributes := #[] }
def k19m1 : Method := { name := "get", desc := "(I)Lorg/provenote/core/xml/XmlElement;", sig := { parameters := [.int], returnType := some (.object "org/provenote/core/xml/XmlElement") }, accessFlags := 1, code := some k19c1 }
def k19c2 : Code := { maxStack := 1, maxLocals := 1, code := prog_100_method_3_code, exceptionTable := #[], attributes := #[] }
def k19m2 : Method := { name := "size", desc := "()I", sig := { parameters := [], returnType := some .int }, accessFlags := 1, code := some k19c2 }
def k19c3 : Code := { maxStack := 2, maxLocals := 2, code := prog_100_method_4_code, exceptionTable := #[], attributes := #[] }
def k19m3 : Method := { name := "get", desc := "(I)Ljava/lang/Object;", sig := { parameters := [.int], returnType := some (.object "java/lang/Object") }, accessFlags := 4161, code := some k19c3 }
/-- org/provenote/core/xml/XmlElement$Elements -/
def k19 : Class := { plain "org/provenote/core/xml/XmlElement$Elements" (some 17) with
  accessFlags := 48
  interfaces := #[18]
  cf := some (fileOf pool19 8 #[.nestHost 31] #[{ accessFlags := 0, nameIndex := 5, descriptorIndex := 19, attributes := #[] }, { accessFlags := 1, nameIndex := 15, descriptorIndex := 16, attributes := #[] }, { accessFlags := 1, nameIndex := 22, descriptorIndex := 23, attributes := #[] }, { accessFlags := 4161, nameIndex := 15, descriptorIndex := 24, attributes := #[] }] 48 2 #[17] #[{ accessFlags := 18, nameIndex := 11, descriptorIndex := 12, attributes := #[] }])
  fields := #[{ name := "elements", type := (.array (.object "org/provenote/core/xml/XmlElement")), accessFlags := 18, slot := 1, constantValue := 0 }]
  methods := #[k19m0, k19m1, k19m2, k19m3]
  instanceTypes := #[.int, (.array (.object "org/provenote/core/xml/XmlElement"))]
  staticTypes := #[]
  resolved := Array.replicate 35 none
  statics := none }

def pool20 : Array CpInfo := pool [(1, u "java/lang/Cloneable"), (0, .class_ 1), (0, u "java/lang/Object"), (0, .class_ 3)] 3

/-- java/lang/Cloneable -/
def k20 : Class := { plain "java/lang/Cloneable" (some 0) with
  accessFlags := 1537
  interfaces := #[]
  cf := some (fileOf pool20 2 #[] #[] 1537 4 #[] #[])
  fields := #[]
  methods := #[]
  instanceTypes := #[]
  staticTypes := #[]
  resolved := Array.replicate 8 none
  statics := none }

/-- the primitive byte -/
def k21 : Class := { plain "byte" none with kind := .primitive 'B', accessFlags := 0x411 }
/-- [B -/
def k22 : Class := { plain "[B" (some 0) with kind := .array 21 .byte, interfaces := #[20, 3], accessFlags := 1041 }

/-- the primitive int -/
def k23 : Class := { plain "int" none with kind := .primitive 'I', accessFlags := 0x411 }
/-- [I -/
def k24 : Class := { plain "[I" (some 0) with kind := .array 23 .int, interfaces := #[20, 3], accessFlags := 1041 }

/-- [Lorg/provenote/core/xml/XmlElement; -/
def k25 : Class := { plain "[Lorg/provenote/core/xml/XmlElement;" (some 0) with kind := .array 2 (.object "org/provenote/core/xml/XmlElement"), interfaces := #[20, 3], accessFlags := 1041 }

def heap : Heap := #[{ cls := 2, slots := #[.ref 3], vm := .statics 2 },
  { cls := 11, slots := #[.ref 4, .int 0], vm := .statics 11 },
  { cls := 25, slots := #[], vm := .none },
  { cls := 19, slots := #[.int 0, .ref 2], vm := .none },
  { cls := 11, slots := #[.null, .null, .null, .null, .null, .null], vm := .none }]
def classes : Array Class := #[k0, k1, k2, k3, k4, k5, k6, k7, k8, k9, k10, k11, k12, k13, k14, k15, k16, k17, k18, k19, k20, k21, k22, k23, k24, k25]
def interned : List (Array UInt16 × Addr) := []
def slotsUsed : Nat := 11
def theMethod : MethodId := ⟨1, 1⟩
def args0 : Array Value := #[.int 5, .int 6]
def aboutOver (below : List Frame) : State where
  vm := { classes := classes, interned := interned.toArray }
  heap := heap
  slotsUsed := slotsUsed
  threads := #[{ frames := .invoking theMethod args0 :: below }]
def below0 : List Frame := [.native { method := ⟨0, 0⟩, args := #[] }]
def about1 : State := aboutOver below0
def p0 : Program := .bare "" "" ""
def e0 : Env := launch0.env 0 0 0
theorem w_frames : about1.frames = Frame.invoking theMethod args0 :: below0 := rfl
set_option maxRecDepth 65536 in
theorem w_args : argsFit about1.vm theMethod args0 = true := by decide +kernel
set_option maxRecDepth 65536 in
theorem w_heap : heapFits about1 = true := by decide +kernel
set_option maxRecDepth 65536 in
theorem w_runnable : about1.curStatus? = some .runnable := by decide +kernel
set_option maxRecDepth 65536 in
theorem w_alone : about1.alone = true := by decide +kernel
set_option maxRecDepth 65536 in
theorem w_named : about1.methodNamed? x = some theMethod := by decide +kernel
set_option maxRecDepth 65536 in
theorem w_hears : about1.hears theMethod below0 = true := by decide +kernel
set_option maxRecDepth 65536 in
theorem w_ripe : about1.ripe theMethod args0 below0 = true := by decide +kernel
theorem w_running : about1.status = .running := rfl
set_option maxRecDepth 65536 in
theorem w_room : about1.hasRoom e0.platform room_1 = true :=
  launch0.hasRoom_least _ room_1 (by decide +kernel) (by decide +kernel) (by decide +kernel) (by decide +kernel) (by decide +kernel) (by decide +kernel)
theorem allAtoms_all (ts : List Jvm.Cond) (a : Array Jvm.Value) (st : Jvm.State) : (allAtoms ts).before a st = ts.all (fun c => c.before a st) := by
  induction ts with
  | nil => rfl
  | cons c t ih =>
    show (Jvm.Cond.and c (allAtoms t)).before a st = _
    rw [Jvm.Cond.before_and, ih, List.all_cons]
def words1 : List Jvm.Cond := Jvm.Cond.code x code maxLocals ret :: tables_1
/-- a 'code' word, met by the world's own term for the bytes: nothing is compared byte by byte -/
theorem code_word {y : MethodName} {bytes : ByteArray} {mx : Nat} {rt : Option FieldType} {a : Array Value} {s : State} {m : MethodId} {meth : Method} {c : Code} (h1 : s.methodNamed? y = some m) (h2 : s.vm.method? m = some meth) (h3 : meth.code = some c) (h4 : c.code = bytes)
    (h5 : (c.maxLocals == mx && c.exceptionTable.isEmpty && decide (c.maxStack ≤ mostOperands) && decide (meth.sig.returnType = rt) && !meth.locks && decide (parseMethodDescriptor y.desc = some meth.sig)) = true) : (Jvm.Cond.code y bytes mx rt).before a s = true := by
  simp only [Bool.and_eq_true, beq_iff_eq, Bool.not_eq_true', decide_eq_true_eq] at h5
  obtain ⟨⟨⟨⟨⟨g1, g2⟩, g3⟩, g4⟩, g5⟩, g6⟩ := h5
  simp [Cond.before, Cond.holds, Cond.value, h1, h2, h3, h4, g1, g2, g3, g4, g5, g6]
def isCode : Jvm.Cond → Bool
  | .code _ _ _ _ => true
  | _ => false
theorem all_split {L : List Jvm.Cond} {P : Jvm.Cond → Bool} (h1 : L.all (fun c => isCode c || P c) = true) (h2 : ∀ c ∈ L.filter isCode, P c = true) : L.all P = true := by
  refine List.all_eq_true.mpr fun c hc => ?_
  have h := List.all_eq_true.mp h1 c hc
  rcases Bool.eq_false_or_eq_true (isCode c) with hi | hi
  · exact h2 c (List.mem_filter.mpr ⟨hc, hi⟩)
  · simpa [hi] using h
set_option maxRecDepth 65536 in
theorem w_c0 : (Jvm.Cond.code x code maxLocals ret).before args0 about1 = true := code_word (m := ⟨1, 1⟩) (meth := k1m1) (c := k1c1) (by decide +kernel) rfl rfl rfl (by decide +kernel)
set_option maxRecDepth 65536 in
theorem w_c1 : (Jvm.Cond.code ({ cls := "org/provenote/core/xml/XmlElement", name := "<init>", desc := "(Ljava/lang/String;Ljava/lang/String;ILorg/provenote/core/xml/XmlAttributes;)V" } : Jvm.MethodName) prog_99_method_1_code (5 : Nat) (Option.none : Option Jvm.ClassFile.FieldType)).before args0 about1 = true := code_word (m := ⟨2, 0⟩) (meth := k2m0) (c := k2c0) (by decide +kernel) rfl rfl rfl (by decide +kernel)
set_option maxRecDepth 65536 in
theorem w_c2 : (Jvm.Cond.code ({ cls := "java/lang/Object", name := "<init>", desc := "()V" } : Jvm.MethodName) object_method_1_code (1 : Nat) (Option.none : Option Jvm.ClassFile.FieldType)).before args0 about1 = true := code_word (m := ⟨0, 0⟩) (meth := k0m0) (c := k0c0) (by decide +kernel) rfl rfl rfl (by decide +kernel)
set_option maxRecDepth 65536 in
theorem w_c3 : (Jvm.Cond.code ({ cls := "org/provenote/core/xml/XmlElement", name := "children", desc := "()Ljava/util/List;" } : Jvm.MethodName) prog_99_method_12_code (1 : Nat) (Option.some (Jvm.ClassFile.FieldType.object "java/util/List"))).before args0 about1 = true := code_word (m := ⟨2, 1⟩) (meth := k2m1) (c := k2c1) (by decide +kernel) rfl rfl rfl (by decide +kernel)
set_option maxRecDepth 65536 in
theorem w_c4 : (Jvm.Cond.code ({ cls := "org/provenote/core/xml/XmlElement", name := "select", desc := "(Ljava/lang/String;)Ljava/util/List;" } : Jvm.MethodName) prog_99_method_14_code (5 : Nat) (Option.some (Jvm.ClassFile.FieldType.object "java/util/List"))).before args0 about1 = true := code_word (m := ⟨2, 2⟩) (meth := k2m2) (c := k2c2) (by decide +kernel) rfl rfl rfl (by decide +kernel)
set_option maxRecDepth 65536 in
theorem w_c5 : (Jvm.Cond.code ({ cls := "org/provenote/core/xml/XmlElement$Elements", name := "size", desc := "()I" } : Jvm.MethodName) prog_100_method_3_code (1 : Nat) (Option.some Jvm.ClassFile.FieldType.int)).before args0 about1 = true := code_word (m := ⟨19, 2⟩) (meth := k19m2) (c := k19c2) (by decide +kernel) rfl rfl rfl (by decide +kernel)
set_option maxRecDepth 65536 in
theorem w_c6 : (Jvm.Cond.code ({ cls := "org/provenote/core/xml/XmlElement", name := "add", desc := "(Lorg/provenote/core/xml/XmlElement;Lorg/provenote/core/xml/XmlElement;)V" } : Jvm.MethodName) prog_99_method_17_code (3 : Nat) (Option.none : Option Jvm.ClassFile.FieldType)).before args0 about1 = true := code_word (m := ⟨2, 3⟩) (meth := k2m3) (c := k2c3) (by decide +kernel) rfl rfl rfl (by decide +kernel)
set_option maxRecDepth 65536 in
theorem w_c7 : (Jvm.Cond.code ({ cls := "org/provenote/core/xml/XmlElement$Elements", name := "<init>", desc := "([Lorg/provenote/core/xml/XmlElement;)V" } : Jvm.MethodName) prog_100_method_1_code (2 : Nat) (Option.none : Option Jvm.ClassFile.FieldType)).before args0 about1 = true := code_word (m := ⟨19, 0⟩) (meth := k19m0) (c := k19c0) (by decide +kernel) rfl rfl rfl (by decide +kernel)
set_option maxRecDepth 65536 in
theorem w_c8 : (Jvm.Cond.code ({ cls := "java/util/AbstractList", name := "<init>", desc := "()V" } : Jvm.MethodName) jdk_39_method_1_code (1 : Nat) (Option.none : Option Jvm.ClassFile.FieldType)).before args0 about1 = true := code_word (m := ⟨17, 0⟩) (meth := k17m0) (c := k17c0) (by decide +kernel) rfl rfl rfl (by decide +kernel)
set_option maxRecDepth 65536 in
theorem w_c9 : (Jvm.Cond.code ({ cls := "java/util/AbstractCollection", name := "<init>", desc := "()V" } : Jvm.MethodName) jdk_22_method_1_code (1 : Nat) (Option.none : Option Jvm.ClassFile.FieldType)).before args0 about1 = true := code_word (m := ⟨16, 0⟩) (meth := k16m0) (c := k16c0) (by decide +kernel) rfl rfl rfl (by decide +kernel)
set_option maxRecDepth 65536 in
theorem w_c10 : (Jvm.Cond.code ({ cls := "org/provenote/core/xml/XmlElement$Elements", name := "get", desc := "(I)Ljava/lang/Object;" } : Jvm.MethodName) prog_100_method_4_code (2 : Nat) (Option.some (Jvm.ClassFile.FieldType.object "java/lang/Object"))).before args0 about1 = true := code_word (m := ⟨19, 3⟩) (meth := k19m3) (c := k19c3) (by decide +kernel) rfl rfl rfl (by decide +kernel)
set_option maxRecDepth 65536 in
theorem w_c11 : (Jvm.Cond.code ({ cls := "org/provenote/core/xml/XmlElement$Elements", name := "get", desc := "(I)Lorg/provenote/core/xml/XmlElement;" } : Jvm.MethodName) prog_100_method_2_code (2 : Nat) (Option.some (Jvm.ClassFile.FieldType.object "org/provenote/core/xml/XmlElement"))).before args0 about1 = true := code_word (m := ⟨19, 1⟩) (meth := k19m1) (c := k19c1) (by decide +kernel) rfl rfl rfl (by decide +kernel)
def codes1 : List Jvm.Cond := [Jvm.Cond.code x code maxLocals ret, Jvm.Cond.code ({ cls := "org/provenote/core/xml/XmlElement", name := "<init>", desc := "(Ljava/lang/String;Ljava/lang/String;ILorg/provenote/core/xml/XmlAttributes;)V" } : Jvm.MethodName) prog_99_method_1_code (5 : Nat) (Option.none : Option Jvm.ClassFile.FieldType), Jvm.Cond.code ({ cls := "java/lang/Object", name := "<init>", desc := "()V" } : Jvm.MethodName) object_method_1_code (1 : Nat) (Option.none : Option Jvm.ClassFile.FieldType), Jvm.Cond.code ({ cls := "org/provenote/core/xml/XmlElement", name := "children", desc := "()Ljava/util/List;" } : Jvm.MethodName) prog_99_method_12_code (1 : Nat) (Option.some (Jvm.ClassFile.FieldType.object "java/util/List")), Jvm.Cond.code ({ cls := "org/provenote/core/xml/XmlElement", name := "select", desc := "(Ljava/lang/String;)Ljava/util/List;" } : Jvm.MethodName) prog_99_method_14_code (5 : Nat) (Option.some (Jvm.ClassFile.FieldType.object "java/util/List")), Jvm.Cond.code ({ cls := "org/provenote/core/xml/XmlElement$Elements", name := "size", desc := "()I" } : Jvm.MethodName) prog_100_method_3_code (1 : Nat) (Option.some Jvm.ClassFile.FieldType.int), Jvm.Cond.code ({ cls := "org/provenote/core/xml/XmlElement", name := "add", desc := "(Lorg/provenote/core/xml/XmlElement;Lorg/provenote/core/xml/XmlElement;)V" } : Jvm.MethodName) prog_99_method_17_code (3 : Nat) (Option.none : Option Jvm.ClassFile.FieldType), Jvm.Cond.code ({ cls := "org/provenote/core/xml/XmlElement$Elements", name := "<init>", desc := "([Lorg/provenote/core/xml/XmlElement;)V" } : Jvm.MethodName) prog_100_method_1_code (2 : Nat) (Option.none : Option Jvm.ClassFile.FieldType), Jvm.Cond.code ({ cls := "java/util/AbstractList", name := "<init>", desc := "()V" } : Jvm.MethodName) jdk_39_method_1_code (1 : Nat) (Option.none : Option Jvm.ClassFile.FieldType), Jvm.Cond.code ({ cls := "java/util/AbstractCollection", name := "<init>", desc := "()V" } : Jvm.MethodName) jdk_22_method_1_code (1 : Nat) (Option.none : Option Jvm.ClassFile.FieldType), Jvm.Cond.code ({ cls := "org/provenote/core/xml/XmlElement$Elements", name := "get", desc := "(I)Ljava/lang/Object;" } : Jvm.MethodName) prog_100_method_4_code (2 : Nat) (Option.some (Jvm.ClassFile.FieldType.object "java/lang/Object")), Jvm.Cond.code ({ cls := "org/provenote/core/xml/XmlElement$Elements", name := "get", desc := "(I)Lorg/provenote/core/xml/XmlElement;" } : Jvm.MethodName) prog_100_method_2_code (2 : Nat) (Option.some (Jvm.ClassFile.FieldType.object "org/provenote/core/xml/XmlElement"))]
set_option maxRecDepth 65536 in
theorem codes_eq : words1.filter isCode = codes1 := rfl
theorem w_codes : ∀ c ∈ words1.filter isCode, c.before args0 about1 = true := by
  rw [codes_eq]
  intro c hc
  simp only [codes1, List.mem_cons, List.not_mem_nil, or_false] at hc
  rcases hc with rfl | rfl | rfl | rfl | rfl | rfl | rfl | rfl | rfl | rfl | rfl | rfl
  · exact w_c0
  · exact w_c1
  · exact w_c2
  · exact w_c3
  · exact w_c4
  · exact w_c5
  · exact w_c6
  · exact w_c7
  · exact w_c8
  · exact w_c9
  · exact w_c10
  · exact w_c11
set_option maxRecDepth 65536 in
theorem w_t1 : (words1.take 24).all (fun c => isCode c || c.before args0 about1) = true := by decide +kernel
set_option maxRecDepth 65536 in
theorem w_t2 : ((words1.drop 24).take 24).all (fun c => isCode c || c.before args0 about1) = true := by decide +kernel
set_option maxRecDepth 65536 in
theorem w_t3 : (((words1.drop 24).drop 24).take 24).all (fun c => isCode c || c.before args0 about1) = true := by decide +kernel
set_option maxRecDepth 65536 in
theorem w_t4 : ((((words1.drop 24).drop 24).drop 24).take 24).all (fun c => isCode c || c.before args0 about1) = true := by decide +kernel
set_option maxRecDepth 65536 in
theorem w_t5 : ((((words1.drop 24).drop 24).drop 24).drop 24).all (fun c => isCode c || c.before args0 about1) = true := by decide +kernel
theorem w_tables : (allAtoms (Jvm.Cond.code x code maxLocals ret :: tables_1)).before args0 about1 = true := by
  rw [allAtoms_all]
  show words1.all (fun c => c.before args0 about1) = true
  refine all_split ?_ w_codes
  rw [← List.take_append_drop 24 words1, List.all_append, w_t1, ← List.take_append_drop 24 (words1.drop 24), List.all_append, w_t2, ← List.take_append_drop 24 ((words1.drop 24).drop 24), List.all_append, w_t3, ← List.take_append_drop 24 (((words1.drop 24).drop 24).drop 24), List.all_append, w_t4, w_t5]
  rfl
set_option maxRecDepth 65536 in
theorem w_case : (Jvm.Cond.and given_1 narrow_1).before args0 about1 = true := by decide +kernel
theorem w_applies : (headSpec (Jvm.Cond.code x code maxLocals ret :: tables_1) room_1).applies x e0.platform about1 = true :=
  (Spec.applies_iff w_frames).mpr ⟨w_running, w_runnable, w_alone, w_named, w_hears, w_ripe, w_room, w_tables⟩
theorem atStart : AtStart classFile x code maxLocals ret World_1 tables_1 room_1 Calls_1 rest_1 Pre_1 launch0 p0 e0 about1 theMethod args0 below0 :=
  ⟨lists_1, trivial, launch0.admits_env _ _ _, launch0.least_env, fairChoices_fair.cas, fairChoices_fair.clock, w_frames, w_args, w_heap, w_applies, trivial, trivial, w_case⟩
end start1
theorem witness_1 : WitnessClaimed_1 := ⟨start1.p0, start1.e0, start1.about1, start1.theMethod, start1.args0, start1.below0, start1.atStart⟩
end Jvm.Pilot.@@N@@
