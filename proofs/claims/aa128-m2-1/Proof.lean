import JvmDerived
import JvmDerived.Pilot.@@N@@Statement
import JvmDerived.Pilot.@@N@@Code
set_option linter.unusedVariables false
set_option linter.unusedSimpArgs false
namespace Jvm.RoadKit
open Sem ClassFile Op Lib Jvm.Stand Jvm.Free Jvm.LawKit
section New
variable {p : Program} {l : Launch} {e : Env} {R : Room} {s : State} {m : MethodId} {args : Array Value} {below : List Frame} {meth : Method} {c : Code} {T : State} {locs : List Loc} {cells slots : Nat}
theorem retI (X : Stand p l e R s m args below meth c T locs cells slots) (hx : p.tables.exec = Jvm.exec) {pc : Nat} {Ls : Array Slot} {z : Int32} {rest : List Value} (hret : meth.sig.returnType = some .int) (hd : decode c.code pc = .ok (.ireturn, 1)) {fs : List Frame}
    (hl : ∀ (f : JFrame) (acts : List Action), f.method = m → f.locked = none → f.entered = [] → (doReturn e (T.setTop f) acts (some (.int z))).1 = T.setFrames fs) : Steps p.tables e below (T.setTop (mkF m pc Ls (.int z :: rest))) (T.setFrames fs) := by
  have hm' : T.vm.method? m = some meth := X.method'
  have hn : narrow .int (.int z) = .int z := rfl
  show Steps p.tables e below (T.setTop { method := m, pc := pc, locals := Ls, stack := _ :: rest, locked := none }) _
  jvm_step X.here [X.here.top, hx, hd, hm', hret, hn]
  first | (intro acts; rw [hl _ acts rfl rfl rfl]) | rw [hl _ _ rfl rfl rfl]
  exact Steps.refl _
end New
end Jvm.RoadKit
namespace Jvm.Pilot.@@N@@
open Jvm Jvm.ClassFile Sem Op Lib Jvm.Free Jvm.Stand Jvm.LawKit Jvm.RoadKit Bundle Jvm.Pilot.@@N@@.Jvm.D
/-- the run from frame g of state T ends, returns w, leaves heap h and writes new cells alone -/
def oEnd (p : Program) (e : Env) (s : State) (below : List Frame) (T : State) (g : JFrame) (n0 : Nat) (h : Heap) (cells slots : Nat) (w : Option Value) : Prop :=
  ∃ t L, Steps p.tables e below (T.setTop g) t ∧ t.status = .running ∧ Ended t below (.returned w) ∧ s.WarmedH t.vm ∧ s.sameButNew ({ t with vm := s.vm } : State) L cells slots ∧ Fr n0 L ∧ t.heap = h
theorem oPre {p : Program} {e : Env} {s : State} {below : List Frame} {T T' : State} {g g' : JFrame} {n0 : Nat} {h : Heap} {cells slots : Nat} {w : Option Value}
    (k : ∀ target, Steps p.tables e below (T'.setTop g') target → Steps p.tables e below (T.setTop g) target) (q : oEnd p e s below T' g' n0 h cells slots w) : oEnd p e s below T g n0 h cells slots w := by
  obtain ⟨t, L, hs, r⟩ := q
  exact ⟨t, L, k t hs, r⟩
/-- what a pure body leaves -/
def oQp (r : Option Value) (h0 : Heap) (n0 : Nat) (v : Option Value) (h : Heap) (L : List Loc) : Prop := v = r ∧ Fr n0 L ∧ h = h0
def oI2c (x : Int32) : Int32 := x.toUInt32.toUInt16.toUInt32.toInt32
theorem pd_0 : parseMethodDescriptor "()Z" = some ⟨[], some .boolean⟩ := by decide +kernel
theorem pd_1 : parseMethodDescriptor "()I" = some ⟨[], some .int⟩ := by decide +kernel
theorem pd_2 : parseMethodDescriptor "()B" = some ⟨[], some .byte⟩ := by decide +kernel
theorem pd_3 : parseMethodDescriptor "(I)I" = some ⟨[.int], some .int⟩ := by decide +kernel
theorem pd_4 : parseMethodDescriptor "(II)I" = some ⟨[.int, .int], some .int⟩ := by decide +kernel
theorem pd_5 : parseMethodDescriptor "([BIII)I" = some ⟨[(.array .byte), .int, .int, .int], some .int⟩ := by decide +kernel
theorem pd_6 : parseMethodDescriptor "(I)Z" = some ⟨[.int], some .boolean⟩ := by decide +kernel
theorem pd_7 : parseMethodDescriptor "(C)Z" = some ⟨[.char], some .boolean⟩ := by decide +kernel
theorem d8_0 : decode jdk_43_method_4_code 0 = .ok (.iload_n 0, 1) := by decide +kernel
theorem d8_1 : decode jdk_43_method_4_code 1 = .ok (.ifCond .lt 14, 3) := by decide +kernel
theorem d8_4 : decode jdk_43_method_4_code 4 = .ok (.iload_n 0, 1) := by decide +kernel
theorem d8_5 : decode jdk_43_method_4_code 5 = .ok (.sipush 255, 3) := by decide +kernel
theorem d8_8 : decode jdk_43_method_4_code 8 = .ok (.if_icmp .gt 7, 3) := by decide +kernel
theorem d8_11 : decode jdk_43_method_4_code 11 = .ok (.iconst 1, 1) := by decide +kernel
theorem d8_12 : decode jdk_43_method_4_code 12 = .ok (.goto 4, 3) := by decide +kernel
theorem d8_15 : decode jdk_43_method_4_code 15 = .ok (.iconst 0, 1) := by decide +kernel
theorem d8_16 : decode jdk_43_method_4_code 16 = .ok (.ireturn, 1) := by decide +kernel
def oF8_16 (p1 : Int32) (q1 : Int32) : Int32 := (q1 &&& 1)
set_option maxRecDepth 65536 in
set_option maxHeartbeats 4000000 in
theorem oB8_16 {p : Program} {l : Launch} {e : Env} {s : State} {m : MethodId} {args : Array Value} {below : List Frame} {meth : Method} {c : Code} {T : State} {locs : List Loc} {cells slots : Nat} {Z : State} {a0 : Array Value} {h0 : Heap} {n0 : Nat} (X : Stand p l e ({ frames := 0, cells := 0, slots := 0, locals := 0 } : Room) s m args below meth c T locs cells slots) (hx : p.tables.exec = Jvm.exec) (hby : c.code = jdk_43_method_4_code) (hml : c.maxLocals = 1) (hret : meth.sig.returnType = some .boolean) (hlk : meth.locks = false) (hown : s.vm.findClass "java/lang/StringLatin1" = some m.cls) (hZ : Z.Warmed39 s.vm) (hw : ∀ d ∈ tables_1, d.before a0 Z = true) (eT : T.heap = h0) (N : Fr n0 locs) (Z0 : n0 ≤ h0.size) (hcs : cells ≤ ({ frames := 0, cells := 0, slots := 0, locals := 0 } : Room).cells) (hss : slots ≤ ({ frames := 0, cells := 0, slots := 0, locals := 0 } : Room).slots) (p1 : Int32) (q1 : Int32) {w : Int32} (hv : oF8_16 p1 q1 = w) : oEnd p e s below T (mkF m 16 #[.val (.int p1)] [(.int q1)]) n0 h0 cells slots (some (.int w)) := by
  show oEnd p e s below T (mkF m 16 #[.val (.int p1)] [(.int q1)]) n0 h0 cells slots (some (.int w))
  subst hv
  obtain ⟨fs, hr, hrun, hended, hW, hsame⟩ := X.leave (v := some (.int (q1 &&& 1))) (fun h => by rw [hret] at h; cases h) hlk
  exact ⟨_, _, retN X hx (t := .boolean) hret (by simp) (hb hby d8_16) hr, hrun, hended, hW, hsame, N, eT⟩
def oF8_15 (p1 : Int32) : Int32 := (oF8_16 p1 (0 : Int32))
set_option maxRecDepth 65536 in
set_option maxHeartbeats 4000000 in
theorem oB8_15 {p : Program} {l : Launch} {e : Env} {s : State} {m : MethodId} {args : Array Value} {below : List Frame} {meth : Method} {c : Code} {T : State} {locs : List Loc} {cells slots : Nat} {Z : State} {a0 : Array Value} {h0 : Heap} {n0 : Nat} (X : Stand p l e ({ frames := 0, cells := 0, slots := 0, locals := 0 } : Room) s m args below meth c T locs cells slots) (hx : p.tables.exec = Jvm.exec) (hby : c.code = jdk_43_method_4_code) (hml : c.maxLocals = 1) (hret : meth.sig.returnType = some .boolean) (hlk : meth.locks = false) (hown : s.vm.findClass "java/lang/StringLatin1" = some m.cls) (hZ : Z.Warmed39 s.vm) (hw : ∀ d ∈ tables_1, d.before a0 Z = true) (eT : T.heap = h0) (N : Fr n0 locs) (Z0 : n0 ≤ h0.size) (hcs : cells ≤ ({ frames := 0, cells := 0, slots := 0, locals := 0 } : Room).cells) (hss : slots ≤ ({ frames := 0, cells := 0, slots := 0, locals := 0 } : Room).slots) (p1 : Int32) {w : Int32} (hv : oF8_15 p1 = w) : oEnd p e s below T (mkF m 15 #[.val (.int p1)] []) n0 h0 cells slots (some (.int w)) := by
  show oEnd p e s below T (mkF m 15 #[.val (.int p1)] []) n0 h0 cells slots (some (.int w))
  refine oPre (fun _ => XS.iconst X.here hx rfl (hb hby d8_15)) ?_
  exact oB8_16 X hx hby hml hret hlk hown hZ hw eT N Z0 hcs hss p1 (0 : Int32) hv
def oF8_0 (p1 : Int32) : Int32 := (if p1 < (0 : Int32) then (oF8_15 p1) else (if (255 : Int32) < p1 then (oF8_15 p1) else (oF8_16 p1 (1 : Int32))))
set_option maxRecDepth 65536 in
set_option maxHeartbeats 4000000 in
theorem oB8_0 {p : Program} {l : Launch} {e : Env} {s : State} {m : MethodId} {args : Array Value} {below : List Frame} {meth : Method} {c : Code} {T : State} {locs : List Loc} {cells slots : Nat} {Z : State} {a0 : Array Value} {h0 : Heap} {n0 : Nat} (X : Stand p l e ({ frames := 0, cells := 0, slots := 0, locals := 0 } : Room) s m args below meth c T locs cells slots) (hx : p.tables.exec = Jvm.exec) (hby : c.code = jdk_43_method_4_code) (hml : c.maxLocals = 1) (hret : meth.sig.returnType = some .boolean) (hlk : meth.locks = false) (hown : s.vm.findClass "java/lang/StringLatin1" = some m.cls) (hZ : Z.Warmed39 s.vm) (hw : ∀ d ∈ tables_1, d.before a0 Z = true) (eT : T.heap = h0) (N : Fr n0 locs) (Z0 : n0 ≤ h0.size) (hcs : cells ≤ ({ frames := 0, cells := 0, slots := 0, locals := 0 } : Room).cells) (hss : slots ≤ ({ frames := 0, cells := 0, slots := 0, locals := 0 } : Room).slots) (p1 : Int32) {w : Int32} (hv : oF8_0 p1 = w) : oEnd p e s below T (mkF m 0 #[.val (.int p1)] []) n0 h0 cells slots (some (.int w)) := by
  show oEnd p e s below T (mkF m 0 #[.val (.int p1)] []) n0 h0 cells slots (some (.int w))
  refine oPre (fun _ => XS.iloadN X.here hx rfl (hb hby d8_0) rfl) ?_
  show oEnd p e s below T (mkF m 1 #[.val (.int p1)] [(.int p1)]) n0 h0 cells slots (some (.int w))
  by_cases h1 : p1 < (0 : Int32)
  · have v1 : (oF8_15 p1) = w := (if_pos h1).symm.trans hv
    refine oPre (fun _ => XS.ifYes X.here hx rfl (pc0 := 1) (pc' := 15) rfl (hb hby d8_1) rfl ((if0 _ _).trans ((tlt h1).1)) (by decide) (by decide)) ?_
    exact oB8_15 X hx hby hml hret hlk hown hZ hw eT N Z0 hcs hss p1 v1
  · have v1 : (if (255 : Int32) < p1 then (oF8_15 p1) else (oF8_16 p1 (1 : Int32))) = w := (if_neg h1).symm.trans hv
    refine oPre (fun _ => XS.ifNo X.here hx rfl (hb hby d8_1) rfl ((if0 _ _).trans ((flt h1).1))) ?_
    show oEnd p e s below T (mkF m 4 #[.val (.int p1)] []) n0 h0 cells slots (some (.int w))
    refine oPre (fun _ => XS.iloadN X.here hx rfl (hb hby d8_4) rfl) ?_
    show oEnd p e s below T (mkF m 5 #[.val (.int p1)] [(.int p1)]) n0 h0 cells slots (some (.int w))
    refine oPre (fun _ => XS.sipush X.here hx rfl (hb hby d8_5)) ?_
    show oEnd p e s below T (mkF m 8 #[.val (.int p1)] [(.int (255 : Int32)), (.int p1)]) n0 h0 cells slots (some (.int w))
    by_cases h8 : (255 : Int32) < p1
    · have v8 : (oF8_15 p1) = w := (if_pos h8).symm.trans v1
      refine oPre (fun _ => XS.icmpYes X.here hx rfl (pc0 := 8) (pc' := 15) rfl (hb hby d8_8) rfl (((tlt h8).2.2.1)) (by decide) (by decide)) ?_
      exact oB8_15 X hx hby hml hret hlk hown hZ hw eT N Z0 hcs hss p1 v8
    · have v8 : (oF8_16 p1 (1 : Int32)) = w := (if_neg h8).symm.trans v1
      refine oPre (fun _ => XS.icmpNo X.here hx rfl (hb hby d8_8) rfl (((flt h8).2.2.1))) ?_
      show oEnd p e s below T (mkF m 11 #[.val (.int p1)] []) n0 h0 cells slots (some (.int w))
      refine oPre (fun _ => XS.iconst X.here hx rfl (hb hby d8_11)) ?_
      show oEnd p e s below T (mkF m 12 #[.val (.int p1)] [(.int (1 : Int32))]) n0 h0 cells slots (some (.int w))
      refine oPre (fun _ => XS.goto X.here hx rfl (pc0 := 12) (pc' := 16) rfl (hb hby d8_12) (by decide) (by decide)) ?_
      exact oB8_16 X hx hby hml hret hlk hown hZ hw eT N Z0 hcs hss p1 (1 : Int32) v8
theorem pn_8 : plainName "java/lang/StringLatin1" = true := by first | (simp [plainName, overriddenIn]; done) | decide +kernel
theorem ef_8 (m : MethodId) (p1 : Int32) : entryFrame m #[(.int p1)] 1 = mkF m 0 #[.val (.int p1)] [] := by first | (simp [entryFrame, mkF, argsToLocals, Value.category]; done) | rfl
def oQ8 (p1 : Int32) (h0 : Heap) (n0 : Nat) (v : Option Value) (h : Heap) (L : List Loc) : Prop := v = some (.int (oF8_0 p1)) ∧ Fr n0 L ∧ h = h0
set_option maxRecDepth 65536 in
set_option maxHeartbeats 4000000 in
theorem oR8 (l : Launch) (Z : State) (a0 : Array Value) (hw : ∀ d ∈ tables_1, d.before a0 Z = true) (ws : List Jvm.Cond) (p1 : Int32) (h0 : Heap) (n0 : Nat) (Z0 : n0 ≤ h0.size) :
    MetFree l (⟨"java/lang/StringLatin1", "canEncode", "(I)Z"⟩ : MethodName) (head1 (Jvm.Cond.code (⟨"java/lang/StringLatin1", "canEncode", "(I)Z"⟩ : MethodName) jdk_43_method_4_code 1 (some .boolean) :: ws) ({ frames := 0, cells := 0, slots := 0, locals := 0 } : Room)) (fun a U => a = #[(.int p1)] ∧ Z.Warmed39 U.vm ∧ U.heap = h0) (fun _ _ _ _ _ => True) (fun _ U o U' => ∃ v L, o = .returned v ∧ oQ8 p1 h0 n0 v U'.heap L ∧ FrameEnd U o U' L ({ frames := 0, cells := 0, slots := 0, locals := 0 } : Room).cells ({ frames := 0, cells := 0, slots := 0, locals := 0 } : Room).slots) := by
  refine MetFree.of_bodySF (plainFor_of_name pn_8) hisR ?_
  intro p e s m args below meth c s₁ Bd hml0 hP hK
  obtain ⟨rfl, hZ, hh⟩ := hP
  have hown : s.vm.findClass "java/lang/StringLatin1" = some m.cls := findClass_of_methodNamed Bd.named
  have X0 : Stand p l e ({ frames := 0, cells := 0, slots := 0, locals := 0 } : Room) s m #[(.int p1)] below meth c s₁ [] 0 0 := Stand.of_body Bd
  have e0 : s₁.heap = h0 := by rw [← hh, Bd.state]; rfl
  obtain ⟨t, L, hs, hrun, hended, hW, hsame, hN, ht⟩ := oB8_0 X0 Bd.exec Bd.bytes hml0 Bd.returns Bd.notSynchronized hown hZ hw e0 (Fr.nil n0) Z0 (Nat.zero_le _) (Nat.zero_le _) p1 rfl
  exact ⟨t, _, castTop (ef_8 m p1) hs, hrun, hended, _, L, rfl, ⟨rfl, hN, ht⟩, ⟨_, rfl⟩, hW, hsame.mono (Nat.zero_le _) (Nat.zero_le _)⟩
theorem d9_0 : decode jdk_29_method_65_code 0 = .ok (.iload_n 0, 1) := by decide +kernel
theorem d9_1 : decode jdk_29_method_65_code 1 = .ok (.iload_n 1, 1) := by decide +kernel
theorem d9_2 : decode jdk_29_method_65_code 2 = .ok (.if_icmp .lt 7, 3) := by decide +kernel
theorem d9_5 : decode jdk_29_method_65_code 5 = .ok (.iload_n 0, 1) := by decide +kernel
theorem d9_6 : decode jdk_29_method_65_code 6 = .ok (.goto 4, 3) := by decide +kernel
theorem d9_9 : decode jdk_29_method_65_code 9 = .ok (.iload_n 1, 1) := by decide +kernel
theorem d9_10 : decode jdk_29_method_65_code 10 = .ok (.ireturn, 1) := by decide +kernel
def oF9_10 (p1 : Int32) (p2 : Int32) (q1 : Int32) : Int32 := q1
set_option maxRecDepth 65536 in
set_option maxHeartbeats 4000000 in
theorem oB9_10 {p : Program} {l : Launch} {e : Env} {s : State} {m : MethodId} {args : Array Value} {below : List Frame} {meth : Method} {c : Code} {T : State} {locs : List Loc} {cells slots : Nat} {Z : State} {a0 : Array Value} {h0 : Heap} {n0 : Nat} (X : Stand p l e ({ frames := 0, cells := 0, slots := 0, locals := 0 } : Room) s m args below meth c T locs cells slots) (hx : p.tables.exec = Jvm.exec) (hby : c.code = jdk_29_method_65_code) (hml : c.maxLocals = 2) (hret : meth.sig.returnType = some .int) (hlk : meth.locks = false) (hown : s.vm.findClass "java/lang/Math" = some m.cls) (hZ : Z.Warmed39 s.vm) (hw : ∀ d ∈ tables_1, d.before a0 Z = true) (eT : T.heap = h0) (N : Fr n0 locs) (Z0 : n0 ≤ h0.size) (hcs : cells ≤ ({ frames := 0, cells := 0, slots := 0, locals := 0 } : Room).cells) (hss : slots ≤ ({ frames := 0, cells := 0, slots := 0, locals := 0 } : Room).slots) (p1 : Int32) (p2 : Int32) (q1 : Int32) {w : Int32} (hv : oF9_10 p1 p2 q1 = w) : oEnd p e s below T (mkF m 10 #[.val (.int p1), .val (.int p2)] [(.int q1)]) n0 h0 cells slots (some (.int w)) := by
  show oEnd p e s below T (mkF m 10 #[.val (.int p1), .val (.int p2)] [(.int q1)]) n0 h0 cells slots (some (.int w))
  subst hv
  obtain ⟨fs, hr, hrun, hended, hW, hsame⟩ := X.leave (v := some (.int q1)) (fun h => by rw [hret] at h; cases h) hlk
  exact ⟨_, _, retI X hx hret (hb hby d9_10) hr, hrun, hended, hW, hsame, N, eT⟩
def oF9_0 (p1 : Int32) (p2 : Int32) : Int32 := (if p1 < p2 then (oF9_10 p1 p2 p2) else (oF9_10 p1 p2 p1))
set_option maxRecDepth 65536 in
set_option maxHeartbeats 4000000 in
theorem oB9_0 {p : Program} {l : Launch} {e : Env} {s : State} {m : MethodId} {args : Array Value} {below : List Frame} {meth : Method} {c : Code} {T : State} {locs : List Loc} {cells slots : Nat} {Z : State} {a0 : Array Value} {h0 : Heap} {n0 : Nat} (X : Stand p l e ({ frames := 0, cells := 0, slots := 0, locals := 0 } : Room) s m args below meth c T locs cells slots) (hx : p.tables.exec = Jvm.exec) (hby : c.code = jdk_29_method_65_code) (hml : c.maxLocals = 2) (hret : meth.sig.returnType = some .int) (hlk : meth.locks = false) (hown : s.vm.findClass "java/lang/Math" = some m.cls) (hZ : Z.Warmed39 s.vm) (hw : ∀ d ∈ tables_1, d.before a0 Z = true) (eT : T.heap = h0) (N : Fr n0 locs) (Z0 : n0 ≤ h0.size) (hcs : cells ≤ ({ frames := 0, cells := 0, slots := 0, locals := 0 } : Room).cells) (hss : slots ≤ ({ frames := 0, cells := 0, slots := 0, locals := 0 } : Room).slots) (p1 : Int32) (p2 : Int32) {w : Int32} (hv : oF9_0 p1 p2 = w) : oEnd p e s below T (mkF m 0 #[.val (.int p1), .val (.int p2)] []) n0 h0 cells slots (some (.int w)) := by
  show oEnd p e s below T (mkF m 0 #[.val (.int p1), .val (.int p2)] []) n0 h0 cells slots (some (.int w))
  refine oPre (fun _ => XS.iloadN X.here hx rfl (hb hby d9_0) rfl) ?_
  show oEnd p e s below T (mkF m 1 #[.val (.int p1), .val (.int p2)] [(.int p1)]) n0 h0 cells slots (some (.int w))
  refine oPre (fun _ => XS.iloadN X.here hx rfl (hb hby d9_1) rfl) ?_
  show oEnd p e s below T (mkF m 2 #[.val (.int p1), .val (.int p2)] [(.int p2), (.int p1)]) n0 h0 cells slots (some (.int w))
  by_cases h2 : p1 < p2
  · have v2 : (oF9_10 p1 p2 p2) = w := (if_pos h2).symm.trans hv
    refine oPre (fun _ => XS.icmpYes X.here hx rfl (pc0 := 2) (pc' := 9) rfl (hb hby d9_2) rfl (((tlt h2).1)) (by decide) (by decide)) ?_
    show oEnd p e s below T (mkF m 9 #[.val (.int p1), .val (.int p2)] []) n0 h0 cells slots (some (.int w))
    refine oPre (fun _ => XS.iloadN X.here hx rfl (hb hby d9_9) rfl) ?_
    exact oB9_10 X hx hby hml hret hlk hown hZ hw eT N Z0 hcs hss p1 p2 p2 v2
  · have v2 : (oF9_10 p1 p2 p1) = w := (if_neg h2).symm.trans hv
    refine oPre (fun _ => XS.icmpNo X.here hx rfl (hb hby d9_2) rfl (((flt h2).1))) ?_
    show oEnd p e s below T (mkF m 5 #[.val (.int p1), .val (.int p2)] []) n0 h0 cells slots (some (.int w))
    refine oPre (fun _ => XS.iloadN X.here hx rfl (hb hby d9_5) rfl) ?_
    show oEnd p e s below T (mkF m 6 #[.val (.int p1), .val (.int p2)] [(.int p1)]) n0 h0 cells slots (some (.int w))
    refine oPre (fun _ => XS.goto X.here hx rfl (pc0 := 6) (pc' := 10) rfl (hb hby d9_6) (by decide) (by decide)) ?_
    exact oB9_10 X hx hby hml hret hlk hown hZ hw eT N Z0 hcs hss p1 p2 p1 v2
theorem pf_9 : plainFor (⟨"java/lang/Math", "max", "(II)I"⟩ : MethodName) = true := by decide +kernel
theorem ef_9 (m : MethodId) (p1 : Int32) (p2 : Int32) : entryFrame m #[(.int p1), (.int p2)] 2 = mkF m 0 #[.val (.int p1), .val (.int p2)] [] := by first | (simp [entryFrame, mkF, argsToLocals, Value.category]; done) | rfl
def oQ9 (p1 : Int32) (p2 : Int32) (h0 : Heap) (n0 : Nat) (v : Option Value) (h : Heap) (L : List Loc) : Prop := v = some (.int (oF9_0 p1 p2)) ∧ Fr n0 L ∧ h = h0
set_option maxRecDepth 65536 in
set_option maxHeartbeats 4000000 in
theorem oR9 (l : Launch) (Z : State) (a0 : Array Value) (hw : ∀ d ∈ tables_1, d.before a0 Z = true) (ws : List Jvm.Cond) (p1 : Int32) (p2 : Int32) (h0 : Heap) (n0 : Nat) (Z0 : n0 ≤ h0.size) :
    MetFree l (⟨"java/lang/Math", "max", "(II)I"⟩ : MethodName) (head1 (Jvm.Cond.code (⟨"java/lang/Math", "max", "(II)I"⟩ : MethodName) jdk_29_method_65_code 2 (some .int) :: ws) ({ frames := 0, cells := 0, slots := 0, locals := 0 } : Room)) (fun a U => a = #[(.int p1), (.int p2)] ∧ Z.Warmed39 U.vm ∧ U.heap = h0) (fun _ _ _ _ _ => True) (fun _ U o U' => ∃ v L, o = .returned v ∧ oQ9 p1 p2 h0 n0 v U'.heap L ∧ FrameEnd U o U' L ({ frames := 0, cells := 0, slots := 0, locals := 0 } : Room).cells ({ frames := 0, cells := 0, slots := 0, locals := 0 } : Room).slots) := by
  refine MetFree.of_bodySF pf_9 hisR ?_
  intro p e s m args below meth c s₁ Bd hml0 hP hK
  obtain ⟨rfl, hZ, hh⟩ := hP
  have hown : s.vm.findClass "java/lang/Math" = some m.cls := findClass_of_methodNamed Bd.named
  have X0 : Stand p l e ({ frames := 0, cells := 0, slots := 0, locals := 0 } : Room) s m #[(.int p1), (.int p2)] below meth c s₁ [] 0 0 := Stand.of_body Bd
  have e0 : s₁.heap = h0 := by rw [← hh, Bd.state]; rfl
  obtain ⟨t, L, hs, hrun, hended, hW, hsame, hN, ht⟩ := oB9_0 X0 Bd.exec Bd.bytes hml0 Bd.returns Bd.notSynchronized hown hZ hw e0 (Fr.nil n0) Z0 (Nat.zero_le _) (Nat.zero_le _) p1 p2 rfl
  exact ⟨t, _, castTop (ef_9 m p1 p2) hs, hrun, hended, _, L, rfl, ⟨rfl, hN, ht⟩, ⟨_, rfl⟩, hW, hsame.mono (Nat.zero_le _) (Nat.zero_le _)⟩
theorem d10_0 : decode jdk_29_method_69_code 0 = .ok (.iload_n 0, 1) := by decide +kernel
theorem d10_1 : decode jdk_29_method_69_code 1 = .ok (.iload_n 1, 1) := by decide +kernel
theorem d10_2 : decode jdk_29_method_69_code 2 = .ok (.if_icmp .gt 7, 3) := by decide +kernel
theorem d10_5 : decode jdk_29_method_69_code 5 = .ok (.iload_n 0, 1) := by decide +kernel
theorem d10_6 : decode jdk_29_method_69_code 6 = .ok (.goto 4, 3) := by decide +kernel
theorem d10_9 : decode jdk_29_method_69_code 9 = .ok (.iload_n 1, 1) := by decide +kernel
theorem d10_10 : decode jdk_29_method_69_code 10 = .ok (.ireturn, 1) := by decide +kernel
def oF10_10 (p1 : Int32) (p2 : Int32) (q1 : Int32) : Int32 := q1
set_option maxRecDepth 65536 in
set_option maxHeartbeats 4000000 in
theorem oB10_10 {p : Program} {l : Launch} {e : Env} {s : State} {m : MethodId} {args : Array Value} {below : List Frame} {meth : Method} {c : Code} {T : State} {locs : List Loc} {cells slots : Nat} {Z : State} {a0 : Array Value} {h0 : Heap} {n0 : Nat} (X : Stand p l e ({ frames := 0, cells := 0, slots := 0, locals := 0 } : Room) s m args below meth c T locs cells slots) (hx : p.tables.exec = Jvm.exec) (hby : c.code = jdk_29_method_69_code) (hml : c.maxLocals = 2) (hret : meth.sig.returnType = some .int) (hlk : meth.locks = false) (hown : s.vm.findClass "java/lang/Math" = some m.cls) (hZ : Z.Warmed39 s.vm) (hw : ∀ d ∈ tables_1, d.before a0 Z = true) (eT : T.heap = h0) (N : Fr n0 locs) (Z0 : n0 ≤ h0.size) (hcs : cells ≤ ({ frames := 0, cells := 0, slots := 0, locals := 0 } : Room).cells) (hss : slots ≤ ({ frames := 0, cells := 0, slots := 0, locals := 0 } : Room).slots) (p1 : Int32) (p2 : Int32) (q1 : Int32) {w : Int32} (hv : oF10_10 p1 p2 q1 = w) : oEnd p e s below T (mkF m 10 #[.val (.int p1), .val (.int p2)] [(.int q1)]) n0 h0 cells slots (some (.int w)) := by
  show oEnd p e s below T (mkF m 10 #[.val (.int p1), .val (.int p2)] [(.int q1)]) n0 h0 cells slots (some (.int w))
  subst hv
  obtain ⟨fs, hr, hrun, hended, hW, hsame⟩ := X.leave (v := some (.int q1)) (fun h => by rw [hret] at h; cases h) hlk
  exact ⟨_, _, retI X hx hret (hb hby d10_10) hr, hrun, hended, hW, hsame, N, eT⟩
def oF10_0 (p1 : Int32) (p2 : Int32) : Int32 := (if p2 < p1 then (oF10_10 p1 p2 p2) else (oF10_10 p1 p2 p1))
set_option maxRecDepth 65536 in
set_option maxHeartbeats 4000000 in
theorem oB10_0 {p : Program} {l : Launch} {e : Env} {s : State} {m : MethodId} {args : Array Value} {below : List Frame} {meth : Method} {c : Code} {T : State} {locs : List Loc} {cells slots : Nat} {Z : State} {a0 : Array Value} {h0 : Heap} {n0 : Nat} (X : Stand p l e ({ frames := 0, cells := 0, slots := 0, locals := 0 } : Room) s m args below meth c T locs cells slots) (hx : p.tables.exec = Jvm.exec) (hby : c.code = jdk_29_method_69_code) (hml : c.maxLocals = 2) (hret : meth.sig.returnType = some .int) (hlk : meth.locks = false) (hown : s.vm.findClass "java/lang/Math" = some m.cls) (hZ : Z.Warmed39 s.vm) (hw : ∀ d ∈ tables_1, d.before a0 Z = true) (eT : T.heap = h0) (N : Fr n0 locs) (Z0 : n0 ≤ h0.size) (hcs : cells ≤ ({ frames := 0, cells := 0, slots := 0, locals := 0 } : Room).cells) (hss : slots ≤ ({ frames := 0, cells := 0, slots := 0, locals := 0 } : Room).slots) (p1 : Int32) (p2 : Int32) {w : Int32} (hv : oF10_0 p1 p2 = w) : oEnd p e s below T (mkF m 0 #[.val (.int p1), .val (.int p2)] []) n0 h0 cells slots (some (.int w)) := by
  show oEnd p e s below T (mkF m 0 #[.val (.int p1), .val (.int p2)] []) n0 h0 cells slots (some (.int w))
  refine oPre (fun _ => XS.iloadN X.here hx rfl (hb hby d10_0) rfl) ?_
  show oEnd p e s below T (mkF m 1 #[.val (.int p1), .val (.int p2)] [(.int p1)]) n0 h0 cells slots (some (.int w))
  refine oPre (fun _ => XS.iloadN X.here hx rfl (hb hby d10_1) rfl) ?_
  show oEnd p e s below T (mkF m 2 #[.val (.int p1), .val (.int p2)] [(.int p2), (.int p1)]) n0 h0 cells slots (some (.int w))
  by_cases h2 : p2 < p1
  · have v2 : (oF10_10 p1 p2 p2) = w := (if_pos h2).symm.trans hv
    refine oPre (fun _ => XS.icmpYes X.here hx rfl (pc0 := 2) (pc' := 9) rfl (hb hby d10_2) rfl (((tlt h2).2.2.1)) (by decide) (by decide)) ?_
    show oEnd p e s below T (mkF m 9 #[.val (.int p1), .val (.int p2)] []) n0 h0 cells slots (some (.int w))
    refine oPre (fun _ => XS.iloadN X.here hx rfl (hb hby d10_9) rfl) ?_
    exact oB10_10 X hx hby hml hret hlk hown hZ hw eT N Z0 hcs hss p1 p2 p2 v2
  · have v2 : (oF10_10 p1 p2 p1) = w := (if_neg h2).symm.trans hv
    refine oPre (fun _ => XS.icmpNo X.here hx rfl (hb hby d10_2) rfl (((flt h2).2.2.1))) ?_
    show oEnd p e s below T (mkF m 5 #[.val (.int p1), .val (.int p2)] []) n0 h0 cells slots (some (.int w))
    refine oPre (fun _ => XS.iloadN X.here hx rfl (hb hby d10_5) rfl) ?_
    show oEnd p e s below T (mkF m 6 #[.val (.int p1), .val (.int p2)] [(.int p1)]) n0 h0 cells slots (some (.int w))
    refine oPre (fun _ => XS.goto X.here hx rfl (pc0 := 6) (pc' := 10) rfl (hb hby d10_6) (by decide) (by decide)) ?_
    exact oB10_10 X hx hby hml hret hlk hown hZ hw eT N Z0 hcs hss p1 p2 p1 v2
theorem pf_10 : plainFor (⟨"java/lang/Math", "min", "(II)I"⟩ : MethodName) = true := by decide +kernel
theorem ef_10 (m : MethodId) (p1 : Int32) (p2 : Int32) : entryFrame m #[(.int p1), (.int p2)] 2 = mkF m 0 #[.val (.int p1), .val (.int p2)] [] := by first | (simp [entryFrame, mkF, argsToLocals, Value.category]; done) | rfl
def oQ10 (p1 : Int32) (p2 : Int32) (h0 : Heap) (n0 : Nat) (v : Option Value) (h : Heap) (L : List Loc) : Prop := v = some (.int (oF10_0 p1 p2)) ∧ Fr n0 L ∧ h = h0
set_option maxRecDepth 65536 in
set_option maxHeartbeats 4000000 in
theorem oR10 (l : Launch) (Z : State) (a0 : Array Value) (hw : ∀ d ∈ tables_1, d.before a0 Z = true) (ws : List Jvm.Cond) (p1 : Int32) (p2 : Int32) (h0 : Heap) (n0 : Nat) (Z0 : n0 ≤ h0.size) :
    MetFree l (⟨"java/lang/Math", "min", "(II)I"⟩ : MethodName) (head1 (Jvm.Cond.code (⟨"java/lang/Math", "min", "(II)I"⟩ : MethodName) jdk_29_method_69_code 2 (some .int) :: ws) ({ frames := 0, cells := 0, slots := 0, locals := 0 } : Room)) (fun a U => a = #[(.int p1), (.int p2)] ∧ Z.Warmed39 U.vm ∧ U.heap = h0) (fun _ _ _ _ _ => True) (fun _ U o U' => ∃ v L, o = .returned v ∧ oQ10 p1 p2 h0 n0 v U'.heap L ∧ FrameEnd U o U' L ({ frames := 0, cells := 0, slots := 0, locals := 0 } : Room).cells ({ frames := 0, cells := 0, slots := 0, locals := 0 } : Room).slots) := by
  refine MetFree.of_bodySF pf_10 hisR ?_
  intro p e s m args below meth c s₁ Bd hml0 hP hK
  obtain ⟨rfl, hZ, hh⟩ := hP
  have hown : s.vm.findClass "java/lang/Math" = some m.cls := findClass_of_methodNamed Bd.named
  have X0 : Stand p l e ({ frames := 0, cells := 0, slots := 0, locals := 0 } : Room) s m #[(.int p1), (.int p2)] below meth c s₁ [] 0 0 := Stand.of_body Bd
  have e0 : s₁.heap = h0 := by rw [← hh, Bd.state]; rfl
  obtain ⟨t, L, hs, hrun, hended, hW, hsame, hN, ht⟩ := oB10_0 X0 Bd.exec Bd.bytes hml0 Bd.returns Bd.notSynchronized hown hZ hw e0 (Fr.nil n0) Z0 (Nat.zero_le _) (Nat.zero_le _) p1 p2 rfl
  exact ⟨t, _, castTop (ef_10 m p1 p2) hs, hrun, hended, _, L, rfl, ⟨rfl, hN, ht⟩, ⟨_, rfl⟩, hW, hsame.mono (Nat.zero_le _) (Nat.zero_le _)⟩
theorem d12_0 : decode method_2_code 0 = .ok (.iload_n 0, 1) := by decide +kernel
theorem d12_1 : decode method_2_code 1 = .ok (.bipush 32, 2) := by decide +kernel
theorem d12_3 : decode method_2_code 3 = .ok (.ior, 1) := by decide +kernel
theorem d12_4 : decode method_2_code 4 = .ok (.istore_n 1, 1) := by decide +kernel
theorem d12_5 : decode method_2_code 5 = .ok (.iload_n 1, 1) := by decide +kernel
theorem d12_6 : decode method_2_code 6 = .ok (.bipush 97, 2) := by decide +kernel
theorem d12_8 : decode method_2_code 8 = .ok (.if_icmp .lt 13, 3) := by decide +kernel
theorem d12_11 : decode method_2_code 11 = .ok (.iload_n 1, 1) := by decide +kernel
theorem d12_12 : decode method_2_code 12 = .ok (.bipush 122, 2) := by decide +kernel
theorem d12_14 : decode method_2_code 14 = .ok (.if_icmp .gt 7, 3) := by decide +kernel
theorem d12_17 : decode method_2_code 17 = .ok (.iconst 1, 1) := by decide +kernel
theorem d12_18 : decode method_2_code 18 = .ok (.goto 4, 3) := by decide +kernel
theorem d12_21 : decode method_2_code 21 = .ok (.iconst 0, 1) := by decide +kernel
theorem d12_22 : decode method_2_code 22 = .ok (.istore_n 2, 1) := by decide +kernel
theorem d12_23 : decode method_2_code 23 = .ok (.iload_n 0, 1) := by decide +kernel
theorem d12_24 : decode method_2_code 24 = .ok (.bipush 48, 2) := by decide +kernel
theorem d12_26 : decode method_2_code 26 = .ok (.isub, 1) := by decide +kernel
theorem d12_27 : decode method_2_code 27 = .ok (.istore_n 3, 1) := by decide +kernel
theorem d12_28 : decode method_2_code 28 = .ok (.iload_n 3, 1) := by decide +kernel
theorem d12_29 : decode method_2_code 29 = .ok (.ifCond .lt 13, 3) := by decide +kernel
theorem d12_32 : decode method_2_code 32 = .ok (.iload_n 3, 1) := by decide +kernel
theorem d12_33 : decode method_2_code 33 = .ok (.bipush 10, 2) := by decide +kernel
theorem d12_35 : decode method_2_code 35 = .ok (.if_icmp .ge 7, 3) := by decide +kernel
theorem d12_38 : decode method_2_code 38 = .ok (.iconst 1, 1) := by decide +kernel
theorem d12_39 : decode method_2_code 39 = .ok (.goto 4, 3) := by decide +kernel
theorem d12_42 : decode method_2_code 42 = .ok (.iconst 0, 1) := by decide +kernel
theorem d12_43 : decode method_2_code 43 = .ok (.istore 4, 2) := by decide +kernel
theorem d12_45 : decode method_2_code 45 = .ok (.iload_n 0, 1) := by decide +kernel
theorem d12_46 : decode method_2_code 46 = .ok (.bipush 45, 2) := by decide +kernel
theorem d12_48 : decode method_2_code 48 = .ok (.if_icmp .eq 21, 3) := by decide +kernel
theorem d12_51 : decode method_2_code 51 = .ok (.iload_n 0, 1) := by decide +kernel
theorem d12_52 : decode method_2_code 52 = .ok (.bipush 46, 2) := by decide +kernel
theorem d12_54 : decode method_2_code 54 = .ok (.if_icmp .eq 15, 3) := by decide +kernel
theorem d12_57 : decode method_2_code 57 = .ok (.iload_n 0, 1) := by decide +kernel
theorem d12_58 : decode method_2_code 58 = .ok (.bipush 95, 2) := by decide +kernel
theorem d12_60 : decode method_2_code 60 = .ok (.if_icmp .eq 9, 3) := by decide +kernel
theorem d12_63 : decode method_2_code 63 = .ok (.iload_n 0, 1) := by decide +kernel
theorem d12_64 : decode method_2_code 64 = .ok (.bipush 126, 2) := by decide +kernel
theorem d12_66 : decode method_2_code 66 = .ok (.if_icmp .ne 7, 3) := by decide +kernel
theorem d12_69 : decode method_2_code 69 = .ok (.iconst 1, 1) := by decide +kernel
theorem d12_70 : decode method_2_code 70 = .ok (.goto 4, 3) := by decide +kernel
theorem d12_73 : decode method_2_code 73 = .ok (.iconst 0, 1) := by decide +kernel
theorem d12_74 : decode method_2_code 74 = .ok (.istore 5, 2) := by decide +kernel
theorem d12_76 : decode method_2_code 76 = .ok (.iload_n 2, 1) := by decide +kernel
theorem d12_77 : decode method_2_code 77 = .ok (.ifCond .ne 13, 3) := by decide +kernel
theorem d12_80 : decode method_2_code 80 = .ok (.iload 4, 2) := by decide +kernel
theorem d12_82 : decode method_2_code 82 = .ok (.ifCond .ne 8, 3) := by decide +kernel
theorem d12_85 : decode method_2_code 85 = .ok (.iload 5, 2) := by decide +kernel
theorem d12_87 : decode method_2_code 87 = .ok (.ifCond .eq 7, 3) := by decide +kernel
theorem d12_90 : decode method_2_code 90 = .ok (.iconst 1, 1) := by decide +kernel
theorem d12_91 : decode method_2_code 91 = .ok (.goto 4, 3) := by decide +kernel
theorem d12_94 : decode method_2_code 94 = .ok (.iconst 0, 1) := by decide +kernel
theorem d12_95 : decode method_2_code 95 = .ok (.ireturn, 1) := by decide +kernel
def oF12_95 (p1 : Int32) (p2 : Int32) (p3 : Int32) (p4 : Int32) (p5 : Int32) (p6 : Int32) (q1 : Int32) : Int32 := (q1 &&& 1)
set_option maxRecDepth 65536 in
set_option maxHeartbeats 4000000 in
theorem oB12_95 {p : Program} {l : Launch} {e : Env} {s : State} {m : MethodId} {args : Array Value} {below : List Frame} {meth : Method} {c : Code} {T : State} {locs : List Loc} {cells slots : Nat} {Z : State} {a0 : Array Value} {h0 : Heap} {n0 : Nat} (X : Stand p l e ({ frames := 0, cells := 0, slots := 0, locals := 0 } : Room) s m args below meth c T locs cells slots) (hx : p.tables.exec = Jvm.exec) (hby : c.code = method_2_code) (hml : c.maxLocals = 6) (hret : meth.sig.returnType = some .boolean) (hlk : meth.locks = false) (hown : s.vm.findClass "com/example/anansi/anansi/AsciiIsUnreservedPinLaw" = some m.cls) (hZ : Z.Warmed39 s.vm) (hw : ∀ d ∈ tables_1, d.before a0 Z = true) (eT : T.heap = h0) (N : Fr n0 locs) (Z0 : n0 ≤ h0.size) (hcs : cells ≤ ({ frames := 0, cells := 0, slots := 0, locals := 0 } : Room).cells) (hss : slots ≤ ({ frames := 0, cells := 0, slots := 0, locals := 0 } : Room).slots) (p1 : Int32) (p2 : Int32) (p3 : Int32) (p4 : Int32) (p5 : Int32) (p6 : Int32) (q1 : Int32) {w : Int32} (hv : oF12_95 p1 p2 p3 p4 p5 p6 q1 = w) : oEnd p e s below T (mkF m 95 #[.val (.int p1), .val (.int p2), .val (.int p3), .val (.int p4), .val (.int p5), .val (.int p6)] [(.int q1)]) n0 h0 cells slots (some (.int w)) := by
  show oEnd p e s below T (mkF m 95 #[.val (.int p1), .val (.int p2), .val (.int p3), .val (.int p4), .val (.int p5), .val (.int p6)] [(.int q1)]) n0 h0 cells slots (some (.int w))
  subst hv
  obtain ⟨fs, hr, hrun, hended, hW, hsame⟩ := X.leave (v := some (.int (q1 &&& 1))) (fun h => by rw [hret] at h; cases h) hlk
  exact ⟨_, _, retN X hx (t := .boolean) hret (by simp) (hb hby d12_95) hr, hrun, hended, hW, hsame, N, eT⟩
def oF12_90 (p1 : Int32) (p2 : Int32) (p3 : Int32) (p4 : Int32) (p5 : Int32) (p6 : Int32) : Int32 := (oF12_95 p1 p2 p3 p4 p5 p6 (1 : Int32))
set_option maxRecDepth 65536 in
set_option maxHeartbeats 4000000 in
theorem oB12_90 {p : Program} {l : Launch} {e : Env} {s : State} {m : MethodId} {args : Array Value} {below : List Frame} {meth : Method} {c : Code} {T : State} {locs : List Loc} {cells slots : Nat} {Z : State} {a0 : Array Value} {h0 : Heap} {n0 : Nat} (X : Stand p l e ({ frames := 0, cells := 0, slots := 0, locals := 0 } : Room) s m args below meth c T locs cells slots) (hx : p.tables.exec = Jvm.exec) (hby : c.code = method_2_code) (hml : c.maxLocals = 6) (hret : meth.sig.returnType = some .boolean) (hlk : meth.locks = false) (hown : s.vm.findClass "com/example/anansi/anansi/AsciiIsUnreservedPinLaw" = some m.cls) (hZ : Z.Warmed39 s.vm) (hw : ∀ d ∈ tables_1, d.before a0 Z = true) (eT : T.heap = h0) (N : Fr n0 locs) (Z0 : n0 ≤ h0.size) (hcs : cells ≤ ({ frames := 0, cells := 0, slots := 0, locals := 0 } : Room).cells) (hss : slots ≤ ({ frames := 0, cells := 0, slots := 0, locals := 0 } : Room).slots) (p1 : Int32) (p2 : Int32) (p3 : Int32) (p4 : Int32) (p5 : Int32) (p6 : Int32) {w : Int32} (hv : oF12_90 p1 p2 p3 p4 p5 p6 = w) : oEnd p e s below T (mkF m 90 #[.val (.int p1), .val (.int p2), .val (.int p3), .val (.int p4), .val (.int p5), .val (.int p6)] []) n0 h0 cells slots (some (.int w)) := by
  show oEnd p e s below T (mkF m 90 #[.val (.int p1), .val (.int p2), .val (.int p3), .val (.int p4), .val (.int p5), .val (.int p6)] []) n0 h0 cells slots (some (.int w))
  refine oPre (fun _ => XS.iconst X.here hx rfl (hb hby d12_90)) ?_
  show oEnd p e s below T (mkF m 91 #[.val (.int p1), .val (.int p2), .val (.int p3), .val (.int p4), .val (.int p5), .val (.int p6)] [(.int (1 : Int32))]) n0 h0 cells slots (some (.int w))
  refine oPre (fun _ => XS.goto X.here hx rfl (pc0 := 91) (pc' := 95) rfl (hb hby d12_91) (by decide) (by decide)) ?_
  exact oB12_95 X hx hby hml hret hlk hown hZ hw eT N Z0 hcs hss p1 p2 p3 p4 p5 p6 (1 : Int32) hv
def oF12_74 (p1 : Int32) (p2 : Int32) (p3 : Int32) (p4 : Int32) (p5 : Int32) (q1 : Int32) : Int32 := (if p3 = (0 : Int32) then (if p5 = (0 : Int32) then (if q1 = (0 : Int32) then (oF12_95 p1 p2 p3 p4 p5 q1 (0 : Int32)) else (oF12_90 p1 p2 p3 p4 p5 q1)) else (oF12_90 p1 p2 p3 p4 p5 q1)) else (oF12_90 p1 p2 p3 p4 p5 q1))
set_option maxRecDepth 65536 in
set_option maxHeartbeats 4000000 in
theorem oB12_74 {p : Program} {l : Launch} {e : Env} {s : State} {m : MethodId} {args : Array Value} {below : List Frame} {meth : Method} {c : Code} {T : State} {locs : List Loc} {cells slots : Nat} {Z : State} {a0 : Array Value} {h0 : Heap} {n0 : Nat} (X : Stand p l e ({ frames := 0, cells := 0, slots := 0, locals := 0 } : Room) s m args below meth c T locs cells slots) (hx : p.tables.exec = Jvm.exec) (hby : c.code = method_2_code) (hml : c.maxLocals = 6) (hret : meth.sig.returnType = some .boolean) (hlk : meth.locks = false) (hown : s.vm.findClass "com/example/anansi/anansi/AsciiIsUnreservedPinLaw" = some m.cls) (hZ : Z.Warmed39 s.vm) (hw : ∀ d ∈ tables_1, d.before a0 Z = true) (eT : T.heap = h0) (N : Fr n0 locs) (Z0 : n0 ≤ h0.size) (hcs : cells ≤ ({ frames := 0, cells := 0, slots := 0, locals := 0 } : Room).cells) (hss : slots ≤ ({ frames := 0, cells := 0, slots := 0, locals := 0 } : Room).slots) (p1 : Int32) (p2 : Int32) (p3 : Int32) (p4 : Int32) (p5 : Int32) (q1 : Int32) {w : Int32} (hv : oF12_74 p1 p2 p3 p4 p5 q1 = w) : oEnd p e s below T (mkF m 74 #[.val (.int p1), .val (.int p2), .val (.int p3), .val (.int p4), .val (.int p5), .unset] [(.int q1)]) n0 h0 cells slots (some (.int w)) := by
  show oEnd p e s below T (mkF m 74 #[.val (.int p1), .val (.int p2), .val (.int p3), .val (.int p4), .val (.int p5), .unset] [(.int q1)]) n0 h0 cells slots (some (.int w))
  refine oPre (fun _ => XS.istore X.here hx rfl (hb hby d12_74) rfl (l' := #[.val (.int p1), .val (.int p2), .val (.int p3), .val (.int p4), .val (.int p5), .val (.int q1)]) rfl) ?_
  show oEnd p e s below T (mkF m 76 #[.val (.int p1), .val (.int p2), .val (.int p3), .val (.int p4), .val (.int p5), .val (.int q1)] []) n0 h0 cells slots (some (.int w))
  refine oPre (fun _ => XS.iloadN X.here hx rfl (hb hby d12_76) rfl) ?_
  show oEnd p e s below T (mkF m 77 #[.val (.int p1), .val (.int p2), .val (.int p3), .val (.int p4), .val (.int p5), .val (.int q1)] [(.int p3)]) n0 h0 cells slots (some (.int w))
  by_cases h77 : p3 = (0 : Int32)
  · have v77 : (if p5 = (0 : Int32) then (if q1 = (0 : Int32) then (oF12_95 p1 p2 p3 p4 p5 q1 (0 : Int32)) else (oF12_90 p1 p2 p3 p4 p5 q1)) else (oF12_90 p1 p2 p3 p4 p5 q1)) = w := (if_pos h77).symm.trans hv
    refine oPre (fun _ => XS.ifNo X.here hx rfl (hb hby d12_77) rfl ((if0 _ _).trans ((teq h77).2))) ?_
    show oEnd p e s below T (mkF m 80 #[.val (.int p1), .val (.int p2), .val (.int p3), .val (.int p4), .val (.int p5), .val (.int q1)] []) n0 h0 cells slots (some (.int w))
    refine oPre (fun _ => XS.iload X.here hx rfl (hb hby d12_80) rfl) ?_
    show oEnd p e s below T (mkF m 82 #[.val (.int p1), .val (.int p2), .val (.int p3), .val (.int p4), .val (.int p5), .val (.int q1)] [(.int p5)]) n0 h0 cells slots (some (.int w))
    by_cases h82 : p5 = (0 : Int32)
    · have v82 : (if q1 = (0 : Int32) then (oF12_95 p1 p2 p3 p4 p5 q1 (0 : Int32)) else (oF12_90 p1 p2 p3 p4 p5 q1)) = w := (if_pos h82).symm.trans v77
      refine oPre (fun _ => XS.ifNo X.here hx rfl (hb hby d12_82) rfl ((if0 _ _).trans ((teq h82).2))) ?_
      show oEnd p e s below T (mkF m 85 #[.val (.int p1), .val (.int p2), .val (.int p3), .val (.int p4), .val (.int p5), .val (.int q1)] []) n0 h0 cells slots (some (.int w))
      refine oPre (fun _ => XS.iload X.here hx rfl (hb hby d12_85) rfl) ?_
      show oEnd p e s below T (mkF m 87 #[.val (.int p1), .val (.int p2), .val (.int p3), .val (.int p4), .val (.int p5), .val (.int q1)] [(.int q1)]) n0 h0 cells slots (some (.int w))
      by_cases h87 : q1 = (0 : Int32)
      · have v87 : (oF12_95 p1 p2 p3 p4 p5 q1 (0 : Int32)) = w := (if_pos h87).symm.trans v82
        refine oPre (fun _ => XS.ifYes X.here hx rfl (pc0 := 87) (pc' := 94) rfl (hb hby d12_87) rfl ((if0 _ _).trans ((teq h87).1)) (by decide) (by decide)) ?_
        show oEnd p e s below T (mkF m 94 #[.val (.int p1), .val (.int p2), .val (.int p3), .val (.int p4), .val (.int p5), .val (.int q1)] []) n0 h0 cells slots (some (.int w))
        refine oPre (fun _ => XS.iconst X.here hx rfl (hb hby d12_94)) ?_
        exact oB12_95 X hx hby hml hret hlk hown hZ hw eT N Z0 hcs hss p1 p2 p3 p4 p5 q1 (0 : Int32) v87
      · have v87 : (oF12_90 p1 p2 p3 p4 p5 q1) = w := (if_neg h87).symm.trans v82
        refine oPre (fun _ => XS.ifNo X.here hx rfl (hb hby d12_87) rfl ((if0 _ _).trans ((feq h87).1))) ?_
        exact oB12_90 X hx hby hml hret hlk hown hZ hw eT N Z0 hcs hss p1 p2 p3 p4 p5 q1 v87
    · have v82 : (oF12_90 p1 p2 p3 p4 p5 q1) = w := (if_neg h82).symm.trans v77
      refine oPre (fun _ => XS.ifYes X.here hx rfl (pc0 := 82) (pc' := 90) rfl (hb hby d12_82) rfl ((if0 _ _).trans ((feq h82).2)) (by decide) (by decide)) ?_
      exact oB12_90 X hx hby hml hret hlk hown hZ hw eT N Z0 hcs hss p1 p2 p3 p4 p5 q1 v82
  · have v77 : (oF12_90 p1 p2 p3 p4 p5 q1) = w := (if_neg h77).symm.trans hv
    refine oPre (fun _ => XS.ifYes X.here hx rfl (pc0 := 77) (pc' := 90) rfl (hb hby d12_77) rfl ((if0 _ _).trans ((feq h77).2)) (by decide) (by decide)) ?_
    exact oB12_90 X hx hby hml hret hlk hown hZ hw eT N Z0 hcs hss p1 p2 p3 p4 p5 q1 v77
def oF12_69 (p1 : Int32) (p2 : Int32) (p3 : Int32) (p4 : Int32) (p5 : Int32) : Int32 := (oF12_74 p1 p2 p3 p4 p5 (1 : Int32))
set_option maxRecDepth 65536 in
set_option maxHeartbeats 4000000 in
theorem oB12_69 {p : Program} {l : Launch} {e : Env} {s : State} {m : MethodId} {args : Array Value} {below : List Frame} {meth : Method} {c : Code} {T : State} {locs : List Loc} {cells slots : Nat} {Z : State} {a0 : Array Value} {h0 : Heap} {n0 : Nat} (X : Stand p l e ({ frames := 0, cells := 0, slots := 0, locals := 0 } : Room) s m args below meth c T locs cells slots) (hx : p.tables.exec = Jvm.exec) (hby : c.code = method_2_code) (hml : c.maxLocals = 6) (hret : meth.sig.returnType = some .boolean) (hlk : meth.locks = false) (hown : s.vm.findClass "com/example/anansi/anansi/AsciiIsUnreservedPinLaw" = some m.cls) (hZ : Z.Warmed39 s.vm) (hw : ∀ d ∈ tables_1, d.before a0 Z = true) (eT : T.heap = h0) (N : Fr n0 locs) (Z0 : n0 ≤ h0.size) (hcs : cells ≤ ({ frames := 0, cells := 0, slots := 0, locals := 0 } : Room).cells) (hss : slots ≤ ({ frames := 0, cells := 0, slots := 0, locals := 0 } : Room).slots) (p1 : Int32) (p2 : Int32) (p3 : Int32) (p4 : Int32) (p5 : Int32) {w : Int32} (hv : oF12_69 p1 p2 p3 p4 p5 = w) : oEnd p e s below T (mkF m 69 #[.val (.int p1), .val (.int p2), .val (.int p3), .val (.int p4), .val (.int p5), .unset] []) n0 h0 cells slots (some (.int w)) := by
  show oEnd p e s below T (mkF m 69 #[.val (.int p1), .val (.int p2), .val (.int p3), .val (.int p4), .val (.int p5), .unset] []) n0 h0 cells slots (some (.int w))
  refine oPre (fun _ => XS.iconst X.here hx rfl (hb hby d12_69)) ?_
  show oEnd p e s below T (mkF m 70 #[.val (.int p1), .val (.int p2), .val (.int p3), .val (.int p4), .val (.int p5), .unset] [(.int (1 : Int32))]) n0 h0 cells slots (some (.int w))
  refine oPre (fun _ => XS.goto X.here hx rfl (pc0 := 70) (pc' := 74) rfl (hb hby d12_70) (by decide) (by decide)) ?_
  exact oB12_74 X hx hby hml hret hlk hown hZ hw eT N Z0 hcs hss p1 p2 p3 p4 p5 (1 : Int32) hv
def oF12_43 (p1 : Int32) (p2 : Int32) (p3 : Int32) (p4 : Int32) (q1 : Int32) : Int32 := (if p1 = (45 : Int32) then (oF12_69 p1 p2 p3 p4 q1) else (if p1 = (46 : Int32) then (oF12_69 p1 p2 p3 p4 q1) else (if p1 = (95 : Int32) then (oF12_69 p1 p2 p3 p4 q1) else (if p1 = (126 : Int32) then (oF12_69 p1 p2 p3 p4 q1) else (oF12_74 p1 p2 p3 p4 q1 (0 : Int32))))))
set_option maxRecDepth 65536 in
set_option maxHeartbeats 4000000 in
theorem oB12_43 {p : Program} {l : Launch} {e : Env} {s : State} {m : MethodId} {args : Array Value} {below : List Frame} {meth : Method} {c : Code} {T : State} {locs : List Loc} {cells slots : Nat} {Z : State} {a0 : Array Value} {h0 : Heap} {n0 : Nat} (X : Stand p l e ({ frames := 0, cells := 0, slots := 0, locals := 0 } : Room) s m args below meth c T locs cells slots) (hx : p.tables.exec = Jvm.exec) (hby : c.code = method_2_code) (hml : c.maxLocals = 6) (hret : meth.sig.returnType = some .boolean) (hlk : meth.locks = false) (hown : s.vm.findClass "com/example/anansi/anansi/AsciiIsUnreservedPinLaw" = some m.cls) (hZ : Z.Warmed39 s.vm) (hw : ∀ d ∈ tables_1, d.before a0 Z = true) (eT : T.heap = h0) (N : Fr n0 locs) (Z0 : n0 ≤ h0.size) (hcs : cells ≤ ({ frames := 0, cells := 0, slots := 0, locals := 0 } : Room).cells) (hss : slots ≤ ({ frames := 0, cells := 0, slots := 0, locals := 0 } : Room).slots) (p1 : Int32) (p2 : Int32) (p3 : Int32) (p4 : Int32) (q1 : Int32) {w : Int32} (hv : oF12_43 p1 p2 p3 p4 q1 = w) : oEnd p e s below T (mkF m 43 #[.val (.int p1), .val (.int p2), .val (.int p3), .val (.int p4), .unset, .unset] [(.int q1)]) n0 h0 cells slots (some (.int w)) := by
  show oEnd p e s below T (mkF m 43 #[.val (.int p1), .val (.int p2), .val (.int p3), .val (.int p4), .unset, .unset] [(.int q1)]) n0 h0 cells slots (some (.int w))
  refine oPre (fun _ => XS.istore X.here hx rfl (hb hby d12_43) rfl (l' := #[.val (.int p1), .val (.int p2), .val (.int p3), .val (.int p4), .val (.int q1), .unset]) rfl) ?_
  show oEnd p e s below T (mkF m 45 #[.val (.int p1), .val (.int p2), .val (.int p3), .val (.int p4), .val (.int q1), .unset] []) n0 h0 cells slots (some (.int w))
  refine oPre (fun _ => XS.iloadN X.here hx rfl (hb hby d12_45) rfl) ?_
  show oEnd p e s below T (mkF m 46 #[.val (.int p1), .val (.int p2), .val (.int p3), .val (.int p4), .val (.int q1), .unset] [(.int p1)]) n0 h0 cells slots (some (.int w))
  refine oPre (fun _ => XS.bipush X.here hx rfl (hb hby d12_46)) ?_
  show oEnd p e s below T (mkF m 48 #[.val (.int p1), .val (.int p2), .val (.int p3), .val (.int p4), .val (.int q1), .unset] [(.int (45 : Int32)), (.int p1)]) n0 h0 cells slots (some (.int w))
  by_cases h48 : p1 = (45 : Int32)
  · have v48 : (oF12_69 p1 p2 p3 p4 q1) = w := (if_pos h48).symm.trans hv
    refine oPre (fun _ => XS.icmpYes X.here hx rfl (pc0 := 48) (pc' := 69) rfl (hb hby d12_48) rfl (((teq h48).1)) (by decide) (by decide)) ?_
    exact oB12_69 X hx hby hml hret hlk hown hZ hw eT N Z0 hcs hss p1 p2 p3 p4 q1 v48
  · have v48 : (if p1 = (46 : Int32) then (oF12_69 p1 p2 p3 p4 q1) else (if p1 = (95 : Int32) then (oF12_69 p1 p2 p3 p4 q1) else (if p1 = (126 : Int32) then (oF12_69 p1 p2 p3 p4 q1) else (oF12_74 p1 p2 p3 p4 q1 (0 : Int32))))) = w := (if_neg h48).symm.trans hv
    refine oPre (fun _ => XS.icmpNo X.here hx rfl (hb hby d12_48) rfl (((feq h48).1))) ?_
    show oEnd p e s below T (mkF m 51 #[.val (.int p1), .val (.int p2), .val (.int p3), .val (.int p4), .val (.int q1), .unset] []) n0 h0 cells slots (some (.int w))
    refine oPre (fun _ => XS.iloadN X.here hx rfl (hb hby d12_51) rfl) ?_
    show oEnd p e s below T (mkF m 52 #[.val (.int p1), .val (.int p2), .val (.int p3), .val (.int p4), .val (.int q1), .unset] [(.int p1)]) n0 h0 cells slots (some (.int w))
    refine oPre (fun _ => XS.bipush X.here hx rfl (hb hby d12_52)) ?_
    show oEnd p e s below T (mkF m 54 #[.val (.int p1), .val (.int p2), .val (.int p3), .val (.int p4), .val (.int q1), .unset] [(.int (46 : Int32)), (.int p1)]) n0 h0 cells slots (some (.int w))
    by_cases h54 : p1 = (46 : Int32)
    · have v54 : (oF12_69 p1 p2 p3 p4 q1) = w := (if_pos h54).symm.trans v48
      refine oPre (fun _ => XS.icmpYes X.here hx rfl (pc0 := 54) (pc' := 69) rfl (hb hby d12_54) rfl (((teq h54).1)) (by decide) (by decide)) ?_
      exact oB12_69 X hx hby hml hret hlk hown hZ hw eT N Z0 hcs hss p1 p2 p3 p4 q1 v54
    · have v54 : (if p1 = (95 : Int32) then (oF12_69 p1 p2 p3 p4 q1) else (if p1 = (126 : Int32) then (oF12_69 p1 p2 p3 p4 q1) else (oF12_74 p1 p2 p3 p4 q1 (0 : Int32)))) = w := (if_neg h54).symm.trans v48
      refine oPre (fun _ => XS.icmpNo X.here hx rfl (hb hby d12_54) rfl (((feq h54).1))) ?_
      show oEnd p e s below T (mkF m 57 #[.val (.int p1), .val (.int p2), .val (.int p3), .val (.int p4), .val (.int q1), .unset] []) n0 h0 cells slots (some (.int w))
      refine oPre (fun _ => XS.iloadN X.here hx rfl (hb hby d12_57) rfl) ?_
      show oEnd p e s below T (mkF m 58 #[.val (.int p1), .val (.int p2), .val (.int p3), .val (.int p4), .val (.int q1), .unset] [(.int p1)]) n0 h0 cells slots (some (.int w))
      refine oPre (fun _ => XS.bipush X.here hx rfl (hb hby d12_58)) ?_
      show oEnd p e s below T (mkF m 60 #[.val (.int p1), .val (.int p2), .val (.int p3), .val (.int p4), .val (.int q1), .unset] [(.int (95 : Int32)), (.int p1)]) n0 h0 cells slots (some (.int w))
      by_cases h60 : p1 = (95 : Int32)
      · have v60 : (oF12_69 p1 p2 p3 p4 q1) = w := (if_pos h60).symm.trans v54
        refine oPre (fun _ => XS.icmpYes X.here hx rfl (pc0 := 60) (pc' := 69) rfl (hb hby d12_60) rfl (((teq h60).1)) (by decide) (by decide)) ?_
        exact oB12_69 X hx hby hml hret hlk hown hZ hw eT N Z0 hcs hss p1 p2 p3 p4 q1 v60
      · have v60 : (if p1 = (126 : Int32) then (oF12_69 p1 p2 p3 p4 q1) else (oF12_74 p1 p2 p3 p4 q1 (0 : Int32))) = w := (if_neg h60).symm.trans v54
        refine oPre (fun _ => XS.icmpNo X.here hx rfl (hb hby d12_60) rfl (((feq h60).1))) ?_
        show oEnd p e s below T (mkF m 63 #[.val (.int p1), .val (.int p2), .val (.int p3), .val (.int p4), .val (.int q1), .unset] []) n0 h0 cells slots (some (.int w))
        refine oPre (fun _ => XS.iloadN X.here hx rfl (hb hby d12_63) rfl) ?_
        show oEnd p e s below T (mkF m 64 #[.val (.int p1), .val (.int p2), .val (.int p3), .val (.int p4), .val (.int q1), .unset] [(.int p1)]) n0 h0 cells slots (some (.int w))
        refine oPre (fun _ => XS.bipush X.here hx rfl (hb hby d12_64)) ?_
        show oEnd p e s below T (mkF m 66 #[.val (.int p1), .val (.int p2), .val (.int p3), .val (.int p4), .val (.int q1), .unset] [(.int (126 : Int32)), (.int p1)]) n0 h0 cells slots (some (.int w))
        by_cases h66 : p1 = (126 : Int32)
        · have v66 : (oF12_69 p1 p2 p3 p4 q1) = w := (if_pos h66).symm.trans v60
          refine oPre (fun _ => XS.icmpNo X.here hx rfl (hb hby d12_66) rfl (((teq h66).2))) ?_
          exact oB12_69 X hx hby hml hret hlk hown hZ hw eT N Z0 hcs hss p1 p2 p3 p4 q1 v66
        · have v66 : (oF12_74 p1 p2 p3 p4 q1 (0 : Int32)) = w := (if_neg h66).symm.trans v60
          refine oPre (fun _ => XS.icmpYes X.here hx rfl (pc0 := 66) (pc' := 73) rfl (hb hby d12_66) rfl (((feq h66).2)) (by decide) (by decide)) ?_
          show oEnd p e s below T (mkF m 73 #[.val (.int p1), .val (.int p2), .val (.int p3), .val (.int p4), .val (.int q1), .unset] []) n0 h0 cells slots (some (.int w))
          refine oPre (fun _ => XS.iconst X.here hx rfl (hb hby d12_73)) ?_
          exact oB12_74 X hx hby hml hret hlk hown hZ hw eT N Z0 hcs hss p1 p2 p3 p4 q1 (0 : Int32) v66
def oF12_42 (p1 : Int32) (p2 : Int32) (p3 : Int32) (p4 : Int32) : Int32 := (oF12_43 p1 p2 p3 p4 (0 : Int32))
set_option maxRecDepth 65536 in
set_option maxHeartbeats 4000000 in
theorem oB12_42 {p : Program} {l : Launch} {e : Env} {s : State} {m : MethodId} {args : Array Value} {below : List Frame} {meth : Method} {c : Code} {T : State} {locs : List Loc} {cells slots : Nat} {Z : State} {a0 : Array Value} {h0 : Heap} {n0 : Nat} (X : Stand p l e ({ frames := 0, cells := 0, slots := 0, locals := 0 } : Room) s m args below meth c T locs cells slots) (hx : p.tables.exec = Jvm.exec) (hby : c.code = method_2_code) (hml : c.maxLocals = 6) (hret : meth.sig.returnType = some .boolean) (hlk : meth.locks = false) (hown : s.vm.findClass "com/example/anansi/anansi/AsciiIsUnreservedPinLaw" = some m.cls) (hZ : Z.Warmed39 s.vm) (hw : ∀ d ∈ tables_1, d.before a0 Z = true) (eT : T.heap = h0) (N : Fr n0 locs) (Z0 : n0 ≤ h0.size) (hcs : cells ≤ ({ frames := 0, cells := 0, slots := 0, locals := 0 } : Room).cells) (hss : slots ≤ ({ frames := 0, cells := 0, slots := 0, locals := 0 } : Room).slots) (p1 : Int32) (p2 : Int32) (p3 : Int32) (p4 : Int32) {w : Int32} (hv : oF12_42 p1 p2 p3 p4 = w) : oEnd p e s below T (mkF m 42 #[.val (.int p1), .val (.int p2), .val (.int p3), .val (.int p4), .unset, .unset] []) n0 h0 cells slots (some (.int w)) := by
  show oEnd p e s below T (mkF m 42 #[.val (.int p1), .val (.int p2), .val (.int p3), .val (.int p4), .unset, .unset] []) n0 h0 cells slots (some (.int w))
  refine oPre (fun _ => XS.iconst X.here hx rfl (hb hby d12_42)) ?_
  exact oB12_43 X hx hby hml hret hlk hown hZ hw eT N Z0 hcs hss p1 p2 p3 p4 (0 : Int32) hv
def oF12_22 (p1 : Int32) (p2 : Int32) (q1 : Int32) : Int32 := (if (p1 - (48 : Int32)) < (0 : Int32) then (oF12_42 p1 p2 q1 (p1 - (48 : Int32))) else (if (p1 - (48 : Int32)) < (10 : Int32) then (oF12_43 p1 p2 q1 (p1 - (48 : Int32)) (1 : Int32)) else (oF12_42 p1 p2 q1 (p1 - (48 : Int32)))))
set_option maxRecDepth 65536 in
set_option maxHeartbeats 4000000 in
theorem oB12_22 {p : Program} {l : Launch} {e : Env} {s : State} {m : MethodId} {args : Array Value} {below : List Frame} {meth : Method} {c : Code} {T : State} {locs : List Loc} {cells slots : Nat} {Z : State} {a0 : Array Value} {h0 : Heap} {n0 : Nat} (X : Stand p l e ({ frames := 0, cells := 0, slots := 0, locals := 0 } : Room) s m args below meth c T locs cells slots) (hx : p.tables.exec = Jvm.exec) (hby : c.code = method_2_code) (hml : c.maxLocals = 6) (hret : meth.sig.returnType = some .boolean) (hlk : meth.locks = false) (hown : s.vm.findClass "com/example/anansi/anansi/AsciiIsUnreservedPinLaw" = some m.cls) (hZ : Z.Warmed39 s.vm) (hw : ∀ d ∈ tables_1, d.before a0 Z = true) (eT : T.heap = h0) (N : Fr n0 locs) (Z0 : n0 ≤ h0.size) (hcs : cells ≤ ({ frames := 0, cells := 0, slots := 0, locals := 0 } : Room).cells) (hss : slots ≤ ({ frames := 0, cells := 0, slots := 0, locals := 0 } : Room).slots) (p1 : Int32) (p2 : Int32) (q1 : Int32) {w : Int32} (hv : oF12_22 p1 p2 q1 = w) : oEnd p e s below T (mkF m 22 #[.val (.int p1), .val (.int p2), .unset, .unset, .unset, .unset] [(.int q1)]) n0 h0 cells slots (some (.int w)) := by
  show oEnd p e s below T (mkF m 22 #[.val (.int p1), .val (.int p2), .unset, .unset, .unset, .unset] [(.int q1)]) n0 h0 cells slots (some (.int w))
  refine oPre (fun _ => XS.istoreN X.here hx rfl (hb hby d12_22) rfl (l' := #[.val (.int p1), .val (.int p2), .val (.int q1), .unset, .unset, .unset]) rfl) ?_
  show oEnd p e s below T (mkF m 23 #[.val (.int p1), .val (.int p2), .val (.int q1), .unset, .unset, .unset] []) n0 h0 cells slots (some (.int w))
  refine oPre (fun _ => XS.iloadN X.here hx rfl (hb hby d12_23) rfl) ?_
  show oEnd p e s below T (mkF m 24 #[.val (.int p1), .val (.int p2), .val (.int q1), .unset, .unset, .unset] [(.int p1)]) n0 h0 cells slots (some (.int w))
  refine oPre (fun _ => XS.bipush X.here hx rfl (hb hby d12_24)) ?_
  show oEnd p e s below T (mkF m 26 #[.val (.int p1), .val (.int p2), .val (.int q1), .unset, .unset, .unset] [(.int (48 : Int32)), (.int p1)]) n0 h0 cells slots (some (.int w))
  refine oPre (fun _ => XS.isub X.here hx rfl (hb hby d12_26) rfl) ?_
  show oEnd p e s below T (mkF m 27 #[.val (.int p1), .val (.int p2), .val (.int q1), .unset, .unset, .unset] [(.int (p1 - (48 : Int32)))]) n0 h0 cells slots (some (.int w))
  refine oPre (fun _ => XS.istoreN X.here hx rfl (hb hby d12_27) rfl (l' := #[.val (.int p1), .val (.int p2), .val (.int q1), .val (.int (p1 - (48 : Int32))), .unset, .unset]) rfl) ?_
  show oEnd p e s below T (mkF m 28 #[.val (.int p1), .val (.int p2), .val (.int q1), .val (.int (p1 - (48 : Int32))), .unset, .unset] []) n0 h0 cells slots (some (.int w))
  refine oPre (fun _ => XS.iloadN X.here hx rfl (hb hby d12_28) rfl) ?_
  show oEnd p e s below T (mkF m 29 #[.val (.int p1), .val (.int p2), .val (.int q1), .val (.int (p1 - (48 : Int32))), .unset, .unset] [(.int (p1 - (48 : Int32)))]) n0 h0 cells slots (some (.int w))
  by_cases h29 : (p1 - (48 : Int32)) < (0 : Int32)
  · have v29 : (oF12_42 p1 p2 q1 (p1 - (48 : Int32))) = w := (if_pos h29).symm.trans hv
    refine oPre (fun _ => XS.ifYes X.here hx rfl (pc0 := 29) (pc' := 42) rfl (hb hby d12_29) rfl ((if0 _ _).trans ((tlt h29).1)) (by decide) (by decide)) ?_
    exact oB12_42 X hx hby hml hret hlk hown hZ hw eT N Z0 hcs hss p1 p2 q1 (p1 - (48 : Int32)) v29
  · have v29 : (if (p1 - (48 : Int32)) < (10 : Int32) then (oF12_43 p1 p2 q1 (p1 - (48 : Int32)) (1 : Int32)) else (oF12_42 p1 p2 q1 (p1 - (48 : Int32)))) = w := (if_neg h29).symm.trans hv
    refine oPre (fun _ => XS.ifNo X.here hx rfl (hb hby d12_29) rfl ((if0 _ _).trans ((flt h29).1))) ?_
    show oEnd p e s below T (mkF m 32 #[.val (.int p1), .val (.int p2), .val (.int q1), .val (.int (p1 - (48 : Int32))), .unset, .unset] []) n0 h0 cells slots (some (.int w))
    refine oPre (fun _ => XS.iloadN X.here hx rfl (hb hby d12_32) rfl) ?_
    show oEnd p e s below T (mkF m 33 #[.val (.int p1), .val (.int p2), .val (.int q1), .val (.int (p1 - (48 : Int32))), .unset, .unset] [(.int (p1 - (48 : Int32)))]) n0 h0 cells slots (some (.int w))
    refine oPre (fun _ => XS.bipush X.here hx rfl (hb hby d12_33)) ?_
    show oEnd p e s below T (mkF m 35 #[.val (.int p1), .val (.int p2), .val (.int q1), .val (.int (p1 - (48 : Int32))), .unset, .unset] [(.int (10 : Int32)), (.int (p1 - (48 : Int32)))]) n0 h0 cells slots (some (.int w))
    by_cases h35 : (p1 - (48 : Int32)) < (10 : Int32)
    · have v35 : (oF12_43 p1 p2 q1 (p1 - (48 : Int32)) (1 : Int32)) = w := (if_pos h35).symm.trans v29
      refine oPre (fun _ => XS.icmpNo X.here hx rfl (hb hby d12_35) rfl (((tlt h35).2.1))) ?_
      show oEnd p e s below T (mkF m 38 #[.val (.int p1), .val (.int p2), .val (.int q1), .val (.int (p1 - (48 : Int32))), .unset, .unset] []) n0 h0 cells slots (some (.int w))
      refine oPre (fun _ => XS.iconst X.here hx rfl (hb hby d12_38)) ?_
      show oEnd p e s below T (mkF m 39 #[.val (.int p1), .val (.int p2), .val (.int q1), .val (.int (p1 - (48 : Int32))), .unset, .unset] [(.int (1 : Int32))]) n0 h0 cells slots (some (.int w))
      refine oPre (fun _ => XS.goto X.here hx rfl (pc0 := 39) (pc' := 43) rfl (hb hby d12_39) (by decide) (by decide)) ?_
      exact oB12_43 X hx hby hml hret hlk hown hZ hw eT N Z0 hcs hss p1 p2 q1 (p1 - (48 : Int32)) (1 : Int32) v35
    · have v35 : (oF12_42 p1 p2 q1 (p1 - (48 : Int32))) = w := (if_neg h35).symm.trans v29
      refine oPre (fun _ => XS.icmpYes X.here hx rfl (pc0 := 35) (pc' := 42) rfl (hb hby d12_35) rfl (((flt h35).2.1)) (by decide) (by decide)) ?_
      exact oB12_42 X hx hby hml hret hlk hown hZ hw eT N Z0 hcs hss p1 p2 q1 (p1 - (48 : Int32)) v35
def oF12_21 (p1 : Int32) (p2 : Int32) : Int32 := (oF12_22 p1 p2 (0 : Int32))
set_option maxRecDepth 65536 in
set_option maxHeartbeats 4000000 in
theorem oB12_21 {p : Program} {l : Launch} {e : Env} {s : State} {m : MethodId} {args : Array Value} {below : List Frame} {meth : Method} {c : Code} {T : State} {locs : List Loc} {cells slots : Nat} {Z : State} {a0 : Array Value} {h0 : Heap} {n0 : Nat} (X : Stand p l e ({ frames := 0, cells := 0, slots := 0, locals := 0 } : Room) s m args below meth c T locs cells slots) (hx : p.tables.exec = Jvm.exec) (hby : c.code = method_2_code) (hml : c.maxLocals = 6) (hret : meth.sig.returnType = some .boolean) (hlk : meth.locks = false) (hown : s.vm.findClass "com/example/anansi/anansi/AsciiIsUnreservedPinLaw" = some m.cls) (hZ : Z.Warmed39 s.vm) (hw : ∀ d ∈ tables_1, d.before a0 Z = true) (eT : T.heap = h0) (N : Fr n0 locs) (Z0 : n0 ≤ h0.size) (hcs : cells ≤ ({ frames := 0, cells := 0, slots := 0, locals := 0 } : Room).cells) (hss : slots ≤ ({ frames := 0, cells := 0, slots := 0, locals := 0 } : Room).slots) (p1 : Int32) (p2 : Int32) {w : Int32} (hv : oF12_21 p1 p2 = w) : oEnd p e s below T (mkF m 21 #[.val (.int p1), .val (.int p2), .unset, .unset, .unset, .unset] []) n0 h0 cells slots (some (.int w)) := by
  show oEnd p e s below T (mkF m 21 #[.val (.int p1), .val (.int p2), .unset, .unset, .unset, .unset] []) n0 h0 cells slots (some (.int w))
  refine oPre (fun _ => XS.iconst X.here hx rfl (hb hby d12_21)) ?_
  exact oB12_22 X hx hby hml hret hlk hown hZ hw eT N Z0 hcs hss p1 p2 (0 : Int32) hv
def oF12_0 (p1 : Int32) : Int32 := (if (p1 ||| (32 : Int32)) < (97 : Int32) then (oF12_21 p1 (p1 ||| (32 : Int32))) else (if (122 : Int32) < (p1 ||| (32 : Int32)) then (oF12_21 p1 (p1 ||| (32 : Int32))) else (oF12_22 p1 (p1 ||| (32 : Int32)) (1 : Int32))))
set_option maxRecDepth 65536 in
set_option maxHeartbeats 4000000 in
theorem oB12_0 {p : Program} {l : Launch} {e : Env} {s : State} {m : MethodId} {args : Array Value} {below : List Frame} {meth : Method} {c : Code} {T : State} {locs : List Loc} {cells slots : Nat} {Z : State} {a0 : Array Value} {h0 : Heap} {n0 : Nat} (X : Stand p l e ({ frames := 0, cells := 0, slots := 0, locals := 0 } : Room) s m args below meth c T locs cells slots) (hx : p.tables.exec = Jvm.exec) (hby : c.code = method_2_code) (hml : c.maxLocals = 6) (hret : meth.sig.returnType = some .boolean) (hlk : meth.locks = false) (hown : s.vm.findClass "com/example/anansi/anansi/AsciiIsUnreservedPinLaw" = some m.cls) (hZ : Z.Warmed39 s.vm) (hw : ∀ d ∈ tables_1, d.before a0 Z = true) (eT : T.heap = h0) (N : Fr n0 locs) (Z0 : n0 ≤ h0.size) (hcs : cells ≤ ({ frames := 0, cells := 0, slots := 0, locals := 0 } : Room).cells) (hss : slots ≤ ({ frames := 0, cells := 0, slots := 0, locals := 0 } : Room).slots) (p1 : Int32) {w : Int32} (hv : oF12_0 p1 = w) : oEnd p e s below T (mkF m 0 #[.val (.int p1), .unset, .unset, .unset, .unset, .unset] []) n0 h0 cells slots (some (.int w)) := by
  show oEnd p e s below T (mkF m 0 #[.val (.int p1), .unset, .unset, .unset, .unset, .unset] []) n0 h0 cells slots (some (.int w))
  refine oPre (fun _ => XS.iloadN X.here hx rfl (hb hby d12_0) rfl) ?_
  show oEnd p e s below T (mkF m 1 #[.val (.int p1), .unset, .unset, .unset, .unset, .unset] [(.int p1)]) n0 h0 cells slots (some (.int w))
  refine oPre (fun _ => XS.bipush X.here hx rfl (hb hby d12_1)) ?_
  show oEnd p e s below T (mkF m 3 #[.val (.int p1), .unset, .unset, .unset, .unset, .unset] [(.int (32 : Int32)), (.int p1)]) n0 h0 cells slots (some (.int w))
  refine oPre (fun _ => XS.ior X.here hx rfl (hb hby d12_3) rfl) ?_
  show oEnd p e s below T (mkF m 4 #[.val (.int p1), .unset, .unset, .unset, .unset, .unset] [(.int (p1 ||| (32 : Int32)))]) n0 h0 cells slots (some (.int w))
  refine oPre (fun _ => XS.istoreN X.here hx rfl (hb hby d12_4) rfl (l' := #[.val (.int p1), .val (.int (p1 ||| (32 : Int32))), .unset, .unset, .unset, .unset]) rfl) ?_
  show oEnd p e s below T (mkF m 5 #[.val (.int p1), .val (.int (p1 ||| (32 : Int32))), .unset, .unset, .unset, .unset] []) n0 h0 cells slots (some (.int w))
  refine oPre (fun _ => XS.iloadN X.here hx rfl (hb hby d12_5) rfl) ?_
  show oEnd p e s below T (mkF m 6 #[.val (.int p1), .val (.int (p1 ||| (32 : Int32))), .unset, .unset, .unset, .unset] [(.int (p1 ||| (32 : Int32)))]) n0 h0 cells slots (some (.int w))
  refine oPre (fun _ => XS.bipush X.here hx rfl (hb hby d12_6)) ?_
  show oEnd p e s below T (mkF m 8 #[.val (.int p1), .val (.int (p1 ||| (32 : Int32))), .unset, .unset, .unset, .unset] [(.int (97 : Int32)), (.int (p1 ||| (32 : Int32)))]) n0 h0 cells slots (some (.int w))
  by_cases h8 : (p1 ||| (32 : Int32)) < (97 : Int32)
  · have v8 : (oF12_21 p1 (p1 ||| (32 : Int32))) = w := (if_pos h8).symm.trans hv
    refine oPre (fun _ => XS.icmpYes X.here hx rfl (pc0 := 8) (pc' := 21) rfl (hb hby d12_8) rfl (((tlt h8).1)) (by decide) (by decide)) ?_
    exact oB12_21 X hx hby hml hret hlk hown hZ hw eT N Z0 hcs hss p1 (p1 ||| (32 : Int32)) v8
  · have v8 : (if (122 : Int32) < (p1 ||| (32 : Int32)) then (oF12_21 p1 (p1 ||| (32 : Int32))) else (oF12_22 p1 (p1 ||| (32 : Int32)) (1 : Int32))) = w := (if_neg h8).symm.trans hv
    refine oPre (fun _ => XS.icmpNo X.here hx rfl (hb hby d12_8) rfl (((flt h8).1))) ?_
    show oEnd p e s below T (mkF m 11 #[.val (.int p1), .val (.int (p1 ||| (32 : Int32))), .unset, .unset, .unset, .unset] []) n0 h0 cells slots (some (.int w))
    refine oPre (fun _ => XS.iloadN X.here hx rfl (hb hby d12_11) rfl) ?_
    show oEnd p e s below T (mkF m 12 #[.val (.int p1), .val (.int (p1 ||| (32 : Int32))), .unset, .unset, .unset, .unset] [(.int (p1 ||| (32 : Int32)))]) n0 h0 cells slots (some (.int w))
    refine oPre (fun _ => XS.bipush X.here hx rfl (hb hby d12_12)) ?_
    show oEnd p e s below T (mkF m 14 #[.val (.int p1), .val (.int (p1 ||| (32 : Int32))), .unset, .unset, .unset, .unset] [(.int (122 : Int32)), (.int (p1 ||| (32 : Int32)))]) n0 h0 cells slots (some (.int w))
    by_cases h14 : (122 : Int32) < (p1 ||| (32 : Int32))
    · have v14 : (oF12_21 p1 (p1 ||| (32 : Int32))) = w := (if_pos h14).symm.trans v8
      refine oPre (fun _ => XS.icmpYes X.here hx rfl (pc0 := 14) (pc' := 21) rfl (hb hby d12_14) rfl (((tlt h14).2.2.1)) (by decide) (by decide)) ?_
      exact oB12_21 X hx hby hml hret hlk hown hZ hw eT N Z0 hcs hss p1 (p1 ||| (32 : Int32)) v14
    · have v14 : (oF12_22 p1 (p1 ||| (32 : Int32)) (1 : Int32)) = w := (if_neg h14).symm.trans v8
      refine oPre (fun _ => XS.icmpNo X.here hx rfl (hb hby d12_14) rfl (((flt h14).2.2.1))) ?_
      show oEnd p e s below T (mkF m 17 #[.val (.int p1), .val (.int (p1 ||| (32 : Int32))), .unset, .unset, .unset, .unset] []) n0 h0 cells slots (some (.int w))
      refine oPre (fun _ => XS.iconst X.here hx rfl (hb hby d12_17)) ?_
      show oEnd p e s below T (mkF m 18 #[.val (.int p1), .val (.int (p1 ||| (32 : Int32))), .unset, .unset, .unset, .unset] [(.int (1 : Int32))]) n0 h0 cells slots (some (.int w))
      refine oPre (fun _ => XS.goto X.here hx rfl (pc0 := 18) (pc' := 22) rfl (hb hby d12_18) (by decide) (by decide)) ?_
      exact oB12_22 X hx hby hml hret hlk hown hZ hw eT N Z0 hcs hss p1 (p1 ||| (32 : Int32)) (1 : Int32) v14
theorem pn_12 : plainName "com/example/anansi/anansi/AsciiIsUnreservedPinLaw" = true := by first | (simp [plainName, overriddenIn]; done) | decide +kernel
theorem ef_12 (m : MethodId) (p1 : Int32) : entryFrame m #[(.int p1)] 6 = mkF m 0 #[.val (.int p1), .unset, .unset, .unset, .unset, .unset] [] := by first | (simp [entryFrame, mkF, argsToLocals, Value.category]; done) | rfl
def oQ12 (p1 : Int32) (h0 : Heap) (n0 : Nat) (v : Option Value) (h : Heap) (L : List Loc) : Prop := v = some (.int (oF12_0 p1)) ∧ Fr n0 L ∧ h = h0
set_option maxRecDepth 65536 in
set_option maxHeartbeats 4000000 in
theorem oR12 (l : Launch) (Z : State) (a0 : Array Value) (hw : ∀ d ∈ tables_1, d.before a0 Z = true) (ws : List Jvm.Cond) (p1 : Int32) (h0 : Heap) (n0 : Nat) (Z0 : n0 ≤ h0.size) :
    MetFree l (⟨"com/example/anansi/anansi/AsciiIsUnreservedPinLaw", "expected", "(C)Z"⟩ : MethodName) (head1 (Jvm.Cond.code (⟨"com/example/anansi/anansi/AsciiIsUnreservedPinLaw", "expected", "(C)Z"⟩ : MethodName) method_2_code 6 (some .boolean) :: ws) ({ frames := 0, cells := 0, slots := 0, locals := 0 } : Room)) (fun a U => a = #[(.int p1)] ∧ Z.Warmed39 U.vm ∧ U.heap = h0) (fun _ _ _ _ _ => True) (fun _ U o U' => ∃ v L, o = .returned v ∧ oQ12 p1 h0 n0 v U'.heap L ∧ FrameEnd U o U' L ({ frames := 0, cells := 0, slots := 0, locals := 0 } : Room).cells ({ frames := 0, cells := 0, slots := 0, locals := 0 } : Room).slots) := by
  refine MetFree.of_bodySF (plainFor_of_name pn_12) hisR ?_
  intro p e s m args below meth c s₁ Bd hml0 hP hK
  obtain ⟨rfl, hZ, hh⟩ := hP
  have hown : s.vm.findClass "com/example/anansi/anansi/AsciiIsUnreservedPinLaw" = some m.cls := findClass_of_methodNamed Bd.named
  have X0 : Stand p l e ({ frames := 0, cells := 0, slots := 0, locals := 0 } : Room) s m #[(.int p1)] below meth c s₁ [] 0 0 := Stand.of_body Bd
  have e0 : s₁.heap = h0 := by rw [← hh, Bd.state]; rfl
  obtain ⟨t, L, hs, hrun, hended, hW, hsame, hN, ht⟩ := oB12_0 X0 Bd.exec Bd.bytes hml0 Bd.returns Bd.notSynchronized hown hZ hw e0 (Fr.nil n0) Z0 (Nat.zero_le _) (Nat.zero_le _) p1 rfl
  exact ⟨t, _, castTop (ef_12 m p1) hs, hrun, hended, _, L, rfl, ⟨rfl, hN, ht⟩, ⟨_, rfl⟩, hW, hsame.mono (Nat.zero_le _) (Nat.zero_le _)⟩
def oBytes : List Int32 := [45, 46, 95, 126]
/-- where the byte of c stands in the four bytes -/
def oIx (c : Int32) : Int32 := (if (45 : Int32) = c.toInt8.toInt32 then 0 else (if (46 : Int32) = c.toInt8.toInt32 then 1 else (if (95 : Int32) = c.toInt8.toInt32 then 2 else (if (126 : Int32) = c.toInt8.toInt32 then 3 else (-1)))))
def oIdx (c : Int32) : Int32 := if oF8_0 c = (0 : Int32) then (-1) else oIx c
theorem d4_0 : decode jdk_42_method_154_code 0 = .ok (.getstatic 38, 3) := by decide +kernel
theorem d4_3 : decode jdk_42_method_154_code 3 = .ok (.ifCond .eq 14, 3) := by decide +kernel
theorem d4_6 : decode jdk_42_method_154_code 6 = .ok (.aload_n 0, 1) := by decide +kernel
theorem d4_7 : decode jdk_42_method_154_code 7 = .ok (.getfield 15, 3) := by decide +kernel
theorem d4_10 : decode jdk_42_method_154_code 10 = .ok (.ifCond .ne 7, 3) := by decide +kernel
theorem d4_13 : decode jdk_42_method_154_code 13 = .ok (.iconst 1, 1) := by decide +kernel
theorem d4_14 : decode jdk_42_method_154_code 14 = .ok (.goto 4, 3) := by decide +kernel
theorem d4_17 : decode jdk_42_method_154_code 17 = .ok (.iconst 0, 1) := by decide +kernel
theorem d4_18 : decode jdk_42_method_154_code 18 = .ok (.ireturn, 1) := by decide +kernel
theorem pn_4 : plainName "java/lang/String" = true := by first | (simp [plainName, overriddenIn]; done) | decide +kernel
theorem ef_4 (m : MethodId) (a : Addr) : entryFrame m #[(.ref a)] 1 = mkF m 0 #[.val (.ref a)] [] := by first | (simp [entryFrame, mkF, argsToLocals, Value.category]; done) | rfl
set_option maxRecDepth 65536 in
set_option maxHeartbeats 40000000 in
theorem oR4 (l : Launch) (Z : State) (a0 : Array Value) (hw : ∀ d ∈ tables_1, d.before a0 Z = true) (ws : List Jvm.Cond) (a : Addr) (h0 : Heap) (n0 : Nat) (Z0 : n0 ≤ h0.size)  (C : Fld Z h0 a "java/lang/String" "coder" "B" (.int 0)) {G1 : Int32} (O2 : Sta Z h0 "java/lang/String" "COMPACT_STRINGS" "Z" (.int G1)) (P5 : ¬ (G1 = (0 : Int32))) :
    MetFree l (⟨"java/lang/String", "isLatin1", "()Z"⟩ : MethodName) (head1 (Jvm.Cond.code (⟨"java/lang/String", "isLatin1", "()Z"⟩ : MethodName) jdk_42_method_154_code 1 (some .boolean) :: ws) ({ frames := 0, cells := 0, slots := 0, locals := 0 } : Room)) (fun ar U => ar = #[(.ref a)] ∧ Z.Warmed39 U.vm ∧ U.heap = h0) (fun _ _ _ _ _ => True) (fun _ U o U' => ∃ v L, o = .returned v ∧ oQp (some (.int (1 : Int32))) h0 n0 v U'.heap L ∧ FrameEnd U o U' L ({ frames := 0, cells := 0, slots := 0, locals := 0 } : Room).cells ({ frames := 0, cells := 0, slots := 0, locals := 0 } : Room).slots) := by
  refine MetFree.of_bodySF (plainFor_of_name pn_4) hisR ?_
  intro p e s m args below meth c s₁ Bd hml0 hP hK
  obtain ⟨rfl, hZ, hh⟩ := hP
  have hx := Bd.exec
  have hby := Bd.bytes
  have hml : c.maxLocals = 1 := hml0
  have hret := Bd.returns
  have hlk : meth.locks = false := Bd.notSynchronized
  have hown : s.vm.findClass "java/lang/String" = some m.cls := findClass_of_methodNamed Bd.named
  have X0 : Stand p l e ({ frames := 0, cells := 0, slots := 0, locals := 0 } : Room) s m #[(.ref a)] below meth c s₁ [] 0 0 := Stand.of_body Bd
  have e0 : s₁.heap = h0 := by rw [← hh, Bd.state]; rfl
  have N0 := Fr.nil n0
  have main : oEnd p e s below s₁ (mkF m 0 #[.val (.ref a)] []) n0 h0 0 0 (some (.int (1 : Int32))) := by
    show oEnd p e s below s₁ (mkF m 0 #[.val (.ref a)] []) n0 h0 0 0 (some (.int (1 : Int32)))
    obtain ⟨T0, X0, e0, st0⟩ := getS2 X0 hx hZ hown (host := "") (Or.inl (hw _ (List.mem_of_getElem? (i := 27) rfl))) Via.refl e0 O2 (g := (mkF m 0 #[.val (.ref a)] [])) rfl (hb hby d4_0)
    refine oPre st0 ?_
    show oEnd p e s below T0 (mkF m 3 #[.val (.ref a)] [(.int G1)]) n0 h0 0 0 (some (.int (1 : Int32)))
    refine oPre (fun _ => XS.ifNo X0.here hx rfl (hb hby d4_3) rfl ((if0 _ _).trans ((feq P5).1))) ?_
    show oEnd p e s below T0 (mkF m 6 #[.val (.ref a)] []) n0 h0 0 0 (some (.int (1 : Int32)))
    refine oPre (fun _ => XS.aloadN X0.here hx rfl (hb hby d4_6) rfl rfl) ?_
    show oEnd p e s below T0 (mkF m 7 #[.val (.ref a)] [(.ref a)]) n0 h0 0 0 (some (.int (1 : Int32)))
    obtain ⟨T7, X7, e7, st7⟩ := getF X0 hx hZ hown (host := "") (Or.inl (hw _ (List.mem_of_getElem? (i := 28) rfl))) Via.refl e0 C (g := (mkF m 7 #[.val (.ref a)] [(.ref a)])) rfl rfl (hb hby d4_7)
    refine oPre st7 ?_
    show oEnd p e s below T7 (mkF m 10 #[.val (.ref a)] [(.int (0 : Int32))]) n0 h0 0 0 (some (.int (1 : Int32)))
    refine oPre (fun _ => XS.ifNo X7.here hx rfl (hb hby d4_10) rfl ((if0 _ _).trans ((teq (rfl : (0 : Int32) = 0)).2))) ?_
    show oEnd p e s below T7 (mkF m 13 #[.val (.ref a)] []) n0 h0 0 0 (some (.int (1 : Int32)))
    refine oPre (fun _ => XS.iconst X7.here hx rfl (hb hby d4_13)) ?_
    show oEnd p e s below T7 (mkF m 14 #[.val (.ref a)] [(.int (1 : Int32))]) n0 h0 0 0 (some (.int (1 : Int32)))
    refine oPre (fun _ => XS.goto X7.here hx rfl (pc0 := 14) (pc' := 18) rfl (hb hby d4_14) (by decide) (by decide)) ?_
    show oEnd p e s below T7 (mkF m 18 #[.val (.ref a)] [(.int (1 : Int32))]) n0 h0 0 0 (some (.int (1 : Int32)))
    obtain ⟨fs, hr, hrun, hended, hW, hsame⟩ := X7.leave (v := some (.int (1 : Int32))) (fun h => by rw [hret] at h; cases h) hlk
    exact ⟨_, _, retN X7 hx (t := .boolean) hret (by simp) (hb hby d4_18) hr, hrun, hended, hW, hsame, N0, e7⟩
  obtain ⟨tq, L, hs, hrun, hended, hW, hsame, hN, ht⟩ := main
  exact ⟨tq, _, castTop (ef_4 m a ) hs, hrun, hended, _, L, rfl, ⟨rfl, hN, ht⟩, ⟨_, rfl⟩, hW, hsame.mono (Nat.zero_le _) (Nat.zero_le _)⟩
theorem d6_0 : decode jdk_42_method_152_code 0 = .ok (.getstatic 38, 3) := by decide +kernel
theorem d6_3 : decode jdk_42_method_152_code 3 = .ok (.ifCond .eq 10, 3) := by decide +kernel
theorem d6_6 : decode jdk_42_method_152_code 6 = .ok (.aload_n 0, 1) := by decide +kernel
theorem d6_7 : decode jdk_42_method_152_code 7 = .ok (.getfield 15, 3) := by decide +kernel
theorem d6_10 : decode jdk_42_method_152_code 10 = .ok (.goto 4, 3) := by decide +kernel
theorem d6_13 : decode jdk_42_method_152_code 13 = .ok (.iconst 1, 1) := by decide +kernel
theorem d6_14 : decode jdk_42_method_152_code 14 = .ok (.ireturn, 1) := by decide +kernel
theorem pn_6 : plainName "java/lang/String" = true := by first | (simp [plainName, overriddenIn]; done) | decide +kernel
theorem ef_6 (m : MethodId) (a : Addr) : entryFrame m #[(.ref a)] 1 = mkF m 0 #[.val (.ref a)] [] := by first | (simp [entryFrame, mkF, argsToLocals, Value.category]; done) | rfl
set_option maxRecDepth 65536 in
set_option maxHeartbeats 40000000 in
theorem oR6 (l : Launch) (Z : State) (a0 : Array Value) (hw : ∀ d ∈ tables_1, d.before a0 Z = true) (ws : List Jvm.Cond) (a : Addr) (h0 : Heap) (n0 : Nat) (Z0 : n0 ≤ h0.size)  (C : Fld Z h0 a "java/lang/String" "coder" "B" (.int 0)) {G1 : Int32} (O2 : Sta Z h0 "java/lang/String" "COMPACT_STRINGS" "Z" (.int G1)) (P5 : ¬ (G1 = (0 : Int32))) :
    MetFree l (⟨"java/lang/String", "coder", "()B"⟩ : MethodName) (head1 (Jvm.Cond.code (⟨"java/lang/String", "coder", "()B"⟩ : MethodName) jdk_42_method_152_code 1 (some .byte) :: ws) ({ frames := 0, cells := 0, slots := 0, locals := 0 } : Room)) (fun ar U => ar = #[(.ref a)] ∧ Z.Warmed39 U.vm ∧ U.heap = h0) (fun _ _ _ _ _ => True) (fun _ U o U' => ∃ v L, o = .returned v ∧ oQp (some (.int (0 : Int32))) h0 n0 v U'.heap L ∧ FrameEnd U o U' L ({ frames := 0, cells := 0, slots := 0, locals := 0 } : Room).cells ({ frames := 0, cells := 0, slots := 0, locals := 0 } : Room).slots) := by
  refine MetFree.of_bodySF (plainFor_of_name pn_6) hisR ?_
  intro p e s m args below meth c s₁ Bd hml0 hP hK
  obtain ⟨rfl, hZ, hh⟩ := hP
  have hx := Bd.exec
  have hby := Bd.bytes
  have hml : c.maxLocals = 1 := hml0
  have hret := Bd.returns
  have hlk : meth.locks = false := Bd.notSynchronized
  have hown : s.vm.findClass "java/lang/String" = some m.cls := findClass_of_methodNamed Bd.named
  have X0 : Stand p l e ({ frames := 0, cells := 0, slots := 0, locals := 0 } : Room) s m #[(.ref a)] below meth c s₁ [] 0 0 := Stand.of_body Bd
  have e0 : s₁.heap = h0 := by rw [← hh, Bd.state]; rfl
  have N0 := Fr.nil n0
  have main : oEnd p e s below s₁ (mkF m 0 #[.val (.ref a)] []) n0 h0 0 0 (some (.int (0 : Int32))) := by
    show oEnd p e s below s₁ (mkF m 0 #[.val (.ref a)] []) n0 h0 0 0 (some (.int (0 : Int32)))
    obtain ⟨T0, X0, e0, st0⟩ := getS2 X0 hx hZ hown (host := "") (Or.inl (hw _ (List.mem_of_getElem? (i := 27) rfl))) Via.refl e0 O2 (g := (mkF m 0 #[.val (.ref a)] [])) rfl (hb hby d6_0)
    refine oPre st0 ?_
    show oEnd p e s below T0 (mkF m 3 #[.val (.ref a)] [(.int G1)]) n0 h0 0 0 (some (.int (0 : Int32)))
    refine oPre (fun _ => XS.ifNo X0.here hx rfl (hb hby d6_3) rfl ((if0 _ _).trans ((feq P5).1))) ?_
    show oEnd p e s below T0 (mkF m 6 #[.val (.ref a)] []) n0 h0 0 0 (some (.int (0 : Int32)))
    refine oPre (fun _ => XS.aloadN X0.here hx rfl (hb hby d6_6) rfl rfl) ?_
    show oEnd p e s below T0 (mkF m 7 #[.val (.ref a)] [(.ref a)]) n0 h0 0 0 (some (.int (0 : Int32)))
    obtain ⟨T7, X7, e7, st7⟩ := getF X0 hx hZ hown (host := "") (Or.inl (hw _ (List.mem_of_getElem? (i := 28) rfl))) Via.refl e0 C (g := (mkF m 7 #[.val (.ref a)] [(.ref a)])) rfl rfl (hb hby d6_7)
    refine oPre st7 ?_
    show oEnd p e s below T7 (mkF m 10 #[.val (.ref a)] [(.int (0 : Int32))]) n0 h0 0 0 (some (.int (0 : Int32)))
    refine oPre (fun _ => XS.goto X7.here hx rfl (pc0 := 10) (pc' := 14) rfl (hb hby d6_10) (by decide) (by decide)) ?_
    show oEnd p e s below T7 (mkF m 14 #[.val (.ref a)] [(.int (0 : Int32))]) n0 h0 0 0 (some (.int (0 : Int32)))
    obtain ⟨fs, hr, hrun, hended, hW, hsame⟩ := X7.leave (v := some (.int (0 : Int32))) (fun h => by rw [hret] at h; cases h) hlk
    exact ⟨_, _, retN X7 hx (t := .byte) hret (by simp) (hb hby d6_14) hr, hrun, hended, hW, hsame, N0, e7⟩
  obtain ⟨tq, L, hs, hrun, hended, hW, hsame, hN, ht⟩ := main
  exact ⟨tq, _, castTop (ef_6 m a ) hs, hrun, hended, _, L, rfl, ⟨rfl, hN, ht⟩, ⟨_, rfl⟩, hW, hsame.mono (Nat.zero_le _) (Nat.zero_le _)⟩
theorem d5_0 : decode jdk_42_method_54_code 0 = .ok (.aload_n 0, 1) := by decide +kernel
theorem d5_1 : decode jdk_42_method_54_code 1 = .ok (.getfield 9, 3) := by decide +kernel
theorem d5_4 : decode jdk_42_method_54_code 4 = .ok (.arraylength, 1) := by decide +kernel
theorem d5_5 : decode jdk_42_method_54_code 5 = .ok (.aload_n 0, 1) := by decide +kernel
theorem d5_6 : decode jdk_42_method_54_code 6 = .ok (.invokevirtual 335, 3) := by decide +kernel
theorem d5_9 : decode jdk_42_method_54_code 9 = .ok (.ishr, 1) := by decide +kernel
theorem d5_10 : decode jdk_42_method_54_code 10 = .ok (.ireturn, 1) := by decide +kernel
theorem pn_5 : plainName "java/lang/String" = true := by first | (simp [plainName, overriddenIn]; done) | decide +kernel
theorem ef_5 (m : MethodId) (a : Addr) : entryFrame m #[(.ref a)] 1 = mkF m 0 #[.val (.ref a)] [] := by first | (simp [entryFrame, mkF, argsToLocals, Value.category]; done) | rfl
set_option maxRecDepth 65536 in
set_option maxHeartbeats 40000000 in
theorem oR5 (l : Launch) (Z : State) (a0 : Array Value) (hw : ∀ d ∈ tables_1, d.before a0 Z = true) (ws : List Jvm.Cond) (a : Addr) (h0 : Heap) (n0 : Nat) (Z0 : n0 ≤ h0.size)  {b : Addr} (E : Exa Z h0 a "java/lang/String") (V : Fld Z h0 a "java/lang/String" "value" "[B" (.ref b)) (C : Fld Z h0 a "java/lang/String" "coder" "B" (.int 0)) {cl : Cell} (Ar : Arr Z h0 b cl .byte) (Sz : cl.slots.size = (4 : Int32).toNatClampNeg) (H : ∀ i, i < 4 → cl.slots[i]? = some (.int (oBytes.getD i 0))) {G1 : Int32} (O2 : Sta Z h0 "java/lang/String" "COMPACT_STRINGS" "Z" (.int G1)) (P5 : ¬ (G1 = (0 : Int32))) :
    MetFree l (⟨"java/lang/String", "length", "()I"⟩ : MethodName) (head1 (Jvm.Cond.code (⟨"java/lang/String", "length", "()I"⟩ : MethodName) jdk_42_method_54_code 1 (some .int) :: ws) ({ frames := 1, cells := 0, slots := 0, locals := 13 } : Room)) (fun ar U => ar = #[(.ref a)] ∧ Z.Warmed39 U.vm ∧ U.heap = h0) (fun _ _ _ _ _ => True) (fun _ U o U' => ∃ v L, o = .returned v ∧ oQp (some (.int (4 : Int32))) h0 n0 v U'.heap L ∧ FrameEnd U o U' L ({ frames := 1, cells := 0, slots := 0, locals := 13 } : Room).cells ({ frames := 1, cells := 0, slots := 0, locals := 13 } : Room).slots) := by
  refine MetFree.of_bodySF (plainFor_of_name pn_5) hisR ?_
  intro p e s m args below meth c s₁ Bd hml0 hP hK
  obtain ⟨rfl, hZ, hh⟩ := hP
  have hx := Bd.exec
  have hby := Bd.bytes
  have hml : c.maxLocals = 1 := hml0
  have hret := Bd.returns
  have hlk : meth.locks = false := Bd.notSynchronized
  have hown : s.vm.findClass "java/lang/String" = some m.cls := findClass_of_methodNamed Bd.named
  have X0 : Stand p l e ({ frames := 1, cells := 0, slots := 0, locals := 13 } : Room) s m #[(.ref a)] below meth c s₁ [] 0 0 := Stand.of_body Bd
  have e0 : s₁.heap = h0 := by rw [← hh, Bd.state]; rfl
  have N0 := Fr.nil n0
  have main : oEnd p e s below s₁ (mkF m 0 #[.val (.ref a)] []) n0 h0 0 0 (some (.int (4 : Int32))) := by
    show oEnd p e s below s₁ (mkF m 0 #[.val (.ref a)] []) n0 h0 0 0 (some (.int (4 : Int32)))
    refine oPre (fun _ => XS.aloadN X0.here hx rfl (hb hby d5_0) rfl rfl) ?_
    show oEnd p e s below s₁ (mkF m 1 #[.val (.ref a)] [(.ref a)]) n0 h0 0 0 (some (.int (4 : Int32)))
    obtain ⟨T1, X1, e1, st1⟩ := getF X0 hx hZ hown (host := "") (Or.inl (hw _ (List.mem_of_getElem? (i := 29) rfl))) Via.refl e0 V (g := (mkF m 1 #[.val (.ref a)] [(.ref a)])) rfl rfl (hb hby d5_1)
    refine oPre st1 ?_
    show oEnd p e s below T1 (mkF m 4 #[.val (.ref a)] [(.ref b)]) n0 h0 0 0 (some (.int (4 : Int32)))
    refine oPre (fun _ => X1.arraylength hx (by rw [e1]; exact Ar.1) (State.isArrayOf_alike hZ.alike Ar.2.1) (g := (mkF m 4 #[.val (.ref a)] [(.ref b)])) rfl rfl (hb hby d5_4) _) ?_
    rw [len_of Sz (by decide : ¬ (4 : Int32) < 0)]
    show oEnd p e s below T1 (mkF m 5 #[.val (.ref a)] [(.int (4 : Int32))]) n0 h0 0 0 (some (.int (4 : Int32)))
    refine oPre (fun _ => XS.aloadN X1.here hx rfl (hb hby d5_5) rfl rfl) ?_
    show oEnd p e s below T1 (mkF m 6 #[.val (.ref a)] [(.ref a), (.int (4 : Int32))]) n0 h0 0 0 (some (.int (4 : Int32)))
    obtain ⟨cq6, kq6, qa6, qb6, qc6⟩ := isOf hZ e1 E
    obtain ⟨_, _, ⟨T6, L6, k6, n6⟩, -, X6, ⟨Lc6, hQ6, l6, y6, z6⟩, st6⟩ := X1.virtualBack hx (y := (⟨"java/lang/String", "coder", "()B"⟩ : MethodName)) (z := (⟨"java/lang/String", "coder", "()B"⟩ : MethodName)) hown (mvT hZ (hw _ (List.mem_of_getElem? (i := 35) rfl))) (mvT hZ (hw _ (List.mem_of_getElem? (i := 36) rfl))) (notFace_of_selects (args := #[]) (mvT hZ (hw _ (List.mem_of_getElem? (i := 38) rfl)))) (mvT hZ (hw _ (List.mem_of_getElem? (i := 38) rfl))) (mvT hZ (hw _ (List.mem_of_getElem? (i := 37) rfl))) (by decide) (backOf (W := 1) (oR6 l Z a0 hw [] a h0 n0 Z0 C O2 P5) hZ (hw _ (List.mem_of_getElem? (i := 39) rfl)) (hw _ (List.mem_of_getElem? (i := 5) rfl)) (by decide) (by decide)) qa6 qc6 (g := (mkF m 6 #[.val (.ref a)] [(.ref a), (.int (4 : Int32))])) rfl (by rw [hml]; rfl) (Steps.refl _) (argsL := []) (rest := [(.int (4 : Int32))]) (lenOf pd_2 rfl) rfl (by show 2 * 0 + _ ≤ _; exact Nat.le_of_eq rfl) (hb hby d5_6) (fun _ _ => ⟨rfl, e1, (by decide : 0 + 0 ≤ _), (by decide : 0 + 0 ≤ _)⟩)
    dsimp only [Pt.U, Pt.locs, Pt.cells, Pt.slots] at X6 l6 y6 z6 st6 hQ6
    subst l6
    rw [y6, z6] at X6
    obtain ⟨rfl, N6q, e6⟩ := hQ6
    have N6 := Fr.app N0 N6q
    refine oPre (fun _ q => st6.trans q) ?_
    show oEnd p e s below T6 (mkF m 9 #[.val (.ref a)] [(.int (0 : Int32)), (.int (4 : Int32))]) n0 h0 0 0 (some (.int (4 : Int32)))
    refine oPre (fun _ => XS.ishr X6.here hx rfl (hb hby d5_9) rfl) ?_
    rw [show ((4 : Int32) >>> ((0 : Int32) &&& 31)) = (4 : Int32) from by decide]
    show oEnd p e s below T6 (mkF m 10 #[.val (.ref a)] [(.int (4 : Int32))]) n0 h0 0 0 (some (.int (4 : Int32)))
    obtain ⟨fs, hr, hrun, hended, hW, hsame⟩ := X6.leave (v := some (.int (4 : Int32))) (fun h => by rw [hret] at h; cases h) hlk
    exact ⟨_, _, retI X6 hx hret (hb hby d5_10) hr, hrun, hended, hW, hsame, N6, e6⟩
  obtain ⟨tq, L, hs, hrun, hended, hW, hsame, hN, ht⟩ := main
  exact ⟨tq, _, castTop (ef_5 m a ) hs, hrun, hended, _, L, rfl, ⟨rfl, hN, ht⟩, ⟨_, rfl⟩, hW, hsame.mono (Nat.zero_le _) (Nat.zero_le _)⟩
theorem d11_0 : decode jdk_43_method_23_code 0 = .ok (.iload_n 1, 1) := by decide +kernel
theorem d11_1 : decode jdk_43_method_23_code 1 = .ok (.i2b, 1) := by decide +kernel
theorem d11_2 : decode jdk_43_method_23_code 2 = .ok (.istore 4, 2) := by decide +kernel
theorem d11_4 : decode jdk_43_method_23_code 4 = .ok (.iload_n 2, 1) := by decide +kernel
theorem d11_5 : decode jdk_43_method_23_code 5 = .ok (.istore 5, 2) := by decide +kernel
theorem d11_7 : decode jdk_43_method_23_code 7 = .ok (.iload 5, 2) := by decide +kernel
theorem d11_9 : decode jdk_43_method_23_code 9 = .ok (.iload_n 3, 1) := by decide +kernel
theorem d11_10 : decode jdk_43_method_23_code 10 = .ok (.if_icmp .ge 21, 3) := by decide +kernel
theorem d11_13 : decode jdk_43_method_23_code 13 = .ok (.aload_n 0, 1) := by decide +kernel
theorem d11_14 : decode jdk_43_method_23_code 14 = .ok (.iload 5, 2) := by decide +kernel
theorem d11_16 : decode jdk_43_method_23_code 16 = .ok (.baload, 1) := by decide +kernel
theorem d11_17 : decode jdk_43_method_23_code 17 = .ok (.iload 4, 2) := by decide +kernel
theorem d11_19 : decode jdk_43_method_23_code 19 = .ok (.if_icmp .ne 6, 3) := by decide +kernel
theorem d11_22 : decode jdk_43_method_23_code 22 = .ok (.iload 5, 2) := by decide +kernel
theorem d11_24 : decode jdk_43_method_23_code 24 = .ok (.ireturn, 1) := by decide +kernel
theorem d11_25 : decode jdk_43_method_23_code 25 = .ok (.iinc 5 1, 3) := by decide +kernel
theorem d11_28 : decode jdk_43_method_23_code 28 = .ok (.goto (-21), 3) := by decide +kernel
theorem d11_31 : decode jdk_43_method_23_code 31 = .ok (.iconst (-1), 1) := by decide +kernel
theorem d11_32 : decode jdk_43_method_23_code 32 = .ok (.ireturn, 1) := by decide +kernel
theorem pn_11 : plainName "java/lang/StringLatin1" = true := by first | (simp [plainName, overriddenIn]; done) | decide +kernel
theorem ef_11 (m : MethodId) (b : Addr) (ch : Int32) (fr : Int32) (to : Int32) : entryFrame m #[(.ref b), (.int ch), (.int fr), (.int to)] 6 = mkF m 0 #[.val (.ref b), .val (.int ch), .val (.int fr), .val (.int to), .unset, .unset] [] := by first | (simp [entryFrame, mkF, argsToLocals, Value.category]; done) | rfl
set_option maxRecDepth 65536 in
set_option maxHeartbeats 40000000 in
theorem oR11 (l : Launch) (Z : State) (a0 : Array Value) (hw : ∀ d ∈ tables_1, d.before a0 Z = true) (ws : List Jvm.Cond) (b : Addr) (ch : Int32) (fr : Int32) (to : Int32) (h0 : Heap) (n0 : Nat) (Z0 : n0 ≤ h0.size)  {cl : Cell} (Ar : Arr Z h0 b cl .byte) (Sz : cl.slots.size = (4 : Int32).toNatClampNeg) (H : ∀ i, i < 4 → cl.slots[i]? = some (.int (oBytes.getD i 0))) (hf : fr = 0) (ht : to = 4) :
    MetFree l (⟨"java/lang/StringLatin1", "indexOfChar", "([BIII)I"⟩ : MethodName) (head1 (Jvm.Cond.code (⟨"java/lang/StringLatin1", "indexOfChar", "([BIII)I"⟩ : MethodName) jdk_43_method_23_code 6 (some .int) :: ws) ({ frames := 0, cells := 0, slots := 0, locals := 0 } : Room)) (fun ar U => ar = #[(.ref b), (.int ch), (.int fr), (.int to)] ∧ Z.Warmed39 U.vm ∧ U.heap = h0) (fun _ _ _ _ _ => True) (fun _ U o U' => ∃ v L, o = .returned v ∧ oQp (some (.int (oIx ch))) h0 n0 v U'.heap L ∧ FrameEnd U o U' L ({ frames := 0, cells := 0, slots := 0, locals := 0 } : Room).cells ({ frames := 0, cells := 0, slots := 0, locals := 0 } : Room).slots) := by
  refine MetFree.of_bodySF (plainFor_of_name pn_11) hisR ?_
  intro p e s m args below meth c s₁ Bd hml0 hP hK
  obtain ⟨rfl, hZ, hh⟩ := hP
  have hx := Bd.exec
  have hby := Bd.bytes
  have hml : c.maxLocals = 6 := hml0
  have hret := Bd.returns
  have hlk : meth.locks = false := Bd.notSynchronized
  have hown : s.vm.findClass "java/lang/StringLatin1" = some m.cls := findClass_of_methodNamed Bd.named
  have X0 : Stand p l e ({ frames := 0, cells := 0, slots := 0, locals := 0 } : Room) s m #[(.ref b), (.int ch), (.int fr), (.int to)] below meth c s₁ [] 0 0 := Stand.of_body Bd
  have e0 : s₁.heap = h0 := by rw [← hh, Bd.state]; rfl
  have N0 := Fr.nil n0
  have main : oEnd p e s below s₁ (mkF m 0 #[.val (.ref b), .val (.int ch), .val (.int fr), .val (.int to), .unset, .unset] []) n0 h0 0 0 (some (.int (oIx ch))) := by
    subst hf; subst ht
    generalize hg : oIx ch = r
    show oEnd p e s below s₁ (mkF m 0 #[.val (.ref b), .val (.int ch), .val (.int (0 : Int32)), .val (.int (4 : Int32)), .unset, .unset] []) n0 h0 0 0 (some (.int r))
    refine oPre (fun _ => XS.iloadN X0.here hx rfl (hb hby d11_0) rfl) ?_
    show oEnd p e s below s₁ (mkF m 1 #[.val (.ref b), .val (.int ch), .val (.int (0 : Int32)), .val (.int (4 : Int32)), .unset, .unset] [(.int ch)]) n0 h0 0 0 (some (.int r))
    refine oPre (fun _ => XS.i2b X0.here hx rfl (hb hby d11_1) rfl) ?_
    show oEnd p e s below s₁ (mkF m 2 #[.val (.ref b), .val (.int ch), .val (.int (0 : Int32)), .val (.int (4 : Int32)), .unset, .unset] [(.int (ch.toInt8.toInt32))]) n0 h0 0 0 (some (.int r))
    refine oPre (fun _ => XS.istore X0.here hx rfl (hb hby d11_2) rfl (l' := #[.val (.ref b), .val (.int ch), .val (.int (0 : Int32)), .val (.int (4 : Int32)), .val (.int (ch.toInt8.toInt32)), .unset]) rfl) ?_
    show oEnd p e s below s₁ (mkF m 4 #[.val (.ref b), .val (.int ch), .val (.int (0 : Int32)), .val (.int (4 : Int32)), .val (.int (ch.toInt8.toInt32)), .unset] []) n0 h0 0 0 (some (.int r))
    refine oPre (fun _ => XS.iloadN X0.here hx rfl (hb hby d11_4) rfl) ?_
    show oEnd p e s below s₁ (mkF m 5 #[.val (.ref b), .val (.int ch), .val (.int (0 : Int32)), .val (.int (4 : Int32)), .val (.int (ch.toInt8.toInt32)), .unset] [(.int (0 : Int32))]) n0 h0 0 0 (some (.int r))
    refine oPre (fun _ => XS.istore X0.here hx rfl (hb hby d11_5) rfl (l' := #[.val (.ref b), .val (.int ch), .val (.int (0 : Int32)), .val (.int (4 : Int32)), .val (.int (ch.toInt8.toInt32)), .val (.int (0 : Int32))]) rfl) ?_
    show oEnd p e s below s₁ (mkF m 7 #[.val (.ref b), .val (.int ch), .val (.int (0 : Int32)), .val (.int (4 : Int32)), .val (.int (ch.toInt8.toInt32)), .val (.int (0 : Int32))] []) n0 h0 0 0 (some (.int r))
    refine oPre (fun _ => XS.iload X0.here hx rfl (hb hby d11_7) rfl) ?_
    show oEnd p e s below s₁ (mkF m 9 #[.val (.ref b), .val (.int ch), .val (.int (0 : Int32)), .val (.int (4 : Int32)), .val (.int (ch.toInt8.toInt32)), .val (.int (0 : Int32))] [(.int (0 : Int32))]) n0 h0 0 0 (some (.int r))
    refine oPre (fun _ => XS.iloadN X0.here hx rfl (hb hby d11_9) rfl) ?_
    show oEnd p e s below s₁ (mkF m 10 #[.val (.ref b), .val (.int ch), .val (.int (0 : Int32)), .val (.int (4 : Int32)), .val (.int (ch.toInt8.toInt32)), .val (.int (0 : Int32))] [(.int (4 : Int32)), (.int (0 : Int32))]) n0 h0 0 0 (some (.int r))
    refine oPre (fun _ => XS.icmpNo X0.here hx rfl (hb hby d11_10) rfl (((tlt (by decide : (0 : Int32) < 4)).2.1))) ?_
    show oEnd p e s below s₁ (mkF m 13 #[.val (.ref b), .val (.int ch), .val (.int (0 : Int32)), .val (.int (4 : Int32)), .val (.int (ch.toInt8.toInt32)), .val (.int (0 : Int32))] []) n0 h0 0 0 (some (.int r))
    refine oPre (fun _ => XS.aloadN X0.here hx rfl (hb hby d11_13) rfl rfl) ?_
    show oEnd p e s below s₁ (mkF m 14 #[.val (.ref b), .val (.int ch), .val (.int (0 : Int32)), .val (.int (4 : Int32)), .val (.int (ch.toInt8.toInt32)), .val (.int (0 : Int32))] [(.ref b)]) n0 h0 0 0 (some (.int r))
    refine oPre (fun _ => XS.iload X0.here hx rfl (hb hby d11_14) rfl) ?_
    show oEnd p e s below s₁ (mkF m 16 #[.val (.ref b), .val (.int ch), .val (.int (0 : Int32)), .val (.int (4 : Int32)), .val (.int (ch.toInt8.toInt32)), .val (.int (0 : Int32))] [(.int (0 : Int32)), (.ref b)]) n0 h0 0 0 (some (.int r))
    refine oPre (fun _ => X0.baloadBytes hx (j := (0 : Int32)) (v := (.int (45 : Int32))) (by rw [e0]; exact Ar.1) (State.isArrayOf_alike hZ.alike Ar.2.1) Ar.2.2 (inb_of Sz ⟨by decide, by decide⟩) (H 0 (by decide)) (g := (mkF m 16 #[.val (.ref b), .val (.int ch), .val (.int (0 : Int32)), .val (.int (4 : Int32)), .val (.int (ch.toInt8.toInt32)), .val (.int (0 : Int32))] [(.int (0 : Int32)), (.ref b)])) rfl rfl (hb hby d11_16) _) ?_
    show oEnd p e s below s₁ (mkF m 17 #[.val (.ref b), .val (.int ch), .val (.int (0 : Int32)), .val (.int (4 : Int32)), .val (.int (ch.toInt8.toInt32)), .val (.int (0 : Int32))] [(.int (45 : Int32))]) n0 h0 0 0 (some (.int r))
    refine oPre (fun _ => XS.iload X0.here hx rfl (hb hby d11_17) rfl) ?_
    by_cases q0 : (45 : Int32) = ch.toInt8.toInt32
    · have v0 : (0 : Int32) = r := (if_pos q0).symm.trans hg
      show oEnd p e s below s₁ (mkF m 19 #[.val (.ref b), .val (.int ch), .val (.int (0 : Int32)), .val (.int (4 : Int32)), .val (.int (ch.toInt8.toInt32)), .val (.int (0 : Int32))] [(.int (ch.toInt8.toInt32)), (.int (45 : Int32))]) n0 h0 0 0 (some (.int r))
      refine oPre (fun _ => XS.icmpNo X0.here hx rfl (hb hby d11_19) rfl (((teq q0).2))) ?_
      show oEnd p e s below s₁ (mkF m 22 #[.val (.ref b), .val (.int ch), .val (.int (0 : Int32)), .val (.int (4 : Int32)), .val (.int (ch.toInt8.toInt32)), .val (.int (0 : Int32))] []) n0 h0 0 0 (some (.int r))
      refine oPre (fun _ => XS.iload X0.here hx rfl (hb hby d11_22) rfl) ?_
      subst v0
      show oEnd p e s below s₁ (mkF m 24 #[.val (.ref b), .val (.int ch), .val (.int (0 : Int32)), .val (.int (4 : Int32)), .val (.int (ch.toInt8.toInt32)), .val (.int (0 : Int32))] [(.int (0 : Int32))]) n0 h0 0 0 (some (.int (0 : Int32)))
      obtain ⟨fs, hr, hrun, hended, hW, hsame⟩ := X0.leave (v := some (.int (0 : Int32))) (fun h => by rw [hret] at h; cases h) hlk
      exact ⟨_, _, retI X0 hx hret (hb hby d11_24) hr, hrun, hended, hW, hsame, N0, e0⟩
    · have v0 : ((if (46 : Int32) = ch.toInt8.toInt32 then 1 else (if (95 : Int32) = ch.toInt8.toInt32 then 2 else (if (126 : Int32) = ch.toInt8.toInt32 then 3 else (-1)))) : Int32) = r := (if_neg q0).symm.trans hg
      show oEnd p e s below s₁ (mkF m 19 #[.val (.ref b), .val (.int ch), .val (.int (0 : Int32)), .val (.int (4 : Int32)), .val (.int (ch.toInt8.toInt32)), .val (.int (0 : Int32))] [(.int (ch.toInt8.toInt32)), (.int (45 : Int32))]) n0 h0 0 0 (some (.int r))
      refine oPre (fun _ => XS.icmpYes X0.here hx rfl (pc0 := 19) (pc' := 25) rfl (hb hby d11_19) rfl (((feq q0).2)) (by decide) (by decide)) ?_
      show oEnd p e s below s₁ (mkF m 25 #[.val (.ref b), .val (.int ch), .val (.int (0 : Int32)), .val (.int (4 : Int32)), .val (.int (ch.toInt8.toInt32)), .val (.int (0 : Int32))] []) n0 h0 0 0 (some (.int r))
      refine oPre (fun _ => XS.iinc X0.here hx rfl (hb hby d11_25) rfl (l' := #[.val (.ref b), .val (.int ch), .val (.int (0 : Int32)), .val (.int (4 : Int32)), .val (.int (ch.toInt8.toInt32)), .val (.int (1 : Int32))]) rfl) ?_
      show oEnd p e s below s₁ (mkF m 28 #[.val (.ref b), .val (.int ch), .val (.int (0 : Int32)), .val (.int (4 : Int32)), .val (.int (ch.toInt8.toInt32)), .val (.int (1 : Int32))] []) n0 h0 0 0 (some (.int r))
      refine oPre (fun _ => XS.goto X0.here hx rfl (pc0 := 28) (pc' := 7) rfl (hb hby d11_28) (by decide) (by decide)) ?_
      show oEnd p e s below s₁ (mkF m 7 #[.val (.ref b), .val (.int ch), .val (.int (0 : Int32)), .val (.int (4 : Int32)), .val (.int (ch.toInt8.toInt32)), .val (.int (1 : Int32))] []) n0 h0 0 0 (some (.int r))
      refine oPre (fun _ => XS.iload X0.here hx rfl (hb hby d11_7) rfl) ?_
      show oEnd p e s below s₁ (mkF m 9 #[.val (.ref b), .val (.int ch), .val (.int (0 : Int32)), .val (.int (4 : Int32)), .val (.int (ch.toInt8.toInt32)), .val (.int (1 : Int32))] [(.int (1 : Int32))]) n0 h0 0 0 (some (.int r))
      refine oPre (fun _ => XS.iloadN X0.here hx rfl (hb hby d11_9) rfl) ?_
      show oEnd p e s below s₁ (mkF m 10 #[.val (.ref b), .val (.int ch), .val (.int (0 : Int32)), .val (.int (4 : Int32)), .val (.int (ch.toInt8.toInt32)), .val (.int (1 : Int32))] [(.int (4 : Int32)), (.int (1 : Int32))]) n0 h0 0 0 (some (.int r))
      refine oPre (fun _ => XS.icmpNo X0.here hx rfl (hb hby d11_10) rfl (((tlt (by decide : (1 : Int32) < 4)).2.1))) ?_
      show oEnd p e s below s₁ (mkF m 13 #[.val (.ref b), .val (.int ch), .val (.int (0 : Int32)), .val (.int (4 : Int32)), .val (.int (ch.toInt8.toInt32)), .val (.int (1 : Int32))] []) n0 h0 0 0 (some (.int r))
      refine oPre (fun _ => XS.aloadN X0.here hx rfl (hb hby d11_13) rfl rfl) ?_
      show oEnd p e s below s₁ (mkF m 14 #[.val (.ref b), .val (.int ch), .val (.int (0 : Int32)), .val (.int (4 : Int32)), .val (.int (ch.toInt8.toInt32)), .val (.int (1 : Int32))] [(.ref b)]) n0 h0 0 0 (some (.int r))
      refine oPre (fun _ => XS.iload X0.here hx rfl (hb hby d11_14) rfl) ?_
      show oEnd p e s below s₁ (mkF m 16 #[.val (.ref b), .val (.int ch), .val (.int (0 : Int32)), .val (.int (4 : Int32)), .val (.int (ch.toInt8.toInt32)), .val (.int (1 : Int32))] [(.int (1 : Int32)), (.ref b)]) n0 h0 0 0 (some (.int r))
      refine oPre (fun _ => X0.baloadBytes hx (j := (1 : Int32)) (v := (.int (46 : Int32))) (by rw [e0]; exact Ar.1) (State.isArrayOf_alike hZ.alike Ar.2.1) Ar.2.2 (inb_of Sz ⟨by decide, by decide⟩) (H 1 (by decide)) (g := (mkF m 16 #[.val (.ref b), .val (.int ch), .val (.int (0 : Int32)), .val (.int (4 : Int32)), .val (.int (ch.toInt8.toInt32)), .val (.int (1 : Int32))] [(.int (1 : Int32)), (.ref b)])) rfl rfl (hb hby d11_16) _) ?_
      show oEnd p e s below s₁ (mkF m 17 #[.val (.ref b), .val (.int ch), .val (.int (0 : Int32)), .val (.int (4 : Int32)), .val (.int (ch.toInt8.toInt32)), .val (.int (1 : Int32))] [(.int (46 : Int32))]) n0 h0 0 0 (some (.int r))
      refine oPre (fun _ => XS.iload X0.here hx rfl (hb hby d11_17) rfl) ?_
      by_cases q1 : (46 : Int32) = ch.toInt8.toInt32
      · have v1 : (1 : Int32) = r := (if_pos q1).symm.trans v0
        show oEnd p e s below s₁ (mkF m 19 #[.val (.ref b), .val (.int ch), .val (.int (0 : Int32)), .val (.int (4 : Int32)), .val (.int (ch.toInt8.toInt32)), .val (.int (1 : Int32))] [(.int (ch.toInt8.toInt32)), (.int (46 : Int32))]) n0 h0 0 0 (some (.int r))
        refine oPre (fun _ => XS.icmpNo X0.here hx rfl (hb hby d11_19) rfl (((teq q1).2))) ?_
        show oEnd p e s below s₁ (mkF m 22 #[.val (.ref b), .val (.int ch), .val (.int (0 : Int32)), .val (.int (4 : Int32)), .val (.int (ch.toInt8.toInt32)), .val (.int (1 : Int32))] []) n0 h0 0 0 (some (.int r))
        refine oPre (fun _ => XS.iload X0.here hx rfl (hb hby d11_22) rfl) ?_
        subst v1
        show oEnd p e s below s₁ (mkF m 24 #[.val (.ref b), .val (.int ch), .val (.int (0 : Int32)), .val (.int (4 : Int32)), .val (.int (ch.toInt8.toInt32)), .val (.int (1 : Int32))] [(.int (1 : Int32))]) n0 h0 0 0 (some (.int (1 : Int32)))
        obtain ⟨fs, hr, hrun, hended, hW, hsame⟩ := X0.leave (v := some (.int (1 : Int32))) (fun h => by rw [hret] at h; cases h) hlk
        exact ⟨_, _, retI X0 hx hret (hb hby d11_24) hr, hrun, hended, hW, hsame, N0, e0⟩
      · have v1 : ((if (95 : Int32) = ch.toInt8.toInt32 then 2 else (if (126 : Int32) = ch.toInt8.toInt32 then 3 else (-1))) : Int32) = r := (if_neg q1).symm.trans v0
        show oEnd p e s below s₁ (mkF m 19 #[.val (.ref b), .val (.int ch), .val (.int (0 : Int32)), .val (.int (4 : Int32)), .val (.int (ch.toInt8.toInt32)), .val (.int (1 : Int32))] [(.int (ch.toInt8.toInt32)), (.int (46 : Int32))]) n0 h0 0 0 (some (.int r))
        refine oPre (fun _ => XS.icmpYes X0.here hx rfl (pc0 := 19) (pc' := 25) rfl (hb hby d11_19) rfl (((feq q1).2)) (by decide) (by decide)) ?_
        show oEnd p e s below s₁ (mkF m 25 #[.val (.ref b), .val (.int ch), .val (.int (0 : Int32)), .val (.int (4 : Int32)), .val (.int (ch.toInt8.toInt32)), .val (.int (1 : Int32))] []) n0 h0 0 0 (some (.int r))
        refine oPre (fun _ => XS.iinc X0.here hx rfl (hb hby d11_25) rfl (l' := #[.val (.ref b), .val (.int ch), .val (.int (0 : Int32)), .val (.int (4 : Int32)), .val (.int (ch.toInt8.toInt32)), .val (.int (2 : Int32))]) rfl) ?_
        show oEnd p e s below s₁ (mkF m 28 #[.val (.ref b), .val (.int ch), .val (.int (0 : Int32)), .val (.int (4 : Int32)), .val (.int (ch.toInt8.toInt32)), .val (.int (2 : Int32))] []) n0 h0 0 0 (some (.int r))
        refine oPre (fun _ => XS.goto X0.here hx rfl (pc0 := 28) (pc' := 7) rfl (hb hby d11_28) (by decide) (by decide)) ?_
        show oEnd p e s below s₁ (mkF m 7 #[.val (.ref b), .val (.int ch), .val (.int (0 : Int32)), .val (.int (4 : Int32)), .val (.int (ch.toInt8.toInt32)), .val (.int (2 : Int32))] []) n0 h0 0 0 (some (.int r))
        refine oPre (fun _ => XS.iload X0.here hx rfl (hb hby d11_7) rfl) ?_
        show oEnd p e s below s₁ (mkF m 9 #[.val (.ref b), .val (.int ch), .val (.int (0 : Int32)), .val (.int (4 : Int32)), .val (.int (ch.toInt8.toInt32)), .val (.int (2 : Int32))] [(.int (2 : Int32))]) n0 h0 0 0 (some (.int r))
        refine oPre (fun _ => XS.iloadN X0.here hx rfl (hb hby d11_9) rfl) ?_
        show oEnd p e s below s₁ (mkF m 10 #[.val (.ref b), .val (.int ch), .val (.int (0 : Int32)), .val (.int (4 : Int32)), .val (.int (ch.toInt8.toInt32)), .val (.int (2 : Int32))] [(.int (4 : Int32)), (.int (2 : Int32))]) n0 h0 0 0 (some (.int r))
        refine oPre (fun _ => XS.icmpNo X0.here hx rfl (hb hby d11_10) rfl (((tlt (by decide : (2 : Int32) < 4)).2.1))) ?_
        show oEnd p e s below s₁ (mkF m 13 #[.val (.ref b), .val (.int ch), .val (.int (0 : Int32)), .val (.int (4 : Int32)), .val (.int (ch.toInt8.toInt32)), .val (.int (2 : Int32))] []) n0 h0 0 0 (some (.int r))
        refine oPre (fun _ => XS.aloadN X0.here hx rfl (hb hby d11_13) rfl rfl) ?_
        show oEnd p e s below s₁ (mkF m 14 #[.val (.ref b), .val (.int ch), .val (.int (0 : Int32)), .val (.int (4 : Int32)), .val (.int (ch.toInt8.toInt32)), .val (.int (2 : Int32))] [(.ref b)]) n0 h0 0 0 (some (.int r))
        refine oPre (fun _ => XS.iload X0.here hx rfl (hb hby d11_14) rfl) ?_
        show oEnd p e s below s₁ (mkF m 16 #[.val (.ref b), .val (.int ch), .val (.int (0 : Int32)), .val (.int (4 : Int32)), .val (.int (ch.toInt8.toInt32)), .val (.int (2 : Int32))] [(.int (2 : Int32)), (.ref b)]) n0 h0 0 0 (some (.int r))
        refine oPre (fun _ => X0.baloadBytes hx (j := (2 : Int32)) (v := (.int (95 : Int32))) (by rw [e0]; exact Ar.1) (State.isArrayOf_alike hZ.alike Ar.2.1) Ar.2.2 (inb_of Sz ⟨by decide, by decide⟩) (H 2 (by decide)) (g := (mkF m 16 #[.val (.ref b), .val (.int ch), .val (.int (0 : Int32)), .val (.int (4 : Int32)), .val (.int (ch.toInt8.toInt32)), .val (.int (2 : Int32))] [(.int (2 : Int32)), (.ref b)])) rfl rfl (hb hby d11_16) _) ?_
        show oEnd p e s below s₁ (mkF m 17 #[.val (.ref b), .val (.int ch), .val (.int (0 : Int32)), .val (.int (4 : Int32)), .val (.int (ch.toInt8.toInt32)), .val (.int (2 : Int32))] [(.int (95 : Int32))]) n0 h0 0 0 (some (.int r))
        refine oPre (fun _ => XS.iload X0.here hx rfl (hb hby d11_17) rfl) ?_
        by_cases q2 : (95 : Int32) = ch.toInt8.toInt32
        · have v2 : (2 : Int32) = r := (if_pos q2).symm.trans v1
          show oEnd p e s below s₁ (mkF m 19 #[.val (.ref b), .val (.int ch), .val (.int (0 : Int32)), .val (.int (4 : Int32)), .val (.int (ch.toInt8.toInt32)), .val (.int (2 : Int32))] [(.int (ch.toInt8.toInt32)), (.int (95 : Int32))]) n0 h0 0 0 (some (.int r))
          refine oPre (fun _ => XS.icmpNo X0.here hx rfl (hb hby d11_19) rfl (((teq q2).2))) ?_
          show oEnd p e s below s₁ (mkF m 22 #[.val (.ref b), .val (.int ch), .val (.int (0 : Int32)), .val (.int (4 : Int32)), .val (.int (ch.toInt8.toInt32)), .val (.int (2 : Int32))] []) n0 h0 0 0 (some (.int r))
          refine oPre (fun _ => XS.iload X0.here hx rfl (hb hby d11_22) rfl) ?_
          subst v2
          show oEnd p e s below s₁ (mkF m 24 #[.val (.ref b), .val (.int ch), .val (.int (0 : Int32)), .val (.int (4 : Int32)), .val (.int (ch.toInt8.toInt32)), .val (.int (2 : Int32))] [(.int (2 : Int32))]) n0 h0 0 0 (some (.int (2 : Int32)))
          obtain ⟨fs, hr, hrun, hended, hW, hsame⟩ := X0.leave (v := some (.int (2 : Int32))) (fun h => by rw [hret] at h; cases h) hlk
          exact ⟨_, _, retI X0 hx hret (hb hby d11_24) hr, hrun, hended, hW, hsame, N0, e0⟩
        · have v2 : ((if (126 : Int32) = ch.toInt8.toInt32 then 3 else (-1)) : Int32) = r := (if_neg q2).symm.trans v1
          show oEnd p e s below s₁ (mkF m 19 #[.val (.ref b), .val (.int ch), .val (.int (0 : Int32)), .val (.int (4 : Int32)), .val (.int (ch.toInt8.toInt32)), .val (.int (2 : Int32))] [(.int (ch.toInt8.toInt32)), (.int (95 : Int32))]) n0 h0 0 0 (some (.int r))
          refine oPre (fun _ => XS.icmpYes X0.here hx rfl (pc0 := 19) (pc' := 25) rfl (hb hby d11_19) rfl (((feq q2).2)) (by decide) (by decide)) ?_
          show oEnd p e s below s₁ (mkF m 25 #[.val (.ref b), .val (.int ch), .val (.int (0 : Int32)), .val (.int (4 : Int32)), .val (.int (ch.toInt8.toInt32)), .val (.int (2 : Int32))] []) n0 h0 0 0 (some (.int r))
          refine oPre (fun _ => XS.iinc X0.here hx rfl (hb hby d11_25) rfl (l' := #[.val (.ref b), .val (.int ch), .val (.int (0 : Int32)), .val (.int (4 : Int32)), .val (.int (ch.toInt8.toInt32)), .val (.int (3 : Int32))]) rfl) ?_
          show oEnd p e s below s₁ (mkF m 28 #[.val (.ref b), .val (.int ch), .val (.int (0 : Int32)), .val (.int (4 : Int32)), .val (.int (ch.toInt8.toInt32)), .val (.int (3 : Int32))] []) n0 h0 0 0 (some (.int r))
          refine oPre (fun _ => XS.goto X0.here hx rfl (pc0 := 28) (pc' := 7) rfl (hb hby d11_28) (by decide) (by decide)) ?_
          show oEnd p e s below s₁ (mkF m 7 #[.val (.ref b), .val (.int ch), .val (.int (0 : Int32)), .val (.int (4 : Int32)), .val (.int (ch.toInt8.toInt32)), .val (.int (3 : Int32))] []) n0 h0 0 0 (some (.int r))
          refine oPre (fun _ => XS.iload X0.here hx rfl (hb hby d11_7) rfl) ?_
          show oEnd p e s below s₁ (mkF m 9 #[.val (.ref b), .val (.int ch), .val (.int (0 : Int32)), .val (.int (4 : Int32)), .val (.int (ch.toInt8.toInt32)), .val (.int (3 : Int32))] [(.int (3 : Int32))]) n0 h0 0 0 (some (.int r))
          refine oPre (fun _ => XS.iloadN X0.here hx rfl (hb hby d11_9) rfl) ?_
          show oEnd p e s below s₁ (mkF m 10 #[.val (.ref b), .val (.int ch), .val (.int (0 : Int32)), .val (.int (4 : Int32)), .val (.int (ch.toInt8.toInt32)), .val (.int (3 : Int32))] [(.int (4 : Int32)), (.int (3 : Int32))]) n0 h0 0 0 (some (.int r))
          refine oPre (fun _ => XS.icmpNo X0.here hx rfl (hb hby d11_10) rfl (((tlt (by decide : (3 : Int32) < 4)).2.1))) ?_
          show oEnd p e s below s₁ (mkF m 13 #[.val (.ref b), .val (.int ch), .val (.int (0 : Int32)), .val (.int (4 : Int32)), .val (.int (ch.toInt8.toInt32)), .val (.int (3 : Int32))] []) n0 h0 0 0 (some (.int r))
          refine oPre (fun _ => XS.aloadN X0.here hx rfl (hb hby d11_13) rfl rfl) ?_
          show oEnd p e s below s₁ (mkF m 14 #[.val (.ref b), .val (.int ch), .val (.int (0 : Int32)), .val (.int (4 : Int32)), .val (.int (ch.toInt8.toInt32)), .val (.int (3 : Int32))] [(.ref b)]) n0 h0 0 0 (some (.int r))
          refine oPre (fun _ => XS.iload X0.here hx rfl (hb hby d11_14) rfl) ?_
          show oEnd p e s below s₁ (mkF m 16 #[.val (.ref b), .val (.int ch), .val (.int (0 : Int32)), .val (.int (4 : Int32)), .val (.int (ch.toInt8.toInt32)), .val (.int (3 : Int32))] [(.int (3 : Int32)), (.ref b)]) n0 h0 0 0 (some (.int r))
          refine oPre (fun _ => X0.baloadBytes hx (j := (3 : Int32)) (v := (.int (126 : Int32))) (by rw [e0]; exact Ar.1) (State.isArrayOf_alike hZ.alike Ar.2.1) Ar.2.2 (inb_of Sz ⟨by decide, by decide⟩) (H 3 (by decide)) (g := (mkF m 16 #[.val (.ref b), .val (.int ch), .val (.int (0 : Int32)), .val (.int (4 : Int32)), .val (.int (ch.toInt8.toInt32)), .val (.int (3 : Int32))] [(.int (3 : Int32)), (.ref b)])) rfl rfl (hb hby d11_16) _) ?_
          show oEnd p e s below s₁ (mkF m 17 #[.val (.ref b), .val (.int ch), .val (.int (0 : Int32)), .val (.int (4 : Int32)), .val (.int (ch.toInt8.toInt32)), .val (.int (3 : Int32))] [(.int (126 : Int32))]) n0 h0 0 0 (some (.int r))
          refine oPre (fun _ => XS.iload X0.here hx rfl (hb hby d11_17) rfl) ?_
          by_cases q3 : (126 : Int32) = ch.toInt8.toInt32
          · have v3 : (3 : Int32) = r := (if_pos q3).symm.trans v2
            show oEnd p e s below s₁ (mkF m 19 #[.val (.ref b), .val (.int ch), .val (.int (0 : Int32)), .val (.int (4 : Int32)), .val (.int (ch.toInt8.toInt32)), .val (.int (3 : Int32))] [(.int (ch.toInt8.toInt32)), (.int (126 : Int32))]) n0 h0 0 0 (some (.int r))
            refine oPre (fun _ => XS.icmpNo X0.here hx rfl (hb hby d11_19) rfl (((teq q3).2))) ?_
            show oEnd p e s below s₁ (mkF m 22 #[.val (.ref b), .val (.int ch), .val (.int (0 : Int32)), .val (.int (4 : Int32)), .val (.int (ch.toInt8.toInt32)), .val (.int (3 : Int32))] []) n0 h0 0 0 (some (.int r))
            refine oPre (fun _ => XS.iload X0.here hx rfl (hb hby d11_22) rfl) ?_
            subst v3
            show oEnd p e s below s₁ (mkF m 24 #[.val (.ref b), .val (.int ch), .val (.int (0 : Int32)), .val (.int (4 : Int32)), .val (.int (ch.toInt8.toInt32)), .val (.int (3 : Int32))] [(.int (3 : Int32))]) n0 h0 0 0 (some (.int (3 : Int32)))
            obtain ⟨fs, hr, hrun, hended, hW, hsame⟩ := X0.leave (v := some (.int (3 : Int32))) (fun h => by rw [hret] at h; cases h) hlk
            exact ⟨_, _, retI X0 hx hret (hb hby d11_24) hr, hrun, hended, hW, hsame, N0, e0⟩
          · have v3 : ((-1) : Int32) = r := (if_neg q3).symm.trans v2
            show oEnd p e s below s₁ (mkF m 19 #[.val (.ref b), .val (.int ch), .val (.int (0 : Int32)), .val (.int (4 : Int32)), .val (.int (ch.toInt8.toInt32)), .val (.int (3 : Int32))] [(.int (ch.toInt8.toInt32)), (.int (126 : Int32))]) n0 h0 0 0 (some (.int r))
            refine oPre (fun _ => XS.icmpYes X0.here hx rfl (pc0 := 19) (pc' := 25) rfl (hb hby d11_19) rfl (((feq q3).2)) (by decide) (by decide)) ?_
            show oEnd p e s below s₁ (mkF m 25 #[.val (.ref b), .val (.int ch), .val (.int (0 : Int32)), .val (.int (4 : Int32)), .val (.int (ch.toInt8.toInt32)), .val (.int (3 : Int32))] []) n0 h0 0 0 (some (.int r))
            refine oPre (fun _ => XS.iinc X0.here hx rfl (hb hby d11_25) rfl (l' := #[.val (.ref b), .val (.int ch), .val (.int (0 : Int32)), .val (.int (4 : Int32)), .val (.int (ch.toInt8.toInt32)), .val (.int (4 : Int32))]) rfl) ?_
            show oEnd p e s below s₁ (mkF m 28 #[.val (.ref b), .val (.int ch), .val (.int (0 : Int32)), .val (.int (4 : Int32)), .val (.int (ch.toInt8.toInt32)), .val (.int (4 : Int32))] []) n0 h0 0 0 (some (.int r))
            refine oPre (fun _ => XS.goto X0.here hx rfl (pc0 := 28) (pc' := 7) rfl (hb hby d11_28) (by decide) (by decide)) ?_
            show oEnd p e s below s₁ (mkF m 7 #[.val (.ref b), .val (.int ch), .val (.int (0 : Int32)), .val (.int (4 : Int32)), .val (.int (ch.toInt8.toInt32)), .val (.int (4 : Int32))] []) n0 h0 0 0 (some (.int r))
            refine oPre (fun _ => XS.iload X0.here hx rfl (hb hby d11_7) rfl) ?_
            show oEnd p e s below s₁ (mkF m 9 #[.val (.ref b), .val (.int ch), .val (.int (0 : Int32)), .val (.int (4 : Int32)), .val (.int (ch.toInt8.toInt32)), .val (.int (4 : Int32))] [(.int (4 : Int32))]) n0 h0 0 0 (some (.int r))
            refine oPre (fun _ => XS.iloadN X0.here hx rfl (hb hby d11_9) rfl) ?_
            show oEnd p e s below s₁ (mkF m 10 #[.val (.ref b), .val (.int ch), .val (.int (0 : Int32)), .val (.int (4 : Int32)), .val (.int (ch.toInt8.toInt32)), .val (.int (4 : Int32))] [(.int (4 : Int32)), (.int (4 : Int32))]) n0 h0 0 0 (some (.int r))
            refine oPre (fun _ => XS.icmpYes X0.here hx rfl (pc0 := 10) (pc' := 31) rfl (hb hby d11_10) rfl (((flt (by decide : ¬ (4 : Int32) < 4)).2.1)) (by decide) (by decide)) ?_
            show oEnd p e s below s₁ (mkF m 31 #[.val (.ref b), .val (.int ch), .val (.int (0 : Int32)), .val (.int (4 : Int32)), .val (.int (ch.toInt8.toInt32)), .val (.int (4 : Int32))] []) n0 h0 0 0 (some (.int r))
            refine oPre (fun _ => XS.iconst X0.here hx rfl (hb hby d11_31)) ?_
            subst v3
            show oEnd p e s below s₁ (mkF m 32 #[.val (.ref b), .val (.int ch), .val (.int (0 : Int32)), .val (.int (4 : Int32)), .val (.int (ch.toInt8.toInt32)), .val (.int (4 : Int32))] [(.int (-1 : Int32))]) n0 h0 0 0 (some (.int (-1 : Int32)))
            obtain ⟨fs, hr, hrun, hended, hW, hsame⟩ := X0.leave (v := some (.int (-1 : Int32))) (fun h => by rw [hret] at h; cases h) hlk
            exact ⟨_, _, retI X0 hx hret (hb hby d11_32) hr, hrun, hended, hW, hsame, N0, e0⟩
  obtain ⟨tq, L, hs, hrun, hended, hW, hsame, hN, ht⟩ := main
  exact ⟨tq, _, castTop (ef_11 m b ch fr to ) hs, hrun, hended, _, L, rfl, ⟨rfl, hN, ht⟩, ⟨_, rfl⟩, hW, hsame.mono (Nat.zero_le _) (Nat.zero_le _)⟩
theorem d7_0 : decode jdk_43_method_22_code 0 = .ok (.iload_n 1, 1) := by decide +kernel
theorem d7_1 : decode jdk_43_method_22_code 1 = .ok (.invokestatic 88, 3) := by decide +kernel
theorem d7_4 : decode jdk_43_method_22_code 4 = .ok (.ifCond .ne 5, 3) := by decide +kernel
theorem d7_7 : decode jdk_43_method_22_code 7 = .ok (.iconst (-1), 1) := by decide +kernel
theorem d7_8 : decode jdk_43_method_22_code 8 = .ok (.ireturn, 1) := by decide +kernel
theorem d7_9 : decode jdk_43_method_22_code 9 = .ok (.iload_n 2, 1) := by decide +kernel
theorem d7_10 : decode jdk_43_method_22_code 10 = .ok (.iconst 0, 1) := by decide +kernel
theorem d7_11 : decode jdk_43_method_22_code 11 = .ok (.invokestatic 92, 3) := by decide +kernel
theorem d7_14 : decode jdk_43_method_22_code 14 = .ok (.istore_n 2, 1) := by decide +kernel
theorem d7_15 : decode jdk_43_method_22_code 15 = .ok (.iload_n 3, 1) := by decide +kernel
theorem d7_16 : decode jdk_43_method_22_code 16 = .ok (.aload_n 0, 1) := by decide +kernel
theorem d7_17 : decode jdk_43_method_22_code 17 = .ok (.arraylength, 1) := by decide +kernel
theorem d7_18 : decode jdk_43_method_22_code 18 = .ok (.invokestatic 38, 3) := by decide +kernel
theorem d7_21 : decode jdk_43_method_22_code 21 = .ok (.istore_n 3, 1) := by decide +kernel
theorem d7_22 : decode jdk_43_method_22_code 22 = .ok (.iload_n 2, 1) := by decide +kernel
theorem d7_23 : decode jdk_43_method_22_code 23 = .ok (.iload_n 3, 1) := by decide +kernel
theorem d7_24 : decode jdk_43_method_22_code 24 = .ok (.if_icmp .lt 5, 3) := by decide +kernel
theorem d7_27 : decode jdk_43_method_22_code 27 = .ok (.iconst (-1), 1) := by decide +kernel
theorem d7_28 : decode jdk_43_method_22_code 28 = .ok (.ireturn, 1) := by decide +kernel
theorem d7_29 : decode jdk_43_method_22_code 29 = .ok (.aload_n 0, 1) := by decide +kernel
theorem d7_30 : decode jdk_43_method_22_code 30 = .ok (.iload_n 1, 1) := by decide +kernel
theorem d7_31 : decode jdk_43_method_22_code 31 = .ok (.iload_n 2, 1) := by decide +kernel
theorem d7_32 : decode jdk_43_method_22_code 32 = .ok (.iload_n 3, 1) := by decide +kernel
theorem d7_33 : decode jdk_43_method_22_code 33 = .ok (.invokestatic 95, 3) := by decide +kernel
theorem d7_36 : decode jdk_43_method_22_code 36 = .ok (.ireturn, 1) := by decide +kernel
theorem pn_7 : plainName "java/lang/StringLatin1" = true := by first | (simp [plainName, overriddenIn]; done) | decide +kernel
theorem ef_7 (m : MethodId) (b : Addr) (ch : Int32) (fr : Int32) (to : Int32) : entryFrame m #[(.ref b), (.int ch), (.int fr), (.int to)] 4 = mkF m 0 #[.val (.ref b), .val (.int ch), .val (.int fr), .val (.int to)] [] := by first | (simp [entryFrame, mkF, argsToLocals, Value.category]; done) | rfl
set_option maxRecDepth 65536 in
set_option maxHeartbeats 40000000 in
theorem oR7 (l : Launch) (Z : State) (a0 : Array Value) (hw : ∀ d ∈ tables_1, d.before a0 Z = true) (ws : List Jvm.Cond) (b : Addr) (ch : Int32) (fr : Int32) (to : Int32) (h0 : Heap) (n0 : Nat) (Z0 : n0 ≤ h0.size)  {cl : Cell} (Ar : Arr Z h0 b cl .byte) (Sz : cl.slots.size = (4 : Int32).toNatClampNeg) (H : ∀ i, i < 4 → cl.slots[i]? = some (.int (oBytes.getD i 0))) (hf : fr = 0) (ht : to = 4) :
    MetFree l (⟨"java/lang/StringLatin1", "indexOf", "([BIII)I"⟩ : MethodName) (head1 (Jvm.Cond.code (⟨"java/lang/StringLatin1", "indexOf", "([BIII)I"⟩ : MethodName) jdk_43_method_22_code 4 (some .int) :: ws) ({ frames := 1, cells := 0, slots := 0, locals := 17 } : Room)) (fun ar U => ar = #[(.ref b), (.int ch), (.int fr), (.int to)] ∧ Z.Warmed39 U.vm ∧ U.heap = h0) (fun _ _ _ _ _ => True) (fun _ U o U' => ∃ v L, o = .returned v ∧ oQp (some (.int (oIdx ch))) h0 n0 v U'.heap L ∧ FrameEnd U o U' L ({ frames := 1, cells := 0, slots := 0, locals := 17 } : Room).cells ({ frames := 1, cells := 0, slots := 0, locals := 17 } : Room).slots) := by
  refine MetFree.of_bodySF (plainFor_of_name pn_7) hisR ?_
  intro p e s m args below meth c s₁ Bd hml0 hP hK
  obtain ⟨rfl, hZ, hh⟩ := hP
  have hx := Bd.exec
  have hby := Bd.bytes
  have hml : c.maxLocals = 4 := hml0
  have hret := Bd.returns
  have hlk : meth.locks = false := Bd.notSynchronized
  have hown : s.vm.findClass "java/lang/StringLatin1" = some m.cls := findClass_of_methodNamed Bd.named
  have X0 : Stand p l e ({ frames := 1, cells := 0, slots := 0, locals := 17 } : Room) s m #[(.ref b), (.int ch), (.int fr), (.int to)] below meth c s₁ [] 0 0 := Stand.of_body Bd
  have e0 : s₁.heap = h0 := by rw [← hh, Bd.state]; rfl
  have N0 := Fr.nil n0
  have main : oEnd p e s below s₁ (mkF m 0 #[.val (.ref b), .val (.int ch), .val (.int fr), .val (.int to)] []) n0 h0 0 0 (some (.int (oIdx ch))) := by
    subst hf; subst ht
    generalize hg : oIdx ch = r
    show oEnd p e s below s₁ (mkF m 0 #[.val (.ref b), .val (.int ch), .val (.int (0 : Int32)), .val (.int (4 : Int32))] []) n0 h0 0 0 (some (.int r))
    refine oPre (fun _ => XS.iloadN X0.here hx rfl (hb hby d7_0) rfl) ?_
    show oEnd p e s below s₁ (mkF m 1 #[.val (.ref b), .val (.int ch), .val (.int (0 : Int32)), .val (.int (4 : Int32))] [(.int ch)]) n0 h0 0 0 (some (.int r))
    obtain ⟨_, _, ⟨T1, L1, k1, n1⟩, -, X1, ⟨Lc1, hQ1, l1, y1, z1⟩, st1⟩ := Jvm.LawKit.callS X0 hx (y := (⟨"java/lang/StringLatin1", "canEncode", "(I)Z"⟩ : MethodName)) hown (mvT hZ (hw _ (List.mem_of_getElem? (i := 44) rfl))) (mvT hZ (hw _ (List.mem_of_getElem? (i := 45) rfl))) (mvT hZ (hw _ (List.mem_of_getElem? (i := 42) rfl))) (mvT hZ (hw _ (List.mem_of_getElem? (i := 46) rfl))) (by decide) (backOf (W := 0) (oR8 l Z a0 hw [] ch h0 n0 Z0) hZ (hw _ (List.mem_of_getElem? (i := 46) rfl)) (hw _ (List.mem_of_getElem? (i := 42) rfl)) (by decide) (by decide)) (g := (mkF m 1 #[.val (.ref b), .val (.int ch), .val (.int (0 : Int32)), .val (.int (4 : Int32))] [(.int ch)])) rfl (by rw [hml]; rfl) (argsL := [(.int ch)]) (rest := []) (lenOf pd_6 rfl) rfl (by show 2 * 0 + _ ≤ _; exact Nat.le_of_eq rfl) (hb hby d7_1) (fun _ _ => ⟨rfl, e0, (by decide : 0 + 0 ≤ _), (by decide : 0 + 0 ≤ _)⟩)
    dsimp only [Pt.U, Pt.locs, Pt.cells, Pt.slots] at X1 l1 y1 z1 st1 hQ1
    subst l1
    rw [y1, z1] at X1
    obtain ⟨rfl, N1q, e1⟩ := hQ1
    have N1 := Fr.app N0 N1q
    refine oPre st1 ?_
    by_cases q : oF8_0 ch = (0 : Int32)
    · have v : (-1 : Int32) = r := (if_pos q).symm.trans hg
      show oEnd p e s below T1 (mkF m 4 #[.val (.ref b), .val (.int ch), .val (.int (0 : Int32)), .val (.int (4 : Int32))] [(.int (oF8_0 ch))]) n0 h0 0 0 (some (.int r))
      refine oPre (fun _ => XS.ifNo X1.here hx rfl (hb hby d7_4) rfl ((if0 _ _).trans ((teq q).2))) ?_
      show oEnd p e s below T1 (mkF m 7 #[.val (.ref b), .val (.int ch), .val (.int (0 : Int32)), .val (.int (4 : Int32))] []) n0 h0 0 0 (some (.int r))
      refine oPre (fun _ => XS.iconst X1.here hx rfl (hb hby d7_7)) ?_
      subst v
      show oEnd p e s below T1 (mkF m 8 #[.val (.ref b), .val (.int ch), .val (.int (0 : Int32)), .val (.int (4 : Int32))] [(.int (-1 : Int32))]) n0 h0 0 0 (some (.int (-1 : Int32)))
      obtain ⟨fs, hr, hrun, hended, hW, hsame⟩ := X1.leave (v := some (.int (-1 : Int32))) (fun h => by rw [hret] at h; cases h) hlk
      exact ⟨_, _, retI X1 hx hret (hb hby d7_8) hr, hrun, hended, hW, hsame, N1, e1⟩
    · have v : oIx ch = r := (if_neg q).symm.trans hg
      show oEnd p e s below T1 (mkF m 4 #[.val (.ref b), .val (.int ch), .val (.int (0 : Int32)), .val (.int (4 : Int32))] [(.int (oF8_0 ch))]) n0 h0 0 0 (some (.int r))
      refine oPre (fun _ => XS.ifYes X1.here hx rfl (pc0 := 4) (pc' := 9) rfl (hb hby d7_4) rfl ((if0 _ _).trans ((feq q).2)) (by decide) (by decide)) ?_
      show oEnd p e s below T1 (mkF m 9 #[.val (.ref b), .val (.int ch), .val (.int (0 : Int32)), .val (.int (4 : Int32))] []) n0 h0 0 0 (some (.int r))
      refine oPre (fun _ => XS.iloadN X1.here hx rfl (hb hby d7_9) rfl) ?_
      show oEnd p e s below T1 (mkF m 10 #[.val (.ref b), .val (.int ch), .val (.int (0 : Int32)), .val (.int (4 : Int32))] [(.int (0 : Int32))]) n0 h0 0 0 (some (.int r))
      refine oPre (fun _ => XS.iconst X1.here hx rfl (hb hby d7_10)) ?_
      show oEnd p e s below T1 (mkF m 11 #[.val (.ref b), .val (.int ch), .val (.int (0 : Int32)), .val (.int (4 : Int32))] [(.int (0 : Int32)), (.int (0 : Int32))]) n0 h0 0 0 (some (.int r))
      obtain ⟨_, _, ⟨T11, L11, k11, n11⟩, -, X11, ⟨Lc11, hQ11, l11, y11, z11⟩, st11⟩ := Jvm.LawKit.callS X1 hx (y := (⟨"java/lang/Math", "max", "(II)I"⟩ : MethodName)) hown (mvT hZ (hw _ (List.mem_of_getElem? (i := 47) rfl))) (mvT hZ (hw _ (List.mem_of_getElem? (i := 48) rfl))) (mvT hZ (hw _ (List.mem_of_getElem? (i := 49) rfl))) (mvT hZ (hw _ (List.mem_of_getElem? (i := 50) rfl))) (by decide) (backOf (W := 0) (oR9 l Z a0 hw [] 0 0 h0 n0 Z0) hZ (hw _ (List.mem_of_getElem? (i := 50) rfl)) (hw _ (List.mem_of_getElem? (i := 49) rfl)) (by decide) (by decide)) (g := (mkF m 11 #[.val (.ref b), .val (.int ch), .val (.int (0 : Int32)), .val (.int (4 : Int32))] [(.int (0 : Int32)), (.int (0 : Int32))])) rfl (by rw [hml]; rfl) (argsL := [(.int (0 : Int32)), (.int (0 : Int32))]) (rest := []) (lenOf pd_4 rfl) rfl (by show 2 * 0 + _ ≤ _; exact Nat.le_of_eq rfl) (hb hby d7_11) (fun _ _ => ⟨rfl, e1, (by decide : 0 + 0 ≤ _), (by decide : 0 + 0 ≤ _)⟩)
      dsimp only [Pt.U, Pt.locs, Pt.cells, Pt.slots] at X11 l11 y11 z11 st11 hQ11
      subst l11
      rw [y11, z11] at X11
      obtain ⟨rfl, N11q, e11⟩ := hQ11
      have N11 := Fr.app N1 N11q
      refine oPre st11 ?_
      rw [show (oF9_0 (0 : Int32) (0 : Int32)) = (0 : Int32) from by decide]
      show oEnd p e s below T11 (mkF m 14 #[.val (.ref b), .val (.int ch), .val (.int (0 : Int32)), .val (.int (4 : Int32))] [(.int (0 : Int32))]) n0 h0 0 0 (some (.int r))
      refine oPre (fun _ => XS.istoreN X11.here hx rfl (hb hby d7_14) rfl (l' := #[.val (.ref b), .val (.int ch), .val (.int (0 : Int32)), .val (.int (4 : Int32))]) rfl) ?_
      show oEnd p e s below T11 (mkF m 15 #[.val (.ref b), .val (.int ch), .val (.int (0 : Int32)), .val (.int (4 : Int32))] []) n0 h0 0 0 (some (.int r))
      refine oPre (fun _ => XS.iloadN X11.here hx rfl (hb hby d7_15) rfl) ?_
      show oEnd p e s below T11 (mkF m 16 #[.val (.ref b), .val (.int ch), .val (.int (0 : Int32)), .val (.int (4 : Int32))] [(.int (4 : Int32))]) n0 h0 0 0 (some (.int r))
      refine oPre (fun _ => XS.aloadN X11.here hx rfl (hb hby d7_16) rfl rfl) ?_
      show oEnd p e s below T11 (mkF m 17 #[.val (.ref b), .val (.int ch), .val (.int (0 : Int32)), .val (.int (4 : Int32))] [(.ref b), (.int (4 : Int32))]) n0 h0 0 0 (some (.int r))
      refine oPre (fun _ => X11.arraylength hx (by rw [e11]; exact Ar.1) (State.isArrayOf_alike hZ.alike Ar.2.1) (g := (mkF m 17 #[.val (.ref b), .val (.int ch), .val (.int (0 : Int32)), .val (.int (4 : Int32))] [(.ref b), (.int (4 : Int32))])) rfl rfl (hb hby d7_17) _) ?_
      rw [len_of Sz (by decide : ¬ (4 : Int32) < 0)]
      show oEnd p e s below T11 (mkF m 18 #[.val (.ref b), .val (.int ch), .val (.int (0 : Int32)), .val (.int (4 : Int32))] [(.int (4 : Int32)), (.int (4 : Int32))]) n0 h0 0 0 (some (.int r))
      obtain ⟨_, _, ⟨T18, L18, k18, n18⟩, -, X18, ⟨Lc18, hQ18, l18, y18, z18⟩, st18⟩ := Jvm.LawKit.callS X11 hx (y := (⟨"java/lang/Math", "min", "(II)I"⟩ : MethodName)) hown (mvT hZ (hw _ (List.mem_of_getElem? (i := 51) rfl))) (mvT hZ (hw _ (List.mem_of_getElem? (i := 52) rfl))) (mvT hZ (hw _ (List.mem_of_getElem? (i := 49) rfl))) (mvT hZ (hw _ (List.mem_of_getElem? (i := 53) rfl))) (by decide) (backOf (W := 0) (oR10 l Z a0 hw [] 4 4 h0 n0 Z0) hZ (hw _ (List.mem_of_getElem? (i := 53) rfl)) (hw _ (List.mem_of_getElem? (i := 49) rfl)) (by decide) (by decide)) (g := (mkF m 18 #[.val (.ref b), .val (.int ch), .val (.int (0 : Int32)), .val (.int (4 : Int32))] [(.int (4 : Int32)), (.int (4 : Int32))])) rfl (by rw [hml]; rfl) (argsL := [(.int (4 : Int32)), (.int (4 : Int32))]) (rest := []) (lenOf pd_4 rfl) rfl (by show 2 * 0 + _ ≤ _; exact Nat.le_of_eq rfl) (hb hby d7_18) (fun _ _ => ⟨rfl, e11, (by decide : 0 + 0 ≤ _), (by decide : 0 + 0 ≤ _)⟩)
      dsimp only [Pt.U, Pt.locs, Pt.cells, Pt.slots] at X18 l18 y18 z18 st18 hQ18
      subst l18
      rw [y18, z18] at X18
      obtain ⟨rfl, N18q, e18⟩ := hQ18
      have N18 := Fr.app N11 N18q
      refine oPre st18 ?_
      rw [show (oF10_0 (4 : Int32) (4 : Int32)) = (4 : Int32) from by decide]
      show oEnd p e s below T18 (mkF m 21 #[.val (.ref b), .val (.int ch), .val (.int (0 : Int32)), .val (.int (4 : Int32))] [(.int (4 : Int32))]) n0 h0 0 0 (some (.int r))
      refine oPre (fun _ => XS.istoreN X18.here hx rfl (hb hby d7_21) rfl (l' := #[.val (.ref b), .val (.int ch), .val (.int (0 : Int32)), .val (.int (4 : Int32))]) rfl) ?_
      show oEnd p e s below T18 (mkF m 22 #[.val (.ref b), .val (.int ch), .val (.int (0 : Int32)), .val (.int (4 : Int32))] []) n0 h0 0 0 (some (.int r))
      refine oPre (fun _ => XS.iloadN X18.here hx rfl (hb hby d7_22) rfl) ?_
      show oEnd p e s below T18 (mkF m 23 #[.val (.ref b), .val (.int ch), .val (.int (0 : Int32)), .val (.int (4 : Int32))] [(.int (0 : Int32))]) n0 h0 0 0 (some (.int r))
      refine oPre (fun _ => XS.iloadN X18.here hx rfl (hb hby d7_23) rfl) ?_
      show oEnd p e s below T18 (mkF m 24 #[.val (.ref b), .val (.int ch), .val (.int (0 : Int32)), .val (.int (4 : Int32))] [(.int (4 : Int32)), (.int (0 : Int32))]) n0 h0 0 0 (some (.int r))
      refine oPre (fun _ => XS.icmpYes X18.here hx rfl (pc0 := 24) (pc' := 29) rfl (hb hby d7_24) rfl (((tlt (by decide : (0 : Int32) < 4)).1)) (by decide) (by decide)) ?_
      show oEnd p e s below T18 (mkF m 29 #[.val (.ref b), .val (.int ch), .val (.int (0 : Int32)), .val (.int (4 : Int32))] []) n0 h0 0 0 (some (.int r))
      refine oPre (fun _ => XS.aloadN X18.here hx rfl (hb hby d7_29) rfl rfl) ?_
      show oEnd p e s below T18 (mkF m 30 #[.val (.ref b), .val (.int ch), .val (.int (0 : Int32)), .val (.int (4 : Int32))] [(.ref b)]) n0 h0 0 0 (some (.int r))
      refine oPre (fun _ => XS.iloadN X18.here hx rfl (hb hby d7_30) rfl) ?_
      show oEnd p e s below T18 (mkF m 31 #[.val (.ref b), .val (.int ch), .val (.int (0 : Int32)), .val (.int (4 : Int32))] [(.int ch), (.ref b)]) n0 h0 0 0 (some (.int r))
      refine oPre (fun _ => XS.iloadN X18.here hx rfl (hb hby d7_31) rfl) ?_
      show oEnd p e s below T18 (mkF m 32 #[.val (.ref b), .val (.int ch), .val (.int (0 : Int32)), .val (.int (4 : Int32))] [(.int (0 : Int32)), (.int ch), (.ref b)]) n0 h0 0 0 (some (.int r))
      refine oPre (fun _ => XS.iloadN X18.here hx rfl (hb hby d7_32) rfl) ?_
      show oEnd p e s below T18 (mkF m 33 #[.val (.ref b), .val (.int ch), .val (.int (0 : Int32)), .val (.int (4 : Int32))] [(.int (4 : Int32)), (.int (0 : Int32)), (.int ch), (.ref b)]) n0 h0 0 0 (some (.int r))
      obtain ⟨_, _, ⟨T33, L33, k33, n33⟩, -, X33, ⟨Lc33, hQ33, l33, y33, z33⟩, st33⟩ := Jvm.LawKit.callS X18 hx (y := (⟨"java/lang/StringLatin1", "indexOfChar", "([BIII)I"⟩ : MethodName)) hown (mvT hZ (hw _ (List.mem_of_getElem? (i := 54) rfl))) (mvT hZ (hw _ (List.mem_of_getElem? (i := 55) rfl))) (mvT hZ (hw _ (List.mem_of_getElem? (i := 42) rfl))) (mvT hZ (hw _ (List.mem_of_getElem? (i := 56) rfl))) (by decide) (backOf (W := 0) (oR11 l Z a0 hw [] b ch 0 4 h0 n0 Z0 Ar Sz H rfl rfl) hZ (hw _ (List.mem_of_getElem? (i := 56) rfl)) (hw _ (List.mem_of_getElem? (i := 42) rfl)) (by decide) (by decide)) (g := (mkF m 33 #[.val (.ref b), .val (.int ch), .val (.int (0 : Int32)), .val (.int (4 : Int32))] [(.int (4 : Int32)), (.int (0 : Int32)), (.int ch), (.ref b)])) rfl (by rw [hml]; rfl) (argsL := [(.ref b), (.int ch), (.int (0 : Int32)), (.int (4 : Int32))]) (rest := []) (lenOf pd_5 rfl) rfl (by show 2 * 0 + _ ≤ _; exact Nat.le_of_eq rfl) (hb hby d7_33) (fun _ _ => ⟨rfl, e18, (by decide : 0 + 0 ≤ _), (by decide : 0 + 0 ≤ _)⟩)
      dsimp only [Pt.U, Pt.locs, Pt.cells, Pt.slots] at X33 l33 y33 z33 st33 hQ33
      subst l33
      rw [y33, z33] at X33
      obtain ⟨rfl, N33q, e33⟩ := hQ33
      have N33 := Fr.app N18 N33q
      refine oPre st33 ?_
      subst v
      show oEnd p e s below T33 (mkF m 36 #[.val (.ref b), .val (.int ch), .val (.int (0 : Int32)), .val (.int (4 : Int32))] [(.int (oIx ch))]) n0 h0 0 0 (some (.int (oIx ch)))
      obtain ⟨fs, hr, hrun, hended, hW, hsame⟩ := X33.leave (v := some (.int (oIx ch))) (fun h => by rw [hret] at h; cases h) hlk
      exact ⟨_, _, retI X33 hx hret (hb hby d7_36) hr, hrun, hended, hW, hsame, N33, e33⟩
  obtain ⟨tq, L, hs, hrun, hended, hW, hsame, hN, ht⟩ := main
  exact ⟨tq, _, castTop (ef_7 m b ch fr to ) hs, hrun, hended, _, L, rfl, ⟨rfl, hN, ht⟩, ⟨_, rfl⟩, hW, hsame.mono (Nat.zero_le _) (Nat.zero_le _)⟩
theorem d3_0 : decode jdk_42_method_80_code 0 = .ok (.aload_n 0, 1) := by decide +kernel
theorem d3_1 : decode jdk_42_method_80_code 1 = .ok (.invokevirtual 492, 3) := by decide +kernel
theorem d3_4 : decode jdk_42_method_80_code 4 = .ok (.ifCond .eq 19, 3) := by decide +kernel
theorem d3_7 : decode jdk_42_method_80_code 7 = .ok (.aload_n 0, 1) := by decide +kernel
theorem d3_8 : decode jdk_42_method_80_code 8 = .ok (.getfield 9, 3) := by decide +kernel
theorem d3_11 : decode jdk_42_method_80_code 11 = .ok (.iload_n 1, 1) := by decide +kernel
theorem d3_12 : decode jdk_42_method_80_code 12 = .ok (.iload_n 2, 1) := by decide +kernel
theorem d3_13 : decode jdk_42_method_80_code 13 = .ok (.aload_n 0, 1) := by decide +kernel
theorem d3_14 : decode jdk_42_method_80_code 14 = .ok (.invokevirtual 505, 3) := by decide +kernel
theorem d3_17 : decode jdk_42_method_80_code 17 = .ok (.invokestatic 637, 3) := by decide +kernel
theorem d3_20 : decode jdk_42_method_80_code 20 = .ok (.goto 16, 3) := by decide +kernel
theorem d3_36 : decode jdk_42_method_80_code 36 = .ok (.ireturn, 1) := by decide +kernel
theorem pn_3 : plainName "java/lang/String" = true := by first | (simp [plainName, overriddenIn]; done) | decide +kernel
theorem ef_3 (m : MethodId) (a : Addr) (ch : Int32) (fr : Int32) : entryFrame m #[(.ref a), (.int ch), (.int fr)] 3 = mkF m 0 #[.val (.ref a), .val (.int ch), .val (.int fr)] [] := by first | (simp [entryFrame, mkF, argsToLocals, Value.category]; done) | rfl
set_option maxRecDepth 65536 in
set_option maxHeartbeats 40000000 in
theorem oR3 (l : Launch) (Z : State) (a0 : Array Value) (hw : ∀ d ∈ tables_1, d.before a0 Z = true) (ws : List Jvm.Cond) (a : Addr) (ch : Int32) (fr : Int32) (h0 : Heap) (n0 : Nat) (Z0 : n0 ≤ h0.size)  {b : Addr} (E : Exa Z h0 a "java/lang/String") (V : Fld Z h0 a "java/lang/String" "value" "[B" (.ref b)) (C : Fld Z h0 a "java/lang/String" "coder" "B" (.int 0)) {cl : Cell} (Ar : Arr Z h0 b cl .byte) (Sz : cl.slots.size = (4 : Int32).toNatClampNeg) (H : ∀ i, i < 4 → cl.slots[i]? = some (.int (oBytes.getD i 0))) {G1 : Int32} (O2 : Sta Z h0 "java/lang/String" "COMPACT_STRINGS" "Z" (.int G1)) (P5 : ¬ (G1 = (0 : Int32))) (hf : fr = 0) :
    MetFree l (⟨"java/lang/String", "indexOf", "(II)I"⟩ : MethodName) (head1 (Jvm.Cond.code (⟨"java/lang/String", "indexOf", "(II)I"⟩ : MethodName) jdk_42_method_80_code 3 (some .int) :: ws) ({ frames := 2, cells := 0, slots := 0, locals := 32 } : Room)) (fun ar U => ar = #[(.ref a), (.int ch), (.int fr)] ∧ Z.Warmed39 U.vm ∧ U.heap = h0) (fun _ _ _ _ _ => True) (fun _ U o U' => ∃ v L, o = .returned v ∧ oQp (some (.int (oIdx ch))) h0 n0 v U'.heap L ∧ FrameEnd U o U' L ({ frames := 2, cells := 0, slots := 0, locals := 32 } : Room).cells ({ frames := 2, cells := 0, slots := 0, locals := 32 } : Room).slots) := by
  refine MetFree.of_bodySF (plainFor_of_name pn_3) hisR ?_
  intro p e s m args below meth c s₁ Bd hml0 hP hK
  obtain ⟨rfl, hZ, hh⟩ := hP
  have hx := Bd.exec
  have hby := Bd.bytes
  have hml : c.maxLocals = 3 := hml0
  have hret := Bd.returns
  have hlk : meth.locks = false := Bd.notSynchronized
  have hown : s.vm.findClass "java/lang/String" = some m.cls := findClass_of_methodNamed Bd.named
  have X0 : Stand p l e ({ frames := 2, cells := 0, slots := 0, locals := 32 } : Room) s m #[(.ref a), (.int ch), (.int fr)] below meth c s₁ [] 0 0 := Stand.of_body Bd
  have e0 : s₁.heap = h0 := by rw [← hh, Bd.state]; rfl
  have N0 := Fr.nil n0
  have main : oEnd p e s below s₁ (mkF m 0 #[.val (.ref a), .val (.int ch), .val (.int fr)] []) n0 h0 0 0 (some (.int (oIdx ch))) := by
    subst hf
    show oEnd p e s below s₁ (mkF m 0 #[.val (.ref a), .val (.int ch), .val (.int (0 : Int32))] []) n0 h0 0 0 (some (.int (oIdx ch)))
    refine oPre (fun _ => XS.aloadN X0.here hx rfl (hb hby d3_0) rfl rfl) ?_
    show oEnd p e s below s₁ (mkF m 1 #[.val (.ref a), .val (.int ch), .val (.int (0 : Int32))] [(.ref a)]) n0 h0 0 0 (some (.int (oIdx ch)))
    obtain ⟨cq1, kq1, qa1, qb1, qc1⟩ := isOf hZ e0 E
    obtain ⟨_, _, ⟨T1, L1, k1, n1⟩, -, X1, ⟨Lc1, hQ1, l1, y1, z1⟩, st1⟩ := X0.virtualBack hx (y := (⟨"java/lang/String", "isLatin1", "()Z"⟩ : MethodName)) (z := (⟨"java/lang/String", "isLatin1", "()Z"⟩ : MethodName)) hown (mvT hZ (hw _ (List.mem_of_getElem? (i := 22) rfl))) (mvT hZ (hw _ (List.mem_of_getElem? (i := 23) rfl))) (notFace_of_selects (args := #[]) (mvT hZ (hw _ (List.mem_of_getElem? (i := 25) rfl)))) (mvT hZ (hw _ (List.mem_of_getElem? (i := 25) rfl))) (mvT hZ (hw _ (List.mem_of_getElem? (i := 24) rfl))) (by decide) (backOf (W := 0) (oR4 l Z a0 hw [] a h0 n0 Z0 C O2 P5) hZ (hw _ (List.mem_of_getElem? (i := 26) rfl)) (hw _ (List.mem_of_getElem? (i := 5) rfl)) (by decide) (by decide)) qa1 qc1 (g := (mkF m 1 #[.val (.ref a), .val (.int ch), .val (.int (0 : Int32))] [(.ref a)])) rfl (by rw [hml]; rfl) (Steps.refl _) (argsL := []) (rest := []) (lenOf pd_0 rfl) rfl (by show 2 * 0 + _ ≤ _; exact Nat.le_of_eq rfl) (hb hby d3_1) (fun _ _ => ⟨rfl, e0, (by decide : 0 + 0 ≤ _), (by decide : 0 + 0 ≤ _)⟩)
    dsimp only [Pt.U, Pt.locs, Pt.cells, Pt.slots] at X1 l1 y1 z1 st1 hQ1
    subst l1
    rw [y1, z1] at X1
    obtain ⟨rfl, N1q, e1⟩ := hQ1
    have N1 := Fr.app N0 N1q
    refine oPre (fun _ q => st1.trans q) ?_
    show oEnd p e s below T1 (mkF m 4 #[.val (.ref a), .val (.int ch), .val (.int (0 : Int32))] [(.int (1 : Int32))]) n0 h0 0 0 (some (.int (oIdx ch)))
    refine oPre (fun _ => XS.ifNo X1.here hx rfl (hb hby d3_4) rfl ((if0 _ _).trans ((feq (by decide : ¬ (1 : Int32) = 0)).1))) ?_
    show oEnd p e s below T1 (mkF m 7 #[.val (.ref a), .val (.int ch), .val (.int (0 : Int32))] []) n0 h0 0 0 (some (.int (oIdx ch)))
    refine oPre (fun _ => XS.aloadN X1.here hx rfl (hb hby d3_7) rfl rfl) ?_
    show oEnd p e s below T1 (mkF m 8 #[.val (.ref a), .val (.int ch), .val (.int (0 : Int32))] [(.ref a)]) n0 h0 0 0 (some (.int (oIdx ch)))
    obtain ⟨T8, X8, e8, st8⟩ := getF X1 hx hZ hown (host := "") (Or.inl (hw _ (List.mem_of_getElem? (i := 29) rfl))) Via.refl e1 V (g := (mkF m 8 #[.val (.ref a), .val (.int ch), .val (.int (0 : Int32))] [(.ref a)])) rfl rfl (hb hby d3_8)
    refine oPre st8 ?_
    show oEnd p e s below T8 (mkF m 11 #[.val (.ref a), .val (.int ch), .val (.int (0 : Int32))] [(.ref b)]) n0 h0 0 0 (some (.int (oIdx ch)))
    refine oPre (fun _ => XS.iloadN X8.here hx rfl (hb hby d3_11) rfl) ?_
    show oEnd p e s below T8 (mkF m 12 #[.val (.ref a), .val (.int ch), .val (.int (0 : Int32))] [(.int ch), (.ref b)]) n0 h0 0 0 (some (.int (oIdx ch)))
    refine oPre (fun _ => XS.iloadN X8.here hx rfl (hb hby d3_12) rfl) ?_
    show oEnd p e s below T8 (mkF m 13 #[.val (.ref a), .val (.int ch), .val (.int (0 : Int32))] [(.int (0 : Int32)), (.int ch), (.ref b)]) n0 h0 0 0 (some (.int (oIdx ch)))
    refine oPre (fun _ => XS.aloadN X8.here hx rfl (hb hby d3_13) rfl rfl) ?_
    show oEnd p e s below T8 (mkF m 14 #[.val (.ref a), .val (.int ch), .val (.int (0 : Int32))] [(.ref a), (.int (0 : Int32)), (.int ch), (.ref b)]) n0 h0 0 0 (some (.int (oIdx ch)))
    obtain ⟨cq14, kq14, qa14, qb14, qc14⟩ := isOf hZ e8 E
    obtain ⟨_, _, ⟨T14, L14, k14, n14⟩, -, X14, ⟨Lc14, hQ14, l14, y14, z14⟩, st14⟩ := X8.virtualBack hx (y := (⟨"java/lang/String", "length", "()I"⟩ : MethodName)) (z := (⟨"java/lang/String", "length", "()I"⟩ : MethodName)) hown (mvT hZ (hw _ (List.mem_of_getElem? (i := 30) rfl))) (mvT hZ (hw _ (List.mem_of_getElem? (i := 31) rfl))) (notFace_of_selects (args := #[]) (mvT hZ (hw _ (List.mem_of_getElem? (i := 33) rfl)))) (mvT hZ (hw _ (List.mem_of_getElem? (i := 33) rfl))) (mvT hZ (hw _ (List.mem_of_getElem? (i := 32) rfl))) (by decide) (backOf (W := 3) (oR5 l Z a0 hw [] a h0 n0 Z0 E V C Ar Sz H O2 P5) hZ (hw _ (List.mem_of_getElem? (i := 34) rfl)) (hw _ (List.mem_of_getElem? (i := 5) rfl)) (by decide) (by decide)) qa14 qc14 (g := (mkF m 14 #[.val (.ref a), .val (.int ch), .val (.int (0 : Int32))] [(.ref a), (.int (0 : Int32)), (.int ch), (.ref b)])) rfl (by rw [hml]; rfl) (Steps.refl _) (argsL := []) (rest := [(.int (0 : Int32)), (.int ch), (.ref b)]) (lenOf pd_1 rfl) rfl (by show 2 * 0 + _ ≤ _; exact Nat.le_of_eq rfl) (hb hby d3_14) (fun _ _ => ⟨rfl, e8, (by decide : 0 + 0 ≤ _), (by decide : 0 + 0 ≤ _)⟩)
    dsimp only [Pt.U, Pt.locs, Pt.cells, Pt.slots] at X14 l14 y14 z14 st14 hQ14
    subst l14
    rw [y14, z14] at X14
    obtain ⟨rfl, N14q, e14⟩ := hQ14
    have N14 := Fr.app N1 N14q
    refine oPre (fun _ q => st14.trans q) ?_
    show oEnd p e s below T14 (mkF m 17 #[.val (.ref a), .val (.int ch), .val (.int (0 : Int32))] [(.int (4 : Int32)), (.int (0 : Int32)), (.int ch), (.ref b)]) n0 h0 0 0 (some (.int (oIdx ch)))
    obtain ⟨_, _, ⟨T17, L17, k17, n17⟩, -, X17, ⟨Lc17, hQ17, l17, y17, z17⟩, st17⟩ := Jvm.LawKit.callS X14 hx (y := (⟨"java/lang/StringLatin1", "indexOf", "([BIII)I"⟩ : MethodName)) hown (mvT hZ (hw _ (List.mem_of_getElem? (i := 40) rfl))) (mvT hZ (hw _ (List.mem_of_getElem? (i := 41) rfl))) (mvT hZ (hw _ (List.mem_of_getElem? (i := 42) rfl))) (mvT hZ (hw _ (List.mem_of_getElem? (i := 43) rfl))) (by decide) (backOf (W := 0) (oR7 l Z a0 hw [] b ch 0 4 h0 n0 Z0 Ar Sz H rfl rfl) hZ (hw _ (List.mem_of_getElem? (i := 43) rfl)) (hw _ (List.mem_of_getElem? (i := 42) rfl)) (by decide) (by decide)) (g := (mkF m 17 #[.val (.ref a), .val (.int ch), .val (.int (0 : Int32))] [(.int (4 : Int32)), (.int (0 : Int32)), (.int ch), (.ref b)])) rfl (by rw [hml]; rfl) (argsL := [(.ref b), (.int ch), (.int (0 : Int32)), (.int (4 : Int32))]) (rest := []) (lenOf pd_5 rfl) rfl (by show 2 * 0 + _ ≤ _; exact Nat.le_of_eq rfl) (hb hby d3_17) (fun _ _ => ⟨rfl, e14, (by decide : 0 + 0 ≤ _), (by decide : 0 + 0 ≤ _)⟩)
    dsimp only [Pt.U, Pt.locs, Pt.cells, Pt.slots] at X17 l17 y17 z17 st17 hQ17
    subst l17
    rw [y17, z17] at X17
    obtain ⟨rfl, N17q, e17⟩ := hQ17
    have N17 := Fr.app N14 N17q
    refine oPre st17 ?_
    show oEnd p e s below T17 (mkF m 20 #[.val (.ref a), .val (.int ch), .val (.int (0 : Int32))] [(.int (oIdx ch))]) n0 h0 0 0 (some (.int (oIdx ch)))
    refine oPre (fun _ => XS.goto X17.here hx rfl (pc0 := 20) (pc' := 36) rfl (hb hby d3_20) (by decide) (by decide)) ?_
    show oEnd p e s below T17 (mkF m 36 #[.val (.ref a), .val (.int ch), .val (.int (0 : Int32))] [(.int (oIdx ch))]) n0 h0 0 0 (some (.int (oIdx ch)))
    obtain ⟨fs, hr, hrun, hended, hW, hsame⟩ := X17.leave (v := some (.int (oIdx ch))) (fun h => by rw [hret] at h; cases h) hlk
    exact ⟨_, _, retI X17 hx hret (hb hby d3_36) hr, hrun, hended, hW, hsame, N17, e17⟩
  obtain ⟨tq, L, hs, hrun, hended, hW, hsame, hN, ht⟩ := main
  exact ⟨tq, _, castTop (ef_3 m a ch fr ) hs, hrun, hended, _, L, rfl, ⟨rfl, hN, ht⟩, ⟨_, rfl⟩, hW, hsame.mono (Nat.zero_le _) (Nat.zero_le _)⟩
theorem d2_0 : decode jdk_42_method_79_code 0 = .ok (.aload_n 0, 1) := by decide +kernel
theorem d2_1 : decode jdk_42_method_79_code 1 = .ok (.iload_n 1, 1) := by decide +kernel
theorem d2_2 : decode jdk_42_method_79_code 2 = .ok (.iconst 0, 1) := by decide +kernel
theorem d2_3 : decode jdk_42_method_79_code 3 = .ok (.invokevirtual 633, 3) := by decide +kernel
theorem d2_6 : decode jdk_42_method_79_code 6 = .ok (.ireturn, 1) := by decide +kernel
theorem pn_2 : plainName "java/lang/String" = true := by first | (simp [plainName, overriddenIn]; done) | decide +kernel
theorem ef_2 (m : MethodId) (a : Addr) (ch : Int32) : entryFrame m #[(.ref a), (.int ch)] 2 = mkF m 0 #[.val (.ref a), .val (.int ch)] [] := by first | (simp [entryFrame, mkF, argsToLocals, Value.category]; done) | rfl
set_option maxRecDepth 65536 in
set_option maxHeartbeats 40000000 in
theorem oR2 (l : Launch) (Z : State) (a0 : Array Value) (hw : ∀ d ∈ tables_1, d.before a0 Z = true) (ws : List Jvm.Cond) (a : Addr) (ch : Int32) (h0 : Heap) (n0 : Nat) (Z0 : n0 ≤ h0.size)  {b : Addr} (E : Exa Z h0 a "java/lang/String") (V : Fld Z h0 a "java/lang/String" "value" "[B" (.ref b)) (C : Fld Z h0 a "java/lang/String" "coder" "B" (.int 0)) {cl : Cell} (Ar : Arr Z h0 b cl .byte) (Sz : cl.slots.size = (4 : Int32).toNatClampNeg) (H : ∀ i, i < 4 → cl.slots[i]? = some (.int (oBytes.getD i 0))) {G1 : Int32} (O2 : Sta Z h0 "java/lang/String" "COMPACT_STRINGS" "Z" (.int G1)) (P5 : ¬ (G1 = (0 : Int32))) :
    MetFree l (⟨"java/lang/String", "indexOf", "(I)I"⟩ : MethodName) (head1 (Jvm.Cond.code (⟨"java/lang/String", "indexOf", "(I)I"⟩ : MethodName) jdk_42_method_79_code 2 (some .int) :: ws) ({ frames := 3, cells := 0, slots := 0, locals := 46 } : Room)) (fun ar U => ar = #[(.ref a), (.int ch)] ∧ Z.Warmed39 U.vm ∧ U.heap = h0) (fun _ _ _ _ _ => True) (fun _ U o U' => ∃ v L, o = .returned v ∧ oQp (some (.int (oIdx ch))) h0 n0 v U'.heap L ∧ FrameEnd U o U' L ({ frames := 3, cells := 0, slots := 0, locals := 46 } : Room).cells ({ frames := 3, cells := 0, slots := 0, locals := 46 } : Room).slots) := by
  refine MetFree.of_bodySF (plainFor_of_name pn_2) hisR ?_
  intro p e s m args below meth c s₁ Bd hml0 hP hK
  obtain ⟨rfl, hZ, hh⟩ := hP
  have hx := Bd.exec
  have hby := Bd.bytes
  have hml : c.maxLocals = 2 := hml0
  have hret := Bd.returns
  have hlk : meth.locks = false := Bd.notSynchronized
  have hown : s.vm.findClass "java/lang/String" = some m.cls := findClass_of_methodNamed Bd.named
  have X0 : Stand p l e ({ frames := 3, cells := 0, slots := 0, locals := 46 } : Room) s m #[(.ref a), (.int ch)] below meth c s₁ [] 0 0 := Stand.of_body Bd
  have e0 : s₁.heap = h0 := by rw [← hh, Bd.state]; rfl
  have N0 := Fr.nil n0
  have main : oEnd p e s below s₁ (mkF m 0 #[.val (.ref a), .val (.int ch)] []) n0 h0 0 0 (some (.int (oIdx ch))) := by
    show oEnd p e s below s₁ (mkF m 0 #[.val (.ref a), .val (.int ch)] []) n0 h0 0 0 (some (.int (oIdx ch)))
    refine oPre (fun _ => XS.aloadN X0.here hx rfl (hb hby d2_0) rfl rfl) ?_
    show oEnd p e s below s₁ (mkF m 1 #[.val (.ref a), .val (.int ch)] [(.ref a)]) n0 h0 0 0 (some (.int (oIdx ch)))
    refine oPre (fun _ => XS.iloadN X0.here hx rfl (hb hby d2_1) rfl) ?_
    show oEnd p e s below s₁ (mkF m 2 #[.val (.ref a), .val (.int ch)] [(.int ch), (.ref a)]) n0 h0 0 0 (some (.int (oIdx ch)))
    refine oPre (fun _ => XS.iconst X0.here hx rfl (hb hby d2_2)) ?_
    show oEnd p e s below s₁ (mkF m 3 #[.val (.ref a), .val (.int ch)] [(.int (0 : Int32)), (.int ch), (.ref a)]) n0 h0 0 0 (some (.int (oIdx ch)))
    obtain ⟨cq3, kq3, qa3, qb3, qc3⟩ := isOf hZ e0 E
    obtain ⟨_, _, ⟨T3, L3, k3, n3⟩, -, X3, ⟨Lc3, hQ3, l3, y3, z3⟩, st3⟩ := X0.virtualBack hx (y := (⟨"java/lang/String", "indexOf", "(II)I"⟩ : MethodName)) (z := (⟨"java/lang/String", "indexOf", "(II)I"⟩ : MethodName)) hown (mvT hZ (hw _ (List.mem_of_getElem? (i := 17) rfl))) (mvT hZ (hw _ (List.mem_of_getElem? (i := 18) rfl))) (notFace_of_selects (args := #[]) (mvT hZ (hw _ (List.mem_of_getElem? (i := 20) rfl)))) (mvT hZ (hw _ (List.mem_of_getElem? (i := 20) rfl))) (mvT hZ (hw _ (List.mem_of_getElem? (i := 19) rfl))) (by decide) (backOf (W := 0) (oR3 l Z a0 hw [] a ch 0 h0 n0 Z0 E V C Ar Sz H O2 P5 rfl) hZ (hw _ (List.mem_of_getElem? (i := 21) rfl)) (hw _ (List.mem_of_getElem? (i := 5) rfl)) (by decide) (by decide)) qa3 qc3 (g := (mkF m 3 #[.val (.ref a), .val (.int ch)] [(.int (0 : Int32)), (.int ch), (.ref a)])) rfl (by rw [hml]; rfl) (Steps.refl _) (argsL := [(.int ch), (.int (0 : Int32))]) (rest := []) (lenOf pd_4 rfl) rfl (by show 2 * 0 + _ ≤ _; exact Nat.le_of_eq rfl) (hb hby d2_3) (fun _ _ => ⟨rfl, e0, (by decide : 0 + 0 ≤ _), (by decide : 0 + 0 ≤ _)⟩)
    dsimp only [Pt.U, Pt.locs, Pt.cells, Pt.slots] at X3 l3 y3 z3 st3 hQ3
    subst l3
    rw [y3, z3] at X3
    obtain ⟨rfl, N3q, e3⟩ := hQ3
    have N3 := Fr.app N0 N3q
    refine oPre (fun _ q => st3.trans q) ?_
    show oEnd p e s below T3 (mkF m 6 #[.val (.ref a), .val (.int ch)] [(.int (oIdx ch))]) n0 h0 0 0 (some (.int (oIdx ch)))
    obtain ⟨fs, hr, hrun, hended, hW, hsame⟩ := X3.leave (v := some (.int (oIdx ch))) (fun h => by rw [hret] at h; cases h) hlk
    exact ⟨_, _, retI X3 hx hret (hb hby d2_6) hr, hrun, hended, hW, hsame, N3, e3⟩
  obtain ⟨tq, L, hs, hrun, hended, hW, hsame, hN, ht⟩ := main
  exact ⟨tq, _, castTop (ef_2 m a ch ) hs, hrun, hended, _, L, rfl, ⟨rfl, hN, ht⟩, ⟨_, rfl⟩, hW, hsame.mono (Nat.zero_le _) (Nat.zero_le _)⟩
theorem d1_0 : decode prog_1_method_3_code 0 = .ok (.iload_n 0, 1) := by decide +kernel
theorem d1_1 : decode prog_1_method_3_code 1 = .ok (.bipush 97, 2) := by decide +kernel
theorem d1_3 : decode prog_1_method_3_code 3 = .ok (.if_icmp .lt 9, 3) := by decide +kernel
theorem d1_6 : decode prog_1_method_3_code 6 = .ok (.iload_n 0, 1) := by decide +kernel
theorem d1_7 : decode prog_1_method_3_code 7 = .ok (.bipush 122, 2) := by decide +kernel
theorem d1_9 : decode prog_1_method_3_code 9 = .ok (.if_icmp .le 36, 3) := by decide +kernel
theorem d1_12 : decode prog_1_method_3_code 12 = .ok (.iload_n 0, 1) := by decide +kernel
theorem d1_13 : decode prog_1_method_3_code 13 = .ok (.bipush 65, 2) := by decide +kernel
theorem d1_15 : decode prog_1_method_3_code 15 = .ok (.if_icmp .lt 9, 3) := by decide +kernel
theorem d1_18 : decode prog_1_method_3_code 18 = .ok (.iload_n 0, 1) := by decide +kernel
theorem d1_19 : decode prog_1_method_3_code 19 = .ok (.bipush 90, 2) := by decide +kernel
theorem d1_21 : decode prog_1_method_3_code 21 = .ok (.if_icmp .le 24, 3) := by decide +kernel
theorem d1_24 : decode prog_1_method_3_code 24 = .ok (.iload_n 0, 1) := by decide +kernel
theorem d1_25 : decode prog_1_method_3_code 25 = .ok (.bipush 48, 2) := by decide +kernel
theorem d1_27 : decode prog_1_method_3_code 27 = .ok (.if_icmp .lt 9, 3) := by decide +kernel
theorem d1_30 : decode prog_1_method_3_code 30 = .ok (.iload_n 0, 1) := by decide +kernel
theorem d1_31 : decode prog_1_method_3_code 31 = .ok (.bipush 57, 2) := by decide +kernel
theorem d1_33 : decode prog_1_method_3_code 33 = .ok (.if_icmp .le 12, 3) := by decide +kernel
theorem d1_36 : decode prog_1_method_3_code 36 = .ok (.ldc 7, 2) := by decide +kernel
theorem d1_38 : decode prog_1_method_3_code 38 = .ok (.iload_n 0, 1) := by decide +kernel
theorem d1_39 : decode prog_1_method_3_code 39 = .ok (.invokevirtual 9, 3) := by decide +kernel
theorem d1_42 : decode prog_1_method_3_code 42 = .ok (.ifCond .lt 7, 3) := by decide +kernel
theorem d1_45 : decode prog_1_method_3_code 45 = .ok (.iconst 1, 1) := by decide +kernel
theorem d1_46 : decode prog_1_method_3_code 46 = .ok (.goto 4, 3) := by decide +kernel
theorem d1_49 : decode prog_1_method_3_code 49 = .ok (.iconst 0, 1) := by decide +kernel
theorem d1_50 : decode prog_1_method_3_code 50 = .ok (.ireturn, 1) := by decide +kernel
def oU36 (c : Int32) : Int32 := if oIdx c < (0 : Int32) then 0 else 1
def oU24 (c : Int32) : Int32 := if c < (48 : Int32) then oU36 c else if (57 : Int32) < c then oU36 c else 1
def oU12 (c : Int32) : Int32 := if c < (65 : Int32) then oU24 c else if (90 : Int32) < c then oU24 c else 1
def oU0 (c : Int32) : Int32 := if c < (97 : Int32) then oU12 c else if (122 : Int32) < c then oU12 c else 1
/-- the run ends, returns w, may have loaded one constant cold -/
def oEndW (p : Program) (e : Env) (s : State) (below : List Frame) (T : State) (g : JFrame) (n0 : Nat) (h : Heap) (w : Option Value) : Prop :=
  ∃ t L, Steps p.tables e below (T.setTop g) t ∧ t.status = .running ∧ Ended t below (.returned w) ∧ ReturnedEndW s (.returned w) t L 2 20 ∧ Fr n0 L ∧ h.size ≤ t.heap.size
theorem oPreW {p : Program} {e : Env} {s : State} {below : List Frame} {T T' : State} {g g' : JFrame} {n0 : Nat} {h : Heap} {w : Option Value}
    (k : ∀ target, Steps p.tables e below (T'.setTop g') target → Steps p.tables e below (T.setTop g) target) (q : oEndW p e s below T' g' n0 h w) : oEndW p e s below T g n0 h w := by
  obtain ⟨t, L, hs, r⟩ := q
  exact ⟨t, L, k t hs, r⟩
theorem oWide {p : Program} {e : Env} {s : State} {below : List Frame} {T : State} {g : JFrame} {n0 : Nat} {h : Heap} {w : Option Value} (q : oEnd p e s below T g n0 h 0 0 w) : oEndW p e s below T g n0 h w := by
  obtain ⟨t, L, hs, h1, h2, hW, hsame, hN, ht⟩ := q
  exact ⟨t, L, hs, h1, h2, ReturnedEndW.of_narrow ⟨_, rfl⟩ hW (hsame.mono (by decide) (by decide)), hN, by rw [ht]; exact Nat.le_refl _⟩
set_option maxRecDepth 65536 in
theorem oBU_45 {R : Room} {locs : List Loc} {cells slots : Nat} {p : Program} {l : Launch} {e : Env} {s : State} {m : MethodId} {args : Array Value} {below : List Frame} {meth : Method} {c : Code} {T : State} {h0 : Heap} {n0 : Nat} (X : Stand p l e R s m args below meth c T locs cells slots) (hx : p.tables.exec = Jvm.exec) (hby : c.code = prog_1_method_3_code) (hret : meth.sig.returnType = some .boolean) (hlk : meth.locks = false) (eT : T.heap = h0) (N : Fr n0 locs) (c1 : Int32) : oEnd p e s below T (mkF m 45 #[.val (.int c1)] []) n0 h0 cells slots (some (.int 1)) := by
  show oEnd p e s below T (mkF m 45 #[.val (.int c1)] []) n0 h0 cells slots (some (.int 1))
  refine oPre (fun _ => XS.iconst X.here hx rfl (hb hby d1_45)) ?_
  show oEnd p e s below T (mkF m 46 #[.val (.int c1)] [(.int (1 : Int32))]) n0 h0 cells slots (some (.int 1))
  refine oPre (fun _ => XS.goto X.here hx rfl (pc0 := 46) (pc' := 50) rfl (hb hby d1_46) (by decide) (by decide)) ?_
  show oEnd p e s below T (mkF m 50 #[.val (.int c1)] [(.int (1 : Int32))]) n0 h0 cells slots (some (.int 1))
  obtain ⟨fs, hr, hrun, hended, hW, hsame⟩ := X.leave (v := some (.int 1)) (fun h => by rw [hret] at h; cases h) hlk
  exact ⟨_, _, retN X hx (t := .boolean) hret (by simp) (hb hby d1_50) hr, hrun, hended, hW, hsame, N, eT⟩
set_option maxRecDepth 65536 in
theorem oBU_49 {R : Room} {locs : List Loc} {cells slots : Nat} {p : Program} {l : Launch} {e : Env} {s : State} {m : MethodId} {args : Array Value} {below : List Frame} {meth : Method} {c : Code} {T : State} {h0 : Heap} {n0 : Nat} (X : Stand p l e R s m args below meth c T locs cells slots) (hx : p.tables.exec = Jvm.exec) (hby : c.code = prog_1_method_3_code) (hret : meth.sig.returnType = some .boolean) (hlk : meth.locks = false) (eT : T.heap = h0) (N : Fr n0 locs) (c1 : Int32) : oEnd p e s below T (mkF m 49 #[.val (.int c1)] []) n0 h0 cells slots (some (.int 0)) := by
  show oEnd p e s below T (mkF m 49 #[.val (.int c1)] []) n0 h0 cells slots (some (.int 0))
  refine oPre (fun _ => XS.iconst X.here hx rfl (hb hby d1_49)) ?_
  show oEnd p e s below T (mkF m 50 #[.val (.int c1)] [(.int (0 : Int32))]) n0 h0 cells slots (some (.int 0))
  obtain ⟨fs, hr, hrun, hended, hW, hsame⟩ := X.leave (v := some (.int 0)) (fun h => by rw [hret] at h; cases h) hlk
  exact ⟨_, _, retN X hx (t := .boolean) hret (by simp) (hb hby d1_50) hr, hrun, hended, hW, hsame, N, eT⟩
theorem oMapD (l : List Int32) (i : Nat) : (l.map Value.int).getD i (.int 0) = .int (l.getD i 0) := by
  simp only [List.getD, List.getElem?_map]
  cases l[i]? <;> rfl
set_option maxRecDepth 65536 in
set_option maxHeartbeats 40000000 in
theorem oBU_36 {p : Program} {l : Launch} {e : Env} {s : State} {m : MethodId} {args : Array Value} {below : List Frame} {meth : Method} {c : Code} {T : State} {Z : State} {a0 : Array Value} {h0 : Heap} {n0 : Nat} (X : Stand p l e ({ frames := 4, cells := 2, slots := 20, locals := 59 } : Room) s m args below meth c T [] 0 0) (hx : p.tables.exec = Jvm.exec) (hby : c.code = prog_1_method_3_code) (hml : c.maxLocals = 1) (hret : meth.sig.returnType = some .boolean) (hlk : meth.locks = false) (hown : s.vm.findClass "com/example/anansi/anansi/Ascii" = some m.cls) (hZ : Z.Warmed39 s.vm) (hw : ∀ d ∈ tables_1, d.before a0 Z = true) (eT : T.heap = h0) (Z0 : n0 ≤ h0.size) (hsh : s.heap = h0) (hin0 : s.vm.interned = Z.vm.interned) (X00 : Old Z n0 h0) (hh1 : Jvm.Lit.constHeld Z "com/example/anansi/anansi/Ascii" 7) (hcw : Jvm.Lit.compactW.before a0 Z = true) {G1 : Int32} (O2 : Sta Z h0 "java/lang/String" "COMPACT_STRINGS" "Z" (.int G1)) (P5 : ¬ (G1 = (0 : Int32))) (c1 : Int32) {w : Int32} (hv : oU36 c1 = w) : oEndW p e s below T (mkF m 36 #[.val (.int c1)] []) n0 h0 (some (.int w)) := by
  have wS : ∀ a ∈ Bundle.stringAtoms, a.before a0 Z = true := fun d hd => hw d ((by decide +kernel : ∀ d ∈ Bundle.stringAtoms, d ∈ tables_1) d hd)
  have hkeep : ∀ (b : Addr) (cl : Cell), Z.heap[b]? = some cl → s.heap[b]? = some cl := fun b cl q => by rw [hsh]; exact X00.2.2 b cl q
  have I0 : IB Z s.vm [] := ⟨#[], by rw [hin0]; simp, fun q hq => by simp at hq⟩
  have hS0 : s.Since s.vm 0 := (State.WarmedH.refl s).since 0
  have X' : Stand p l e ({ frames := 4, cells := 2, slots := 20, locals := 59 } : Room) (s.setVm s.vm) m args below meth c T [] 0 0 := X
  obtain ⟨a, T1, h1, j1, b, k1, X1, e1, E1, hS1, hj1, hZ1, hown1, A1, C1, V1, K1, -, -, I1, st1⟩ := ldcSV (s := s) (vm0 := s.vm) X' hx hZ hown (hw _ (List.mem_of_getElem? (i := 4) rfl)) wS eT hS0 (Nat.zero_le _) (Fr.nil _) hkeep I0 (by decide) hh1 hcw (vs := oBytes.map Value.int) (z := 4) ⟨by decide, rfl⟩ (by decide) rfl (g := (mkF m 36 #[.val (.int c1)] [])) rfl (hb hby d1_36) (n := 16) (by decide) (by decide) (by decide) (by decide)
  obtain ⟨cl, Ar, -, Sz, -, H0, -⟩ := K1
  have H : ∀ i, i < 4 → cl.slots[i]? = some (.int (oBytes.getD i 0)) := fun i hi => by rw [H0 i (by rw [Sz]; exact hi), oMapD]
  have main : oEnd p e (s.setVm T1.vm) below T (mkF m 36 #[.val (.int c1)] []) n0 h1 (0 + 2) (0 + (16 + 4)) (some (.int w)) := by
    refine oPre st1 ?_
    have hZ : Z.Warmed39 (s.setVm T1.vm).vm := hZ1
    have hown : (s.setVm T1.vm).vm.findClass "com/example/anansi/anansi/Ascii" = some m.cls := hown1
    have O2 := O2.ext E1
    have Z1 : n0 ≤ h1.size := Nat.le_trans Z0 E1.1
    show oEnd p e (s.setVm T1.vm) below T1 (mkF m 38 #[.val (.int c1)] [(.ref a)]) n0 h1 (0 + 2) (0 + (16 + 4)) (some (.int w))
    refine oPre (fun _ => XS.iloadN X1.here hx rfl (hb hby d1_38) rfl) ?_
    show oEnd p e (s.setVm T1.vm) below T1 (mkF m 39 #[.val (.int c1)] [(.int c1), (.ref a)]) n0 h1 (0 + 2) (0 + (16 + 4)) (some (.int w))
    obtain ⟨cq39, kq39, qa39, qb39, qc39⟩ := isOf hZ e1 A1
    obtain ⟨_, _, ⟨T39, L39, k39, n39⟩, -, X39, ⟨Lc39, hQ39, l39, y39, z39⟩, st39⟩ := X1.virtualBack hx (y := (⟨"java/lang/String", "indexOf", "(I)I"⟩ : MethodName)) (z := (⟨"java/lang/String", "indexOf", "(I)I"⟩ : MethodName)) hown (mvT hZ (hw _ (List.mem_of_getElem? (i := 12) rfl))) (mvT hZ (hw _ (List.mem_of_getElem? (i := 13) rfl))) (notFace_of_selects (args := #[]) (mvT hZ (hw _ (List.mem_of_getElem? (i := 15) rfl)))) (mvT hZ (hw _ (List.mem_of_getElem? (i := 15) rfl))) (mvT hZ (hw _ (List.mem_of_getElem? (i := 14) rfl))) (by decide) (backOf (W := 0) (oR2 l Z a0 hw [] a c1 h1 n0 Z1 A1 V1 C1 Ar Sz H O2 P5) hZ (hw _ (List.mem_of_getElem? (i := 16) rfl)) (hw _ (List.mem_of_getElem? (i := 5) rfl)) (by decide) (by decide)) qa39 qc39 (g := (mkF m 39 #[.val (.int c1)] [(.int c1), (.ref a)])) rfl (by rw [hml]; rfl) (Steps.refl _) (argsL := [(.int c1)]) (rest := []) (lenOf pd_3 rfl) rfl (by show 2 * 0 + _ ≤ _; exact Nat.le_of_eq rfl) (hb hby d1_39) (fun _ _ => ⟨rfl, e1, (by decide : 0 + 2 + 0 ≤ _), (by decide : 0 + (16 + 4) + 0 ≤ _)⟩)
    dsimp only [Pt.U, Pt.locs, Pt.cells, Pt.slots] at X39 l39 y39 z39 st39 hQ39
    subst l39
    rw [y39, z39] at X39
    obtain ⟨rfl, N39q, e39⟩ := hQ39
    have N39 := Fr.app (Fr.nil n0) N39q
    refine oPre (fun _ q => st39.trans q) ?_
    by_cases q : oIdx c1 < (0 : Int32)
    · have v : (0 : Int32) = w := (if_pos q).symm.trans hv
      show oEnd p e (s.setVm T1.vm) below T39 (mkF m 42 #[.val (.int c1)] [(.int (oIdx c1))]) n0 h1 (0 + 2) (0 + (16 + 4)) (some (.int w))
      refine oPre (fun _ => XS.ifYes X39.here hx rfl (pc0 := 42) (pc' := 49) rfl (hb hby d1_42) rfl ((if0 _ _).trans ((tlt q).1)) (by decide) (by decide)) ?_
      subst v
      exact oBU_49 X39 hx hby hret hlk e39 N39 c1
    · have v : (1 : Int32) = w := (if_neg q).symm.trans hv
      show oEnd p e (s.setVm T1.vm) below T39 (mkF m 42 #[.val (.int c1)] [(.int (oIdx c1))]) n0 h1 (0 + 2) (0 + (16 + 4)) (some (.int w))
      refine oPre (fun _ => XS.ifNo X39.here hx rfl (hb hby d1_42) rfl ((if0 _ _).trans ((flt q).1))) ?_
      subst v
      exact oBU_45 X39 hx hby hret hlk e39 N39 c1
  obtain ⟨t, L, hs, hrun, hended, hW, hsame, hN, ht⟩ := main
  obtain ⟨q1, q2, q3⟩ := hS1.ended (U := t) hW (by rw [ht]; exact hj1) hsame
  exact ⟨t, L, hs, hrun, hended, ⟨⟨_, rfl⟩, q1, q2, q3.mono (by decide) (by decide)⟩, hN, by rw [ht]; exact E1.1⟩
set_option maxRecDepth 65536 in
set_option maxHeartbeats 40000000 in
theorem oBU_24 {p : Program} {l : Launch} {e : Env} {s : State} {m : MethodId} {args : Array Value} {below : List Frame} {meth : Method} {c : Code} {T : State} {Z : State} {a0 : Array Value} {h0 : Heap} {n0 : Nat} (X : Stand p l e ({ frames := 4, cells := 2, slots := 20, locals := 59 } : Room) s m args below meth c T [] 0 0) (hx : p.tables.exec = Jvm.exec) (hby : c.code = prog_1_method_3_code) (hml : c.maxLocals = 1) (hret : meth.sig.returnType = some .boolean) (hlk : meth.locks = false) (hown : s.vm.findClass "com/example/anansi/anansi/Ascii" = some m.cls) (hZ : Z.Warmed39 s.vm) (hw : ∀ d ∈ tables_1, d.before a0 Z = true) (eT : T.heap = h0) (Z0 : n0 ≤ h0.size) (hsh : s.heap = h0) (hin0 : s.vm.interned = Z.vm.interned) (X00 : Old Z n0 h0) (hh1 : Jvm.Lit.constHeld Z "com/example/anansi/anansi/Ascii" 7) (hcw : Jvm.Lit.compactW.before a0 Z = true) {G1 : Int32} (O2 : Sta Z h0 "java/lang/String" "COMPACT_STRINGS" "Z" (.int G1)) (P5 : ¬ (G1 = (0 : Int32))) (c1 : Int32) {w : Int32} (hv : oU24 c1 = w) : oEndW p e s below T (mkF m 24 #[.val (.int c1)] []) n0 h0 (some (.int w)) := by
  show oEndW p e s below T (mkF m 24 #[.val (.int c1)] []) n0 h0 (some (.int w))
  refine oPreW (fun _ => XS.iloadN X.here hx rfl (hb hby d1_24) rfl) ?_
  show oEndW p e s below T (mkF m 25 #[.val (.int c1)] [(.int c1)]) n0 h0 (some (.int w))
  refine oPreW (fun _ => XS.bipush X.here hx rfl (hb hby d1_25)) ?_
  by_cases q1 : c1 < (48 : Int32)
  · have v : oU36 c1 = w := (if_pos q1).symm.trans hv
    show oEndW p e s below T (mkF m 27 #[.val (.int c1)] [(.int (48 : Int32)), (.int c1)]) n0 h0 (some (.int w))
    refine oPreW (fun _ => XS.icmpYes X.here hx rfl (pc0 := 27) (pc' := 36) rfl (hb hby d1_27) rfl (((tlt q1).1)) (by decide) (by decide)) ?_
    exact oBU_36 X hx hby hml hret hlk hown hZ hw eT Z0 hsh hin0 X00 hh1 hcw O2 P5 c1 v
  · have v : (if (57 : Int32) < c1 then oU36 c1 else 1) = w := (if_neg q1).symm.trans hv
    show oEndW p e s below T (mkF m 27 #[.val (.int c1)] [(.int (48 : Int32)), (.int c1)]) n0 h0 (some (.int w))
    refine oPreW (fun _ => XS.icmpNo X.here hx rfl (hb hby d1_27) rfl (((flt q1).1))) ?_
    show oEndW p e s below T (mkF m 30 #[.val (.int c1)] []) n0 h0 (some (.int w))
    refine oPreW (fun _ => XS.iloadN X.here hx rfl (hb hby d1_30) rfl) ?_
    show oEndW p e s below T (mkF m 31 #[.val (.int c1)] [(.int c1)]) n0 h0 (some (.int w))
    refine oPreW (fun _ => XS.bipush X.here hx rfl (hb hby d1_31)) ?_
    by_cases q2 : (57 : Int32) < c1
    · have v2 : oU36 c1 = w := (if_pos q2).symm.trans v
      show oEndW p e s below T (mkF m 33 #[.val (.int c1)] [(.int (57 : Int32)), (.int c1)]) n0 h0 (some (.int w))
      refine oPreW (fun _ => XS.icmpNo X.here hx rfl (hb hby d1_33) rfl (((tlt q2).2.2.2))) ?_
      exact oBU_36 X hx hby hml hret hlk hown hZ hw eT Z0 hsh hin0 X00 hh1 hcw O2 P5 c1 v2
    · have v2 : (1 : Int32) = w := (if_neg q2).symm.trans v
      show oEndW p e s below T (mkF m 33 #[.val (.int c1)] [(.int (57 : Int32)), (.int c1)]) n0 h0 (some (.int w))
      refine oPreW (fun _ => XS.icmpYes X.here hx rfl (pc0 := 33) (pc' := 45) rfl (hb hby d1_33) rfl (((flt q2).2.2.2)) (by decide) (by decide)) ?_
      subst v2
      exact oWide (oBU_45 X hx hby hret hlk eT (Fr.nil n0) c1)
set_option maxRecDepth 65536 in
set_option maxHeartbeats 40000000 in
theorem oBU_12 {p : Program} {l : Launch} {e : Env} {s : State} {m : MethodId} {args : Array Value} {below : List Frame} {meth : Method} {c : Code} {T : State} {Z : State} {a0 : Array Value} {h0 : Heap} {n0 : Nat} (X : Stand p l e ({ frames := 4, cells := 2, slots := 20, locals := 59 } : Room) s m args below meth c T [] 0 0) (hx : p.tables.exec = Jvm.exec) (hby : c.code = prog_1_method_3_code) (hml : c.maxLocals = 1) (hret : meth.sig.returnType = some .boolean) (hlk : meth.locks = false) (hown : s.vm.findClass "com/example/anansi/anansi/Ascii" = some m.cls) (hZ : Z.Warmed39 s.vm) (hw : ∀ d ∈ tables_1, d.before a0 Z = true) (eT : T.heap = h0) (Z0 : n0 ≤ h0.size) (hsh : s.heap = h0) (hin0 : s.vm.interned = Z.vm.interned) (X00 : Old Z n0 h0) (hh1 : Jvm.Lit.constHeld Z "com/example/anansi/anansi/Ascii" 7) (hcw : Jvm.Lit.compactW.before a0 Z = true) {G1 : Int32} (O2 : Sta Z h0 "java/lang/String" "COMPACT_STRINGS" "Z" (.int G1)) (P5 : ¬ (G1 = (0 : Int32))) (c1 : Int32) {w : Int32} (hv : oU12 c1 = w) : oEndW p e s below T (mkF m 12 #[.val (.int c1)] []) n0 h0 (some (.int w)) := by
  show oEndW p e s below T (mkF m 12 #[.val (.int c1)] []) n0 h0 (some (.int w))
  refine oPreW (fun _ => XS.iloadN X.here hx rfl (hb hby d1_12) rfl) ?_
  show oEndW p e s below T (mkF m 13 #[.val (.int c1)] [(.int c1)]) n0 h0 (some (.int w))
  refine oPreW (fun _ => XS.bipush X.here hx rfl (hb hby d1_13)) ?_
  by_cases q1 : c1 < (65 : Int32)
  · have v : oU24 c1 = w := (if_pos q1).symm.trans hv
    show oEndW p e s below T (mkF m 15 #[.val (.int c1)] [(.int (65 : Int32)), (.int c1)]) n0 h0 (some (.int w))
    refine oPreW (fun _ => XS.icmpYes X.here hx rfl (pc0 := 15) (pc' := 24) rfl (hb hby d1_15) rfl (((tlt q1).1)) (by decide) (by decide)) ?_
    exact oBU_24 X hx hby hml hret hlk hown hZ hw eT Z0 hsh hin0 X00 hh1 hcw O2 P5 c1 v
  · have v : (if (90 : Int32) < c1 then oU24 c1 else 1) = w := (if_neg q1).symm.trans hv
    show oEndW p e s below T (mkF m 15 #[.val (.int c1)] [(.int (65 : Int32)), (.int c1)]) n0 h0 (some (.int w))
    refine oPreW (fun _ => XS.icmpNo X.here hx rfl (hb hby d1_15) rfl (((flt q1).1))) ?_
    show oEndW p e s below T (mkF m 18 #[.val (.int c1)] []) n0 h0 (some (.int w))
    refine oPreW (fun _ => XS.iloadN X.here hx rfl (hb hby d1_18) rfl) ?_
    show oEndW p e s below T (mkF m 19 #[.val (.int c1)] [(.int c1)]) n0 h0 (some (.int w))
    refine oPreW (fun _ => XS.bipush X.here hx rfl (hb hby d1_19)) ?_
    by_cases q2 : (90 : Int32) < c1
    · have v2 : oU24 c1 = w := (if_pos q2).symm.trans v
      show oEndW p e s below T (mkF m 21 #[.val (.int c1)] [(.int (90 : Int32)), (.int c1)]) n0 h0 (some (.int w))
      refine oPreW (fun _ => XS.icmpNo X.here hx rfl (hb hby d1_21) rfl (((tlt q2).2.2.2))) ?_
      exact oBU_24 X hx hby hml hret hlk hown hZ hw eT Z0 hsh hin0 X00 hh1 hcw O2 P5 c1 v2
    · have v2 : (1 : Int32) = w := (if_neg q2).symm.trans v
      show oEndW p e s below T (mkF m 21 #[.val (.int c1)] [(.int (90 : Int32)), (.int c1)]) n0 h0 (some (.int w))
      refine oPreW (fun _ => XS.icmpYes X.here hx rfl (pc0 := 21) (pc' := 45) rfl (hb hby d1_21) rfl (((flt q2).2.2.2)) (by decide) (by decide)) ?_
      subst v2
      exact oWide (oBU_45 X hx hby hret hlk eT (Fr.nil n0) c1)
set_option maxRecDepth 65536 in
set_option maxHeartbeats 40000000 in
theorem oBU_0 {p : Program} {l : Launch} {e : Env} {s : State} {m : MethodId} {args : Array Value} {below : List Frame} {meth : Method} {c : Code} {T : State} {Z : State} {a0 : Array Value} {h0 : Heap} {n0 : Nat} (X : Stand p l e ({ frames := 4, cells := 2, slots := 20, locals := 59 } : Room) s m args below meth c T [] 0 0) (hx : p.tables.exec = Jvm.exec) (hby : c.code = prog_1_method_3_code) (hml : c.maxLocals = 1) (hret : meth.sig.returnType = some .boolean) (hlk : meth.locks = false) (hown : s.vm.findClass "com/example/anansi/anansi/Ascii" = some m.cls) (hZ : Z.Warmed39 s.vm) (hw : ∀ d ∈ tables_1, d.before a0 Z = true) (eT : T.heap = h0) (Z0 : n0 ≤ h0.size) (hsh : s.heap = h0) (hin0 : s.vm.interned = Z.vm.interned) (X00 : Old Z n0 h0) (hh1 : Jvm.Lit.constHeld Z "com/example/anansi/anansi/Ascii" 7) (hcw : Jvm.Lit.compactW.before a0 Z = true) {G1 : Int32} (O2 : Sta Z h0 "java/lang/String" "COMPACT_STRINGS" "Z" (.int G1)) (P5 : ¬ (G1 = (0 : Int32))) (c1 : Int32) {w : Int32} (hv : oU0 c1 = w) : oEndW p e s below T (mkF m 0 #[.val (.int c1)] []) n0 h0 (some (.int w)) := by
  show oEndW p e s below T (mkF m 0 #[.val (.int c1)] []) n0 h0 (some (.int w))
  refine oPreW (fun _ => XS.iloadN X.here hx rfl (hb hby d1_0) rfl) ?_
  show oEndW p e s below T (mkF m 1 #[.val (.int c1)] [(.int c1)]) n0 h0 (some (.int w))
  refine oPreW (fun _ => XS.bipush X.here hx rfl (hb hby d1_1)) ?_
  by_cases q1 : c1 < (97 : Int32)
  · have v : oU12 c1 = w := (if_pos q1).symm.trans hv
    show oEndW p e s below T (mkF m 3 #[.val (.int c1)] [(.int (97 : Int32)), (.int c1)]) n0 h0 (some (.int w))
    refine oPreW (fun _ => XS.icmpYes X.here hx rfl (pc0 := 3) (pc' := 12) rfl (hb hby d1_3) rfl (((tlt q1).1)) (by decide) (by decide)) ?_
    exact oBU_12 X hx hby hml hret hlk hown hZ hw eT Z0 hsh hin0 X00 hh1 hcw O2 P5 c1 v
  · have v : (if (122 : Int32) < c1 then oU12 c1 else 1) = w := (if_neg q1).symm.trans hv
    show oEndW p e s below T (mkF m 3 #[.val (.int c1)] [(.int (97 : Int32)), (.int c1)]) n0 h0 (some (.int w))
    refine oPreW (fun _ => XS.icmpNo X.here hx rfl (hb hby d1_3) rfl (((flt q1).1))) ?_
    show oEndW p e s below T (mkF m 6 #[.val (.int c1)] []) n0 h0 (some (.int w))
    refine oPreW (fun _ => XS.iloadN X.here hx rfl (hb hby d1_6) rfl) ?_
    show oEndW p e s below T (mkF m 7 #[.val (.int c1)] [(.int c1)]) n0 h0 (some (.int w))
    refine oPreW (fun _ => XS.bipush X.here hx rfl (hb hby d1_7)) ?_
    by_cases q2 : (122 : Int32) < c1
    · have v2 : oU12 c1 = w := (if_pos q2).symm.trans v
      show oEndW p e s below T (mkF m 9 #[.val (.int c1)] [(.int (122 : Int32)), (.int c1)]) n0 h0 (some (.int w))
      refine oPreW (fun _ => XS.icmpNo X.here hx rfl (hb hby d1_9) rfl (((tlt q2).2.2.2))) ?_
      exact oBU_12 X hx hby hml hret hlk hown hZ hw eT Z0 hsh hin0 X00 hh1 hcw O2 P5 c1 v2
    · have v2 : (1 : Int32) = w := (if_neg q2).symm.trans v
      show oEndW p e s below T (mkF m 9 #[.val (.int c1)] [(.int (122 : Int32)), (.int c1)]) n0 h0 (some (.int w))
      refine oPreW (fun _ => XS.icmpYes X.here hx rfl (pc0 := 9) (pc' := 45) rfl (hb hby d1_9) rfl (((flt q2).2.2.2)) (by decide) (by decide)) ?_
      subst v2
      exact oWide (oBU_45 X hx hby hret hlk eT (Fr.nil n0) c1)
theorem pn_1 : plainName "com/example/anansi/anansi/Ascii" = true := by first | (simp [plainName, overriddenIn]; done) | decide +kernel
theorem ef_1 (m : MethodId) (c1 : Int32) : entryFrame m #[(.int c1)] 1 = mkF m 0 #[.val (.int c1)] [] := by first | (simp [entryFrame, mkF, argsToLocals, Value.category]; done) | rfl
def oQU (c1 : Int32) (h0 : Heap) (n0 : Nat) (v : Option Value) (h : Heap) (L : List Loc) : Prop := v = some (.int (oU0 c1)) ∧ Fr n0 L ∧ h0.size ≤ h.size
set_option maxRecDepth 65536 in
set_option maxHeartbeats 40000000 in
theorem oRU (l : Launch) (Z : State) (a0 : Array Value) (hw : ∀ d ∈ tables_1, d.before a0 Z = true) (ws : List Jvm.Cond) (c1 : Int32) (h0 : Heap) (n0 : Nat) (Z0 : n0 ≤ h0.size) (X00 : Old Z n0 h0) (hh1 : Jvm.Lit.constHeld Z "com/example/anansi/anansi/Ascii" 7) (hcw : Jvm.Lit.compactW.before a0 Z = true) {G1 : Int32} (O2 : Sta Z h0 "java/lang/String" "COMPACT_STRINGS" "Z" (.int G1)) (P5 : ¬ (G1 = (0 : Int32))) :
    MetFree l (⟨"com/example/anansi/anansi/Ascii", "isUnreserved", "(C)Z"⟩ : MethodName) (head1 (Jvm.Cond.code (⟨"com/example/anansi/anansi/Ascii", "isUnreserved", "(C)Z"⟩ : MethodName) prog_1_method_3_code 1 (some .boolean) :: ws) ({ frames := 4, cells := 2, slots := 20, locals := 59 } : Room)) (fun a U => a = #[(.int c1)] ∧ Z.Warmed39 U.vm ∧ U.heap = h0 ∧ U.vm.interned = Z.vm.interned) (fun _ _ _ _ _ => True) (fun _ U o U' => ∃ v L, o = .returned v ∧ oQU c1 h0 n0 v U'.heap L ∧ ReturnedEndW U o U' L ({ frames := 4, cells := 2, slots := 20, locals := 59 } : Room).cells ({ frames := 4, cells := 2, slots := 20, locals := 59 } : Room).slots) := by
  refine MetFree.of_bodySF (plainFor_of_name pn_1) hisR ?_
  intro p e s m args below meth c s₁ Bd hml0 hP hK
  obtain ⟨rfl, hZ, hh, hin0⟩ := hP
  have hown : s.vm.findClass "com/example/anansi/anansi/Ascii" = some m.cls := findClass_of_methodNamed Bd.named
  have X0 : Stand p l e ({ frames := 4, cells := 2, slots := 20, locals := 59 } : Room) s m #[(.int c1)] below meth c s₁ [] 0 0 := Stand.of_body Bd
  have e0 : s₁.heap = h0 := by rw [← hh, Bd.state]; rfl
  obtain ⟨t, L, hs, hrun, hended, hW, hN, ht⟩ := oBU_0 X0 Bd.exec Bd.bytes hml0 Bd.returns Bd.notSynchronized hown hZ hw e0 Z0 hh hin0 X00 hh1 hcw O2 P5 c1 rfl
  exact ⟨t, _, castTop (ef_1 m c1) hs, hrun, hended, _, L, rfl, ⟨rfl, hN, ht⟩, hW⟩
/-- the contract of a callee that may intern, where nothing has been interned since the case's start -/
theorem oBackS {p : Program} {l : Launch} {e : Env} {R : Room} {s : State} {args : Array Value} {below : List Frame} {Z : State} {a0 : Array Value} {h : Heap} {y : MethodName} {bytes : ByteArray} {maxL : Nat} {ret : Option FieldType} {rm : Room} {len W : Nat} {as' : Array Value} {Q : Option Value → Heap → List Loc → Prop}
    (hM : MetFree l y (head1 [Jvm.Cond.code y bytes maxL ret] rm) (fun a U => a = as' ∧ Z.Warmed39 U.vm ∧ U.heap = h ∧ U.vm.interned = Z.vm.interned) (fun _ _ _ _ _ => True) (fun _ U o U' => ∃ v L, o = .returned v ∧ Q v U'.heap L ∧ ReturnedEndW U o U' L rm.cells rm.slots))
    (hi : s.vm.interned = Z.vm.interned) (hZ : Z.Warmed39 s.vm) (wc : (Jvm.Cond.code y bytes maxL ret).before a0 Z = true) (wz : (Jvm.Cond.initialized y.cls).before a0 Z = true) (hf : rm.frames + 1 ≤ R.frames) (hl : W + (maxL + 11) + rm.locals ≤ R.locals) :
    BackS l R p e below s args y len W (fun A a => a = as' ∧ A.U.heap = h ∧ A.cells + rm.cells ≤ R.cells ∧ A.slots + rm.slots ≤ R.slots)
      (fun A _ v B => ∃ L, Q v B.U.heap L ∧ B.locs = A.locs ++ L ∧ B.cells = A.cells + rm.cells ∧ B.slots = A.slots + rm.slots) :=
  BackS.of_freeW (bytes := bytes) (maxL := maxL) (ret := ret) (E := fun _ _ o t L k n => k = rm.cells ∧ n = rm.slots ∧ ∃ v, o = .returned v ∧ Q v t.heap L) hM hf hl
    (fun m meth c A a Y hp => have hU : Z.Warmed39 A.U.vm := wtrans hZ Y.warmed
      ⟨by show (Jvm.Cond.and _ .tt).before a A.U = true; rw [Cond.before_and, mv hU wc]; rfl, mv hU wc, mv hU wz, hp.2.2.1, hp.2.2.2⟩)
    (fun m meth c A a g mk Y hp => ⟨hp.1, wtrans hZ Y.warmed, hp.2.1, Y.warmed.interned_eq.trans hi⟩) (fun _ _ _ _ _ _ _ _ _ => trivial)
    (fun _ _ _ _ ⟨v, L, h1, h2, h3⟩ => ⟨L, _, _, h3, rfl, rfl, v, h1, h2⟩)
    (fun m meth c A a g mk v t L k n Y hp _ _ ⟨e1, e2, v', e3, e4⟩ => by cases e3; subst e1 e2; exact ⟨L, e4, rfl, rfl, rfl⟩)
theorem oLt {c k : Int32} {n : Int} (hk : k.toInt = n) (h : c.toInt < n) : c < k := by rw [Int32.lt_iff_toInt_lt, hk]; exact h
theorem oNlt {c k : Int32} {n : Int} (hk : k.toInt = n) (h : n ≤ c.toInt) : ¬ c < k := by rw [Int32.lt_iff_toInt_lt, hk]; omega
theorem oGt {c k : Int32} {n : Int} (hk : k.toInt = n) (h : n < c.toInt) : k < c := by rw [Int32.lt_iff_toInt_lt, hk]; exact h
theorem oNgt {c k : Int32} {n : Int} (hk : k.toInt = n) (h : c.toInt ≤ n) : ¬ k < c := by rw [Int32.lt_iff_toInt_lt, hk]; omega
theorem oEq {c k : Int32} {n : Int} (hk : k.toInt = n) (h : c.toInt = n) : c = k := Int32.toInt_inj.mp (h.trans hk.symm)
theorem oNe {c k : Int32} {n : Int} (hk : k.toInt = n) (h : c.toInt ≠ n) : ¬ c = k := fun q => h (by rw [q, hk])
theorem oSmall : ∀ n : Fin 256, oU0 (Int32.ofInt (n.val : Int)) = oF12_0 (Int32.ofInt (n.val : Int)) := by decide +kernel
theorem oAgree (c : Int32) (h0 : 0 ≤ c.toInt) : oU0 c = oF12_0 c := by
  by_cases h1 : c.toInt < 256
  · have q := oSmall ⟨c.toInt.toNat, by omega⟩
    have e : ((c.toInt.toNat : Nat) : Int) = c.toInt := Int.toNat_of_nonneg (by omega)
    simp only [e, Int32.ofInt_toInt] at q
    exact q
  · have hge : 256 ≤ c.toInt := by omega
    have eu : oU0 c = 0 := by
      rw [oU0, if_neg (oNlt (c := c) (k := (97 : Int32)) (n := 97) (by decide) (by omega)), if_pos (oGt (c := c) (k := (122 : Int32)) (n := 122) (by decide) (by omega)), oU12, if_neg (oNlt (c := c) (k := (65 : Int32)) (n := 65) (by decide) (by omega)), if_pos (oGt (c := c) (k := (90 : Int32)) (n := 90) (by decide) (by omega)), oU24, if_neg (oNlt (c := c) (k := (48 : Int32)) (n := 48) (by decide) (by omega)), if_pos (oGt (c := c) (k := (57 : Int32)) (n := 57) (by decide) (by omega)), oU36]
      have ei : oIdx c = -1 := by
        have ec : oF8_0 c = 0 := by
          rw [oF8_0, if_neg (oNlt (c := c) (k := (0 : Int32)) (n := 0) (by decide) (by omega)), if_pos (oGt (c := c) (k := (255 : Int32)) (n := 255) (by decide) (by omega)), oF8_15, oF8_16]
          decide
        rw [oIdx, if_pos ec]
      rw [ei]
      decide
    have ho := (c_or0 c (32 : Int32) h0 (by decide)).1
    have hsub := c_isub c (48 : Int32)
    have h48 : (48 : Int32).toInt = 48 := by decide
    have hr := rng32 (c - (48 : Int32))
    have hc := rng32 c
    rw [h48] at hsub
    have hs2 : (c - (48 : Int32)).toInt = c.toInt - 48 := by omega
    have ee : oF12_0 c = 0 := by
      rw [oF12_0, if_neg (oNlt (c := c ||| (32 : Int32)) (k := (97 : Int32)) (n := 97) (by decide) (by omega)), if_pos (oGt (c := c ||| (32 : Int32)) (k := (122 : Int32)) (n := 122) (by decide) (by omega)), oF12_21, oF12_22, if_neg (oNlt (c := c - (48 : Int32)) (k := (0 : Int32)) (n := 0) (by decide) (by omega)), if_neg (oNlt (c := c - (48 : Int32)) (k := (10 : Int32)) (n := 10) (by decide) (by omega)), oF12_42, oF12_43, if_neg (oNe (c := c) (k := (45 : Int32)) (n := 45) (by decide) (by omega)), if_neg (oNe (c := c) (k := (46 : Int32)) (n := 46) (by decide) (by omega)), if_neg (oNe (c := c) (k := (95 : Int32)) (n := 95) (by decide) (by omega)), if_neg (oNe (c := c) (k := (126 : Int32)) (n := 126) (by decide) (by omega)), oF12_74, if_pos rfl, if_pos rfl, if_pos rfl, oF12_95]
      decide
    rw [eu, ee]
theorem oI2c_nonneg (x : Int32) : 0 ≤ (oI2c x).toInt := (c_i2c x).2.1
set_option maxRecDepth 65536 in
set_option maxHeartbeats 40000000 in
theorem oTail {p : Program} {l : Launch} {e : Env} {s : State} {m : MethodId} {args : Array Value} {below : List Frame} {meth : Method} {c : Code} {T : State} {locs : List Loc} {cells slots : Nat} {Z : State} {a0 : Array Value} {h0 : Heap} {n0 : Nat} (X : Stand p l e room_1 s m args below meth c T locs cells slots) (hx : p.tables.exec = Jvm.exec) (hby : c.code = code) (hml : c.maxLocals = 2) (hret : meth.sig.returnType = some .boolean) (hlk : meth.locks = false) (hown : s.vm.findClass "com/example/anansi/anansi/AsciiIsUnreservedPinLaw" = some m.cls) (hZ : Z.Warmed39 s.vm) (hw : ∀ d ∈ tables_1, d.before a0 Z = true) (eT : T.heap = h0) (N : Fr n0 locs) (Z0 : n0 ≤ h0.size) (hcs : cells ≤ room_1.cells) (hss : slots ≤ room_1.slots) (p1 k : Int32) (hk : 0 ≤ k.toInt) : oEnd p e s below T (mkF m 7 #[.val (.int p1), .val (.int k)] [(.int (oU0 k))]) n0 h0 cells slots (some (.int 1)) := by
  show oEnd p e s below T (mkF m 7 #[.val (.int p1), .val (.int k)] [(.int (oU0 k))]) n0 h0 cells slots (some (.int 1))
  refine oPre (fun _ => XS.iloadN X.here hx rfl (hb hby at_7) rfl) ?_
  show oEnd p e s below T (mkF m 8 #[.val (.int p1), .val (.int k)] [(.int k), (.int (oU0 k))]) n0 h0 cells slots (some (.int 1))
  obtain ⟨_, _, ⟨T8, L8, k8, n8⟩, -, X8, ⟨Lc8, hQ8, l8, y8, z8⟩, st8⟩ := Jvm.LawKit.callS X hx (y := (⟨"com/example/anansi/anansi/AsciiIsUnreservedPinLaw", "expected", "(C)Z"⟩ : MethodName)) hown (mvT hZ (hw _ (List.mem_of_getElem? (i := 57) rfl))) (mvT hZ (hw _ (List.mem_of_getElem? (i := 58) rfl))) (mvT hZ (hw _ (List.mem_of_getElem? (i := 59) rfl))) (mvT hZ (hw _ (List.mem_of_getElem? (i := 60) rfl))) (by decide) (backOf (W := 1) (oR12 l Z a0 hw [] k h0 n0 Z0) hZ (hw _ (List.mem_of_getElem? (i := 60) rfl)) (hw _ (List.mem_of_getElem? (i := 59) rfl)) (by decide) (by decide)) (g := (mkF m 8 #[.val (.int p1), .val (.int k)] [(.int k), (.int (oU0 k))])) rfl (by rw [hml]; rfl) (argsL := [(.int k)]) (rest := [(.int (oU0 k))]) (lenOf pd_7 rfl) rfl (by show 2 * 0 + _ ≤ _; exact Nat.le_of_eq rfl) (hb hby at_8) (fun _ _ => ⟨rfl, eT, hcs, hss⟩)
  dsimp only [Pt.U, Pt.locs, Pt.cells, Pt.slots] at X8 l8 y8 z8 st8 hQ8
  subst l8
  rw [y8, z8] at X8
  obtain ⟨rfl, N8q, e8⟩ := hQ8
  have N8 := Fr.app N N8q
  refine oPre st8 ?_
  show oEnd p e s below T8 (mkF m 11 #[.val (.int p1), .val (.int k)] [(.int (oF12_0 k)), (.int (oU0 k))]) n0 h0 cells slots (some (.int 1))
  refine oPre (fun _ => XS.icmpNo X8.here hx rfl (hb hby at_11) rfl (((teq (oAgree k hk)).2))) ?_
  show oEnd p e s below T8 (mkF m 14 #[.val (.int p1), .val (.int k)] []) n0 h0 cells slots (some (.int 1))
  refine oPre (fun _ => XS.iconst X8.here hx rfl (hb hby at_14)) ?_
  show oEnd p e s below T8 (mkF m 15 #[.val (.int p1), .val (.int k)] [(.int (1 : Int32))]) n0 h0 cells slots (some (.int 1))
  refine oPre (fun _ => XS.goto X8.here hx rfl (pc0 := 15) (pc' := 19) rfl (hb hby at_15) (by decide) (by decide)) ?_
  show oEnd p e s below T8 (mkF m 19 #[.val (.int p1), .val (.int k)] [(.int (1 : Int32))]) n0 h0 cells slots (some (.int 1))
  obtain ⟨fs, hr, hrun, hended, hW, hsame⟩ := X8.leave (v := some (.int 1)) (fun h => by rw [hret] at h; cases h) hlk
  exact ⟨_, _, retN X8 hx (t := .boolean) hret (by simp) (hb hby at_19) hr, hrun, hended, hW, hsame, N8, e8⟩
theorem pn_0 : plainName "com/example/anansi/anansi/AsciiIsUnreservedPinLaw" = true := by first | (simp [plainName, overriddenIn]; done) | decide +kernel
theorem ef_0 (m : MethodId) (p1 : Int32) : entryFrame m #[(.int p1)] maxLocals = mkF m 0 #[.val (.int p1), .unset] [] := by first | (simp [entryFrame, mkF, argsToLocals, Value.category, maxLocals]; done) | rfl
set_option maxRecDepth 65536 in
set_option maxHeartbeats 40000000 in
theorem oR0 (l : Launch) (Z : State) (a0 : Array Value) (hw : ∀ d ∈ tables_1, d.before a0 Z = true) (ws : List Jvm.Cond) (p1 : Int32) (hh1 : Jvm.Lit.constHeld Z "com/example/anansi/anansi/Ascii" 7) (hcw : Jvm.Lit.compactW.before a0 Z = true) {G1 : Int32} (O2 : Sta Z Z.heap "java/lang/String" "COMPACT_STRINGS" "Z" (.int G1)) (P5 : ¬ (G1 = (0 : Int32))) :
    MetFree l x (head1 (Jvm.Cond.code x code maxLocals ret :: ws) room_1) (fun a U => a = #[(.int p1)] ∧ U.vm = Z.vm ∧ U.heap = Z.heap) (fun _ _ _ _ _ => True) (fun _ U o U' => ∃ v L, o = .returned v ∧ (v = some (.int 1) ∧ Fr Z.heap.size L) ∧ ReturnedEndW U o U' L room_1.cells room_1.slots) := by
  refine MetFree.of_bodySF (plainFor_of_name pn_0) hisR ?_
  intro p e s m args below meth c s₁ Bd hml0 hP hK
  obtain ⟨rfl, hvm, hh⟩ := hP
  have hx := Bd.exec
  have hby := Bd.bytes
  have hml : c.maxLocals = 2 := hml0
  have hown : s.vm.findClass "com/example/anansi/anansi/AsciiIsUnreservedPinLaw" = some m.cls := findClass_of_methodNamed Bd.named
  have X0 : Stand p l e room_1 s m #[(.int p1)] below meth c s₁ [] 0 0 := Stand.of_body Bd
  have e0 : s₁.heap = Z.heap := by rw [← hh, Bd.state]; rfl
  have hZ : Z.Warmed39 s.vm := by rw [hvm]; exact State.Warmed39.refl Z
  obtain ⟨_, _, ⟨T4, L4, k4, n4⟩, -, X4, hS4, hg4, ⟨Lc4, hQ4, l4, y4, z4⟩, st4⟩ := callSS X0 hx (y := (⟨"com/example/anansi/anansi/Ascii", "isUnreserved", "(C)Z"⟩ : MethodName)) hown (mvT hZ (hw _ (List.mem_of_getElem? (i := 0) rfl))) (mvT hZ (hw _ (List.mem_of_getElem? (i := 1) rfl))) (mvT hZ (hw _ (List.mem_of_getElem? (i := 2) rfl))) (mvT hZ (hw _ (List.mem_of_getElem? (i := 3) rfl))) (by decide) (oBackS (W := 0) (oRU l Z a0 hw [] (oI2c p1) Z.heap Z.heap.size (Nat.le_refl _) (Old.start Z) hh1 hcw O2 P5) (by rw [hvm]) hZ (hw _ (List.mem_of_getElem? (i := 3) rfl)) (hw _ (List.mem_of_getElem? (i := 2) rfl)) (by decide) (by decide)) (g := (mkF m 4 #[.val (.int p1), .val (.int (oI2c p1))] [(.int (oI2c p1))])) rfl (by rw [hml]; rfl) (argsL := [(.int (oI2c p1))]) (rest := []) (lenOf pd_7 rfl) rfl (by show 2 * 0 + _ ≤ _; exact Nat.le_of_eq rfl) (hb hby at_4) (fun _ _ => ⟨rfl, e0, (by decide : 0 + 2 ≤ _), (by decide : 0 + 20 ≤ _)⟩)
  dsimp only [Pt.U, Pt.locs, Pt.cells, Pt.slots] at X4 l4 y4 z4 st4 hQ4 hS4 hg4
  subst l4
  rw [y4, z4] at X4
  obtain ⟨rfl, N4q, e4⟩ := hQ4
  have N4 := Fr.app (Fr.nil Z.heap.size) N4q
  have main : oEnd p e (s.setVm T4.vm) below s₁ (mkF m 0 #[.val (.int p1), .unset] []) Z.heap.size T4.heap (0 + 2) (0 + 20) (some (.int 1)) := by
    show oEnd p e (s.setVm T4.vm) below s₁ (mkF m 0 #[.val (.int p1), .unset] []) Z.heap.size T4.heap (0 + 2) (0 + 20) (some (.int 1))
    refine oPre (fun _ => XS.iloadN X0.here hx rfl (hb hby at_0) rfl) ?_
    show oEnd p e (s.setVm T4.vm) below s₁ (mkF m 1 #[.val (.int p1), .unset] [(.int p1)]) Z.heap.size T4.heap (0 + 2) (0 + 20) (some (.int 1))
    refine oPre (fun _ => XS.i2c X0.here hx rfl (hb hby at_1) rfl) ?_
    show oEnd p e (s.setVm T4.vm) below s₁ (mkF m 2 #[.val (.int p1), .unset] [(.int (oI2c p1))]) Z.heap.size T4.heap (0 + 2) (0 + 20) (some (.int 1))
    refine oPre (fun _ => XS.istoreN X0.here hx rfl (hb hby at_2) rfl (l' := #[.val (.int p1), .val (.int (oI2c p1))]) rfl) ?_
    show oEnd p e (s.setVm T4.vm) below s₁ (mkF m 3 #[.val (.int p1), .val (.int (oI2c p1))] []) Z.heap.size T4.heap (0 + 2) (0 + 20) (some (.int 1))
    refine oPre (fun _ => XS.iloadN X0.here hx rfl (hb hby at_3) rfl) ?_
    show oEnd p e (s.setVm T4.vm) below s₁ (mkF m 4 #[.val (.int p1), .val (.int (oI2c p1))] [(.int (oI2c p1))]) Z.heap.size T4.heap (0 + 2) (0 + 20) (some (.int 1))
    refine oPre (fun _ q => st4.trans q) ?_
    exact oTail X4 hx hby hml Bd.returns Bd.notSynchronized ((hS4.1.alike.findClass _ _).trans hown) (State.Warmed39.trans hZ hS4.1) hw rfl N4 e4 (by decide) (by decide) p1 (oI2c p1) (oI2c_nonneg p1)
  obtain ⟨t, L, hs, hrun, hended, hW, hsame, hN, ht⟩ := main
  obtain ⟨q1, q2, q3⟩ := hS4.ended (U := t) hW (by rw [ht]; exact Nat.le_refl _) hsame
  exact ⟨t, _, castTop (ef_0 m p1) hs, hrun, hended, _, L, rfl, ⟨rfl, hN⟩, ⟨_, rfl⟩, q1, q2, q3.mono (by decide) (by decide)⟩
set_option maxRecDepth 65536 in
set_option maxHeartbeats 4000000 in
theorem comes_1 {Post : Tables → Env → Array Value → State → Outcome → State → Prop} (hpost : ∀ tb e args s v u, (limb_1_1.after args s (.returned v) u = true ∧ limb_1_2.after args s (.returned v) u = true ∧ True) → ReturnedEndW s (.returned v) u (Jvm.fieldLocs frame_1_writes args s ++ Jvm.arrayLocs frame_1_arrays args s ++ Jvm.staticLocs frame_1_statics s) 8 1088 → Post tb e args s (.returned v) u) :
    ArmFor flags0 classFile x code maxLocals ret World_1 tables_1 room_1 Calls_1 rest_1 Pre_1 Post := by
  intro l hfl _ _ p e ha hc hk s m args below hf hA hF happ hP
  obtain ⟨hcalls, hrest, hpre⟩ := hP
  obtain ⟨-, -, -, hnamed, -, -, -, hat⟩ := (Spec.applies_iff hf).mp happ
  obtain ⟨hg, hn⟩ := and_e (Cond.before_iff.mp (show (Jvm.Cond.and given_1 narrow_1).before args s = true from hpre))
  obtain ⟨h1, h3⟩ := and_e hg
  obtain ⟨w0, rfl⟩ : ∃ w0 : Value, args = #[w0] := by
    have hs : args.size = 1 := by simpa [Cond.value, given_1] using h1
    obtain ⟨L⟩ := args
    match L, hs with
    | [w0], _ => exact ⟨w0, rfl⟩
  have hw := fun d (hd : d ∈ tables_1) => atoms_spec (ws := Jvm.Cond.code x code maxLocals ret :: tables_1) hat d (List.mem_cons_of_mem _ hd)
  obtain ⟨hsets, hown0⟩ := atoms_of _ (rest_1_c_eq ▸ (show rest_1_c.before _ s = true from hrest))
  have n5 := not_v (Cond.before_iff.mp (hsets _ (List.mem_of_getElem? (i := 2) rfl)))
  obtain ⟨i7, e6⟩ := is_v h3
  obtain rfl : w0 = (.int i7) := Option.some.inj e6
  obtain ⟨i11, e10⟩ := is_v (Cond.before_iff.mp (hsets _ (List.mem_of_getElem? (i := 1) rfl)))
  have S12 : Sta s s.heap "java/lang/String" "COMPACT_STRINGS" "Z" (.int i11) := Sta.start e10 (Or.inl (hsets _ (List.mem_of_getElem? (i := 0) rfl)))
  have c17 : ¬ (i11 = (0 : Int32)) := gotF (Cond.eq_ints e10 (Term.int_eval (0))) n5
  have hheld : constsHeld consts_1 s := hcalls.1
  have hh1 : Jvm.Lit.constHeld s "com/example/anansi/anansi/Ascii" 7 := hheld _ (List.mem_of_getElem? (i := 0) rfl)
  obtain ⟨n, o, h1, h2, h3, _, L, rfl, ⟨rfl, N⟩, hq⟩ := oR0 l s _ hw tables_1 i7 hh1 (hsets _ (List.mem_of_getElem? (i := 2) rfl)) S12 c17 p e ha hc hk s m _ below hf ((Spec.applies_iff_loose hf).mp happ).1 ⟨rfl, rfl, rfl⟩ trivial
  refine ⟨n, _, h1, h2, h3, hpost _ _ _ _ _ _ ⟨Cond.after_iff.mpr rfl, Cond.after_iff.mpr (eq_i res_at (Term.int_eval (1)) rfl), trivial⟩ ⟨hq.1, hq.2.1, hq.2.2.1, (hq.2.2.2.sift fun y hy => Or.inr (N y hy)).mono (by decide) (by decide)⟩⟩
theorem main_1_1 : Claimed_1_1 := comes_1 fun _ _ _ _ _ _ h hF => ⟨h.1, hF⟩
theorem main_1_2 : Claimed_1_2 := comes_1 fun _ _ _ _ _ _ h hF => ⟨h.2.1, hF⟩
end Jvm.Pilot.@@N@@
namespace Jvm.Pilot.@@N@@
open Jvm Jvm.ClassFile Sem Op Lib Jvm.Free Jvm.Stand Jvm.Pilot.@@N@@.Jvm.D
/-! MADE BY PROGRAM (witnessworld.py) out of the Statement's table words and the real class files: 18 classes; the members and pool entries that the words name. The judged class is class 1, her method 2. -/
namespace start1
open Jvm.ClassFile
def u (s : String) : CpInfo := .utf8 (stringToUtf16 s)
/-- a pool by its gaps: so many unusable entries, then the entry; so many at the end -/
def gap : Nat → List CpInfo → List CpInfo
  | 0, r => r
  | n + 1, r => .unusable :: gap n r
def poolList (es : List (Nat × CpInfo)) (last : Nat) : List CpInfo := es.foldr (fun e r => gap e.1 (e.2 :: r)) (gap last [])
def pool (es : List (Nat × CpInfo)) (last : Nat) : Array CpInfo := ⟨poolList es last⟩
def fileOf (pool : Array CpInfo) (this : Nat) (attrs : Array Attribute := #[]) (ms : Array MethodInfo := #[]) (fl : Nat := 33) (sup : Nat := 0) (ifs : Array Nat := #[]) (fds : Array FieldInfo := #[]) : ClassFile where
  minorVersion := 0
  majorVersion := 65
  constantPool := pool
  accessFlags := fl
  thisClass := this
  superClass := sup
  interfaces := ifs
  fields := fds
  methods := ms
  attributes := attrs
def plain (name : String) (sup : Option ClassId) : Class where
  name := name
  kind := .ordinary
  loader := none
  accessFlags := 33
  super := sup
  interfaces := #[]
  cf := none
  fields := #[]
  methods := #[]
  instanceTypes := #[]
  staticTypes := #[]
  resolved := #[]
  callSites := []
  init := .initialized
  statics := none
  mirror := none

def pool0 : Array CpInfo := pool [(5, u "<init>"), (0, u "()V"), (1, .class_ 10), (1, u "java/lang/Object")] 113

def k0m0 : Method := { name := "<init>", desc := "()V", sig := { parameters := [], returnType := none }, accessFlags := 1, code := none }
/-- java/lang/Object -/
def k0 : Class := { plain "java/lang/Object" none with
  accessFlags := 33
  interfaces := #[]
  cf := some (fileOf pool0 8 #[] #[{ accessFlags := 1, nameIndex := 5, descriptorIndex := 6, attributes := #[] }] 33 0 #[] #[])
  fields := #[]
  methods := #[k0m0]
  instanceTypes := #[]
  staticTypes := #[]
  resolved := Array.replicate 124 none
  statics := none }

def pool1 : Array CpInfo := pool [(2, .class_ 4), (1, u "java/lang/Object"), (0, u "<init>"), (0, u "()V"), (0, .methodref 8 9), (0, .class_ 10), (0, .nameAndType 11 12), (0, u "com/example/anansi/anansi/Ascii"), (0, u "isUnreserved"), (0, u "(C)Z"), (0, .methodref 14 15), (0, .class_ 16), (0, .nameAndType 17 12), (0, u "com/example/anansi/anansi/AsciiIsUnreservedPinLaw"), (0, u "expected"), (3, u "law"), (0, u "(I)Z")] 2

def k1m0 : Method := { name := "<init>", desc := "()V", sig := { parameters := [], returnType := none }, accessFlags := 2, code := none }
def k1c1 : Code := { maxStack := 2, maxLocals := 6, code := method_2_code, exceptionTable := #[], attributes := #[] }
def k1m1 : Method := { name := "expected", desc := "(C)Z", sig := { parameters := [.char], returnType := some .boolean }, accessFlags := 10, code := some k1c1 }
def k1c2 : Code := { maxStack := 2, maxLocals := 2, code := code, exceptionTable := #[], attributes := #[] }
def k1m2 : Method := { name := "law", desc := "(I)Z", sig := { parameters := [.int], returnType := some .boolean }, accessFlags := 9, code := some k1c2 }
/-- com/example/anansi/anansi/AsciiIsUnreservedPinLaw -/
def k1 : Class := { plain "com/example/anansi/anansi/AsciiIsUnreservedPinLaw" (some 0) with
  accessFlags := 49
  interfaces := #[]
  cf := some (fileOf pool1 14 #[] #[{ accessFlags := 2, nameIndex := 5, descriptorIndex := 6, attributes := #[] }, { accessFlags := 10, nameIndex := 17, descriptorIndex := 12, attributes := #[] }, { accessFlags := 9, nameIndex := 21, descriptorIndex := 22, attributes := #[] }] 49 2 #[] #[])
  fields := #[]
  methods := #[k1m0, k1m1, k1m2]
  instanceTypes := #[]
  staticTypes := #[]
  resolved := Array.replicate 25 none
  statics := none }

def pool2 : Array CpInfo := pool [(2, .class_ 4), (1, u "java/lang/Object"), (0, u "<init>"), (0, u "()V"), (0, .string 8), (0, u "-._~"), (0, .methodref 10 11), (0, .class_ 12), (0, .nameAndType 13 14), (0, u "java/lang/String"), (0, u "indexOf"), (0, u "(I)I"), (0, .class_ 16), (0, u "com/example/anansi/anansi/Ascii"), (5, u "isUnreserved"), (0, u "(C)Z")] 2

def k2m0 : Method := { name := "<init>", desc := "()V", sig := { parameters := [], returnType := none }, accessFlags := 2, code := none }
def k2c1 : Code := { maxStack := 2, maxLocals := 1, code := prog_1_method_3_code, exceptionTable := #[], attributes := #[] }
def k2m1 : Method := { name := "isUnreserved", desc := "(C)Z", sig := { parameters := [.char], returnType := some .boolean }, accessFlags := 8, code := some k2c1 }
/-- com/example/anansi/anansi/Ascii -/
def k2 : Class := { plain "com/example/anansi/anansi/Ascii" (some 0) with
  accessFlags := 48
  interfaces := #[]
  cf := some (fileOf pool2 15 #[] #[{ accessFlags := 2, nameIndex := 5, descriptorIndex := 6, attributes := #[] }, { accessFlags := 8, nameIndex := 22, descriptorIndex := 23, attributes := #[] }] 48 2 #[] #[])
  fields := #[]
  methods := #[k2m0, k2m1]
  instanceTypes := #[]
  staticTypes := #[]
  resolved := Array.replicate 26 none
  statics := none }

def pool3 : Array CpInfo := pool [(1, .class_ 2), (0, u "java/io/Serializable"), (0, .class_ 4), (0, u "java/lang/Object")] 2

/-- java/io/Serializable -/
def k3 : Class := { plain "java/io/Serializable" (some 0) with
  accessFlags := 1537
  interfaces := #[]
  cf := some (fileOf pool3 1 #[] #[] 1537 3 #[] #[])
  fields := #[]
  methods := #[]
  instanceTypes := #[]
  staticTypes := #[]
  resolved := Array.replicate 7 none
  statics := none }

def pool4 : Array CpInfo := pool [(1, .class_ 2), (0, u "java/lang/Comparable"), (0, .class_ 4), (0, u "java/lang/Object")] 7

/-- java/lang/Comparable -/
def k4 : Class := { plain "java/lang/Comparable" (some 0) with
  accessFlags := 1537
  interfaces := #[]
  cf := some (fileOf pool4 1 #[] #[] 1537 3 #[] #[])
  fields := #[]
  methods := #[]
  instanceTypes := #[]
  staticTypes := #[]
  resolved := Array.replicate 12 none
  statics := none }

def pool5 : Array CpInfo := pool [(2, .class_ 4), (1, u "java/lang/CharSequence"), (42, .class_ 48), (0, u "java/lang/CharSequence$1CodePointIterator"), (10, .class_ 60), (0, u "java/lang/CharSequence$1CharIterator"), (5, .class_ 67), (0, u "java/lang/Object")] 63

/-- java/lang/CharSequence -/
def k5 : Class := { plain "java/lang/CharSequence" (some 0) with
  accessFlags := 1537
  interfaces := #[]
  cf := some (fileOf pool5 2 #[.nestMembers #[47, 59]] #[] 1537 66 #[] #[])
  fields := #[]
  methods := #[]
  instanceTypes := #[]
  staticTypes := #[]
  resolved := Array.replicate 131 none
  statics := none }

def pool6 : Array CpInfo := pool [(1, .class_ 2), (0, u "java/lang/constant/Constable"), (0, .class_ 4), (0, u "java/lang/Object")] 6

/-- java/lang/constant/Constable -/
def k6 : Class := { plain "java/lang/constant/Constable" (some 0) with
  accessFlags := 1537
  interfaces := #[]
  cf := some (fileOf pool6 1 #[] #[] 1537 3 #[] #[])
  fields := #[]
  methods := #[]
  instanceTypes := #[]
  staticTypes := #[]
  resolved := Array.replicate 11 none
  statics := none }

def pool7 : Array CpInfo := pool [(1, .class_ 2), (0, u "java/lang/constant/ConstantDesc"), (0, .class_ 4), (0, u "java/lang/Object")] 32

/-- java/lang/constant/ConstantDesc -/
def k7 : Class := { plain "java/lang/constant/ConstantDesc" (some 0) with
  accessFlags := 1537
  interfaces := #[]
  cf := some (fileOf pool7 1 #[] #[] 1537 3 #[] #[])
  fields := #[]
  methods := #[]
  instanceTypes := #[]
  staticTypes := #[]
  resolved := Array.replicate 37 none
  statics := none }

def pool8 : Array CpInfo := pool [(2, .class_ 4), (1, u "java/lang/Object"), (0, u "<init>"), (0, u "()V"), (2, .fieldref 10 11), (0, .class_ 12), (0, .nameAndType 13 14), (0, u "java/lang/String"), (0, u "value"), (0, u "[B"), (0, .fieldref 10 16), (0, .nameAndType 17 18), (0, u "coder"), (0, u "B"), (2, u "hash"), (0, u "I"), (2, u "hashIsZero"), (0, u "Z"), (11, .fieldref 10 39), (0, .nameAndType 40 26), (0, u "COMPACT_STRINGS"), (66, .class_ 109), (1, u "java/lang/StringLatin1"), (32, u "()Z"), (191, u "()I"), (0, .methodref 10 336), (0, .nameAndType 17 337), (0, u "()B"), (154, .methodref 10 493), (0, .nameAndType 494 142), (0, u "isLatin1"), (10, .methodref 10 506), (0, .nameAndType 507 334), (0, u "length"), (67, .class_ 576), (0, u "java/lang/CharSequence"), (22, u "CASE_INSENSITIVE_ORDER"), (0, u "Ljava/util/Comparator;"), (32, .methodref 10 634), (0, .nameAndType 635 636), (0, u "indexOf"), (0, u "(II)I"), (0, .methodref 107 638), (0, .nameAndType 635 639), (0, u "([BIII)I"), (125, u "(I)I"), (335, u "serialPersistentFields"), (0, u "[Ljava/io/ObjectStreamField;"), (0, .class_ 1104), (0, u "java/lang/String$CaseInsensitiveComparator"), (1, .class_ 1107), (0, u "java/io/Serializable"), (0, .class_ 1109), (0, u "java/lang/Comparable"), (0, .class_ 1111), (0, u "java/lang/constant/Constable"), (0, .class_ 1113), (0, u "java/lang/constant/ConstantDesc"), (2, u "serialVersionUID"), (0, u "J"), (3, u "REPL"), (0, u "C"), (2, u "LATIN1"), (1, u "UTF16")] 323

def k8m0 : Method := { name := "<init>", desc := "()V", sig := { parameters := [], returnType := none }, accessFlags := 1, code := none }
def k8c1 : Code := { maxStack := 2, maxLocals := 1, code := jdk_42_method_54_code, exceptionTable := #[], attributes := #[] }
def k8m1 : Method := { name := "length", desc := "()I", sig := { parameters := [], returnType := some .int }, accessFlags := 1, code := some k8c1 }
def k8c2 : Code := { maxStack := 3, maxLocals := 2, code := jdk_42_method_79_code, exceptionTable := #[], attributes := #[] }
def k8m2 : Method := { name := "indexOf", desc := "(I)I", sig := { parameters := [.int], returnType := some .int }, accessFlags := 1, code := some k8c2 }
def k8c3 : Code := { maxStack := 4, maxLocals := 3, code := jdk_42_method_80_code, exceptionTable := #[], attributes := #[] }
def k8m3 : Method := { name := "indexOf", desc := "(II)I", sig := { parameters := [.int, .int], returnType := some .int }, accessFlags := 1, code := some k8c3 }
def k8c4 : Code := { maxStack := 1, maxLocals := 1, code := jdk_42_method_152_code, exceptionTable := #[], attributes := #[] }
def k8m4 : Method := { name := "coder", desc := "()B", sig := { parameters := [], returnType := some .byte }, accessFlags := 0, code := some k8c4 }
def k8c5 : Code := { maxStack := 1, maxLocals := 1, code := jdk_42_method_154_code, exceptionTable := #[], attributes := #[] }
def k8m5 : Method := { name := "isLatin1", desc := "()Z", sig := { parameters := [], returnType := some .boolean }, accessFlags := 0, code := some k8c5 }
/-- java/lang/String -/
def k8 : Class := { plain "java/lang/String" (some 0) with
  accessFlags := 49
  interfaces := #[3, 4, 5, 6, 7]
  cf := some (fileOf pool8 10 #[.nestMembers #[1103]] #[{ accessFlags := 1, nameIndex := 5, descriptorIndex := 6, attributes := #[] }, { accessFlags := 1, nameIndex := 507, descriptorIndex := 334, attributes := #[] }, { accessFlags := 1, nameIndex := 635, descriptorIndex := 765, attributes := #[] }, { accessFlags := 1, nameIndex := 635, descriptorIndex := 636, attributes := #[] }, { accessFlags := 0, nameIndex := 17, descriptorIndex := 337, attributes := #[] }, { accessFlags := 0, nameIndex := 494, descriptorIndex := 142, attributes := #[] }] 49 2 #[1106, 1108, 575, 1110, 1112] #[{ accessFlags := 18, nameIndex := 13, descriptorIndex := 14, attributes := #[] }, { accessFlags := 18, nameIndex := 17, descriptorIndex := 18, attributes := #[] }, { accessFlags := 2, nameIndex := 21, descriptorIndex := 22, attributes := #[] }, { accessFlags := 2, nameIndex := 25, descriptorIndex := 26, attributes := #[] }, { accessFlags := 26, nameIndex := 1116, descriptorIndex := 1117, attributes := #[] }, { accessFlags := 24, nameIndex := 40, descriptorIndex := 26, attributes := #[] }, { accessFlags := 26, nameIndex := 1101, descriptorIndex := 1102, attributes := #[] }, { accessFlags := 26, nameIndex := 1121, descriptorIndex := 1122, attributes := #[] }, { accessFlags := 25, nameIndex := 599, descriptorIndex := 600, attributes := #[] }, { accessFlags := 24, nameIndex := 1125, descriptorIndex := 18, attributes := #[] }, { accessFlags := 24, nameIndex := 1127, descriptorIndex := 18, attributes := #[] }])
  fields := #[{ name := "value", type := (.array .byte), accessFlags := 18, slot := 0, constantValue := 0 }, { name := "coder", type := .byte, accessFlags := 18, slot := 1, constantValue := 0 }, { name := "hash", type := .int, accessFlags := 2, slot := 2, constantValue := 0 }, { name := "hashIsZero", type := .boolean, accessFlags := 2, slot := 3, constantValue := 0 }, { name := "serialVersionUID", type := .long, accessFlags := 26, slot := 0, constantValue := 0 }, { name := "COMPACT_STRINGS", type := .boolean, accessFlags := 24, slot := 1, constantValue := 0 }, { name := "serialPersistentFields", type := (.array (.object "java/io/ObjectStreamField")), accessFlags := 26, slot := 2, constantValue := 0 }, { name := "REPL", type := .char, accessFlags := 26, slot := 3, constantValue := 0 }, { name := "CASE_INSENSITIVE_ORDER", type := (.object "java/util/Comparator"), accessFlags := 25, slot := 4, constantValue := 0 }, { name := "LATIN1", type := .byte, accessFlags := 24, slot := 5, constantValue := 0 }, { name := "UTF16", type := .byte, accessFlags := 24, slot := 6, constantValue := 0 }]
  methods := #[k8m0, k8m1, k8m2, k8m3, k8m4, k8m5]
  instanceTypes := #[(.array .byte), .byte, .int, .boolean]
  staticTypes := #[.long, .boolean, (.array (.object "java/io/ObjectStreamField")), .char, (.object "java/util/Comparator"), .byte, .byte]
  resolved := Array.replicate 1451 none
  statics := some 0 }

def pool9 : Array CpInfo := pool [(4, .class_ 6), (1, u "java/lang/Object"), (0, u "<init>"), (0, u "()V"), (5, .class_ 16), (1, u "java/lang/StringLatin1"), (21, .methodref 39 40), (0, .class_ 41), (0, .nameAndType 42 43), (0, u "java/lang/Math"), (0, u "min"), (0, u "(II)I"), (44, .methodref 14 89), (0, .nameAndType 90 91), (0, u "canEncode"), (0, u "(I)Z"), (0, .methodref 39 93), (0, .nameAndType 94 43), (0, u "max"), (0, .methodref 14 96), (0, .nameAndType 97 98), (0, u "indexOfChar"), (0, u "([BIII)I"), (2, u "indexOf"), (19, u "$assertionsDisabled"), (0, u "Z"), (98, .class_ 223), (1, u "java/lang/StringLatin1$LinesSpliterator"), (166, .class_ 391), (0, u "java/lang/StringLatin1$CharsSpliterator")] 3

def k9m0 : Method := { name := "<init>", desc := "()V", sig := { parameters := [], returnType := none }, accessFlags := 0, code := none }
def k9c1 : Code := { maxStack := 2, maxLocals := 1, code := jdk_43_method_4_code, exceptionTable := #[], attributes := #[] }
def k9m1 : Method := { name := "canEncode", desc := "(I)Z", sig := { parameters := [.int], returnType := some .boolean }, accessFlags := 9, code := some k9c1 }
def k9c2 : Code := { maxStack := 4, maxLocals := 4, code := jdk_43_method_22_code, exceptionTable := #[], attributes := #[] }
def k9m2 : Method := { name := "indexOf", desc := "([BIII)I", sig := { parameters := [(.array .byte), .int, .int, .int], returnType := some .int }, accessFlags := 9, code := some k9c2 }
def k9c3 : Code := { maxStack := 2, maxLocals := 6, code := jdk_43_method_23_code, exceptionTable := #[], attributes := #[] }
def k9m3 : Method := { name := "indexOfChar", desc := "([BIII)I", sig := { parameters := [(.array .byte), .int, .int, .int], returnType := some .int }, accessFlags := 10, code := some k9c3 }
/-- java/lang/StringLatin1 -/
def k9 : Class := { plain "java/lang/StringLatin1" (some 0) with
  accessFlags := 48
  interfaces := #[]
  cf := some (fileOf pool9 14 #[.nestMembers #[390, 221]] #[{ accessFlags := 0, nameIndex := 7, descriptorIndex := 8, attributes := #[] }, { accessFlags := 9, nameIndex := 90, descriptorIndex := 91, attributes := #[] }, { accessFlags := 9, nameIndex := 101, descriptorIndex := 98, attributes := #[] }, { accessFlags := 10, nameIndex := 97, descriptorIndex := 98, attributes := #[] }] 48 4 #[] #[{ accessFlags := 4120, nameIndex := 121, descriptorIndex := 122, attributes := #[] }])
  fields := #[{ name := "$assertionsDisabled", type := .boolean, accessFlags := 4120, slot := 0, constantValue := 0 }]
  methods := #[k9m0, k9m1, k9m2, k9m3]
  instanceTypes := #[]
  staticTypes := #[.boolean]
  resolved := Array.replicate 395 none
  statics := none }

def pool10 : Array CpInfo := pool [(1, .class_ 2), (0, u "java/lang/Math"), (1, .class_ 6), (1, u "java/lang/Object"), (0, u "<init>"), (0, u "()V"), (89, .class_ 100), (1, u "java/lang/Math$RandomNumberGeneratorHolder"), (71, u "negativeZeroFloatBits"), (0, u "J"), (2, u "negativeZeroDoubleBits"), (21, u "max"), (2, u "min"), (43, u "$assertionsDisabled"), (0, u "Z"), (88, u "(II)I"), (2, u "twoToTheDoubleScaleDown"), (0, u "D"), (4, u "twoToTheDoubleScaleUp"), (9, u "E"), (3, u "PI"), (2, u "TAU"), (2, u "DEGREES_TO_RADIANS"), (0, u "RADIANS_TO_DEGREES")] 94

def k10m0 : Method := { name := "<init>", desc := "()V", sig := { parameters := [], returnType := none }, accessFlags := 2, code := none }
def k10c1 : Code := { maxStack := 2, maxLocals := 2, code := jdk_29_method_65_code, exceptionTable := #[], attributes := #[] }
def k10m1 : Method := { name := "max", desc := "(II)I", sig := { parameters := [.int, .int], returnType := some .int }, accessFlags := 9, code := some k10c1 }
def k10c2 : Code := { maxStack := 2, maxLocals := 2, code := jdk_29_method_69_code, exceptionTable := #[], attributes := #[] }
def k10m2 : Method := { name := "min", desc := "(II)I", sig := { parameters := [.int, .int], returnType := some .int }, accessFlags := 9, code := some k10c2 }
/-- java/lang/Math -/
def k10 : Class := { plain "java/lang/Math" (some 0) with
  accessFlags := 49
  interfaces := #[]
  cf := some (fileOf pool10 1 #[.nestMembers #[98]] #[{ accessFlags := 2, nameIndex := 7, descriptorIndex := 8, attributes := #[] }, { accessFlags := 9, nameIndex := 198, descriptorIndex := 335, attributes := #[] }, { accessFlags := 9, nameIndex := 201, descriptorIndex := 335, attributes := #[] }] 49 4 #[] #[{ accessFlags := 25, nameIndex := 354, descriptorIndex := 339, attributes := #[] }, { accessFlags := 25, nameIndex := 358, descriptorIndex := 339, attributes := #[] }, { accessFlags := 25, nameIndex := 361, descriptorIndex := 339, attributes := #[] }, { accessFlags := 26, nameIndex := 364, descriptorIndex := 339, attributes := #[] }, { accessFlags := 26, nameIndex := 365, descriptorIndex := 339, attributes := #[] }, { accessFlags := 26, nameIndex := 172, descriptorIndex := 173, attributes := #[] }, { accessFlags := 26, nameIndex := 176, descriptorIndex := 173, attributes := #[] }, { accessFlags := 8, nameIndex := 344, descriptorIndex := 339, attributes := #[] }, { accessFlags := 8, nameIndex := 338, descriptorIndex := 339, attributes := #[] }, { accessFlags := 4120, nameIndex := 245, descriptorIndex := 246, attributes := #[] }])
  fields := #[{ name := "E", type := .double, accessFlags := 25, slot := 0, constantValue := 0 }, { name := "PI", type := .double, accessFlags := 25, slot := 1, constantValue := 0 }, { name := "TAU", type := .double, accessFlags := 25, slot := 2, constantValue := 0 }, { name := "DEGREES_TO_RADIANS", type := .double, accessFlags := 26, slot := 3, constantValue := 0 }, { name := "RADIANS_TO_DEGREES", type := .double, accessFlags := 26, slot := 4, constantValue := 0 }, { name := "negativeZeroFloatBits", type := .long, accessFlags := 26, slot := 5, constantValue := 0 }, { name := "negativeZeroDoubleBits", type := .long, accessFlags := 26, slot := 6, constantValue := 0 }, { name := "twoToTheDoubleScaleUp", type := .double, accessFlags := 8, slot := 7, constantValue := 0 }, { name := "twoToTheDoubleScaleDown", type := .double, accessFlags := 8, slot := 8, constantValue := 0 }, { name := "$assertionsDisabled", type := .boolean, accessFlags := 4120, slot := 9, constantValue := 0 }]
  methods := #[k10m0, k10m1, k10m2]
  instanceTypes := #[]
  staticTypes := #[.double, .double, .double, .double, .double, .long, .long, .double, .double, .boolean]
  resolved := Array.replicate 460 none
  statics := none }

def pool11 : Array CpInfo := pool [(2, .class_ 4), (1, u "java/lang/Object"), (0, u "<init>"), (0, u "()V"), (17, .class_ 26), (1, u "jdk/internal/util/Preconditions"), (28, .class_ 56), (0, u "jdk/internal/util/Preconditions$4"), (57, .class_ 115), (0, u "jdk/internal/util/Preconditions$1"), (7, u "SIOOBE_FORMATTER"), (0, u "Ljava/util/function/BiFunction;"), (0, .class_ 126), (0, u "jdk/internal/util/Preconditions$2"), (3, u "AIOOBE_FORMATTER"), (0, .class_ 132), (0, u "jdk/internal/util/Preconditions$3"), (3, u "IOOBE_FORMATTER")] 57

def k11m0 : Method := { name := "<init>", desc := "()V", sig := { parameters := [], returnType := none }, accessFlags := 1, code := none }
/-- jdk/internal/util/Preconditions -/
def k11 : Class := { plain "jdk/internal/util/Preconditions" (some 0) with
  accessFlags := 33
  interfaces := #[]
  cf := some (fileOf pool11 24 #[.nestMembers #[55, 131, 125, 114]] #[{ accessFlags := 1, nameIndex := 5, descriptorIndex := 6, attributes := #[] }] 33 2 #[] #[{ accessFlags := 25, nameIndex := 123, descriptorIndex := 124, attributes := #[] }, { accessFlags := 25, nameIndex := 130, descriptorIndex := 124, attributes := #[] }, { accessFlags := 25, nameIndex := 136, descriptorIndex := 124, attributes := #[] }])
  fields := #[{ name := "SIOOBE_FORMATTER", type := (.object "java/util/function/BiFunction"), accessFlags := 25, slot := 0, constantValue := 0 }, { name := "AIOOBE_FORMATTER", type := (.object "java/util/function/BiFunction"), accessFlags := 25, slot := 1, constantValue := 0 }, { name := "IOOBE_FORMATTER", type := (.object "java/util/function/BiFunction"), accessFlags := 25, slot := 2, constantValue := 0 }]
  methods := #[k11m0]
  instanceTypes := #[]
  staticTypes := #[(.object "java/util/function/BiFunction"), (.object "java/util/function/BiFunction"), (.object "java/util/function/BiFunction")]
  resolved := Array.replicate 194 none
  statics := some 1 }

def pool12 : Array CpInfo := pool [(9, u "<init>"), (6, .class_ 18), (1, u "java/lang/Object"), (0, u "()V"), (1, .class_ 23), (1, u "jdk/internal/util/ArraysSupport"), (0, u "LOG2_ARRAY_LONG_INDEX_SCALE"), (0, u "I"), (2, u "U"), (0, u "Ljdk/internal/misc/Unsafe;"), (8, u "BIG_ENDIAN"), (0, u "Z"), (8, u "LOG2_BYTE_BIT_SIZE"), (4, u "LOG2_ARRAY_INT_INDEX_SCALE"), (54, u "JLA"), (0, u "Ljdk/internal/access/JavaLangAccess;"), (11, u "LOG2_ARRAY_BOOLEAN_INDEX_SCALE"), (9, u "LOG2_ARRAY_BYTE_INDEX_SCALE"), (5, u "LOG2_ARRAY_CHAR_INDEX_SCALE"), (5, u "LOG2_ARRAY_SHORT_INDEX_SCALE"), (18, u "LOG2_ARRAY_FLOAT_INDEX_SCALE"), (24, u "LOG2_ARRAY_DOUBLE_INDEX_SCALE"), (89, u "T_BOOLEAN"), (2, u "T_CHAR"), (1, u "T_FLOAT"), (1, u "T_DOUBLE"), (1, u "T_BYTE"), (1, u "T_SHORT"), (1, u "T_INT"), (1, u "T_LONG"), (1, u "SOFT_MAX_ARRAY_LENGTH")] 83

def k12m0 : Method := { name := "<init>", desc := "()V", sig := { parameters := [], returnType := none }, accessFlags := 2, code := none }
/-- jdk/internal/util/ArraysSupport -/
def k12 : Class := { plain "jdk/internal/util/ArraysSupport" (some 0) with
  accessFlags := 33
  interfaces := #[]
  cf := some (fileOf pool12 21 #[] #[{ accessFlags := 2, nameIndex := 9, descriptorIndex := 19, attributes := #[] }] 33 16 #[] #[{ accessFlags := 24, nameIndex := 28, descriptorIndex := 29, attributes := #[] }, { accessFlags := 26, nameIndex := 38, descriptorIndex := 39, attributes := #[] }, { accessFlags := 25, nameIndex := 121, descriptorIndex := 25, attributes := #[] }, { accessFlags := 25, nameIndex := 131, descriptorIndex := 25, attributes := #[] }, { accessFlags := 25, nameIndex := 137, descriptorIndex := 25, attributes := #[] }, { accessFlags := 25, nameIndex := 143, descriptorIndex := 25, attributes := #[] }, { accessFlags := 25, nameIndex := 53, descriptorIndex := 25, attributes := #[] }, { accessFlags := 25, nameIndex := 24, descriptorIndex := 25, attributes := #[] }, { accessFlags := 25, nameIndex := 162, descriptorIndex := 25, attributes := #[] }, { accessFlags := 25, nameIndex := 187, descriptorIndex := 25, attributes := #[] }, { accessFlags := 26, nameIndex := 48, descriptorIndex := 25, attributes := #[] }, { accessFlags := 25, nameIndex := 277, descriptorIndex := 25, attributes := #[] }, { accessFlags := 25, nameIndex := 280, descriptorIndex := 25, attributes := #[] }, { accessFlags := 25, nameIndex := 282, descriptorIndex := 25, attributes := #[] }, { accessFlags := 25, nameIndex := 284, descriptorIndex := 25, attributes := #[] }, { accessFlags := 25, nameIndex := 286, descriptorIndex := 25, attributes := #[] }, { accessFlags := 25, nameIndex := 288, descriptorIndex := 25, attributes := #[] }, { accessFlags := 25, nameIndex := 290, descriptorIndex := 25, attributes := #[] }, { accessFlags := 25, nameIndex := 292, descriptorIndex := 25, attributes := #[] }, { accessFlags := 26, nameIndex := 108, descriptorIndex := 109, attributes := #[] }, { accessFlags := 25, nameIndex := 294, descriptorIndex := 25, attributes := #[] }])
  fields := #[{ name := "U", type := (.object "jdk/internal/misc/Unsafe"), accessFlags := 24, slot := 0, constantValue := 0 }, { name := "BIG_ENDIAN", type := .boolean, accessFlags := 26, slot := 1, constantValue := 0 }, { name := "LOG2_ARRAY_BOOLEAN_INDEX_SCALE", type := .int, accessFlags := 25, slot := 2, constantValue := 0 }, { name := "LOG2_ARRAY_BYTE_INDEX_SCALE", type := .int, accessFlags := 25, slot := 3, constantValue := 0 }, { name := "LOG2_ARRAY_CHAR_INDEX_SCALE", type := .int, accessFlags := 25, slot := 4, constantValue := 0 }, { name := "LOG2_ARRAY_SHORT_INDEX_SCALE", type := .int, accessFlags := 25, slot := 5, constantValue := 0 }, { name := "LOG2_ARRAY_INT_INDEX_SCALE", type := .int, accessFlags := 25, slot := 6, constantValue := 0 }, { name := "LOG2_ARRAY_LONG_INDEX_SCALE", type := .int, accessFlags := 25, slot := 7, constantValue := 0 }, { name := "LOG2_ARRAY_FLOAT_INDEX_SCALE", type := .int, accessFlags := 25, slot := 8, constantValue := 0 }, { name := "LOG2_ARRAY_DOUBLE_INDEX_SCALE", type := .int, accessFlags := 25, slot := 9, constantValue := 0 }, { name := "LOG2_BYTE_BIT_SIZE", type := .int, accessFlags := 26, slot := 10, constantValue := 0 }, { name := "T_BOOLEAN", type := .int, accessFlags := 25, slot := 11, constantValue := 0 }, { name := "T_CHAR", type := .int, accessFlags := 25, slot := 12, constantValue := 0 }, { name := "T_FLOAT", type := .int, accessFlags := 25, slot := 13, constantValue := 0 }, { name := "T_DOUBLE", type := .int, accessFlags := 25, slot := 14, constantValue := 0 }, { name := "T_BYTE", type := .int, accessFlags := 25, slot := 15, constantValue := 0 }, { name := "T_SHORT", type := .int, accessFlags := 25, slot := 16, constantValue := 0 }, { name := "T_INT", type := .int, accessFlags := 25, slot := 17, constantValue := 0 }, { name := "T_LONG", type := .int, accessFlags := 25, slot := 18, constantValue := 0 }, { name := "JLA", type := (.object "jdk/internal/access/JavaLangAccess"), accessFlags := 26, slot := 19, constantValue := 0 }, { name := "SOFT_MAX_ARRAY_LENGTH", type := .int, accessFlags := 25, slot := 20, constantValue := 0 }]
  methods := #[k12m0]
  instanceTypes := #[]
  staticTypes := #[(.object "jdk/internal/misc/Unsafe"), .boolean, .int, .int, .int, .int, .int, .int, .int, .int, .int, .int, .int, .int, .int, .int, .int, .int, .int, (.object "jdk/internal/access/JavaLangAccess"), .int]
  resolved := Array.replicate 378 none
  statics := none }

def pool13 : Array CpInfo := pool [(1, u "java/lang/Cloneable"), (0, .class_ 1), (0, u "java/lang/Object"), (0, .class_ 3)] 3

/-- java/lang/Cloneable -/
def k13 : Class := { plain "java/lang/Cloneable" (some 0) with
  accessFlags := 1537
  interfaces := #[]
  cf := some (fileOf pool13 2 #[] #[] 1537 4 #[] #[])
  fields := #[]
  methods := #[]
  instanceTypes := #[]
  staticTypes := #[]
  resolved := Array.replicate 8 none
  statics := none }

/-- the primitive byte -/
def k14 : Class := { plain "byte" none with kind := .primitive 'B', accessFlags := 0x411 }
/-- [B -/
def k15 : Class := { plain "[B" (some 0) with kind := .array 14 .byte, interfaces := #[13, 3], accessFlags := 1041 }

/-- the primitive int -/
def k16 : Class := { plain "int" none with kind := .primitive 'I', accessFlags := 0x411 }
/-- [I -/
def k17 : Class := { plain "[I" (some 0) with kind := .array 16 .int, interfaces := #[13, 3], accessFlags := 1041 }

def heap : Heap := #[{ cls := 8, slots := #[.long 0, .int 1, .null, .int 0, .null, .int 0, .int 0], vm := .statics 8 },
  { cls := 11, slots := #[.null, .null, .null], vm := .statics 11 }]
def classes : Array Class := #[k0, k1, k2, k3, k4, k5, k6, k7, k8, k9, k10, k11, k12, k13, k14, k15, k16, k17]
def interned : List (Array UInt16 × Addr) := []
def slotsUsed : Nat := 10
def theMethod : MethodId := ⟨1, 2⟩
def args0 : Array Value := #[.int 5]
def aboutOver (below : List Frame) : State where
  vm := { classes := classes, interned := interned.toArray }
  heap := heap
  slotsUsed := slotsUsed
  threads := #[{ frames := .invoking theMethod args0 :: below }]
def below0 : List Frame := [.native { method := ⟨0, 0⟩, args := #[] }]
def about1 : State := aboutOver below0
def p0 : Program := .bare "" "" ""
def e0 : Env := launch0.env 0 0 0
theorem w_frames : about1.frames = Frame.invoking theMethod args0 :: below0 := rfl
set_option maxRecDepth 65536 in
theorem w_args : argsFit about1.vm theMethod args0 = true := by decide +kernel
set_option maxRecDepth 65536 in
theorem w_heap : heapFits about1 = true := by decide +kernel
set_option maxRecDepth 65536 in
theorem w_runnable : about1.curStatus? = some .runnable := by decide +kernel
set_option maxRecDepth 65536 in
theorem w_alone : about1.alone = true := by decide +kernel
set_option maxRecDepth 65536 in
theorem w_named : about1.methodNamed? x = some theMethod := by decide +kernel
set_option maxRecDepth 65536 in
theorem w_hears : about1.hears theMethod below0 = true := by decide +kernel
set_option maxRecDepth 65536 in
theorem w_ripe : about1.ripe theMethod args0 below0 = true := by decide +kernel
theorem w_running : about1.status = .running := rfl
set_option maxRecDepth 65536 in
theorem w_room : about1.hasRoom e0.platform room_1 = true :=
  launch0.hasRoom_least _ room_1 (by decide +kernel) (by decide +kernel) (by decide +kernel) (by decide +kernel) (by decide +kernel) (by decide +kernel)
theorem allAtoms_all (ts : List Jvm.Cond) (a : Array Jvm.Value) (st : Jvm.State) : (allAtoms ts).before a st = ts.all (fun c => c.before a st) := by
  induction ts with
  | nil => rfl
  | cons c t ih =>
    show (Jvm.Cond.and c (allAtoms t)).before a st = _
    rw [Jvm.Cond.before_and, ih, List.all_cons]
def words1 : List Jvm.Cond := Jvm.Cond.code x code maxLocals ret :: tables_1
/-- a 'code' word, met by the world's own term for the bytes: nothing is compared byte by byte -/
theorem code_word {y : MethodName} {bytes : ByteArray} {mx : Nat} {rt : Option FieldType} {a : Array Value} {s : State} {m : MethodId} {meth : Method} {c : Code} (h1 : s.methodNamed? y = some m) (h2 : s.vm.method? m = some meth) (h3 : meth.code = some c) (h4 : c.code = bytes)
    (h5 : (c.maxLocals == mx && c.exceptionTable.isEmpty && decide (c.maxStack ≤ mostOperands) && decide (meth.sig.returnType = rt) && !meth.locks && decide (parseMethodDescriptor y.desc = some meth.sig)) = true) : (Jvm.Cond.code y bytes mx rt).before a s = true := by
  simp only [Bool.and_eq_true, beq_iff_eq, Bool.not_eq_true', decide_eq_true_eq] at h5
  obtain ⟨⟨⟨⟨⟨g1, g2⟩, g3⟩, g4⟩, g5⟩, g6⟩ := h5
  simp [Cond.before, Cond.holds, Cond.value, h1, h2, h3, h4, g1, g2, g3, g4, g5, g6]
def isCode : Jvm.Cond → Bool
  | .code _ _ _ _ => true
  | _ => false
theorem all_split {L : List Jvm.Cond} {P : Jvm.Cond → Bool} (h1 : L.all (fun c => isCode c || P c) = true) (h2 : ∀ c ∈ L.filter isCode, P c = true) : L.all P = true := by
  refine List.all_eq_true.mpr fun c hc => ?_
  have h := List.all_eq_true.mp h1 c hc
  rcases Bool.eq_false_or_eq_true (isCode c) with hi | hi
  · exact h2 c (List.mem_filter.mpr ⟨hc, hi⟩)
  · simpa [hi] using h
set_option maxRecDepth 65536 in
theorem w_c0 : (Jvm.Cond.code x code maxLocals ret).before args0 about1 = true := code_word (m := ⟨1, 2⟩) (meth := k1m2) (c := k1c2) (by decide +kernel) rfl rfl rfl (by decide +kernel)
set_option maxRecDepth 65536 in
theorem w_c1 : (Jvm.Cond.code ({ cls := "com/example/anansi/anansi/Ascii", name := "isUnreserved", desc := "(C)Z" } : Jvm.MethodName) prog_1_method_3_code (1 : Nat) (Option.some Jvm.ClassFile.FieldType.boolean)).before args0 about1 = true := code_word (m := ⟨2, 1⟩) (meth := k2m1) (c := k2c1) (by decide +kernel) rfl rfl rfl (by decide +kernel)
set_option maxRecDepth 65536 in
theorem w_c2 : (Jvm.Cond.code ({ cls := "java/lang/String", name := "indexOf", desc := "(I)I" } : Jvm.MethodName) jdk_42_method_79_code (2 : Nat) (Option.some Jvm.ClassFile.FieldType.int)).before args0 about1 = true := code_word (m := ⟨8, 2⟩) (meth := k8m2) (c := k8c2) (by decide +kernel) rfl rfl rfl (by decide +kernel)
set_option maxRecDepth 65536 in
theorem w_c3 : (Jvm.Cond.code ({ cls := "java/lang/String", name := "indexOf", desc := "(II)I" } : Jvm.MethodName) jdk_42_method_80_code (3 : Nat) (Option.some Jvm.ClassFile.FieldType.int)).before args0 about1 = true := code_word (m := ⟨8, 3⟩) (meth := k8m3) (c := k8c3) (by decide +kernel) rfl rfl rfl (by decide +kernel)
set_option maxRecDepth 65536 in
theorem w_c4 : (Jvm.Cond.code ({ cls := "java/lang/String", name := "isLatin1", desc := "()Z" } : Jvm.MethodName) jdk_42_method_154_code (1 : Nat) (Option.some Jvm.ClassFile.FieldType.boolean)).before args0 about1 = true := code_word (m := ⟨8, 5⟩) (meth := k8m5) (c := k8c5) (by decide +kernel) rfl rfl rfl (by decide +kernel)
set_option maxRecDepth 65536 in
theorem w_c5 : (Jvm.Cond.code ({ cls := "java/lang/String", name := "length", desc := "()I" } : Jvm.MethodName) jdk_42_method_54_code (1 : Nat) (Option.some Jvm.ClassFile.FieldType.int)).before args0 about1 = true := code_word (m := ⟨8, 1⟩) (meth := k8m1) (c := k8c1) (by decide +kernel) rfl rfl rfl (by decide +kernel)
set_option maxRecDepth 65536 in
theorem w_c6 : (Jvm.Cond.code ({ cls := "java/lang/String", name := "coder", desc := "()B" } : Jvm.MethodName) jdk_42_method_152_code (1 : Nat) (Option.some Jvm.ClassFile.FieldType.byte)).before args0 about1 = true := code_word (m := ⟨8, 4⟩) (meth := k8m4) (c := k8c4) (by decide +kernel) rfl rfl rfl (by decide +kernel)
set_option maxRecDepth 65536 in
theorem w_c7 : (Jvm.Cond.code ({ cls := "java/lang/StringLatin1", name := "indexOf", desc := "([BIII)I" } : Jvm.MethodName) jdk_43_method_22_code (4 : Nat) (Option.some Jvm.ClassFile.FieldType.int)).before args0 about1 = true := code_word (m := ⟨9, 2⟩) (meth := k9m2) (c := k9c2) (by decide +kernel) rfl rfl rfl (by decide +kernel)
set_option maxRecDepth 65536 in
theorem w_c8 : (Jvm.Cond.code ({ cls := "java/lang/StringLatin1", name := "canEncode", desc := "(I)Z" } : Jvm.MethodName) jdk_43_method_4_code (1 : Nat) (Option.some Jvm.ClassFile.FieldType.boolean)).before args0 about1 = true := code_word (m := ⟨9, 1⟩) (meth := k9m1) (c := k9c1) (by decide +kernel) rfl rfl rfl (by decide +kernel)
set_option maxRecDepth 65536 in
theorem w_c9 : (Jvm.Cond.code ({ cls := "java/lang/Math", name := "max", desc := "(II)I" } : Jvm.MethodName) jdk_29_method_65_code (2 : Nat) (Option.some Jvm.ClassFile.FieldType.int)).before args0 about1 = true := code_word (m := ⟨10, 1⟩) (meth := k10m1) (c := k10c1) (by decide +kernel) rfl rfl rfl (by decide +kernel)
set_option maxRecDepth 65536 in
theorem w_c10 : (Jvm.Cond.code ({ cls := "java/lang/Math", name := "min", desc := "(II)I" } : Jvm.MethodName) jdk_29_method_69_code (2 : Nat) (Option.some Jvm.ClassFile.FieldType.int)).before args0 about1 = true := code_word (m := ⟨10, 2⟩) (meth := k10m2) (c := k10c2) (by decide +kernel) rfl rfl rfl (by decide +kernel)
set_option maxRecDepth 65536 in
theorem w_c11 : (Jvm.Cond.code ({ cls := "java/lang/StringLatin1", name := "indexOfChar", desc := "([BIII)I" } : Jvm.MethodName) jdk_43_method_23_code (6 : Nat) (Option.some Jvm.ClassFile.FieldType.int)).before args0 about1 = true := code_word (m := ⟨9, 3⟩) (meth := k9m3) (c := k9c3) (by decide +kernel) rfl rfl rfl (by decide +kernel)
set_option maxRecDepth 65536 in
theorem w_c12 : (Jvm.Cond.code ({ cls := "com/example/anansi/anansi/AsciiIsUnreservedPinLaw", name := "expected", desc := "(C)Z" } : Jvm.MethodName) method_2_code (6 : Nat) (Option.some Jvm.ClassFile.FieldType.boolean)).before args0 about1 = true := code_word (m := ⟨1, 1⟩) (meth := k1m1) (c := k1c1) (by decide +kernel) rfl rfl rfl (by decide +kernel)
def codes1 : List Jvm.Cond := [Jvm.Cond.code x code maxLocals ret, Jvm.Cond.code ({ cls := "com/example/anansi/anansi/Ascii", name := "isUnreserved", desc := "(C)Z" } : Jvm.MethodName) prog_1_method_3_code (1 : Nat) (Option.some Jvm.ClassFile.FieldType.boolean), Jvm.Cond.code ({ cls := "java/lang/String", name := "indexOf", desc := "(I)I" } : Jvm.MethodName) jdk_42_method_79_code (2 : Nat) (Option.some Jvm.ClassFile.FieldType.int), Jvm.Cond.code ({ cls := "java/lang/String", name := "indexOf", desc := "(II)I" } : Jvm.MethodName) jdk_42_method_80_code (3 : Nat) (Option.some Jvm.ClassFile.FieldType.int), Jvm.Cond.code ({ cls := "java/lang/String", name := "isLatin1", desc := "()Z" } : Jvm.MethodName) jdk_42_method_154_code (1 : Nat) (Option.some Jvm.ClassFile.FieldType.boolean), Jvm.Cond.code ({ cls := "java/lang/String", name := "length", desc := "()I" } : Jvm.MethodName) jdk_42_method_54_code (1 : Nat) (Option.some Jvm.ClassFile.FieldType.int), Jvm.Cond.code ({ cls := "java/lang/String", name := "coder", desc := "()B" } : Jvm.MethodName) jdk_42_method_152_code (1 : Nat) (Option.some Jvm.ClassFile.FieldType.byte), Jvm.Cond.code ({ cls := "java/lang/StringLatin1", name := "indexOf", desc := "([BIII)I" } : Jvm.MethodName) jdk_43_method_22_code (4 : Nat) (Option.some Jvm.ClassFile.FieldType.int), Jvm.Cond.code ({ cls := "java/lang/StringLatin1", name := "canEncode", desc := "(I)Z" } : Jvm.MethodName) jdk_43_method_4_code (1 : Nat) (Option.some Jvm.ClassFile.FieldType.boolean), Jvm.Cond.code ({ cls := "java/lang/Math", name := "max", desc := "(II)I" } : Jvm.MethodName) jdk_29_method_65_code (2 : Nat) (Option.some Jvm.ClassFile.FieldType.int), Jvm.Cond.code ({ cls := "java/lang/Math", name := "min", desc := "(II)I" } : Jvm.MethodName) jdk_29_method_69_code (2 : Nat) (Option.some Jvm.ClassFile.FieldType.int), Jvm.Cond.code ({ cls := "java/lang/StringLatin1", name := "indexOfChar", desc := "([BIII)I" } : Jvm.MethodName) jdk_43_method_23_code (6 : Nat) (Option.some Jvm.ClassFile.FieldType.int), Jvm.Cond.code ({ cls := "com/example/anansi/anansi/AsciiIsUnreservedPinLaw", name := "expected", desc := "(C)Z" } : Jvm.MethodName) method_2_code (6 : Nat) (Option.some Jvm.ClassFile.FieldType.boolean)]
set_option maxRecDepth 65536 in
theorem codes_eq : words1.filter isCode = codes1 := rfl
theorem w_codes : ∀ c ∈ words1.filter isCode, c.before args0 about1 = true := by
  rw [codes_eq]
  intro c hc
  simp only [codes1, List.mem_cons, List.not_mem_nil, or_false] at hc
  rcases hc with rfl | rfl | rfl | rfl | rfl | rfl | rfl | rfl | rfl | rfl | rfl | rfl | rfl
  · exact w_c0
  · exact w_c1
  · exact w_c2
  · exact w_c3
  · exact w_c4
  · exact w_c5
  · exact w_c6
  · exact w_c7
  · exact w_c8
  · exact w_c9
  · exact w_c10
  · exact w_c11
  · exact w_c12
set_option maxRecDepth 65536 in
theorem w_t1 : (words1.take 24).all (fun c => isCode c || c.before args0 about1) = true := by decide +kernel
set_option maxRecDepth 65536 in
theorem w_t2 : ((words1.drop 24).take 24).all (fun c => isCode c || c.before args0 about1) = true := by decide +kernel
set_option maxRecDepth 65536 in
theorem w_t3 : ((words1.drop 24).drop 24).all (fun c => isCode c || c.before args0 about1) = true := by decide +kernel
theorem w_tables : (allAtoms (Jvm.Cond.code x code maxLocals ret :: tables_1)).before args0 about1 = true := by
  rw [allAtoms_all]
  show words1.all (fun c => c.before args0 about1) = true
  refine all_split ?_ w_codes
  rw [← List.take_append_drop 24 words1, List.all_append, w_t1, ← List.take_append_drop 24 (words1.drop 24), List.all_append, w_t2, w_t3]
  rfl
set_option maxRecDepth 65536 in
theorem w_rest : rest_1_c.before args0 about1 = true := by decide +kernel
set_option maxRecDepth 65536 in
theorem w_case : (Jvm.Cond.and given_1 narrow_1).before args0 about1 = true := by decide +kernel
set_option maxRecDepth 65536 in
theorem w_consts : constsHeld consts_1 about1 := Jvm.Lit.constsHeldB_iff.mp (by decide +kernel)
theorem w_applies : (headSpec (Jvm.Cond.code x code maxLocals ret :: tables_1) room_1).applies x e0.platform about1 = true :=
  (Spec.applies_iff w_frames).mpr ⟨w_running, w_runnable, w_alone, w_named, w_hears, w_ripe, w_room, w_tables⟩
theorem atStart : AtStart classFile x code maxLocals ret World_1 tables_1 room_1 Calls_1 rest_1 Pre_1 launch0 p0 e0 about1 theMethod args0 below0 :=
  ⟨lists_1, trivial, launch0.admits_env _ _ _, launch0.least_env, fairChoices_fair.cas, fairChoices_fair.clock, w_frames, w_args, w_heap, w_applies, ⟨w_consts, trivial⟩, w_rest, w_case⟩
end start1
theorem witness_1 : WitnessClaimed_1 := ⟨start1.p0, start1.e0, start1.about1, start1.theMethod, start1.args0, start1.below0, start1.atStart⟩
end Jvm.Pilot.@@N@@
