import JvmDerived
import JvmDerived.Pilot.@@N@@Statement
import JvmDerived.Pilot.@@N@@Code
set_option linter.unusedVariables false
set_option linter.unusedSimpArgs false
namespace Jvm.RoadKit
open Sem ClassFile Op Lib Jvm.Stand Jvm.Free Jvm.LawKit
section New
variable {p : Program} {l : Launch} {e : Env} {R : Room} {s : State} {m : MethodId} {args : Array Value} {below : List Frame} {meth : Method} {c : Code} {T : State} {locs : List Loc} {cells slots : Nat}
theorem retI (X : Stand p l e R s m args below meth c T locs cells slots) (hx : p.tables.exec = Jvm.exec) {pc : Nat} {Ls : Array Slot} {z : Int32} {rest : List Value} (hret : meth.sig.returnType = some .int) (hd : decode c.code pc = .ok (.ireturn, 1)) {fs : List Frame}
    (hl : ∀ (f : JFrame) (acts : List Action), f.method = m → f.locked = none → f.entered = [] → (doReturn e (T.setTop f) acts (some (.int z))).1 = T.setFrames fs) : Steps p.tables e below (T.setTop (mkF m pc Ls (.int z :: rest))) (T.setFrames fs) := by
  have hm' : T.vm.method? m = some meth := X.method'
  have hn : narrow .int (.int z) = .int z := rfl
  show Steps p.tables e below (T.setTop { method := m, pc := pc, locals := Ls, stack := _ :: rest, locked := none }) _
  jvm_step X.here [X.here.top, hx, hd, hm', hret, hn]
  first | (intro acts; rw [hl _ acts rfl rfl rfl]) | rw [hl _ _ rfl rfl rfl]
  exact Steps.refl _
end New
end Jvm.RoadKit
namespace Jvm.Pilot.@@N@@
open Jvm Jvm.ClassFile Sem Op Lib Jvm.Free Jvm.Stand Jvm.LawKit Jvm.RoadKit Bundle Jvm.Pilot.@@N@@.Jvm.D
/-- the run from frame g of state T ends, returns w, leaves heap h and writes new cells alone -/
def oEnd (p : Program) (e : Env) (s : State) (below : List Frame) (T : State) (g : JFrame) (n0 : Nat) (h : Heap) (cells slots : Nat) (w : Option Value) : Prop :=
  ∃ t L, Steps p.tables e below (T.setTop g) t ∧ t.status = .running ∧ Ended t below (.returned w) ∧ s.WarmedH t.vm ∧ s.sameButNew ({ t with vm := s.vm } : State) L cells slots ∧ Fr n0 L ∧ t.heap = h
theorem oPre {p : Program} {e : Env} {s : State} {below : List Frame} {T T' : State} {g g' : JFrame} {n0 : Nat} {h : Heap} {cells slots : Nat} {w : Option Value}
    (k : ∀ target, Steps p.tables e below (T'.setTop g') target → Steps p.tables e below (T.setTop g) target) (q : oEnd p e s below T' g' n0 h cells slots w) : oEnd p e s below T g n0 h cells slots w := by
  obtain ⟨t, L, hs, r⟩ := q
  exact ⟨t, L, k t hs, r⟩
/-- what a pure body leaves -/
def oQp (r : Option Value) (h0 : Heap) (n0 : Nat) (v : Option Value) (h : Heap) (L : List Loc) : Prop := v = r ∧ Fr n0 L ∧ h = h0
def oI2c (x : Int32) : Int32 := x.toUInt32.toUInt16.toUInt32.toInt32
theorem d6_0 : decode prog_1_method_2_code 0 = .ok (.iconst (-1), 1) := by decide +kernel
theorem d6_1 : decode prog_1_method_2_code 1 = .ok (.istore_n 1, 1) := by decide +kernel
theorem d6_2 : decode prog_1_method_2_code 2 = .ok (.iload_n 0, 1) := by decide +kernel
theorem d6_3 : decode prog_1_method_2_code 3 = .ok (.bipush 48, 2) := by decide +kernel
theorem d6_5 : decode prog_1_method_2_code 5 = .ok (.if_icmp .lt 17, 3) := by decide +kernel
theorem d6_8 : decode prog_1_method_2_code 8 = .ok (.iload_n 0, 1) := by decide +kernel
theorem d6_9 : decode prog_1_method_2_code 9 = .ok (.bipush 57, 2) := by decide +kernel
theorem d6_11 : decode prog_1_method_2_code 11 = .ok (.if_icmp .gt 11, 3) := by decide +kernel
theorem d6_14 : decode prog_1_method_2_code 14 = .ok (.iload_n 0, 1) := by decide +kernel
theorem d6_15 : decode prog_1_method_2_code 15 = .ok (.bipush 48, 2) := by decide +kernel
theorem d6_17 : decode prog_1_method_2_code 17 = .ok (.isub, 1) := by decide +kernel
theorem d6_18 : decode prog_1_method_2_code 18 = .ok (.istore_n 1, 1) := by decide +kernel
theorem d6_19 : decode prog_1_method_2_code 19 = .ok (.goto 46, 3) := by decide +kernel
theorem d6_22 : decode prog_1_method_2_code 22 = .ok (.iload_n 0, 1) := by decide +kernel
theorem d6_23 : decode prog_1_method_2_code 23 = .ok (.bipush 97, 2) := by decide +kernel
theorem d6_25 : decode prog_1_method_2_code 25 = .ok (.if_icmp .lt 20, 3) := by decide +kernel
theorem d6_28 : decode prog_1_method_2_code 28 = .ok (.iload_n 0, 1) := by decide +kernel
theorem d6_29 : decode prog_1_method_2_code 29 = .ok (.bipush 102, 2) := by decide +kernel
theorem d6_31 : decode prog_1_method_2_code 31 = .ok (.if_icmp .gt 14, 3) := by decide +kernel
theorem d6_34 : decode prog_1_method_2_code 34 = .ok (.iload_n 0, 1) := by decide +kernel
theorem d6_35 : decode prog_1_method_2_code 35 = .ok (.bipush 97, 2) := by decide +kernel
theorem d6_37 : decode prog_1_method_2_code 37 = .ok (.isub, 1) := by decide +kernel
theorem d6_38 : decode prog_1_method_2_code 38 = .ok (.bipush 10, 2) := by decide +kernel
theorem d6_40 : decode prog_1_method_2_code 40 = .ok (.iadd, 1) := by decide +kernel
theorem d6_41 : decode prog_1_method_2_code 41 = .ok (.istore_n 1, 1) := by decide +kernel
theorem d6_42 : decode prog_1_method_2_code 42 = .ok (.goto 23, 3) := by decide +kernel
theorem d6_45 : decode prog_1_method_2_code 45 = .ok (.iload_n 0, 1) := by decide +kernel
theorem d6_46 : decode prog_1_method_2_code 46 = .ok (.bipush 65, 2) := by decide +kernel
theorem d6_48 : decode prog_1_method_2_code 48 = .ok (.if_icmp .lt 17, 3) := by decide +kernel
theorem d6_51 : decode prog_1_method_2_code 51 = .ok (.iload_n 0, 1) := by decide +kernel
theorem d6_52 : decode prog_1_method_2_code 52 = .ok (.bipush 70, 2) := by decide +kernel
theorem d6_54 : decode prog_1_method_2_code 54 = .ok (.if_icmp .gt 11, 3) := by decide +kernel
theorem d6_57 : decode prog_1_method_2_code 57 = .ok (.iload_n 0, 1) := by decide +kernel
theorem d6_58 : decode prog_1_method_2_code 58 = .ok (.bipush 65, 2) := by decide +kernel
theorem d6_60 : decode prog_1_method_2_code 60 = .ok (.isub, 1) := by decide +kernel
theorem d6_61 : decode prog_1_method_2_code 61 = .ok (.bipush 10, 2) := by decide +kernel
theorem d6_63 : decode prog_1_method_2_code 63 = .ok (.iadd, 1) := by decide +kernel
theorem d6_64 : decode prog_1_method_2_code 64 = .ok (.istore_n 1, 1) := by decide +kernel
theorem d6_65 : decode prog_1_method_2_code 65 = .ok (.iload_n 1, 1) := by decide +kernel
theorem d6_66 : decode prog_1_method_2_code 66 = .ok (.ireturn, 1) := by decide +kernel
def oF6_65 (p1 : Int32) (p2 : Int32) : Int32 := p2
set_option maxRecDepth 65536 in
set_option maxHeartbeats 4000000 in
theorem oB6_65 {p : Program} {l : Launch} {e : Env} {s : State} {m : MethodId} {args : Array Value} {below : List Frame} {meth : Method} {c : Code} {T : State} {locs : List Loc} {cells slots : Nat} {Z : State} {a0 : Array Value} {h0 : Heap} {n0 : Nat} (X : Stand p l e ({ frames := 0, cells := 0, slots := 0, locals := 0 } : Room) s m args below meth c T locs cells slots) (hx : p.tables.exec = Jvm.exec) (hby : c.code = prog_1_method_2_code) (hml : c.maxLocals = 2) (hret : meth.sig.returnType = some .int) (hlk : meth.locks = false) (hown : s.vm.findClass "com/example/anansi/anansi/Ascii" = some m.cls) (hZ : Z.Warmed39 s.vm) (hw : ∀ d ∈ tables_1, d.before a0 Z = true) (eT : T.heap = h0) (N : Fr n0 locs) (Z0 : n0 ≤ h0.size) (hcs : cells ≤ ({ frames := 0, cells := 0, slots := 0, locals := 0 } : Room).cells) (hss : slots ≤ ({ frames := 0, cells := 0, slots := 0, locals := 0 } : Room).slots) (p1 : Int32) (p2 : Int32) {w : Int32} (hv : oF6_65 p1 p2 = w) : oEnd p e s below T (mkF m 65 #[.val (.int p1), .val (.int p2)] []) n0 h0 cells slots (some (.int w)) := by
  show oEnd p e s below T (mkF m 65 #[.val (.int p1), .val (.int p2)] []) n0 h0 cells slots (some (.int w))
  refine oPre (fun _ => XS.iloadN X.here hx rfl (hb hby d6_65) rfl) ?_
  show oEnd p e s below T (mkF m 66 #[.val (.int p1), .val (.int p2)] [(.int p2)]) n0 h0 cells slots (some (.int w))
  subst hv
  obtain ⟨fs, hr, hrun, hended, hW, hsame⟩ := X.leave (v := some (.int p2)) (fun h => by rw [hret] at h; cases h) hlk
  exact ⟨_, _, retI X hx hret (hb hby d6_66) hr, hrun, hended, hW, hsame, N, eT⟩
def oF6_45 (p1 : Int32) (p2 : Int32) : Int32 := (if p1 < (65 : Int32) then (oF6_65 p1 p2) else (if (70 : Int32) < p1 then (oF6_65 p1 p2) else (oF6_65 p1 ((p1 - (65 : Int32)) + (10 : Int32)))))
set_option maxRecDepth 65536 in
set_option maxHeartbeats 4000000 in
theorem oB6_45 {p : Program} {l : Launch} {e : Env} {s : State} {m : MethodId} {args : Array Value} {below : List Frame} {meth : Method} {c : Code} {T : State} {locs : List Loc} {cells slots : Nat} {Z : State} {a0 : Array Value} {h0 : Heap} {n0 : Nat} (X : Stand p l e ({ frames := 0, cells := 0, slots := 0, locals := 0 } : Room) s m args below meth c T locs cells slots) (hx : p.tables.exec = Jvm.exec) (hby : c.code = prog_1_method_2_code) (hml : c.maxLocals = 2) (hret : meth.sig.returnType = some .int) (hlk : meth.locks = false) (hown : s.vm.findClass "com/example/anansi/anansi/Ascii" = some m.cls) (hZ : Z.Warmed39 s.vm) (hw : ∀ d ∈ tables_1, d.before a0 Z = true) (eT : T.heap = h0) (N : Fr n0 locs) (Z0 : n0 ≤ h0.size) (hcs : cells ≤ ({ frames := 0, cells := 0, slots := 0, locals := 0 } : Room).cells) (hss : slots ≤ ({ frames := 0, cells := 0, slots := 0, locals := 0 } : Room).slots) (p1 : Int32) (p2 : Int32) {w : Int32} (hv : oF6_45 p1 p2 = w) : oEnd p e s below T (mkF m 45 #[.val (.int p1), .val (.int p2)] []) n0 h0 cells slots (some (.int w)) := by
  show oEnd p e s below T (mkF m 45 #[.val (.int p1), .val (.int p2)] []) n0 h0 cells slots (some (.int w))
  refine oPre (fun _ => XS.iloadN X.here hx rfl (hb hby d6_45) rfl) ?_
  show oEnd p e s below T (mkF m 46 #[.val (.int p1), .val (.int p2)] [(.int p1)]) n0 h0 cells slots (some (.int w))
  refine oPre (fun _ => XS.bipush X.here hx rfl (hb hby d6_46)) ?_
  show oEnd p e s below T (mkF m 48 #[.val (.int p1), .val (.int p2)] [(.int (65 : Int32)), (.int p1)]) n0 h0 cells slots (some (.int w))
  by_cases h48 : p1 < (65 : Int32)
  · have v48 : (oF6_65 p1 p2) = w := (if_pos h48).symm.trans hv
    refine oPre (fun _ => XS.icmpYes X.here hx rfl (pc0 := 48) (pc' := 65) rfl (hb hby d6_48) rfl (((tlt h48).1)) (by decide) (by decide)) ?_
    exact oB6_65 X hx hby hml hret hlk hown hZ hw eT N Z0 hcs hss p1 p2 v48
  · have v48 : (if (70 : Int32) < p1 then (oF6_65 p1 p2) else (oF6_65 p1 ((p1 - (65 : Int32)) + (10 : Int32)))) = w := (if_neg h48).symm.trans hv
    refine oPre (fun _ => XS.icmpNo X.here hx rfl (hb hby d6_48) rfl (((flt h48).1))) ?_
    show oEnd p e s below T (mkF m 51 #[.val (.int p1), .val (.int p2)] []) n0 h0 cells slots (some (.int w))
    refine oPre (fun _ => XS.iloadN X.here hx rfl (hb hby d6_51) rfl) ?_
    show oEnd p e s below T (mkF m 52 #[.val (.int p1), .val (.int p2)] [(.int p1)]) n0 h0 cells slots (some (.int w))
    refine oPre (fun _ => XS.bipush X.here hx rfl (hb hby d6_52)) ?_
    show oEnd p e s below T (mkF m 54 #[.val (.int p1), .val (.int p2)] [(.int (70 : Int32)), (.int p1)]) n0 h0 cells slots (some (.int w))
    by_cases h54 : (70 : Int32) < p1
    · have v54 : (oF6_65 p1 p2) = w := (if_pos h54).symm.trans v48
      refine oPre (fun _ => XS.icmpYes X.here hx rfl (pc0 := 54) (pc' := 65) rfl (hb hby d6_54) rfl (((tlt h54).2.2.1)) (by decide) (by decide)) ?_
      exact oB6_65 X hx hby hml hret hlk hown hZ hw eT N Z0 hcs hss p1 p2 v54
    · have v54 : (oF6_65 p1 ((p1 - (65 : Int32)) + (10 : Int32))) = w := (if_neg h54).symm.trans v48
      refine oPre (fun _ => XS.icmpNo X.here hx rfl (hb hby d6_54) rfl (((flt h54).2.2.1))) ?_
      show oEnd p e s below T (mkF m 57 #[.val (.int p1), .val (.int p2)] []) n0 h0 cells slots (some (.int w))
      refine oPre (fun _ => XS.iloadN X.here hx rfl (hb hby d6_57) rfl) ?_
      show oEnd p e s below T (mkF m 58 #[.val (.int p1), .val (.int p2)] [(.int p1)]) n0 h0 cells slots (some (.int w))
      refine oPre (fun _ => XS.bipush X.here hx rfl (hb hby d6_58)) ?_
      show oEnd p e s below T (mkF m 60 #[.val (.int p1), .val (.int p2)] [(.int (65 : Int32)), (.int p1)]) n0 h0 cells slots (some (.int w))
      refine oPre (fun _ => XS.isub X.here hx rfl (hb hby d6_60) rfl) ?_
      show oEnd p e s below T (mkF m 61 #[.val (.int p1), .val (.int p2)] [(.int (p1 - (65 : Int32)))]) n0 h0 cells slots (some (.int w))
      refine oPre (fun _ => XS.bipush X.here hx rfl (hb hby d6_61)) ?_
      show oEnd p e s below T (mkF m 63 #[.val (.int p1), .val (.int p2)] [(.int (10 : Int32)), (.int (p1 - (65 : Int32)))]) n0 h0 cells slots (some (.int w))
      refine oPre (fun _ => XS.iadd X.here hx rfl (hb hby d6_63) rfl) ?_
      show oEnd p e s below T (mkF m 64 #[.val (.int p1), .val (.int p2)] [(.int ((p1 - (65 : Int32)) + (10 : Int32)))]) n0 h0 cells slots (some (.int w))
      refine oPre (fun _ => XS.istoreN X.here hx rfl (hb hby d6_64) rfl (l' := #[.val (.int p1), .val (.int ((p1 - (65 : Int32)) + (10 : Int32)))]) rfl) ?_
      exact oB6_65 X hx hby hml hret hlk hown hZ hw eT N Z0 hcs hss p1 ((p1 - (65 : Int32)) + (10 : Int32)) v54
def oF6_22 (p1 : Int32) (p2 : Int32) : Int32 := (if p1 < (97 : Int32) then (oF6_45 p1 p2) else (if (102 : Int32) < p1 then (oF6_45 p1 p2) else (oF6_65 p1 ((p1 - (97 : Int32)) + (10 : Int32)))))
set_option maxRecDepth 65536 in
set_option maxHeartbeats 4000000 in
theorem oB6_22 {p : Program} {l : Launch} {e : Env} {s : State} {m : MethodId} {args : Array Value} {below : List Frame} {meth : Method} {c : Code} {T : State} {locs : List Loc} {cells slots : Nat} {Z : State} {a0 : Array Value} {h0 : Heap} {n0 : Nat} (X : Stand p l e ({ frames := 0, cells := 0, slots := 0, locals := 0 } : Room) s m args below meth c T locs cells slots) (hx : p.tables.exec = Jvm.exec) (hby : c.code = prog_1_method_2_code) (hml : c.maxLocals = 2) (hret : meth.sig.returnType = some .int) (hlk : meth.locks = false) (hown : s.vm.findClass "com/example/anansi/anansi/Ascii" = some m.cls) (hZ : Z.Warmed39 s.vm) (hw : ∀ d ∈ tables_1, d.before a0 Z = true) (eT : T.heap = h0) (N : Fr n0 locs) (Z0 : n0 ≤ h0.size) (hcs : cells ≤ ({ frames := 0, cells := 0, slots := 0, locals := 0 } : Room).cells) (hss : slots ≤ ({ frames := 0, cells := 0, slots := 0, locals := 0 } : Room).slots) (p1 : Int32) (p2 : Int32) {w : Int32} (hv : oF6_22 p1 p2 = w) : oEnd p e s below T (mkF m 22 #[.val (.int p1), .val (.int p2)] []) n0 h0 cells slots (some (.int w)) := by
  show oEnd p e s below T (mkF m 22 #[.val (.int p1), .val (.int p2)] []) n0 h0 cells slots (some (.int w))
  refine oPre (fun _ => XS.iloadN X.here hx rfl (hb hby d6_22) rfl) ?_
  show oEnd p e s below T (mkF m 23 #[.val (.int p1), .val (.int p2)] [(.int p1)]) n0 h0 cells slots (some (.int w))
  refine oPre (fun _ => XS.bipush X.here hx rfl (hb hby d6_23)) ?_
  show oEnd p e s below T (mkF m 25 #[.val (.int p1), .val (.int p2)] [(.int (97 : Int32)), (.int p1)]) n0 h0 cells slots (some (.int w))
  by_cases h25 : p1 < (97 : Int32)
  · have v25 : (oF6_45 p1 p2) = w := (if_pos h25).symm.trans hv
    refine oPre (fun _ => XS.icmpYes X.here hx rfl (pc0 := 25) (pc' := 45) rfl (hb hby d6_25) rfl (((tlt h25).1)) (by decide) (by decide)) ?_
    exact oB6_45 X hx hby hml hret hlk hown hZ hw eT N Z0 hcs hss p1 p2 v25
  · have v25 : (if (102 : Int32) < p1 then (oF6_45 p1 p2) else (oF6_65 p1 ((p1 - (97 : Int32)) + (10 : Int32)))) = w := (if_neg h25).symm.trans hv
    refine oPre (fun _ => XS.icmpNo X.here hx rfl (hb hby d6_25) rfl (((flt h25).1))) ?_
    show oEnd p e s below T (mkF m 28 #[.val (.int p1), .val (.int p2)] []) n0 h0 cells slots (some (.int w))
    refine oPre (fun _ => XS.iloadN X.here hx rfl (hb hby d6_28) rfl) ?_
    show oEnd p e s below T (mkF m 29 #[.val (.int p1), .val (.int p2)] [(.int p1)]) n0 h0 cells slots (some (.int w))
    refine oPre (fun _ => XS.bipush X.here hx rfl (hb hby d6_29)) ?_
    show oEnd p e s below T (mkF m 31 #[.val (.int p1), .val (.int p2)] [(.int (102 : Int32)), (.int p1)]) n0 h0 cells slots (some (.int w))
    by_cases h31 : (102 : Int32) < p1
    · have v31 : (oF6_45 p1 p2) = w := (if_pos h31).symm.trans v25
      refine oPre (fun _ => XS.icmpYes X.here hx rfl (pc0 := 31) (pc' := 45) rfl (hb hby d6_31) rfl (((tlt h31).2.2.1)) (by decide) (by decide)) ?_
      exact oB6_45 X hx hby hml hret hlk hown hZ hw eT N Z0 hcs hss p1 p2 v31
    · have v31 : (oF6_65 p1 ((p1 - (97 : Int32)) + (10 : Int32))) = w := (if_neg h31).symm.trans v25
      refine oPre (fun _ => XS.icmpNo X.here hx rfl (hb hby d6_31) rfl (((flt h31).2.2.1))) ?_
      show oEnd p e s below T (mkF m 34 #[.val (.int p1), .val (.int p2)] []) n0 h0 cells slots (some (.int w))
      refine oPre (fun _ => XS.iloadN X.here hx rfl (hb hby d6_34) rfl) ?_
      show oEnd p e s below T (mkF m 35 #[.val (.int p1), .val (.int p2)] [(.int p1)]) n0 h0 cells slots (some (.int w))
      refine oPre (fun _ => XS.bipush X.here hx rfl (hb hby d6_35)) ?_
      show oEnd p e s below T (mkF m 37 #[.val (.int p1), .val (.int p2)] [(.int (97 : Int32)), (.int p1)]) n0 h0 cells slots (some (.int w))
      refine oPre (fun _ => XS.isub X.here hx rfl (hb hby d6_37) rfl) ?_
      show oEnd p e s below T (mkF m 38 #[.val (.int p1), .val (.int p2)] [(.int (p1 - (97 : Int32)))]) n0 h0 cells slots (some (.int w))
      refine oPre (fun _ => XS.bipush X.here hx rfl (hb hby d6_38)) ?_
      show oEnd p e s below T (mkF m 40 #[.val (.int p1), .val (.int p2)] [(.int (10 : Int32)), (.int (p1 - (97 : Int32)))]) n0 h0 cells slots (some (.int w))
      refine oPre (fun _ => XS.iadd X.here hx rfl (hb hby d6_40) rfl) ?_
      show oEnd p e s below T (mkF m 41 #[.val (.int p1), .val (.int p2)] [(.int ((p1 - (97 : Int32)) + (10 : Int32)))]) n0 h0 cells slots (some (.int w))
      refine oPre (fun _ => XS.istoreN X.here hx rfl (hb hby d6_41) rfl (l' := #[.val (.int p1), .val (.int ((p1 - (97 : Int32)) + (10 : Int32)))]) rfl) ?_
      show oEnd p e s below T (mkF m 42 #[.val (.int p1), .val (.int ((p1 - (97 : Int32)) + (10 : Int32)))] []) n0 h0 cells slots (some (.int w))
      refine oPre (fun _ => XS.goto X.here hx rfl (pc0 := 42) (pc' := 65) rfl (hb hby d6_42) (by decide) (by decide)) ?_
      exact oB6_65 X hx hby hml hret hlk hown hZ hw eT N Z0 hcs hss p1 ((p1 - (97 : Int32)) + (10 : Int32)) v31
def oF6_0 (p1 : Int32) : Int32 := (if p1 < (48 : Int32) then (oF6_22 p1 (-1 : Int32)) else (if (57 : Int32) < p1 then (oF6_22 p1 (-1 : Int32)) else (oF6_65 p1 (p1 - (48 : Int32)))))
set_option maxRecDepth 65536 in
set_option maxHeartbeats 4000000 in
theorem oB6_0 {p : Program} {l : Launch} {e : Env} {s : State} {m : MethodId} {args : Array Value} {below : List Frame} {meth : Method} {c : Code} {T : State} {locs : List Loc} {cells slots : Nat} {Z : State} {a0 : Array Value} {h0 : Heap} {n0 : Nat} (X : Stand p l e ({ frames := 0, cells := 0, slots := 0, locals := 0 } : Room) s m args below meth c T locs cells slots) (hx : p.tables.exec = Jvm.exec) (hby : c.code = prog_1_method_2_code) (hml : c.maxLocals = 2) (hret : meth.sig.returnType = some .int) (hlk : meth.locks = false) (hown : s.vm.findClass "com/example/anansi/anansi/Ascii" = some m.cls) (hZ : Z.Warmed39 s.vm) (hw : ∀ d ∈ tables_1, d.before a0 Z = true) (eT : T.heap = h0) (N : Fr n0 locs) (Z0 : n0 ≤ h0.size) (hcs : cells ≤ ({ frames := 0, cells := 0, slots := 0, locals := 0 } : Room).cells) (hss : slots ≤ ({ frames := 0, cells := 0, slots := 0, locals := 0 } : Room).slots) (p1 : Int32) {w : Int32} (hv : oF6_0 p1 = w) : oEnd p e s below T (mkF m 0 #[.val (.int p1), .unset] []) n0 h0 cells slots (some (.int w)) := by
  show oEnd p e s below T (mkF m 0 #[.val (.int p1), .unset] []) n0 h0 cells slots (some (.int w))
  refine oPre (fun _ => XS.iconst X.here hx rfl (hb hby d6_0)) ?_
  show oEnd p e s below T (mkF m 1 #[.val (.int p1), .unset] [(.int (-1 : Int32))]) n0 h0 cells slots (some (.int w))
  refine oPre (fun _ => XS.istoreN X.here hx rfl (hb hby d6_1) rfl (l' := #[.val (.int p1), .val (.int (-1 : Int32))]) rfl) ?_
  show oEnd p e s below T (mkF m 2 #[.val (.int p1), .val (.int (-1 : Int32))] []) n0 h0 cells slots (some (.int w))
  refine oPre (fun _ => XS.iloadN X.here hx rfl (hb hby d6_2) rfl) ?_
  show oEnd p e s below T (mkF m 3 #[.val (.int p1), .val (.int (-1 : Int32))] [(.int p1)]) n0 h0 cells slots (some (.int w))
  refine oPre (fun _ => XS.bipush X.here hx rfl (hb hby d6_3)) ?_
  show oEnd p e s below T (mkF m 5 #[.val (.int p1), .val (.int (-1 : Int32))] [(.int (48 : Int32)), (.int p1)]) n0 h0 cells slots (some (.int w))
  by_cases h5 : p1 < (48 : Int32)
  · have v5 : (oF6_22 p1 (-1 : Int32)) = w := (if_pos h5).symm.trans hv
    refine oPre (fun _ => XS.icmpYes X.here hx rfl (pc0 := 5) (pc' := 22) rfl (hb hby d6_5) rfl (((tlt h5).1)) (by decide) (by decide)) ?_
    exact oB6_22 X hx hby hml hret hlk hown hZ hw eT N Z0 hcs hss p1 (-1 : Int32) v5
  · have v5 : (if (57 : Int32) < p1 then (oF6_22 p1 (-1 : Int32)) else (oF6_65 p1 (p1 - (48 : Int32)))) = w := (if_neg h5).symm.trans hv
    refine oPre (fun _ => XS.icmpNo X.here hx rfl (hb hby d6_5) rfl (((flt h5).1))) ?_
    show oEnd p e s below T (mkF m 8 #[.val (.int p1), .val (.int (-1 : Int32))] []) n0 h0 cells slots (some (.int w))
    refine oPre (fun _ => XS.iloadN X.here hx rfl (hb hby d6_8) rfl) ?_
    show oEnd p e s below T (mkF m 9 #[.val (.int p1), .val (.int (-1 : Int32))] [(.int p1)]) n0 h0 cells slots (some (.int w))
    refine oPre (fun _ => XS.bipush X.here hx rfl (hb hby d6_9)) ?_
    show oEnd p e s below T (mkF m 11 #[.val (.int p1), .val (.int (-1 : Int32))] [(.int (57 : Int32)), (.int p1)]) n0 h0 cells slots (some (.int w))
    by_cases h11 : (57 : Int32) < p1
    · have v11 : (oF6_22 p1 (-1 : Int32)) = w := (if_pos h11).symm.trans v5
      refine oPre (fun _ => XS.icmpYes X.here hx rfl (pc0 := 11) (pc' := 22) rfl (hb hby d6_11) rfl (((tlt h11).2.2.1)) (by decide) (by decide)) ?_
      exact oB6_22 X hx hby hml hret hlk hown hZ hw eT N Z0 hcs hss p1 (-1 : Int32) v11
    · have v11 : (oF6_65 p1 (p1 - (48 : Int32))) = w := (if_neg h11).symm.trans v5
      refine oPre (fun _ => XS.icmpNo X.here hx rfl (hb hby d6_11) rfl (((flt h11).2.2.1))) ?_
      show oEnd p e s below T (mkF m 14 #[.val (.int p1), .val (.int (-1 : Int32))] []) n0 h0 cells slots (some (.int w))
      refine oPre (fun _ => XS.iloadN X.here hx rfl (hb hby d6_14) rfl) ?_
      show oEnd p e s below T (mkF m 15 #[.val (.int p1), .val (.int (-1 : Int32))] [(.int p1)]) n0 h0 cells slots (some (.int w))
      refine oPre (fun _ => XS.bipush X.here hx rfl (hb hby d6_15)) ?_
      show oEnd p e s below T (mkF m 17 #[.val (.int p1), .val (.int (-1 : Int32))] [(.int (48 : Int32)), (.int p1)]) n0 h0 cells slots (some (.int w))
      refine oPre (fun _ => XS.isub X.here hx rfl (hb hby d6_17) rfl) ?_
      show oEnd p e s below T (mkF m 18 #[.val (.int p1), .val (.int (-1 : Int32))] [(.int (p1 - (48 : Int32)))]) n0 h0 cells slots (some (.int w))
      refine oPre (fun _ => XS.istoreN X.here hx rfl (hb hby d6_18) rfl (l' := #[.val (.int p1), .val (.int (p1 - (48 : Int32)))]) rfl) ?_
      show oEnd p e s below T (mkF m 19 #[.val (.int p1), .val (.int (p1 - (48 : Int32)))] []) n0 h0 cells slots (some (.int w))
      refine oPre (fun _ => XS.goto X.here hx rfl (pc0 := 19) (pc' := 65) rfl (hb hby d6_19) (by decide) (by decide)) ?_
      exact oB6_65 X hx hby hml hret hlk hown hZ hw eT N Z0 hcs hss p1 (p1 - (48 : Int32)) v11
theorem pn_6 : plainName "com/example/anansi/anansi/Ascii" = true := by first | (simp [plainName, overriddenIn]; done) | decide +kernel
theorem ef_6 (m : MethodId) (p1 : Int32) : entryFrame m #[(.int p1)] 2 = mkF m 0 #[.val (.int p1), .unset] [] := by first | (simp [entryFrame, mkF, argsToLocals, Value.category]; done) | rfl
def oQ6 (p1 : Int32) (h0 : Heap) (n0 : Nat) (v : Option Value) (h : Heap) (L : List Loc) : Prop := v = some (.int (oF6_0 p1)) ∧ Fr n0 L ∧ h = h0
set_option maxRecDepth 65536 in
set_option maxHeartbeats 4000000 in
theorem oR6 (l : Launch) (Z : State) (a0 : Array Value) (hw : ∀ d ∈ tables_1, d.before a0 Z = true) (ws : List Jvm.Cond) (p1 : Int32) (h0 : Heap) (n0 : Nat) (Z0 : n0 ≤ h0.size) :
    MetFree l (⟨"com/example/anansi/anansi/Ascii", "hexDigit", "(C)I"⟩ : MethodName) (head1 (Jvm.Cond.code (⟨"com/example/anansi/anansi/Ascii", "hexDigit", "(C)I"⟩ : MethodName) prog_1_method_2_code 2 (some .int) :: ws) ({ frames := 0, cells := 0, slots := 0, locals := 0 } : Room)) (fun a U => a = #[(.int p1)] ∧ Z.Warmed39 U.vm ∧ U.heap = h0) (fun _ _ _ _ _ => True) (fun _ U o U' => ∃ v L, o = .returned v ∧ oQ6 p1 h0 n0 v U'.heap L ∧ FrameEnd U o U' L ({ frames := 0, cells := 0, slots := 0, locals := 0 } : Room).cells ({ frames := 0, cells := 0, slots := 0, locals := 0 } : Room).slots) := by
  refine MetFree.of_bodySF (plainFor_of_name pn_6) hisR ?_
  intro p e s m args below meth c s₁ Bd hml0 hP hK
  obtain ⟨rfl, hZ, hh⟩ := hP
  have hown : s.vm.findClass "com/example/anansi/anansi/Ascii" = some m.cls := findClass_of_methodNamed Bd.named
  have X0 : Stand p l e ({ frames := 0, cells := 0, slots := 0, locals := 0 } : Room) s m #[(.int p1)] below meth c s₁ [] 0 0 := Stand.of_body Bd
  have e0 : s₁.heap = h0 := by rw [← hh, Bd.state]; rfl
  obtain ⟨t, L, hs, hrun, hended, hW, hsame, hN, ht⟩ := oB6_0 X0 Bd.exec Bd.bytes hml0 Bd.returns Bd.notSynchronized hown hZ hw e0 (Fr.nil n0) Z0 (Nat.zero_le _) (Nat.zero_le _) p1 rfl
  exact ⟨t, _, castTop (ef_6 m p1) hs, hrun, hended, _, L, rfl, ⟨rfl, hN, ht⟩, ⟨_, rfl⟩, hW, hsame.mono (Nat.zero_le _) (Nat.zero_le _)⟩
theorem pd_0 : parseMethodDescriptor "()Z" = some ⟨[], some .boolean⟩ := by decide +kernel
theorem pd_1 : parseMethodDescriptor "([BI)C" = some ⟨[(.array .byte), .int], some .char⟩ := by decide +kernel
theorem pd_2 : parseMethodDescriptor "(II)V" = some ⟨[.int, .int], none⟩ := by decide +kernel
theorem pd_3 : parseMethodDescriptor "(IILjava/util/function/BiFunction;)I" = some ⟨[.int, .int, (.object "java/util/function/BiFunction")], some .int⟩ := by decide +kernel
theorem pd_4 : parseMethodDescriptor "(I)C" = some ⟨[.int], some .char⟩ := by decide +kernel
/-- what charAt leaves of the byte v -/
def oCh (v : Int32) : Int32 := oI2c (oI2c (oI2c (v &&& (255 : Int32))))
theorem d2_0 : decode jdk_42_method_154_code 0 = .ok (.getstatic 38, 3) := by decide +kernel
theorem d2_3 : decode jdk_42_method_154_code 3 = .ok (.ifCond .eq 14, 3) := by decide +kernel
theorem d2_6 : decode jdk_42_method_154_code 6 = .ok (.aload_n 0, 1) := by decide +kernel
theorem d2_7 : decode jdk_42_method_154_code 7 = .ok (.getfield 15, 3) := by decide +kernel
theorem d2_10 : decode jdk_42_method_154_code 10 = .ok (.ifCond .ne 7, 3) := by decide +kernel
theorem d2_13 : decode jdk_42_method_154_code 13 = .ok (.iconst 1, 1) := by decide +kernel
theorem d2_14 : decode jdk_42_method_154_code 14 = .ok (.goto 4, 3) := by decide +kernel
theorem d2_17 : decode jdk_42_method_154_code 17 = .ok (.iconst 0, 1) := by decide +kernel
theorem d2_18 : decode jdk_42_method_154_code 18 = .ok (.ireturn, 1) := by decide +kernel
theorem pn_2 : plainName "java/lang/String" = true := by first | (simp [plainName, overriddenIn]; done) | decide +kernel
theorem ef_2 (m : MethodId) (a : Addr) : entryFrame m #[(.ref a)] 1 = mkF m 0 #[.val (.ref a)] [] := by first | (simp [entryFrame, mkF, argsToLocals, Value.category]; done) | rfl
set_option maxRecDepth 65536 in
set_option maxHeartbeats 40000000 in
theorem oR2 (l : Launch) (Z : State) (a0 : Array Value) (hw : ∀ d ∈ tables_1, d.before a0 Z = true) (ws : List Jvm.Cond) (a : Addr) (h0 : Heap) (n0 : Nat) (Z0 : n0 ≤ h0.size)  (C : Fld Z h0 a "java/lang/String" "coder" "B" (.int 0)) {G1 : Int32} (O2 : Sta Z h0 "java/lang/String" "COMPACT_STRINGS" "Z" (.int G1)) (P5 : ¬ (G1 = (0 : Int32))) :
    MetFree l (⟨"java/lang/String", "isLatin1", "()Z"⟩ : MethodName) (head1 (Jvm.Cond.code (⟨"java/lang/String", "isLatin1", "()Z"⟩ : MethodName) jdk_42_method_154_code 1 (some .boolean) :: ws) ({ frames := 0, cells := 0, slots := 0, locals := 0 } : Room)) (fun ar U => ar = #[(.ref a)] ∧ Z.Warmed39 U.vm ∧ U.heap = h0) (fun _ _ _ _ _ => True) (fun _ U o U' => ∃ v L, o = .returned v ∧ oQp (some (.int (1 : Int32))) h0 n0 v U'.heap L ∧ FrameEnd U o U' L ({ frames := 0, cells := 0, slots := 0, locals := 0 } : Room).cells ({ frames := 0, cells := 0, slots := 0, locals := 0 } : Room).slots) := by
  refine MetFree.of_bodySF (plainFor_of_name pn_2) hisR ?_
  intro p e s m args below meth c s₁ Bd hml0 hP hK
  obtain ⟨rfl, hZ, hh⟩ := hP
  have hx := Bd.exec
  have hby := Bd.bytes
  have hml : c.maxLocals = 1 := hml0
  have hret := Bd.returns
  have hlk : meth.locks = false := Bd.notSynchronized
  have hown : s.vm.findClass "java/lang/String" = some m.cls := findClass_of_methodNamed Bd.named
  have X0 : Stand p l e ({ frames := 0, cells := 0, slots := 0, locals := 0 } : Room) s m #[(.ref a)] below meth c s₁ [] 0 0 := Stand.of_body Bd
  have e0 : s₁.heap = h0 := by rw [← hh, Bd.state]; rfl
  have N0 := Fr.nil n0
  have main : oEnd p e s below s₁ (mkF m 0 #[.val (.ref a)] []) n0 h0 0 0 (some (.int (1 : Int32))) := by
    show oEnd p e s below s₁ (mkF m 0 #[.val (.ref a)] []) n0 h0 0 0 (some (.int (1 : Int32)))
    obtain ⟨T0, X0, e0, st0⟩ := getS2 X0 hx hZ hown (host := "") (Or.inl (hw _ (List.mem_of_getElem? (i := 19) rfl))) Via.refl e0 O2 (g := (mkF m 0 #[.val (.ref a)] [])) rfl (hb hby d2_0)
    refine oPre st0 ?_
    show oEnd p e s below T0 (mkF m 3 #[.val (.ref a)] [(.int G1)]) n0 h0 0 0 (some (.int (1 : Int32)))
    refine oPre (fun _ => XS.ifNo X0.here hx rfl (hb hby d2_3) rfl ((if0 _ _).trans ((feq P5).1))) ?_
    show oEnd p e s below T0 (mkF m 6 #[.val (.ref a)] []) n0 h0 0 0 (some (.int (1 : Int32)))
    refine oPre (fun _ => XS.aloadN X0.here hx rfl (hb hby d2_6) rfl rfl) ?_
    show oEnd p e s below T0 (mkF m 7 #[.val (.ref a)] [(.ref a)]) n0 h0 0 0 (some (.int (1 : Int32)))
    obtain ⟨T7, X7, e7, st7⟩ := getF X0 hx hZ hown (host := "") (Or.inl (hw _ (List.mem_of_getElem? (i := 20) rfl))) Via.refl e0 C (g := (mkF m 7 #[.val (.ref a)] [(.ref a)])) rfl rfl (hb hby d2_7)
    refine oPre st7 ?_
    show oEnd p e s below T7 (mkF m 10 #[.val (.ref a)] [(.int (0 : Int32))]) n0 h0 0 0 (some (.int (1 : Int32)))
    refine oPre (fun _ => XS.ifNo X7.here hx rfl (hb hby d2_10) rfl ((if0 _ _).trans ((teq (rfl : (0 : Int32) = 0)).2))) ?_
    show oEnd p e s below T7 (mkF m 13 #[.val (.ref a)] []) n0 h0 0 0 (some (.int (1 : Int32)))
    refine oPre (fun _ => XS.iconst X7.here hx rfl (hb hby d2_13)) ?_
    show oEnd p e s below T7 (mkF m 14 #[.val (.ref a)] [(.int (1 : Int32))]) n0 h0 0 0 (some (.int (1 : Int32)))
    refine oPre (fun _ => XS.goto X7.here hx rfl (pc0 := 14) (pc' := 18) rfl (hb hby d2_14) (by decide) (by decide)) ?_
    show oEnd p e s below T7 (mkF m 18 #[.val (.ref a)] [(.int (1 : Int32))]) n0 h0 0 0 (some (.int (1 : Int32)))
    obtain ⟨fs, hr, hrun, hended, hW, hsame⟩ := X7.leave (v := some (.int (1 : Int32))) (fun h => by rw [hret] at h; cases h) hlk
    exact ⟨_, _, retN X7 hx (t := .boolean) hret (by simp) (hb hby d2_18) hr, hrun, hended, hW, hsame, N0, e7⟩
  obtain ⟨tq, L, hs, hrun, hended, hW, hsame, hN, ht⟩ := main
  exact ⟨tq, _, castTop (ef_2 m a ) hs, hrun, hended, _, L, rfl, ⟨rfl, hN, ht⟩, ⟨_, rfl⟩, hW, hsame.mono (Nat.zero_le _) (Nat.zero_le _)⟩
theorem d5_0 : decode jdk_41_method_11_code 0 = .ok (.iload_n 0, 1) := by decide +kernel
theorem d5_1 : decode jdk_41_method_11_code 1 = .ok (.ifCond .lt 8, 3) := by decide +kernel
theorem d5_4 : decode jdk_41_method_11_code 4 = .ok (.iload_n 0, 1) := by decide +kernel
theorem d5_5 : decode jdk_41_method_11_code 5 = .ok (.iload_n 1, 1) := by decide +kernel
theorem d5_6 : decode jdk_41_method_11_code 6 = .ok (.if_icmp .lt 10, 3) := by decide +kernel
theorem d5_9 : decode jdk_41_method_11_code 9 = .ok (.aload_n 2, 1) := by decide +kernel
theorem d5_10 : decode jdk_41_method_11_code 10 = .ok (.iload_n 0, 1) := by decide +kernel
theorem d5_11 : decode jdk_41_method_11_code 11 = .ok (.iload_n 1, 1) := by decide +kernel
theorem d5_12 : decode jdk_41_method_11_code 12 = .ok (.invokestatic 95, 3) := by decide +kernel
theorem d5_15 : decode jdk_41_method_11_code 15 = .ok (.athrow, 1) := by decide +kernel
theorem d5_16 : decode jdk_41_method_11_code 16 = .ok (.iload_n 0, 1) := by decide +kernel
theorem d5_17 : decode jdk_41_method_11_code 17 = .ok (.ireturn, 1) := by decide +kernel
theorem pn_5 : plainName "jdk/internal/util/Preconditions" = true := by first | (simp [plainName, overriddenIn]; done) | decide +kernel
theorem ef_5 (m : MethodId) (i : Int32) (n : Int32) (G3 : Value) (r_G3 : G3.isRef = true) : entryFrame m #[(.int i), (.int n), G3] 3 = mkF m 0 #[.val (.int i), .val (.int n), .val G3] [] := by cases G3 <;> first | (simp [entryFrame, mkF, argsToLocals, Value.category]; done) | rfl | (simp [Value.isRef] at r_G3)
set_option maxRecDepth 65536 in
set_option maxHeartbeats 40000000 in
theorem oR5 (l : Launch) (Z : State) (a0 : Array Value) (hw : ∀ d ∈ tables_1, d.before a0 Z = true) (ws : List Jvm.Cond) (i : Int32) (n : Int32) (G3 : Value) (h0 : Heap) (n0 : Nat) (Z0 : n0 ≤ h0.size) (r_G3 : G3.isRef = true) (hi : ¬ i < 0) (hn : i < n) :
    MetFree l (⟨"jdk/internal/util/Preconditions", "checkIndex", "(IILjava/util/function/BiFunction;)I"⟩ : MethodName) (head1 (Jvm.Cond.code (⟨"jdk/internal/util/Preconditions", "checkIndex", "(IILjava/util/function/BiFunction;)I"⟩ : MethodName) jdk_41_method_11_code 3 (some .int) :: ws) ({ frames := 0, cells := 0, slots := 0, locals := 0 } : Room)) (fun ar U => ar = #[(.int i), (.int n), G3] ∧ Z.Warmed39 U.vm ∧ U.heap = h0) (fun _ _ _ _ _ => True) (fun _ U o U' => ∃ v L, o = .returned v ∧ oQp (some (.int i)) h0 n0 v U'.heap L ∧ FrameEnd U o U' L ({ frames := 0, cells := 0, slots := 0, locals := 0 } : Room).cells ({ frames := 0, cells := 0, slots := 0, locals := 0 } : Room).slots) := by
  refine MetFree.of_bodySF (plainFor_of_name pn_5) hisR ?_
  intro p e s m args below meth c s₁ Bd hml0 hP hK
  obtain ⟨rfl, hZ, hh⟩ := hP
  have hx := Bd.exec
  have hby := Bd.bytes
  have hml : c.maxLocals = 3 := hml0
  have hret := Bd.returns
  have hlk : meth.locks = false := Bd.notSynchronized
  have hown : s.vm.findClass "jdk/internal/util/Preconditions" = some m.cls := findClass_of_methodNamed Bd.named
  have X0 : Stand p l e ({ frames := 0, cells := 0, slots := 0, locals := 0 } : Room) s m #[(.int i), (.int n), G3] below meth c s₁ [] 0 0 := Stand.of_body Bd
  have e0 : s₁.heap = h0 := by rw [← hh, Bd.state]; rfl
  have N0 := Fr.nil n0
  have main : oEnd p e s below s₁ (mkF m 0 #[.val (.int i), .val (.int n), .val G3] []) n0 h0 0 0 (some (.int i)) := by
    show oEnd p e s below s₁ (mkF m 0 #[.val (.int i), .val (.int n), .val G3] []) n0 h0 0 0 (some (.int i))
    refine oPre (fun _ => XS.iloadN X0.here hx rfl (hb hby d5_0) rfl) ?_
    show oEnd p e s below s₁ (mkF m 1 #[.val (.int i), .val (.int n), .val G3] [(.int i)]) n0 h0 0 0 (some (.int i))
    refine oPre (fun _ => XS.ifNo X0.here hx rfl (hb hby d5_1) rfl ((if0 _ _).trans ((flt hi).1))) ?_
    show oEnd p e s below s₁ (mkF m 4 #[.val (.int i), .val (.int n), .val G3] []) n0 h0 0 0 (some (.int i))
    refine oPre (fun _ => XS.iloadN X0.here hx rfl (hb hby d5_4) rfl) ?_
    show oEnd p e s below s₁ (mkF m 5 #[.val (.int i), .val (.int n), .val G3] [(.int i)]) n0 h0 0 0 (some (.int i))
    refine oPre (fun _ => XS.iloadN X0.here hx rfl (hb hby d5_5) rfl) ?_
    show oEnd p e s below s₁ (mkF m 6 #[.val (.int i), .val (.int n), .val G3] [(.int n), (.int i)]) n0 h0 0 0 (some (.int i))
    refine oPre (fun _ => XS.icmpYes X0.here hx rfl (pc0 := 6) (pc' := 16) rfl (hb hby d5_6) rfl (((tlt hn).1)) (by decide) (by decide)) ?_
    show oEnd p e s below s₁ (mkF m 16 #[.val (.int i), .val (.int n), .val G3] []) n0 h0 0 0 (some (.int i))
    refine oPre (fun _ => XS.iloadN X0.here hx rfl (hb hby d5_16) rfl) ?_
    show oEnd p e s below s₁ (mkF m 17 #[.val (.int i), .val (.int n), .val G3] [(.int i)]) n0 h0 0 0 (some (.int i))
    obtain ⟨fs, hr, hrun, hended, hW, hsame⟩ := X0.leave (v := some (.int i)) (fun h => by rw [hret] at h; cases h) hlk
    exact ⟨_, _, retI X0 hx hret (hb hby d5_17) hr, hrun, hended, hW, hsame, N0, e0⟩
  obtain ⟨tq, L, hs, hrun, hended, hW, hsame, hN, ht⟩ := main
  exact ⟨tq, _, castTop (ef_5 m i n G3 r_G3) hs, hrun, hended, _, L, rfl, ⟨rfl, hN, ht⟩, ⟨_, rfl⟩, hW, hsame.mono (Nat.zero_le _) (Nat.zero_le _)⟩
theorem d4_0 : decode jdk_42_method_155_code 0 = .ok (.iload_n 0, 1) := by decide +kernel
theorem d4_1 : decode jdk_42_method_155_code 1 = .ok (.iload_n 1, 1) := by decide +kernel
theorem d4_2 : decode jdk_42_method_155_code 2 = .ok (.getstatic 1053, 3) := by decide +kernel
theorem d4_5 : decode jdk_42_method_155_code 5 = .ok (.invokestatic 1059, 3) := by decide +kernel
theorem d4_8 : decode jdk_42_method_155_code 8 = .ok (.pop, 1) := by decide +kernel
theorem d4_9 : decode jdk_42_method_155_code 9 = .ok (.return_, 1) := by decide +kernel
theorem pn_4 : plainName "java/lang/String" = true := by first | (simp [plainName, overriddenIn]; done) | decide +kernel
theorem ef_4 (m : MethodId) (i : Int32) (n : Int32) : entryFrame m #[(.int i), (.int n)] 2 = mkF m 0 #[.val (.int i), .val (.int n)] [] := by first | (simp [entryFrame, mkF, argsToLocals, Value.category]; done) | rfl
set_option maxRecDepth 65536 in
set_option maxHeartbeats 40000000 in
theorem oR4 (l : Launch) (Z : State) (a0 : Array Value) (hw : ∀ d ∈ tables_1, d.before a0 Z = true) (ws : List Jvm.Cond) (i : Int32) (n : Int32) (h0 : Heap) (n0 : Nat) (Z0 : n0 ≤ h0.size)  {G3 : Value} (O4 : Sta Z h0 "jdk/internal/util/Preconditions" "SIOOBE_FORMATTER" "Ljava/util/function/BiFunction;" G3) (rG3 : G3.isRef = true) (hi : ¬ i < 0) (hn : i < n) :
    MetFree l (⟨"java/lang/String", "checkIndex", "(II)V"⟩ : MethodName) (head1 (Jvm.Cond.code (⟨"java/lang/String", "checkIndex", "(II)V"⟩ : MethodName) jdk_42_method_155_code 2 none :: ws) ({ frames := 1, cells := 0, slots := 0, locals := 14 } : Room)) (fun ar U => ar = #[(.int i), (.int n)] ∧ Z.Warmed39 U.vm ∧ U.heap = h0) (fun _ _ _ _ _ => True) (fun _ U o U' => ∃ v L, o = .returned v ∧ oQp (none) h0 n0 v U'.heap L ∧ FrameEnd U o U' L ({ frames := 1, cells := 0, slots := 0, locals := 14 } : Room).cells ({ frames := 1, cells := 0, slots := 0, locals := 14 } : Room).slots) := by
  refine MetFree.of_bodySF (plainFor_of_name pn_4) hisR ?_
  intro p e s m args below meth c s₁ Bd hml0 hP hK
  obtain ⟨rfl, hZ, hh⟩ := hP
  have hx := Bd.exec
  have hby := Bd.bytes
  have hml : c.maxLocals = 2 := hml0
  have hret := Bd.returns
  have hlk : meth.locks = false := Bd.notSynchronized
  have hown : s.vm.findClass "java/lang/String" = some m.cls := findClass_of_methodNamed Bd.named
  have X0 : Stand p l e ({ frames := 1, cells := 0, slots := 0, locals := 14 } : Room) s m #[(.int i), (.int n)] below meth c s₁ [] 0 0 := Stand.of_body Bd
  have e0 : s₁.heap = h0 := by rw [← hh, Bd.state]; rfl
  have N0 := Fr.nil n0
  have main : oEnd p e s below s₁ (mkF m 0 #[.val (.int i), .val (.int n)] []) n0 h0 0 0 (none) := by
    show oEnd p e s below s₁ (mkF m 0 #[.val (.int i), .val (.int n)] []) n0 h0 0 0 (none)
    refine oPre (fun _ => XS.iloadN X0.here hx rfl (hb hby d4_0) rfl) ?_
    show oEnd p e s below s₁ (mkF m 1 #[.val (.int i), .val (.int n)] [(.int i)]) n0 h0 0 0 (none)
    refine oPre (fun _ => XS.iloadN X0.here hx rfl (hb hby d4_1) rfl) ?_
    show oEnd p e s below s₁ (mkF m 2 #[.val (.int i), .val (.int n)] [(.int n), (.int i)]) n0 h0 0 0 (none)
    obtain ⟨T2, X2, e2, st2⟩ := getS2 X0 hx hZ hown (host := "") (Or.inl (hw _ (List.mem_of_getElem? (i := 29) rfl))) Via.refl e0 O4 (g := (mkF m 2 #[.val (.int i), .val (.int n)] [(.int n), (.int i)])) rfl (hb hby d4_2)
    refine oPre st2 ?_
    show oEnd p e s below T2 (mkF m 5 #[.val (.int i), .val (.int n)] [G3, (.int n), (.int i)]) n0 h0 0 0 (none)
    obtain ⟨_, _, ⟨T5, L5, k5, n5⟩, -, X5, ⟨Lc5, hQ5, l5, y5, z5⟩, st5⟩ := Jvm.LawKit.callS X2 hx (y := (⟨"jdk/internal/util/Preconditions", "checkIndex", "(IILjava/util/function/BiFunction;)I"⟩ : MethodName)) hown (mvT hZ (hw _ (List.mem_of_getElem? (i := 31) rfl))) (mvT hZ (hw _ (List.mem_of_getElem? (i := 32) rfl))) (mvT hZ (hw _ (List.mem_of_getElem? (i := 30) rfl))) (mvT hZ (hw _ (List.mem_of_getElem? (i := 33) rfl))) (by decide) (backOf (W := 0) (oR5 l Z a0 hw [] i n G3 h0 n0 Z0 rG3 hi hn) hZ (hw _ (List.mem_of_getElem? (i := 33) rfl)) (hw _ (List.mem_of_getElem? (i := 30) rfl)) (by decide) (by decide)) (g := (mkF m 5 #[.val (.int i), .val (.int n)] [G3, (.int n), (.int i)])) rfl (by rw [hml]; rfl) (argsL := [(.int i), (.int n), G3]) (rest := []) (lenOf pd_3 rfl) rfl (by show 2 * 0 + _ ≤ _; exact Nat.le_of_eq rfl) (hb hby d4_5) (fun _ _ => ⟨rfl, e2, (by decide : 0 + 0 ≤ _), (by decide : 0 + 0 ≤ _)⟩)
    dsimp only [Pt.U, Pt.locs, Pt.cells, Pt.slots] at X5 l5 y5 z5 st5 hQ5
    subst l5
    rw [y5, z5] at X5
    obtain ⟨rfl, N5q, e5⟩ := hQ5
    have N5 := Fr.app N0 N5q
    refine oPre st5 ?_
    show oEnd p e s below T5 (mkF m 8 #[.val (.int i), .val (.int n)] [(.int i)]) n0 h0 0 0 (none)
    refine oPre (fun _ => XS.pop X5.here hx rfl (hb hby d4_8) rfl rfl) ?_
    show oEnd p e s below T5 (mkF m 9 #[.val (.int i), .val (.int n)] []) n0 h0 0 0 (none)
    obtain ⟨fs, hr, hrun, hended, hW, hsame⟩ := X5.leave (v := none) (fun _ => rfl) hlk
    exact ⟨_, _, X5.returnOut hx hret (hb hby d4_9) hr, hrun, hended, hW, hsame, N5, e5⟩
  obtain ⟨tq, L, hs, hrun, hended, hW, hsame, hN, ht⟩ := main
  exact ⟨tq, _, castTop (ef_4 m i n ) hs, hrun, hended, _, L, rfl, ⟨rfl, hN, ht⟩, ⟨_, rfl⟩, hW, hsame.mono (Nat.zero_le _) (Nat.zero_le _)⟩
theorem d3_0 : decode jdk_43_method_2_code 0 = .ok (.iload_n 1, 1) := by decide +kernel
theorem d3_1 : decode jdk_43_method_2_code 1 = .ok (.aload_n 0, 1) := by decide +kernel
theorem d3_2 : decode jdk_43_method_2_code 2 = .ok (.arraylength, 1) := by decide +kernel
theorem d3_3 : decode jdk_43_method_2_code 3 = .ok (.invokestatic 9, 3) := by decide +kernel
theorem d3_6 : decode jdk_43_method_2_code 6 = .ok (.aload_n 0, 1) := by decide +kernel
theorem d3_7 : decode jdk_43_method_2_code 7 = .ok (.iload_n 1, 1) := by decide +kernel
theorem d3_8 : decode jdk_43_method_2_code 8 = .ok (.baload, 1) := by decide +kernel
theorem d3_9 : decode jdk_43_method_2_code 9 = .ok (.sipush 255, 3) := by decide +kernel
theorem d3_12 : decode jdk_43_method_2_code 12 = .ok (.iand, 1) := by decide +kernel
theorem d3_13 : decode jdk_43_method_2_code 13 = .ok (.i2c, 1) := by decide +kernel
theorem d3_14 : decode jdk_43_method_2_code 14 = .ok (.ireturn, 1) := by decide +kernel
theorem pn_3 : plainName "java/lang/StringLatin1" = true := by first | (simp [plainName, overriddenIn]; done) | decide +kernel
theorem ef_3 (m : MethodId) (b : Addr) (j : Int32) : entryFrame m #[(.ref b), (.int j)] 2 = mkF m 0 #[.val (.ref b), .val (.int j)] [] := by first | (simp [entryFrame, mkF, argsToLocals, Value.category]; done) | rfl
set_option maxRecDepth 65536 in
set_option maxHeartbeats 40000000 in
theorem oR3 (l : Launch) (Z : State) (a0 : Array Value) (hw : ∀ d ∈ tables_1, d.before a0 Z = true) (ws : List Jvm.Cond) (b : Addr) (j : Int32) (h0 : Heap) (n0 : Nat) (Z0 : n0 ≤ h0.size)  {cl : Cell} {z bv : Int32} (Ar : Arr Z h0 b cl .byte) (Sz : cl.slots.size = z.toNatClampNeg) (Nz : ¬ z < 0) (hj : ¬ j < 0) (hjz : j < z) (hat : cl.slots[j.toNatClampNeg]? = some (.int bv)) {G3 : Value} (O4 : Sta Z h0 "jdk/internal/util/Preconditions" "SIOOBE_FORMATTER" "Ljava/util/function/BiFunction;" G3) (rG3 : G3.isRef = true) :
    MetFree l (⟨"java/lang/StringLatin1", "charAt", "([BI)C"⟩ : MethodName) (head1 (Jvm.Cond.code (⟨"java/lang/StringLatin1", "charAt", "([BI)C"⟩ : MethodName) jdk_43_method_2_code 2 (some .char) :: ws) ({ frames := 2, cells := 0, slots := 0, locals := 27 } : Room)) (fun ar U => ar = #[(.ref b), (.int j)] ∧ Z.Warmed39 U.vm ∧ U.heap = h0) (fun _ _ _ _ _ => True) (fun _ U o U' => ∃ v L, o = .returned v ∧ oQp (some (.int (oI2c (oI2c (bv &&& (255 : Int32)))))) h0 n0 v U'.heap L ∧ FrameEnd U o U' L ({ frames := 2, cells := 0, slots := 0, locals := 27 } : Room).cells ({ frames := 2, cells := 0, slots := 0, locals := 27 } : Room).slots) := by
  refine MetFree.of_bodySF (plainFor_of_name pn_3) hisR ?_
  intro p e s m args below meth c s₁ Bd hml0 hP hK
  obtain ⟨rfl, hZ, hh⟩ := hP
  have hx := Bd.exec
  have hby := Bd.bytes
  have hml : c.maxLocals = 2 := hml0
  have hret := Bd.returns
  have hlk : meth.locks = false := Bd.notSynchronized
  have hown : s.vm.findClass "java/lang/StringLatin1" = some m.cls := findClass_of_methodNamed Bd.named
  have X0 : Stand p l e ({ frames := 2, cells := 0, slots := 0, locals := 27 } : Room) s m #[(.ref b), (.int j)] below meth c s₁ [] 0 0 := Stand.of_body Bd
  have e0 : s₁.heap = h0 := by rw [← hh, Bd.state]; rfl
  have N0 := Fr.nil n0
  have main : oEnd p e s below s₁ (mkF m 0 #[.val (.ref b), .val (.int j)] []) n0 h0 0 0 (some (.int (oI2c (oI2c (bv &&& (255 : Int32)))))) := by
    show oEnd p e s below s₁ (mkF m 0 #[.val (.ref b), .val (.int j)] []) n0 h0 0 0 (some (.int (oI2c (oI2c (bv &&& (255 : Int32))))))
    refine oPre (fun _ => XS.iloadN X0.here hx rfl (hb hby d3_0) rfl) ?_
    show oEnd p e s below s₁ (mkF m 1 #[.val (.ref b), .val (.int j)] [(.int j)]) n0 h0 0 0 (some (.int (oI2c (oI2c (bv &&& (255 : Int32))))))
    refine oPre (fun _ => XS.aloadN X0.here hx rfl (hb hby d3_1) rfl rfl) ?_
    show oEnd p e s below s₁ (mkF m 2 #[.val (.ref b), .val (.int j)] [(.ref b), (.int j)]) n0 h0 0 0 (some (.int (oI2c (oI2c (bv &&& (255 : Int32))))))
    refine oPre (fun _ => X0.arraylength hx (by rw [e0]; exact Ar.1) (State.isArrayOf_alike hZ.alike Ar.2.1) (g := (mkF m 2 #[.val (.ref b), .val (.int j)] [(.ref b), (.int j)])) rfl rfl (hb hby d3_2) _) ?_
    rw [len_of Sz Nz]
    show oEnd p e s below s₁ (mkF m 3 #[.val (.ref b), .val (.int j)] [(.int z), (.int j)]) n0 h0 0 0 (some (.int (oI2c (oI2c (bv &&& (255 : Int32))))))
    obtain ⟨_, _, ⟨T3, L3, k3, n3⟩, -, X3, ⟨Lc3, hQ3, l3, y3, z3⟩, st3⟩ := Jvm.LawKit.callS X0 hx (y := (⟨"java/lang/String", "checkIndex", "(II)V"⟩ : MethodName)) hown (mvT hZ (hw _ (List.mem_of_getElem? (i := 26) rfl))) (mvT hZ (hw _ (List.mem_of_getElem? (i := 27) rfl))) (mvT hZ (hw _ (List.mem_of_getElem? (i := 1) rfl))) (mvT hZ (hw _ (List.mem_of_getElem? (i := 28) rfl))) (by decide) (backOf (W := 0) (oR4 l Z a0 hw [] j z h0 n0 Z0 O4 rG3 hj hjz) hZ (hw _ (List.mem_of_getElem? (i := 28) rfl)) (hw _ (List.mem_of_getElem? (i := 1) rfl)) (by decide) (by decide)) (g := (mkF m 3 #[.val (.ref b), .val (.int j)] [(.int z), (.int j)])) rfl (by rw [hml]; rfl) (argsL := [(.int j), (.int z)]) (rest := []) (lenOf pd_2 rfl) rfl (by show 2 * 0 + _ ≤ _; exact Nat.le_of_eq rfl) (hb hby d3_3) (fun _ _ => ⟨rfl, e0, (by decide : 0 + 0 ≤ _), (by decide : 0 + 0 ≤ _)⟩)
    dsimp only [Pt.U, Pt.locs, Pt.cells, Pt.slots] at X3 l3 y3 z3 st3 hQ3
    subst l3
    rw [y3, z3] at X3
    obtain ⟨rfl, N3q, e3⟩ := hQ3
    have N3 := Fr.app N0 N3q
    refine oPre st3 ?_
    show oEnd p e s below T3 (mkF m 6 #[.val (.ref b), .val (.int j)] []) n0 h0 0 0 (some (.int (oI2c (oI2c (bv &&& (255 : Int32))))))
    refine oPre (fun _ => XS.aloadN X3.here hx rfl (hb hby d3_6) rfl rfl) ?_
    show oEnd p e s below T3 (mkF m 7 #[.val (.ref b), .val (.int j)] [(.ref b)]) n0 h0 0 0 (some (.int (oI2c (oI2c (bv &&& (255 : Int32))))))
    refine oPre (fun _ => XS.iloadN X3.here hx rfl (hb hby d3_7) rfl) ?_
    show oEnd p e s below T3 (mkF m 8 #[.val (.ref b), .val (.int j)] [(.int j), (.ref b)]) n0 h0 0 0 (some (.int (oI2c (oI2c (bv &&& (255 : Int32))))))
    refine oPre (fun _ => X3.baloadBytes hx (j := j) (v := (.int bv)) (by rw [e3]; exact Ar.1) (State.isArrayOf_alike hZ.alike Ar.2.1) Ar.2.2 (inb_of Sz ⟨hj, hjz⟩) hat (g := (mkF m 8 #[.val (.ref b), .val (.int j)] [(.int j), (.ref b)])) rfl rfl (hb hby d3_8) _) ?_
    show oEnd p e s below T3 (mkF m 9 #[.val (.ref b), .val (.int j)] [(.int bv)]) n0 h0 0 0 (some (.int (oI2c (oI2c (bv &&& (255 : Int32))))))
    refine oPre (fun _ => XS.sipush X3.here hx rfl (hb hby d3_9)) ?_
    show oEnd p e s below T3 (mkF m 12 #[.val (.ref b), .val (.int j)] [(.int (255 : Int32)), (.int bv)]) n0 h0 0 0 (some (.int (oI2c (oI2c (bv &&& (255 : Int32))))))
    refine oPre (fun _ => XS.iand X3.here hx rfl (hb hby d3_12) rfl) ?_
    show oEnd p e s below T3 (mkF m 13 #[.val (.ref b), .val (.int j)] [(.int (bv &&& (255 : Int32)))]) n0 h0 0 0 (some (.int (oI2c (oI2c (bv &&& (255 : Int32))))))
    refine oPre (fun _ => XS.i2c X3.here hx rfl (hb hby d3_13) rfl) ?_
    show oEnd p e s below T3 (mkF m 14 #[.val (.ref b), .val (.int j)] [(.int (oI2c (bv &&& (255 : Int32))))]) n0 h0 0 0 (some (.int (oI2c (oI2c (bv &&& (255 : Int32))))))
    obtain ⟨fs, hr, hrun, hended, hW, hsame⟩ := X3.leave (v := some (.int (oI2c (oI2c (bv &&& (255 : Int32)))))) (fun h => by rw [hret] at h; cases h) hlk
    exact ⟨_, _, retN X3 hx (t := .char) hret (by simp) (hb hby d3_14) hr, hrun, hended, hW, hsame, N3, e3⟩
  obtain ⟨tq, L, hs, hrun, hended, hW, hsame, hN, ht⟩ := main
  exact ⟨tq, _, castTop (ef_3 m b j ) hs, hrun, hended, _, L, rfl, ⟨rfl, hN, ht⟩, ⟨_, rfl⟩, hW, hsame.mono (Nat.zero_le _) (Nat.zero_le _)⟩
theorem d1_0 : decode jdk_42_method_56_code 0 = .ok (.aload_n 0, 1) := by decide +kernel
theorem d1_1 : decode jdk_42_method_56_code 1 = .ok (.invokevirtual 492, 3) := by decide +kernel
theorem d1_4 : decode jdk_42_method_56_code 4 = .ok (.ifCond .eq 12, 3) := by decide +kernel
theorem d1_7 : decode jdk_42_method_56_code 7 = .ok (.aload_n 0, 1) := by decide +kernel
theorem d1_8 : decode jdk_42_method_56_code 8 = .ok (.getfield 9, 3) := by decide +kernel
theorem d1_11 : decode jdk_42_method_56_code 11 = .ok (.iload_n 1, 1) := by decide +kernel
theorem d1_12 : decode jdk_42_method_56_code 12 = .ok (.invokestatic 495, 3) := by decide +kernel
theorem d1_15 : decode jdk_42_method_56_code 15 = .ok (.ireturn, 1) := by decide +kernel
theorem pn_1 : plainName "java/lang/String" = true := by first | (simp [plainName, overriddenIn]; done) | decide +kernel
theorem ef_1 (m : MethodId) (a : Addr) (j : Int32) : entryFrame m #[(.ref a), (.int j)] 2 = mkF m 0 #[.val (.ref a), .val (.int j)] [] := by first | (simp [entryFrame, mkF, argsToLocals, Value.category]; done) | rfl
set_option maxRecDepth 65536 in
set_option maxHeartbeats 40000000 in
theorem oR1 (l : Launch) (Z : State) (a0 : Array Value) (hw : ∀ d ∈ tables_1, d.before a0 Z = true) (ws : List Jvm.Cond) (a : Addr) (j : Int32) (h0 : Heap) (n0 : Nat) (Z0 : n0 ≤ h0.size)  {b : Addr} (E : Exa Z h0 a "java/lang/String") (V : Fld Z h0 a "java/lang/String" "value" "[B" (.ref b)) (C : Fld Z h0 a "java/lang/String" "coder" "B" (.int 0)) {cl : Cell} {z bv : Int32} (Ar : Arr Z h0 b cl .byte) (Sz : cl.slots.size = z.toNatClampNeg) (Nz : ¬ z < 0) (hj : ¬ j < 0) (hjz : j < z) (hat : cl.slots[j.toNatClampNeg]? = some (.int bv)) {G1 : Int32} (O2 : Sta Z h0 "java/lang/String" "COMPACT_STRINGS" "Z" (.int G1)) (P5 : ¬ (G1 = (0 : Int32))) {G3 : Value} (O4 : Sta Z h0 "jdk/internal/util/Preconditions" "SIOOBE_FORMATTER" "Ljava/util/function/BiFunction;" G3) (rG3 : G3.isRef = true) :
    MetFree l (⟨"java/lang/String", "charAt", "(I)C"⟩ : MethodName) (head1 (Jvm.Cond.code (⟨"java/lang/String", "charAt", "(I)C"⟩ : MethodName) jdk_42_method_56_code 2 (some .char) :: ws) ({ frames := 3, cells := 0, slots := 0, locals := 40 } : Room)) (fun ar U => ar = #[(.ref a), (.int j)] ∧ Z.Warmed39 U.vm ∧ U.heap = h0) (fun _ _ _ _ _ => True) (fun _ U o U' => ∃ v L, o = .returned v ∧ oQp (some (.int (oCh bv))) h0 n0 v U'.heap L ∧ FrameEnd U o U' L ({ frames := 3, cells := 0, slots := 0, locals := 40 } : Room).cells ({ frames := 3, cells := 0, slots := 0, locals := 40 } : Room).slots) := by
  refine MetFree.of_bodySF (plainFor_of_name pn_1) hisR ?_
  intro p e s m args below meth c s₁ Bd hml0 hP hK
  obtain ⟨rfl, hZ, hh⟩ := hP
  have hx := Bd.exec
  have hby := Bd.bytes
  have hml : c.maxLocals = 2 := hml0
  have hret := Bd.returns
  have hlk : meth.locks = false := Bd.notSynchronized
  have hown : s.vm.findClass "java/lang/String" = some m.cls := findClass_of_methodNamed Bd.named
  have X0 : Stand p l e ({ frames := 3, cells := 0, slots := 0, locals := 40 } : Room) s m #[(.ref a), (.int j)] below meth c s₁ [] 0 0 := Stand.of_body Bd
  have e0 : s₁.heap = h0 := by rw [← hh, Bd.state]; rfl
  have N0 := Fr.nil n0
  have main : oEnd p e s below s₁ (mkF m 0 #[.val (.ref a), .val (.int j)] []) n0 h0 0 0 (some (.int (oCh bv))) := by
    show oEnd p e s below s₁ (mkF m 0 #[.val (.ref a), .val (.int j)] []) n0 h0 0 0 (some (.int (oCh bv)))
    refine oPre (fun _ => XS.aloadN X0.here hx rfl (hb hby d1_0) rfl rfl) ?_
    show oEnd p e s below s₁ (mkF m 1 #[.val (.ref a), .val (.int j)] [(.ref a)]) n0 h0 0 0 (some (.int (oCh bv)))
    obtain ⟨cq1, kq1, qa1, qb1, qc1⟩ := isOf hZ e0 E
    obtain ⟨_, _, ⟨T1, L1, k1, n1⟩, -, X1, ⟨Lc1, hQ1, l1, y1, z1⟩, st1⟩ := X0.virtualBack hx (y := (⟨"java/lang/String", "isLatin1", "()Z"⟩ : MethodName)) (z := (⟨"java/lang/String", "isLatin1", "()Z"⟩ : MethodName)) hown (mvT hZ (hw _ (List.mem_of_getElem? (i := 14) rfl))) (mvT hZ (hw _ (List.mem_of_getElem? (i := 15) rfl))) (notFace_of_selects (args := #[]) (mvT hZ (hw _ (List.mem_of_getElem? (i := 17) rfl)))) (mvT hZ (hw _ (List.mem_of_getElem? (i := 17) rfl))) (mvT hZ (hw _ (List.mem_of_getElem? (i := 16) rfl))) (by decide) (backOf (W := 0) (oR2 l Z a0 hw [] a h0 n0 Z0 C O2 P5) hZ (hw _ (List.mem_of_getElem? (i := 18) rfl)) (hw _ (List.mem_of_getElem? (i := 1) rfl)) (by decide) (by decide)) qa1 qc1 (g := (mkF m 1 #[.val (.ref a), .val (.int j)] [(.ref a)])) rfl (by rw [hml]; rfl) (Steps.refl _) (argsL := []) (rest := []) (lenOf pd_0 rfl) rfl (by show 2 * 0 + _ ≤ _; exact Nat.le_of_eq rfl) (hb hby d1_1) (fun _ _ => ⟨rfl, e0, (by decide : 0 + 0 ≤ _), (by decide : 0 + 0 ≤ _)⟩)
    dsimp only [Pt.U, Pt.locs, Pt.cells, Pt.slots] at X1 l1 y1 z1 st1 hQ1
    subst l1
    rw [y1, z1] at X1
    obtain ⟨rfl, N1q, e1⟩ := hQ1
    have N1 := Fr.app N0 N1q
    refine oPre (fun _ q => st1.trans q) ?_
    show oEnd p e s below T1 (mkF m 4 #[.val (.ref a), .val (.int j)] [(.int (1 : Int32))]) n0 h0 0 0 (some (.int (oCh bv)))
    refine oPre (fun _ => XS.ifNo X1.here hx rfl (hb hby d1_4) rfl ((if0 _ _).trans ((feq (by decide : ¬ (1 : Int32) = 0)).1))) ?_
    show oEnd p e s below T1 (mkF m 7 #[.val (.ref a), .val (.int j)] []) n0 h0 0 0 (some (.int (oCh bv)))
    refine oPre (fun _ => XS.aloadN X1.here hx rfl (hb hby d1_7) rfl rfl) ?_
    show oEnd p e s below T1 (mkF m 8 #[.val (.ref a), .val (.int j)] [(.ref a)]) n0 h0 0 0 (some (.int (oCh bv)))
    obtain ⟨T8, X8, e8, st8⟩ := getF X1 hx hZ hown (host := "") (Or.inl (hw _ (List.mem_of_getElem? (i := 21) rfl))) Via.refl e1 V (g := (mkF m 8 #[.val (.ref a), .val (.int j)] [(.ref a)])) rfl rfl (hb hby d1_8)
    refine oPre st8 ?_
    show oEnd p e s below T8 (mkF m 11 #[.val (.ref a), .val (.int j)] [(.ref b)]) n0 h0 0 0 (some (.int (oCh bv)))
    refine oPre (fun _ => XS.iloadN X8.here hx rfl (hb hby d1_11) rfl) ?_
    show oEnd p e s below T8 (mkF m 12 #[.val (.ref a), .val (.int j)] [(.int j), (.ref b)]) n0 h0 0 0 (some (.int (oCh bv)))
    obtain ⟨_, _, ⟨T12, L12, k12, n12⟩, -, X12, ⟨Lc12, hQ12, l12, y12, z12⟩, st12⟩ := Jvm.LawKit.callS X8 hx (y := (⟨"java/lang/StringLatin1", "charAt", "([BI)C"⟩ : MethodName)) hown (mvT hZ (hw _ (List.mem_of_getElem? (i := 22) rfl))) (mvT hZ (hw _ (List.mem_of_getElem? (i := 23) rfl))) (mvT hZ (hw _ (List.mem_of_getElem? (i := 24) rfl))) (mvT hZ (hw _ (List.mem_of_getElem? (i := 25) rfl))) (by decide) (backOf (W := 0) (oR3 l Z a0 hw [] b j h0 n0 Z0 Ar Sz Nz hj hjz hat O4 rG3) hZ (hw _ (List.mem_of_getElem? (i := 25) rfl)) (hw _ (List.mem_of_getElem? (i := 24) rfl)) (by decide) (by decide)) (g := (mkF m 12 #[.val (.ref a), .val (.int j)] [(.int j), (.ref b)])) rfl (by rw [hml]; rfl) (argsL := [(.ref b), (.int j)]) (rest := []) (lenOf pd_1 rfl) rfl (by show 2 * 0 + _ ≤ _; exact Nat.le_of_eq rfl) (hb hby d1_12) (fun _ _ => ⟨rfl, e8, (by decide : 0 + 0 ≤ _), (by decide : 0 + 0 ≤ _)⟩)
    dsimp only [Pt.U, Pt.locs, Pt.cells, Pt.slots] at X12 l12 y12 z12 st12 hQ12
    subst l12
    rw [y12, z12] at X12
    obtain ⟨rfl, N12q, e12⟩ := hQ12
    have N12 := Fr.app N1 N12q
    refine oPre st12 ?_
    show oEnd p e s below T12 (mkF m 15 #[.val (.ref a), .val (.int j)] [(.int (oI2c (oI2c (bv &&& (255 : Int32)))))]) n0 h0 0 0 (some (.int (oCh bv)))
    obtain ⟨fs, hr, hrun, hended, hW, hsame⟩ := X12.leave (v := some (.int (oCh bv))) (fun h => by rw [hret] at h; cases h) hlk
    exact ⟨_, _, retN X12 hx (t := .char) hret (by simp) (hb hby d1_15) hr, hrun, hended, hW, hsame, N12, e12⟩
  obtain ⟨tq, L, hs, hrun, hended, hW, hsame, hN, ht⟩ := main
  exact ⟨tq, _, castTop (ef_1 m a j ) hs, hrun, hended, _, L, rfl, ⟨rfl, hN, ht⟩, ⟨_, rfl⟩, hW, hsame.mono (Nat.zero_le _) (Nat.zero_le _)⟩
theorem pd_5 : parseMethodDescriptor "(C)I" = some ⟨[.char], some .int⟩ := by decide +kernel
def oLo : List Int32 := [48, 49, 50, 51, 52, 53, 54, 55, 56, 57, 97, 98, 99, 100, 101, 102]
def oUp : List Int32 := [48, 49, 50, 51, 52, 53, 54, 55, 56, 57, 65, 66, 67, 68, 69, 70]
theorem oHexLo : ∀ i : Fin 16, oF6_0 (oCh (oLo.getD i.val 0)) = Int32.ofNat i.val := by decide +kernel
theorem oHexUp : ∀ i : Fin 16, oF6_0 (oCh (oUp.getD i.val 0)) = Int32.ofNat i.val := by decide +kernel
theorem oMapD (l : List Int32) (i : Nat) : (l.map Value.int).getD i (.int 0) = .int (l.getD i 0) := by
  simp only [List.getD, List.getElem?_map]
  cases l[i]? <;> rfl
theorem oNat (v : Int32) (h : 0 ≤ v.toInt) : Int32.ofNat v.toNatClampNeg = v := by
  apply Int32.toInt_inj.mp
  have h1 := v.toInt_lt
  have h2 : v.toNatClampNeg = v.toInt.toNat := rfl
  rw [h2, Int32.toInt_ofNat_small (by omega)]
  omega
theorem oMask (y : Int32) : 0 ≤ (y &&& (15 : Int32)).toInt ∧ (y &&& (15 : Int32)).toNatClampNeg < 16 := by
  have h := c_and y (15 : Int32) (by decide)
  have h2 : (15 : Int32).toInt = 15 := by decide
  have h3 : (y &&& (15 : Int32)).toNatClampNeg = (y &&& (15 : Int32)).toInt.toNat := rfl
  omega
theorem oSmallHex : ∀ k : Fin 128, oF6_0 (Int32.ofInt (k.val : Int)) = -1 ∨ ((0 ≤ (oF6_0 (Int32.ofInt (k.val : Int))).toInt ∧ (oF6_0 (Int32.ofInt (k.val : Int))).toInt ≤ 15) ∧ (Int32.ofInt (k.val : Int) = oCh (oLo.getD (oF6_0 (Int32.ofInt (k.val : Int))).toNatClampNeg 0) ∨ Int32.ofInt (k.val : Int) = oCh (oUp.getD (oF6_0 (Int32.ofInt (k.val : Int))).toNatClampNeg 0))) := by decide +kernel
theorem oLt {c k : Int32} {n : Int} (hk : k.toInt = n) (h : c.toInt < n) : c < k := by rw [Int32.lt_iff_toInt_lt, hk]; exact h
theorem oNlt {c k : Int32} {n : Int} (hk : k.toInt = n) (h : n ≤ c.toInt) : ¬ c < k := by rw [Int32.lt_iff_toInt_lt, hk]; omega
theorem oGt {c k : Int32} {n : Int} (hk : k.toInt = n) (h : n < c.toInt) : k < c := by rw [Int32.lt_iff_toInt_lt, hk]; exact h
theorem oNgt {c k : Int32} {n : Int} (hk : k.toInt = n) (h : c.toInt ≤ n) : ¬ k < c := by rw [Int32.lt_iff_toInt_lt, hk]; omega
theorem oEq {c k : Int32} {n : Int} (hk : k.toInt = n) (h : c.toInt = n) : c = k := Int32.toInt_inj.mp (h.trans hk.symm)
theorem oNe {c k : Int32} {n : Int} (hk : k.toInt = n) (h : c.toInt ≠ n) : ¬ c = k := fun q => h (by rw [q, hk])
theorem oHex (c : Int32) : oF6_0 c = -1 ∨ ((0 ≤ (oF6_0 c).toInt ∧ (oF6_0 c).toInt ≤ 15) ∧ (c = oCh (oLo.getD (oF6_0 c).toNatClampNeg 0) ∨ c = oCh (oUp.getD (oF6_0 c).toNatClampNeg 0))) := by
  by_cases h0 : 0 ≤ c.toInt
  · by_cases h1 : c.toInt < 128
    · have q := oSmallHex ⟨c.toInt.toNat, by omega⟩
      have e : ((c.toInt.toNat : Nat) : Int) = c.toInt := Int.toNat_of_nonneg (by omega)
      simp only [e, Int32.ofInt_toInt] at q
      exact q
    · left
      rw [oF6_0, if_neg (oNlt (c := c) (k := (48 : Int32)) (n := 48) (by decide) (by omega)), if_pos (oGt (c := c) (k := (57 : Int32)) (n := 57) (by decide) (by omega)), oF6_22, if_neg (oNlt (c := c) (k := (97 : Int32)) (n := 97) (by decide) (by omega)), if_pos (oGt (c := c) (k := (102 : Int32)) (n := 102) (by decide) (by omega)), oF6_45, if_neg (oNlt (c := c) (k := (65 : Int32)) (n := 65) (by decide) (by omega)), if_pos (oGt (c := c) (k := (70 : Int32)) (n := 70) (by decide) (by omega)), oF6_65]
  · left
    rw [oF6_0, if_pos (oLt (c := c) (k := (48 : Int32)) (n := 48) (by decide) (by omega)), oF6_22, if_pos (oLt (c := c) (k := (97 : Int32)) (n := 97) (by decide) (by omega)), oF6_45, if_pos (oLt (c := c) (k := (65 : Int32)) (n := 65) (by decide) (by omega)), oF6_65]
set_option maxRecDepth 65536 in
set_option maxHeartbeats 40000000 in
theorem oTail {p : Program} {l : Launch} {e : Env} {s : State} {m : MethodId} {args : Array Value} {below : List Frame} {meth : Method} {c : Code} {T : State} {locs : List Loc} {cells slots : Nat} {Z : State} {a0 : Array Value} {h0 : Heap} {n0 : Nat} (X : Stand p l e room_1 s m args below meth c T locs cells slots) (hx : p.tables.exec = Jvm.exec) (hby : c.code = code) (hml : c.maxLocals = 7) (hret : meth.sig.returnType = some .boolean) (hlk : meth.locks = false) (hown : s.vm.findClass "com/example/anansi/anansi/AsciiHexDigitPinLaw" = some m.cls) (hZ : Z.Warmed39 s.vm) (hw : ∀ d ∈ tables_1, d.before a0 Z = true) (eT : T.heap = h0) (N : Fr n0 locs) (Z0 : n0 ≤ h0.size) (hcs : cells ≤ room_1.cells) (hss : slots ≤ room_1.slots) {a1 b1 a2 b2 : Addr} {k1 k2 : ClassId} {G1 : Int32} {G3 : Value} (E_a1 : Exa Z h0 a1 "java/lang/String") (V_a1 : Fld Z h0 a1 "java/lang/String" "value" "[B" (.ref b1)) (C_a1 : Fld Z h0 a1 "java/lang/String" "coder" "B" (.int 0)) (K_a1 : Arv Z h0 b1 k1 .byte 16 (oLo.map Value.int) (.int 0)) (E_a2 : Exa Z h0 a2 "java/lang/String") (V_a2 : Fld Z h0 a2 "java/lang/String" "value" "[B" (.ref b2)) (C_a2 : Fld Z h0 a2 "java/lang/String" "coder" "B" (.int 0)) (K_a2 : Arv Z h0 b2 k2 .byte 16 (oUp.map Value.int) (.int 0)) (O2 : Sta Z h0 "java/lang/String" "COMPACT_STRINGS" "Z" (.int G1)) (O4 : Sta Z h0 "jdk/internal/util/Preconditions" "SIOOBE_FORMATTER" "Ljava/util/function/BiFunction;" G3) (P5 : ¬ (G1 = (0 : Int32))) (rG3 : G3.isRef = true) (p1 p2 : Int32) : oEnd p e s below T (mkF m 6 #[.val (.int p1), .val (.int p2), .val (.ref a1), .val (.ref a2), .unset, .unset, .unset] []) n0 h0 cells slots (some (.int 1)) := by
  obtain ⟨cl1, Ar1, -, Sz1, Nz1, H1, -⟩ := K_a1
  obtain ⟨cl2, Ar2, -, Sz2, Nz2, H2, -⟩ := K_a2
  have at1 : ∀ i, i < 16 → cl1.slots[i]? = some (.int (oLo.getD i 0)) := fun i hi => by rw [H1 i (by rw [Sz1]; exact hi), oMapD]
  have at2 : ∀ i, i < 16 → cl2.slots[i]? = some (.int (oUp.getD i 0)) := fun i hi => by rw [H2 i (by rw [Sz2]; exact hi), oMapD]
  have hv := oMask p2
  have y0 : (0 : Int32).toInt = 0 := by decide
  have y16 : (16 : Int32).toInt = 16 := by decide
  have hvt : (p2 &&& (15 : Int32)).toNatClampNeg = (p2 &&& (15 : Int32)).toInt.toNat := rfl
  have hvn : ¬ (p2 &&& (15 : Int32)) < 0 := by rw [Int32.lt_iff_toInt_lt, y0]; omega
  have hvs : (p2 &&& (15 : Int32)) < 16 := by rw [Int32.lt_iff_toInt_lt, y16]; omega
  show oEnd p e s below T (mkF m 6 #[.val (.int p1), .val (.int p2), .val (.ref a1), .val (.ref a2), .unset, .unset, .unset] []) n0 h0 cells slots (some (.int 1))
  refine oPre (fun _ => XS.iloadN X.here hx rfl (hb hby at_6) rfl) ?_
  show oEnd p e s below T (mkF m 7 #[.val (.int p1), .val (.int p2), .val (.ref a1), .val (.ref a2), .unset, .unset, .unset] [(.int p2)]) n0 h0 cells slots (some (.int 1))
  refine oPre (fun _ => XS.bipush X.here hx rfl (hb hby at_7)) ?_
  show oEnd p e s below T (mkF m 9 #[.val (.int p1), .val (.int p2), .val (.ref a1), .val (.ref a2), .unset, .unset, .unset] [(.int (15 : Int32)), (.int p2)]) n0 h0 cells slots (some (.int 1))
  refine oPre (fun _ => XS.iand X.here hx rfl (hb hby at_9) rfl) ?_
  show oEnd p e s below T (mkF m 10 #[.val (.int p1), .val (.int p2), .val (.ref a1), .val (.ref a2), .unset, .unset, .unset] [(.int (p2 &&& (15 : Int32)))]) n0 h0 cells slots (some (.int 1))
  refine oPre (fun _ => XS.istore X.here hx rfl (hb hby at_10) rfl (l' := #[.val (.int p1), .val (.int p2), .val (.ref a1), .val (.ref a2), .val (.int (p2 &&& (15 : Int32))), .unset, .unset]) rfl) ?_
  show oEnd p e s below T (mkF m 12 #[.val (.int p1), .val (.int p2), .val (.ref a1), .val (.ref a2), .val (.int (p2 &&& (15 : Int32))), .unset, .unset] []) n0 h0 cells slots (some (.int 1))
  refine oPre (fun _ => XS.aloadN X.here hx rfl (hb hby at_12) rfl rfl) ?_
  show oEnd p e s below T (mkF m 13 #[.val (.int p1), .val (.int p2), .val (.ref a1), .val (.ref a2), .val (.int (p2 &&& (15 : Int32))), .unset, .unset] [(.ref a1)]) n0 h0 cells slots (some (.int 1))
  refine oPre (fun _ => XS.iload X.here hx rfl (hb hby at_13) rfl) ?_
  show oEnd p e s below T (mkF m 15 #[.val (.int p1), .val (.int p2), .val (.ref a1), .val (.ref a2), .val (.int (p2 &&& (15 : Int32))), .unset, .unset] [(.int (p2 &&& (15 : Int32))), (.ref a1)]) n0 h0 cells slots (some (.int 1))
  obtain ⟨cq15, kq15, qa15, qb15, qc15⟩ := isOf hZ eT E_a1
  obtain ⟨_, _, ⟨T15, L15, k15, n15⟩, -, X15, ⟨Lc15, hQ15, l15, y15, z15⟩, st15⟩ := X.virtualBack hx (y := (⟨"java/lang/String", "charAt", "(I)C"⟩ : MethodName)) (z := (⟨"java/lang/String", "charAt", "(I)C"⟩ : MethodName)) hown (mvT hZ (hw _ (List.mem_of_getElem? (i := 9) rfl))) (mvT hZ (hw _ (List.mem_of_getElem? (i := 10) rfl))) (notFace_of_selects (args := #[]) (mvT hZ (hw _ (List.mem_of_getElem? (i := 12) rfl)))) (mvT hZ (hw _ (List.mem_of_getElem? (i := 12) rfl))) (mvT hZ (hw _ (List.mem_of_getElem? (i := 11) rfl))) (by decide) (backOf (W := 0) (oR1 l Z a0 hw [] a1 (p2 &&& (15 : Int32)) h0 n0 Z0 E_a1 V_a1 C_a1 Ar1 Sz1 Nz1 hvn hvs (at1 _ hv.2) O2 P5 O4 rG3) hZ (hw _ (List.mem_of_getElem? (i := 13) rfl)) (hw _ (List.mem_of_getElem? (i := 1) rfl)) (by decide) (by decide)) qa15 qc15 (g := (mkF m 15 #[.val (.int p1), .val (.int p2), .val (.ref a1), .val (.ref a2), .val (.int (p2 &&& (15 : Int32))), .unset, .unset] [(.int (p2 &&& (15 : Int32))), (.ref a1)])) rfl (by rw [hml]; rfl) (Steps.refl _) (argsL := [(.int (p2 &&& (15 : Int32)))]) (rest := []) (lenOf pd_4 rfl) rfl (by show 2 * 0 + _ ≤ _; exact Nat.le_of_eq rfl) (hb hby at_15) (fun _ _ => ⟨rfl, eT, hcs, hss⟩)
  dsimp only [Pt.U, Pt.locs, Pt.cells, Pt.slots] at X15 l15 y15 z15 st15 hQ15
  subst l15
  rw [y15, z15] at X15
  obtain ⟨rfl, N15q, e15⟩ := hQ15
  have N15 := Fr.app N N15q
  refine oPre (fun _ q => st15.trans q) ?_
  show oEnd p e s below T15 (mkF m 18 #[.val (.int p1), .val (.int p2), .val (.ref a1), .val (.ref a2), .val (.int (p2 &&& (15 : Int32))), .unset, .unset] [(.int (oCh (oLo.getD (p2 &&& (15 : Int32)).toNatClampNeg 0)))]) n0 h0 cells slots (some (.int 1))
  obtain ⟨_, _, ⟨T18, L18, k18, n18⟩, -, X18, ⟨Lc18, hQ18, l18, y18, z18⟩, st18⟩ := Jvm.LawKit.callS X15 hx (y := (⟨"com/example/anansi/anansi/Ascii", "hexDigit", "(C)I"⟩ : MethodName)) hown (mvT hZ (hw _ (List.mem_of_getElem? (i := 34) rfl))) (mvT hZ (hw _ (List.mem_of_getElem? (i := 35) rfl))) (mvT hZ (hw _ (List.mem_of_getElem? (i := 36) rfl))) (mvT hZ (hw _ (List.mem_of_getElem? (i := 37) rfl))) (by decide) (backOf (W := 0) (oR6 l Z a0 hw [] (oCh (oLo.getD (p2 &&& (15 : Int32)).toNatClampNeg 0)) h0 n0 Z0) hZ (hw _ (List.mem_of_getElem? (i := 37) rfl)) (hw _ (List.mem_of_getElem? (i := 36) rfl)) (by decide) (by decide)) (g := (mkF m 18 #[.val (.int p1), .val (.int p2), .val (.ref a1), .val (.ref a2), .val (.int (p2 &&& (15 : Int32))), .unset, .unset] [(.int (oCh (oLo.getD (p2 &&& (15 : Int32)).toNatClampNeg 0)))])) rfl (by rw [hml]; rfl) (argsL := [(.int (oCh (oLo.getD (p2 &&& (15 : Int32)).toNatClampNeg 0)))]) (rest := []) (lenOf pd_5 rfl) rfl (by show 2 * 0 + _ ≤ _; exact Nat.le_of_eq rfl) (hb hby at_18) (fun _ _ => ⟨rfl, e15, hcs, hss⟩)
  dsimp only [Pt.U, Pt.locs, Pt.cells, Pt.slots] at X18 l18 y18 z18 st18 hQ18
  subst l18
  rw [y18, z18] at X18
  obtain ⟨rfl, N18q, e18⟩ := hQ18
  have N18 := Fr.app N15 N18q
  refine oPre st18 ?_
  show oEnd p e s below T18 (mkF m 21 #[.val (.int p1), .val (.int p2), .val (.ref a1), .val (.ref a2), .val (.int (p2 &&& (15 : Int32))), .unset, .unset] [(.int (oF6_0 (oCh (oLo.getD (p2 &&& (15 : Int32)).toNatClampNeg 0))))]) n0 h0 cells slots (some (.int 1))
  refine oPre (fun _ => XS.iload X18.here hx rfl (hb hby at_21) rfl) ?_
  show oEnd p e s below T18 (mkF m 23 #[.val (.int p1), .val (.int p2), .val (.ref a1), .val (.ref a2), .val (.int (p2 &&& (15 : Int32))), .unset, .unset] [(.int (p2 &&& (15 : Int32))), (.int (oF6_0 (oCh (oLo.getD (p2 &&& (15 : Int32)).toNatClampNeg 0))))]) n0 h0 cells slots (some (.int 1))
  refine oPre (fun _ => XS.icmpYes X18.here hx rfl (pc0 := 23) (pc' := 28) rfl (hb hby at_23) rfl (((teq ((oHexLo ⟨(p2 &&& (15 : Int32)).toNatClampNeg, hv.2⟩).trans (oNat _ hv.1))).1)) (by decide) (by decide)) ?_
  show oEnd p e s below T18 (mkF m 28 #[.val (.int p1), .val (.int p2), .val (.ref a1), .val (.ref a2), .val (.int (p2 &&& (15 : Int32))), .unset, .unset] []) n0 h0 cells slots (some (.int 1))
  refine oPre (fun _ => XS.aloadN X18.here hx rfl (hb hby at_28) rfl rfl) ?_
  show oEnd p e s below T18 (mkF m 29 #[.val (.int p1), .val (.int p2), .val (.ref a1), .val (.ref a2), .val (.int (p2 &&& (15 : Int32))), .unset, .unset] [(.ref a2)]) n0 h0 cells slots (some (.int 1))
  refine oPre (fun _ => XS.iload X18.here hx rfl (hb hby at_29) rfl) ?_
  show oEnd p e s below T18 (mkF m 31 #[.val (.int p1), .val (.int p2), .val (.ref a1), .val (.ref a2), .val (.int (p2 &&& (15 : Int32))), .unset, .unset] [(.int (p2 &&& (15 : Int32))), (.ref a2)]) n0 h0 cells slots (some (.int 1))
  obtain ⟨cq31, kq31, qa31, qb31, qc31⟩ := isOf hZ e18 E_a2
  obtain ⟨_, _, ⟨T31, L31, k31, n31⟩, -, X31, ⟨Lc31, hQ31, l31, y31, z31⟩, st31⟩ := X18.virtualBack hx (y := (⟨"java/lang/String", "charAt", "(I)C"⟩ : MethodName)) (z := (⟨"java/lang/String", "charAt", "(I)C"⟩ : MethodName)) hown (mvT hZ (hw _ (List.mem_of_getElem? (i := 9) rfl))) (mvT hZ (hw _ (List.mem_of_getElem? (i := 10) rfl))) (notFace_of_selects (args := #[]) (mvT hZ (hw _ (List.mem_of_getElem? (i := 12) rfl)))) (mvT hZ (hw _ (List.mem_of_getElem? (i := 12) rfl))) (mvT hZ (hw _ (List.mem_of_getElem? (i := 11) rfl))) (by decide) (backOf (W := 0) (oR1 l Z a0 hw [] a2 (p2 &&& (15 : Int32)) h0 n0 Z0 E_a2 V_a2 C_a2 Ar2 Sz2 Nz2 hvn hvs (at2 _ hv.2) O2 P5 O4 rG3) hZ (hw _ (List.mem_of_getElem? (i := 13) rfl)) (hw _ (List.mem_of_getElem? (i := 1) rfl)) (by decide) (by decide)) qa31 qc31 (g := (mkF m 31 #[.val (.int p1), .val (.int p2), .val (.ref a1), .val (.ref a2), .val (.int (p2 &&& (15 : Int32))), .unset, .unset] [(.int (p2 &&& (15 : Int32))), (.ref a2)])) rfl (by rw [hml]; rfl) (Steps.refl _) (argsL := [(.int (p2 &&& (15 : Int32)))]) (rest := []) (lenOf pd_4 rfl) rfl (by show 2 * 0 + _ ≤ _; exact Nat.le_of_eq rfl) (hb hby at_31) (fun _ _ => ⟨rfl, e18, hcs, hss⟩)
  dsimp only [Pt.U, Pt.locs, Pt.cells, Pt.slots] at X31 l31 y31 z31 st31 hQ31
  subst l31
  rw [y31, z31] at X31
  obtain ⟨rfl, N31q, e31⟩ := hQ31
  have N31 := Fr.app N18 N31q
  refine oPre (fun _ q => st31.trans q) ?_
  show oEnd p e s below T31 (mkF m 34 #[.val (.int p1), .val (.int p2), .val (.ref a1), .val (.ref a2), .val (.int (p2 &&& (15 : Int32))), .unset, .unset] [(.int (oCh (oUp.getD (p2 &&& (15 : Int32)).toNatClampNeg 0)))]) n0 h0 cells slots (some (.int 1))
  obtain ⟨_, _, ⟨T34, L34, k34, n34⟩, -, X34, ⟨Lc34, hQ34, l34, y34, z34⟩, st34⟩ := Jvm.LawKit.callS X31 hx (y := (⟨"com/example/anansi/anansi/Ascii", "hexDigit", "(C)I"⟩ : MethodName)) hown (mvT hZ (hw _ (List.mem_of_getElem? (i := 34) rfl))) (mvT hZ (hw _ (List.mem_of_getElem? (i := 35) rfl))) (mvT hZ (hw _ (List.mem_of_getElem? (i := 36) rfl))) (mvT hZ (hw _ (List.mem_of_getElem? (i := 37) rfl))) (by decide) (backOf (W := 0) (oR6 l Z a0 hw [] (oCh (oUp.getD (p2 &&& (15 : Int32)).toNatClampNeg 0)) h0 n0 Z0) hZ (hw _ (List.mem_of_getElem? (i := 37) rfl)) (hw _ (List.mem_of_getElem? (i := 36) rfl)) (by decide) (by decide)) (g := (mkF m 34 #[.val (.int p1), .val (.int p2), .val (.ref a1), .val (.ref a2), .val (.int (p2 &&& (15 : Int32))), .unset, .unset] [(.int (oCh (oUp.getD (p2 &&& (15 : Int32)).toNatClampNeg 0)))])) rfl (by rw [hml]; rfl) (argsL := [(.int (oCh (oUp.getD (p2 &&& (15 : Int32)).toNatClampNeg 0)))]) (rest := []) (lenOf pd_5 rfl) rfl (by show 2 * 0 + _ ≤ _; exact Nat.le_of_eq rfl) (hb hby at_34) (fun _ _ => ⟨rfl, e31, hcs, hss⟩)
  dsimp only [Pt.U, Pt.locs, Pt.cells, Pt.slots] at X34 l34 y34 z34 st34 hQ34
  subst l34
  rw [y34, z34] at X34
  obtain ⟨rfl, N34q, e34⟩ := hQ34
  have N34 := Fr.app N31 N34q
  refine oPre st34 ?_
  show oEnd p e s below T34 (mkF m 37 #[.val (.int p1), .val (.int p2), .val (.ref a1), .val (.ref a2), .val (.int (p2 &&& (15 : Int32))), .unset, .unset] [(.int (oF6_0 (oCh (oUp.getD (p2 &&& (15 : Int32)).toNatClampNeg 0))))]) n0 h0 cells slots (some (.int 1))
  refine oPre (fun _ => XS.iload X34.here hx rfl (hb hby at_37) rfl) ?_
  show oEnd p e s below T34 (mkF m 39 #[.val (.int p1), .val (.int p2), .val (.ref a1), .val (.ref a2), .val (.int (p2 &&& (15 : Int32))), .unset, .unset] [(.int (p2 &&& (15 : Int32))), (.int (oF6_0 (oCh (oUp.getD (p2 &&& (15 : Int32)).toNatClampNeg 0))))]) n0 h0 cells slots (some (.int 1))
  refine oPre (fun _ => XS.icmpYes X34.here hx rfl (pc0 := 39) (pc' := 44) rfl (hb hby at_39) rfl (((teq ((oHexUp ⟨(p2 &&& (15 : Int32)).toNatClampNeg, hv.2⟩).trans (oNat _ hv.1))).1)) (by decide) (by decide)) ?_
  show oEnd p e s below T34 (mkF m 44 #[.val (.int p1), .val (.int p2), .val (.ref a1), .val (.ref a2), .val (.int (p2 &&& (15 : Int32))), .unset, .unset] []) n0 h0 cells slots (some (.int 1))
  refine oPre (fun _ => XS.iloadN X34.here hx rfl (hb hby at_44) rfl) ?_
  show oEnd p e s below T34 (mkF m 45 #[.val (.int p1), .val (.int p2), .val (.ref a1), .val (.ref a2), .val (.int (p2 &&& (15 : Int32))), .unset, .unset] [(.int p1)]) n0 h0 cells slots (some (.int 1))
  refine oPre (fun _ => X34.ldcInt hx hown (mvT hZ (hw _ (List.mem_of_getElem? (i := 38) rfl))) (g := (mkF m 45 #[.val (.int p1), .val (.int p2), .val (.ref a1), .val (.ref a2), .val (.int (p2 &&& (15 : Int32))), .unset, .unset] [(.int p1)])) rfl (hb hby at_45) _) ?_
  show oEnd p e s below T34 (mkF m 47 #[.val (.int p1), .val (.int p2), .val (.ref a1), .val (.ref a2), .val (.int (p2 &&& (15 : Int32))), .unset, .unset] [(.int (65535 : Int32)), (.int p1)]) n0 h0 cells slots (some (.int 1))
  refine oPre (fun _ => XS.iand X34.here hx rfl (hb hby at_47) rfl) ?_
  show oEnd p e s below T34 (mkF m 48 #[.val (.int p1), .val (.int p2), .val (.ref a1), .val (.ref a2), .val (.int (p2 &&& (15 : Int32))), .unset, .unset] [(.int (p1 &&& (65535 : Int32)))]) n0 h0 cells slots (some (.int 1))
  refine oPre (fun _ => XS.i2c X34.here hx rfl (hb hby at_48) rfl) ?_
  show oEnd p e s below T34 (mkF m 49 #[.val (.int p1), .val (.int p2), .val (.ref a1), .val (.ref a2), .val (.int (p2 &&& (15 : Int32))), .unset, .unset] [(.int (oI2c (p1 &&& (65535 : Int32))))]) n0 h0 cells slots (some (.int 1))
  refine oPre (fun _ => XS.istore X34.here hx rfl (hb hby at_49) rfl (l' := #[.val (.int p1), .val (.int p2), .val (.ref a1), .val (.ref a2), .val (.int (p2 &&& (15 : Int32))), .val (.int (oI2c (p1 &&& (65535 : Int32)))), .unset]) rfl) ?_
  show oEnd p e s below T34 (mkF m 51 #[.val (.int p1), .val (.int p2), .val (.ref a1), .val (.ref a2), .val (.int (p2 &&& (15 : Int32))), .val (.int (oI2c (p1 &&& (65535 : Int32)))), .unset] []) n0 h0 cells slots (some (.int 1))
  refine oPre (fun _ => XS.iload X34.here hx rfl (hb hby at_51) rfl) ?_
  show oEnd p e s below T34 (mkF m 53 #[.val (.int p1), .val (.int p2), .val (.ref a1), .val (.ref a2), .val (.int (p2 &&& (15 : Int32))), .val (.int (oI2c (p1 &&& (65535 : Int32)))), .unset] [(.int (oI2c (p1 &&& (65535 : Int32))))]) n0 h0 cells slots (some (.int 1))
  obtain ⟨_, _, ⟨T53, L53, k53, n53⟩, -, X53, ⟨Lc53, hQ53, l53, y53, z53⟩, st53⟩ := Jvm.LawKit.callS X34 hx (y := (⟨"com/example/anansi/anansi/Ascii", "hexDigit", "(C)I"⟩ : MethodName)) hown (mvT hZ (hw _ (List.mem_of_getElem? (i := 34) rfl))) (mvT hZ (hw _ (List.mem_of_getElem? (i := 35) rfl))) (mvT hZ (hw _ (List.mem_of_getElem? (i := 36) rfl))) (mvT hZ (hw _ (List.mem_of_getElem? (i := 37) rfl))) (by decide) (backOf (W := 0) (oR6 l Z a0 hw [] (oI2c (p1 &&& (65535 : Int32))) h0 n0 Z0) hZ (hw _ (List.mem_of_getElem? (i := 37) rfl)) (hw _ (List.mem_of_getElem? (i := 36) rfl)) (by decide) (by decide)) (g := (mkF m 53 #[.val (.int p1), .val (.int p2), .val (.ref a1), .val (.ref a2), .val (.int (p2 &&& (15 : Int32))), .val (.int (oI2c (p1 &&& (65535 : Int32)))), .unset] [(.int (oI2c (p1 &&& (65535 : Int32))))])) rfl (by rw [hml]; rfl) (argsL := [(.int (oI2c (p1 &&& (65535 : Int32))))]) (rest := []) (lenOf pd_5 rfl) rfl (by show 2 * 0 + _ ≤ _; exact Nat.le_of_eq rfl) (hb hby at_53) (fun _ _ => ⟨rfl, e34, hcs, hss⟩)
  dsimp only [Pt.U, Pt.locs, Pt.cells, Pt.slots] at X53 l53 y53 z53 st53 hQ53
  subst l53
  rw [y53, z53] at X53
  obtain ⟨rfl, N53q, e53⟩ := hQ53
  have N53 := Fr.app N34 N53q
  refine oPre st53 ?_
  show oEnd p e s below T53 (mkF m 56 #[.val (.int p1), .val (.int p2), .val (.ref a1), .val (.ref a2), .val (.int (p2 &&& (15 : Int32))), .val (.int (oI2c (p1 &&& (65535 : Int32)))), .unset] [(.int (oF6_0 (oI2c (p1 &&& (65535 : Int32)))))]) n0 h0 cells slots (some (.int 1))
  refine oPre (fun _ => XS.istore X53.here hx rfl (hb hby at_56) rfl (l' := #[.val (.int p1), .val (.int p2), .val (.ref a1), .val (.ref a2), .val (.int (p2 &&& (15 : Int32))), .val (.int (oI2c (p1 &&& (65535 : Int32)))), .val (.int (oF6_0 (oI2c (p1 &&& (65535 : Int32)))))]) rfl) ?_
  show oEnd p e s below T53 (mkF m 58 #[.val (.int p1), .val (.int p2), .val (.ref a1), .val (.ref a2), .val (.int (p2 &&& (15 : Int32))), .val (.int (oI2c (p1 &&& (65535 : Int32)))), .val (.int (oF6_0 (oI2c (p1 &&& (65535 : Int32)))))] []) n0 h0 cells slots (some (.int 1))
  refine oPre (fun _ => XS.iload X53.here hx rfl (hb hby at_58) rfl) ?_
  show oEnd p e s below T53 (mkF m 60 #[.val (.int p1), .val (.int p2), .val (.ref a1), .val (.ref a2), .val (.int (p2 &&& (15 : Int32))), .val (.int (oI2c (p1 &&& (65535 : Int32)))), .val (.int (oF6_0 (oI2c (p1 &&& (65535 : Int32)))))] [(.int (oF6_0 (oI2c (p1 &&& (65535 : Int32)))))]) n0 h0 cells slots (some (.int 1))
  refine oPre (fun _ => XS.iconst X53.here hx rfl (hb hby at_60)) ?_
  by_cases hm : (oF6_0 (oI2c (p1 &&& (65535 : Int32)))) = (-1 : Int32)
  · skip
    show oEnd p e s below T53 (mkF m 61 #[.val (.int p1), .val (.int p2), .val (.ref a1), .val (.ref a2), .val (.int (p2 &&& (15 : Int32))), .val (.int (oI2c (p1 &&& (65535 : Int32)))), .val (.int (oF6_0 (oI2c (p1 &&& (65535 : Int32)))))] [(.int (-1 : Int32)), (.int (oF6_0 (oI2c (p1 &&& (65535 : Int32)))))]) n0 h0 cells slots (some (.int 1))
    refine oPre (fun _ => XS.icmpNo X53.here hx rfl (hb hby at_61) rfl (((teq hm).2))) ?_
    show oEnd p e s below T53 (mkF m 64 #[.val (.int p1), .val (.int p2), .val (.ref a1), .val (.ref a2), .val (.int (p2 &&& (15 : Int32))), .val (.int (oI2c (p1 &&& (65535 : Int32)))), .val (.int (oF6_0 (oI2c (p1 &&& (65535 : Int32)))))] []) n0 h0 cells slots (some (.int 1))
    refine oPre (fun _ => XS.iconst X53.here hx rfl (hb hby at_64)) ?_
    show oEnd p e s below T53 (mkF m 65 #[.val (.int p1), .val (.int p2), .val (.ref a1), .val (.ref a2), .val (.int (p2 &&& (15 : Int32))), .val (.int (oI2c (p1 &&& (65535 : Int32)))), .val (.int (oF6_0 (oI2c (p1 &&& (65535 : Int32)))))] [(.int (1 : Int32))]) n0 h0 cells slots (some (.int 1))
    obtain ⟨fs, hr0, hrun, hended, hW, hsame⟩ := X53.leave (v := some (.int 1)) (fun h => by rw [hret] at h; cases h) hlk
    exact ⟨_, _, retN X53 hx (t := .boolean) hret (by simp) (hb hby at_65) hr0, hrun, hended, hW, hsame, N53, e53⟩
  · skip
    have hr := (oHex (oI2c (p1 &&& (65535 : Int32)))).resolve_left hm
    have hlt : (oF6_0 (oI2c (p1 &&& (65535 : Int32)))).toNatClampNeg < 16 := by
      have h3 : (oF6_0 (oI2c (p1 &&& (65535 : Int32)))).toNatClampNeg = (oF6_0 (oI2c (p1 &&& (65535 : Int32)))).toInt.toNat := rfl
      omega
    have z0 : (0 : Int32).toInt = 0 := by decide
    have z15 : (15 : Int32).toInt = 15 := by decide
    have hb0 : ¬ (oF6_0 (oI2c (p1 &&& (65535 : Int32)))) < (0 : Int32) := by rw [Int32.lt_iff_toInt_lt, z0]; omega
    have hb1 : ¬ (15 : Int32) < (oF6_0 (oI2c (p1 &&& (65535 : Int32)))) := by rw [Int32.lt_iff_toInt_lt, z15]; omega
    have hb2 : (oF6_0 (oI2c (p1 &&& (65535 : Int32)))) < (16 : Int32) := by rw [Int32.lt_iff_toInt_lt, y16]; omega
    show oEnd p e s below T53 (mkF m 61 #[.val (.int p1), .val (.int p2), .val (.ref a1), .val (.ref a2), .val (.int (p2 &&& (15 : Int32))), .val (.int (oI2c (p1 &&& (65535 : Int32)))), .val (.int (oF6_0 (oI2c (p1 &&& (65535 : Int32)))))] [(.int (-1 : Int32)), (.int (oF6_0 (oI2c (p1 &&& (65535 : Int32)))))]) n0 h0 cells slots (some (.int 1))
    refine oPre (fun _ => XS.icmpYes X53.here hx rfl (pc0 := 61) (pc' := 66) rfl (hb hby at_61) rfl (((feq hm).2)) (by decide) (by decide)) ?_
    show oEnd p e s below T53 (mkF m 66 #[.val (.int p1), .val (.int p2), .val (.ref a1), .val (.ref a2), .val (.int (p2 &&& (15 : Int32))), .val (.int (oI2c (p1 &&& (65535 : Int32)))), .val (.int (oF6_0 (oI2c (p1 &&& (65535 : Int32)))))] []) n0 h0 cells slots (some (.int 1))
    refine oPre (fun _ => XS.iload X53.here hx rfl (hb hby at_66) rfl) ?_
    show oEnd p e s below T53 (mkF m 68 #[.val (.int p1), .val (.int p2), .val (.ref a1), .val (.ref a2), .val (.int (p2 &&& (15 : Int32))), .val (.int (oI2c (p1 &&& (65535 : Int32)))), .val (.int (oF6_0 (oI2c (p1 &&& (65535 : Int32)))))] [(.int (oF6_0 (oI2c (p1 &&& (65535 : Int32)))))]) n0 h0 cells slots (some (.int 1))
    refine oPre (fun _ => XS.ifNo X53.here hx rfl (hb hby at_68) rfl ((if0 _ _).trans ((flt hb0).1))) ?_
    show oEnd p e s below T53 (mkF m 71 #[.val (.int p1), .val (.int p2), .val (.ref a1), .val (.ref a2), .val (.int (p2 &&& (15 : Int32))), .val (.int (oI2c (p1 &&& (65535 : Int32)))), .val (.int (oF6_0 (oI2c (p1 &&& (65535 : Int32)))))] []) n0 h0 cells slots (some (.int 1))
    refine oPre (fun _ => XS.iload X53.here hx rfl (hb hby at_71) rfl) ?_
    show oEnd p e s below T53 (mkF m 73 #[.val (.int p1), .val (.int p2), .val (.ref a1), .val (.ref a2), .val (.int (p2 &&& (15 : Int32))), .val (.int (oI2c (p1 &&& (65535 : Int32)))), .val (.int (oF6_0 (oI2c (p1 &&& (65535 : Int32)))))] [(.int (oF6_0 (oI2c (p1 &&& (65535 : Int32)))))]) n0 h0 cells slots (some (.int 1))
    refine oPre (fun _ => XS.bipush X53.here hx rfl (hb hby at_73)) ?_
    show oEnd p e s below T53 (mkF m 75 #[.val (.int p1), .val (.int p2), .val (.ref a1), .val (.ref a2), .val (.int (p2 &&& (15 : Int32))), .val (.int (oI2c (p1 &&& (65535 : Int32)))), .val (.int (oF6_0 (oI2c (p1 &&& (65535 : Int32)))))] [(.int (15 : Int32)), (.int (oF6_0 (oI2c (p1 &&& (65535 : Int32)))))]) n0 h0 cells slots (some (.int 1))
    refine oPre (fun _ => XS.icmpYes X53.here hx rfl (pc0 := 75) (pc' := 80) rfl (hb hby at_75) rfl (((flt hb1).2.2.2)) (by decide) (by decide)) ?_
    show oEnd p e s below T53 (mkF m 80 #[.val (.int p1), .val (.int p2), .val (.ref a1), .val (.ref a2), .val (.int (p2 &&& (15 : Int32))), .val (.int (oI2c (p1 &&& (65535 : Int32)))), .val (.int (oF6_0 (oI2c (p1 &&& (65535 : Int32)))))] []) n0 h0 cells slots (some (.int 1))
    refine oPre (fun _ => XS.iload X53.here hx rfl (hb hby at_80) rfl) ?_
    show oEnd p e s below T53 (mkF m 82 #[.val (.int p1), .val (.int p2), .val (.ref a1), .val (.ref a2), .val (.int (p2 &&& (15 : Int32))), .val (.int (oI2c (p1 &&& (65535 : Int32)))), .val (.int (oF6_0 (oI2c (p1 &&& (65535 : Int32)))))] [(.int (oI2c (p1 &&& (65535 : Int32))))]) n0 h0 cells slots (some (.int 1))
    refine oPre (fun _ => XS.aloadN X53.here hx rfl (hb hby at_82) rfl rfl) ?_
    show oEnd p e s below T53 (mkF m 83 #[.val (.int p1), .val (.int p2), .val (.ref a1), .val (.ref a2), .val (.int (p2 &&& (15 : Int32))), .val (.int (oI2c (p1 &&& (65535 : Int32)))), .val (.int (oF6_0 (oI2c (p1 &&& (65535 : Int32)))))] [(.ref a1), (.int (oI2c (p1 &&& (65535 : Int32))))]) n0 h0 cells slots (some (.int 1))
    refine oPre (fun _ => XS.iload X53.here hx rfl (hb hby at_83) rfl) ?_
    show oEnd p e s below T53 (mkF m 85 #[.val (.int p1), .val (.int p2), .val (.ref a1), .val (.ref a2), .val (.int (p2 &&& (15 : Int32))), .val (.int (oI2c (p1 &&& (65535 : Int32)))), .val (.int (oF6_0 (oI2c (p1 &&& (65535 : Int32)))))] [(.int (oF6_0 (oI2c (p1 &&& (65535 : Int32))))), (.ref a1), (.int (oI2c (p1 &&& (65535 : Int32))))]) n0 h0 cells slots (some (.int 1))
    obtain ⟨cq85, kq85, qa85, qb85, qc85⟩ := isOf hZ e53 E_a1
    obtain ⟨_, _, ⟨T85, L85, k85, n85⟩, -, X85, ⟨Lc85, hQ85, l85, y85, z85⟩, st85⟩ := X53.virtualBack hx (y := (⟨"java/lang/String", "charAt", "(I)C"⟩ : MethodName)) (z := (⟨"java/lang/String", "charAt", "(I)C"⟩ : MethodName)) hown (mvT hZ (hw _ (List.mem_of_getElem? (i := 9) rfl))) (mvT hZ (hw _ (List.mem_of_getElem? (i := 10) rfl))) (notFace_of_selects (args := #[]) (mvT hZ (hw _ (List.mem_of_getElem? (i := 12) rfl)))) (mvT hZ (hw _ (List.mem_of_getElem? (i := 12) rfl))) (mvT hZ (hw _ (List.mem_of_getElem? (i := 11) rfl))) (by decide) (backOf (W := 1) (oR1 l Z a0 hw [] a1 (oF6_0 (oI2c (p1 &&& (65535 : Int32)))) h0 n0 Z0 E_a1 V_a1 C_a1 Ar1 Sz1 Nz1 hb0 hb2 (at1 _ hlt) O2 P5 O4 rG3) hZ (hw _ (List.mem_of_getElem? (i := 13) rfl)) (hw _ (List.mem_of_getElem? (i := 1) rfl)) (by decide) (by decide)) qa85 qc85 (g := (mkF m 85 #[.val (.int p1), .val (.int p2), .val (.ref a1), .val (.ref a2), .val (.int (p2 &&& (15 : Int32))), .val (.int (oI2c (p1 &&& (65535 : Int32)))), .val (.int (oF6_0 (oI2c (p1 &&& (65535 : Int32)))))] [(.int (oF6_0 (oI2c (p1 &&& (65535 : Int32))))), (.ref a1), (.int (oI2c (p1 &&& (65535 : Int32))))])) rfl (by rw [hml]; rfl) (Steps.refl _) (argsL := [(.int (oF6_0 (oI2c (p1 &&& (65535 : Int32)))))]) (rest := [(.int (oI2c (p1 &&& (65535 : Int32))))]) (lenOf pd_4 rfl) rfl (by show 2 * 0 + _ ≤ _; exact Nat.le_of_eq rfl) (hb hby at_85) (fun _ _ => ⟨rfl, e53, hcs, hss⟩)
    dsimp only [Pt.U, Pt.locs, Pt.cells, Pt.slots] at X85 l85 y85 z85 st85 hQ85
    subst l85
    rw [y85, z85] at X85
    obtain ⟨rfl, N85q, e85⟩ := hQ85
    have N85 := Fr.app N53 N85q
    refine oPre (fun _ q => st85.trans q) ?_
    by_cases hc : (oI2c (p1 &&& (65535 : Int32))) = oCh (oLo.getD (oF6_0 (oI2c (p1 &&& (65535 : Int32)))).toNatClampNeg 0)
    · skip
      show oEnd p e s below T85 (mkF m 88 #[.val (.int p1), .val (.int p2), .val (.ref a1), .val (.ref a2), .val (.int (p2 &&& (15 : Int32))), .val (.int (oI2c (p1 &&& (65535 : Int32)))), .val (.int (oF6_0 (oI2c (p1 &&& (65535 : Int32)))))] [(.int (oCh (oLo.getD (oF6_0 (oI2c (p1 &&& (65535 : Int32)))).toNatClampNeg 0))), (.int (oI2c (p1 &&& (65535 : Int32))))]) n0 h0 cells slots (some (.int 1))
      refine oPre (fun _ => XS.icmpYes X85.here hx rfl (pc0 := 88) (pc' := 102) rfl (hb hby at_88) rfl (((teq hc).1)) (by decide) (by decide)) ?_
      show oEnd p e s below T85 (mkF m 102 #[.val (.int p1), .val (.int p2), .val (.ref a1), .val (.ref a2), .val (.int (p2 &&& (15 : Int32))), .val (.int (oI2c (p1 &&& (65535 : Int32)))), .val (.int (oF6_0 (oI2c (p1 &&& (65535 : Int32)))))] []) n0 h0 cells slots (some (.int 1))
      refine oPre (fun _ => XS.iconst X85.here hx rfl (hb hby at_102)) ?_
      show oEnd p e s below T85 (mkF m 103 #[.val (.int p1), .val (.int p2), .val (.ref a1), .val (.ref a2), .val (.int (p2 &&& (15 : Int32))), .val (.int (oI2c (p1 &&& (65535 : Int32)))), .val (.int (oF6_0 (oI2c (p1 &&& (65535 : Int32)))))] [(.int (1 : Int32))]) n0 h0 cells slots (some (.int 1))
      refine oPre (fun _ => XS.goto X85.here hx rfl (pc0 := 103) (pc' := 107) rfl (hb hby at_103) (by decide) (by decide)) ?_
      show oEnd p e s below T85 (mkF m 107 #[.val (.int p1), .val (.int p2), .val (.ref a1), .val (.ref a2), .val (.int (p2 &&& (15 : Int32))), .val (.int (oI2c (p1 &&& (65535 : Int32)))), .val (.int (oF6_0 (oI2c (p1 &&& (65535 : Int32)))))] [(.int (1 : Int32))]) n0 h0 cells slots (some (.int 1))
      obtain ⟨fs, hr0, hrun, hended, hW, hsame⟩ := X85.leave (v := some (.int 1)) (fun h => by rw [hret] at h; cases h) hlk
      exact ⟨_, _, retN X85 hx (t := .boolean) hret (by simp) (hb hby at_107) hr0, hrun, hended, hW, hsame, N85, e85⟩
    · skip
      have hu := hr.2.resolve_left hc
      show oEnd p e s below T85 (mkF m 88 #[.val (.int p1), .val (.int p2), .val (.ref a1), .val (.ref a2), .val (.int (p2 &&& (15 : Int32))), .val (.int (oI2c (p1 &&& (65535 : Int32)))), .val (.int (oF6_0 (oI2c (p1 &&& (65535 : Int32)))))] [(.int (oCh (oLo.getD (oF6_0 (oI2c (p1 &&& (65535 : Int32)))).toNatClampNeg 0))), (.int (oI2c (p1 &&& (65535 : Int32))))]) n0 h0 cells slots (some (.int 1))
      refine oPre (fun _ => XS.icmpNo X85.here hx rfl (hb hby at_88) rfl (((feq hc).1))) ?_
      show oEnd p e s below T85 (mkF m 91 #[.val (.int p1), .val (.int p2), .val (.ref a1), .val (.ref a2), .val (.int (p2 &&& (15 : Int32))), .val (.int (oI2c (p1 &&& (65535 : Int32)))), .val (.int (oF6_0 (oI2c (p1 &&& (65535 : Int32)))))] []) n0 h0 cells slots (some (.int 1))
      refine oPre (fun _ => XS.iload X85.here hx rfl (hb hby at_91) rfl) ?_
      show oEnd p e s below T85 (mkF m 93 #[.val (.int p1), .val (.int p2), .val (.ref a1), .val (.ref a2), .val (.int (p2 &&& (15 : Int32))), .val (.int (oI2c (p1 &&& (65535 : Int32)))), .val (.int (oF6_0 (oI2c (p1 &&& (65535 : Int32)))))] [(.int (oI2c (p1 &&& (65535 : Int32))))]) n0 h0 cells slots (some (.int 1))
      refine oPre (fun _ => XS.aloadN X85.here hx rfl (hb hby at_93) rfl rfl) ?_
      show oEnd p e s below T85 (mkF m 94 #[.val (.int p1), .val (.int p2), .val (.ref a1), .val (.ref a2), .val (.int (p2 &&& (15 : Int32))), .val (.int (oI2c (p1 &&& (65535 : Int32)))), .val (.int (oF6_0 (oI2c (p1 &&& (65535 : Int32)))))] [(.ref a2), (.int (oI2c (p1 &&& (65535 : Int32))))]) n0 h0 cells slots (some (.int 1))
      refine oPre (fun _ => XS.iload X85.here hx rfl (hb hby at_94) rfl) ?_
      show oEnd p e s below T85 (mkF m 96 #[.val (.int p1), .val (.int p2), .val (.ref a1), .val (.ref a2), .val (.int (p2 &&& (15 : Int32))), .val (.int (oI2c (p1 &&& (65535 : Int32)))), .val (.int (oF6_0 (oI2c (p1 &&& (65535 : Int32)))))] [(.int (oF6_0 (oI2c (p1 &&& (65535 : Int32))))), (.ref a2), (.int (oI2c (p1 &&& (65535 : Int32))))]) n0 h0 cells slots (some (.int 1))
      obtain ⟨cq96, kq96, qa96, qb96, qc96⟩ := isOf hZ e85 E_a2
      obtain ⟨_, _, ⟨T96, L96, k96, n96⟩, -, X96, ⟨Lc96, hQ96, l96, y96, z96⟩, st96⟩ := X85.virtualBack hx (y := (⟨"java/lang/String", "charAt", "(I)C"⟩ : MethodName)) (z := (⟨"java/lang/String", "charAt", "(I)C"⟩ : MethodName)) hown (mvT hZ (hw _ (List.mem_of_getElem? (i := 9) rfl))) (mvT hZ (hw _ (List.mem_of_getElem? (i := 10) rfl))) (notFace_of_selects (args := #[]) (mvT hZ (hw _ (List.mem_of_getElem? (i := 12) rfl)))) (mvT hZ (hw _ (List.mem_of_getElem? (i := 12) rfl))) (mvT hZ (hw _ (List.mem_of_getElem? (i := 11) rfl))) (by decide) (backOf (W := 1) (oR1 l Z a0 hw [] a2 (oF6_0 (oI2c (p1 &&& (65535 : Int32)))) h0 n0 Z0 E_a2 V_a2 C_a2 Ar2 Sz2 Nz2 hb0 hb2 (at2 _ hlt) O2 P5 O4 rG3) hZ (hw _ (List.mem_of_getElem? (i := 13) rfl)) (hw _ (List.mem_of_getElem? (i := 1) rfl)) (by decide) (by decide)) qa96 qc96 (g := (mkF m 96 #[.val (.int p1), .val (.int p2), .val (.ref a1), .val (.ref a2), .val (.int (p2 &&& (15 : Int32))), .val (.int (oI2c (p1 &&& (65535 : Int32)))), .val (.int (oF6_0 (oI2c (p1 &&& (65535 : Int32)))))] [(.int (oF6_0 (oI2c (p1 &&& (65535 : Int32))))), (.ref a2), (.int (oI2c (p1 &&& (65535 : Int32))))])) rfl (by rw [hml]; rfl) (Steps.refl _) (argsL := [(.int (oF6_0 (oI2c (p1 &&& (65535 : Int32)))))]) (rest := [(.int (oI2c (p1 &&& (65535 : Int32))))]) (lenOf pd_4 rfl) rfl (by show 2 * 0 + _ ≤ _; exact Nat.le_of_eq rfl) (hb hby at_96) (fun _ _ => ⟨rfl, e85, hcs, hss⟩)
      dsimp only [Pt.U, Pt.locs, Pt.cells, Pt.slots] at X96 l96 y96 z96 st96 hQ96
      subst l96
      rw [y96, z96] at X96
      obtain ⟨rfl, N96q, e96⟩ := hQ96
      have N96 := Fr.app N85 N96q
      refine oPre (fun _ q => st96.trans q) ?_
      show oEnd p e s below T96 (mkF m 99 #[.val (.int p1), .val (.int p2), .val (.ref a1), .val (.ref a2), .val (.int (p2 &&& (15 : Int32))), .val (.int (oI2c (p1 &&& (65535 : Int32)))), .val (.int (oF6_0 (oI2c (p1 &&& (65535 : Int32)))))] [(.int (oCh (oUp.getD (oF6_0 (oI2c (p1 &&& (65535 : Int32)))).toNatClampNeg 0))), (.int (oI2c (p1 &&& (65535 : Int32))))]) n0 h0 cells slots (some (.int 1))
      refine oPre (fun _ => XS.icmpNo X96.here hx rfl (hb hby at_99) rfl (((teq hu).2))) ?_
      show oEnd p e s below T96 (mkF m 102 #[.val (.int p1), .val (.int p2), .val (.ref a1), .val (.ref a2), .val (.int (p2 &&& (15 : Int32))), .val (.int (oI2c (p1 &&& (65535 : Int32)))), .val (.int (oF6_0 (oI2c (p1 &&& (65535 : Int32)))))] []) n0 h0 cells slots (some (.int 1))
      refine oPre (fun _ => XS.iconst X96.here hx rfl (hb hby at_102)) ?_
      show oEnd p e s below T96 (mkF m 103 #[.val (.int p1), .val (.int p2), .val (.ref a1), .val (.ref a2), .val (.int (p2 &&& (15 : Int32))), .val (.int (oI2c (p1 &&& (65535 : Int32)))), .val (.int (oF6_0 (oI2c (p1 &&& (65535 : Int32)))))] [(.int (1 : Int32))]) n0 h0 cells slots (some (.int 1))
      refine oPre (fun _ => XS.goto X96.here hx rfl (pc0 := 103) (pc' := 107) rfl (hb hby at_103) (by decide) (by decide)) ?_
      show oEnd p e s below T96 (mkF m 107 #[.val (.int p1), .val (.int p2), .val (.ref a1), .val (.ref a2), .val (.int (p2 &&& (15 : Int32))), .val (.int (oI2c (p1 &&& (65535 : Int32)))), .val (.int (oF6_0 (oI2c (p1 &&& (65535 : Int32)))))] [(.int (1 : Int32))]) n0 h0 cells slots (some (.int 1))
      obtain ⟨fs, hr0, hrun, hended, hW, hsame⟩ := X96.leave (v := some (.int 1)) (fun h => by rw [hret] at h; cases h) hlk
      exact ⟨_, _, retN X96 hx (t := .boolean) hret (by simp) (hb hby at_107) hr0, hrun, hended, hW, hsame, N96, e96⟩
theorem pn_0 : plainName "com/example/anansi/anansi/AsciiHexDigitPinLaw" = true := by first | (simp [plainName, overriddenIn]; done) | decide +kernel
theorem ef_0 (m : MethodId) (p1 p2 : Int32) : entryFrame m #[(.int p1), (.int p2)] maxLocals = mkF m 0 #[.val (.int p1), .val (.int p2), .unset, .unset, .unset, .unset, .unset] [] := by first | (simp [entryFrame, mkF, argsToLocals, Value.category, maxLocals]; done) | rfl
set_option maxRecDepth 65536 in
set_option maxHeartbeats 40000000 in
theorem oR0 (l : Launch) (Z : State) (a0 : Array Value) (hw : ∀ d ∈ tables_1, d.before a0 Z = true) (ws : List Jvm.Cond) (p1 p2 : Int32) (hh1 : Jvm.Lit.constHeld Z "com/example/anansi/anansi/AsciiHexDigitPinLaw" 7) (hh2 : Jvm.Lit.constHeld Z "com/example/anansi/anansi/AsciiHexDigitPinLaw" 9) (hcw : Jvm.Lit.compactW.before a0 Z = true) {G1 : Int32} {G3 : Value} (O2 : Sta Z Z.heap "java/lang/String" "COMPACT_STRINGS" "Z" (.int G1)) (O4 : Sta Z Z.heap "jdk/internal/util/Preconditions" "SIOOBE_FORMATTER" "Ljava/util/function/BiFunction;" G3) (P5 : ¬ (G1 = (0 : Int32))) (rG3 : G3.isRef = true) :
    MetFree l x (head1 (Jvm.Cond.code x code maxLocals ret :: ws) room_1) (fun a U => a = #[(.int p1), (.int p2)] ∧ U.vm = Z.vm ∧ U.heap = Z.heap) (fun _ _ _ _ _ => True) (fun _ U o U' => ∃ v L, o = .returned v ∧ (v = some (.int 1) ∧ Fr Z.heap.size L) ∧ ReturnedEndW U o U' L room_1.cells room_1.slots) := by
  refine MetFree.of_bodySF (plainFor_of_name pn_0) hisR ?_
  intro p e s m args below meth c s₁ Bd hml0 hP hK
  obtain ⟨rfl, hvm, hh⟩ := hP
  have hx := Bd.exec
  have hby := Bd.bytes
  have hown : s.vm.findClass "com/example/anansi/anansi/AsciiHexDigitPinLaw" = some m.cls := findClass_of_methodNamed Bd.named
  have X0 : Stand p l e room_1 (s.setVm s.vm) m #[(.int p1), (.int p2)] below meth c s₁ [] 0 0 := Stand.of_body Bd
  have e0 : s₁.heap = Z.heap := by rw [← hh, Bd.state]; rfl
  have hZ0 : Z.Warmed39 s.vm := by rw [hvm]; exact State.Warmed39.refl Z
  have I0 : IB Z s.vm [] := by rw [hvm]; exact IB.start
  have hS0 : s.Since s.vm 0 := (State.WarmedH.refl s).since 0
  have wS : ∀ a ∈ Bundle.stringAtoms, a.before a0 Z = true := fun d hd => hw d ((by decide +kernel : ∀ d ∈ Bundle.stringAtoms, d ∈ tables_1) d hd)
  have hkeep : ∀ (b : Addr) (cl : Cell), Z.heap[b]? = some cl → s.heap[b]? = some cl := fun b cl q => by rw [hh]; exact q
  obtain ⟨a1, T1, h1, j1, b1, k1, X1, e1, E1, hS1, hj1, hZ1, hown1, A1, C1, V1, K1, -, -, I1, st1⟩ := ldcSV (s := s) (vm0 := s.vm) X0 hx hZ0 hown (hw _ (List.mem_of_getElem? (i := 0) rfl)) wS e0 hS0 (Nat.zero_le _) (Fr.nil _) hkeep I0 (by decide) hh1 hcw (vs := oLo.map Value.int) (z := 16) ⟨by decide, rfl⟩ (by decide) rfl (g := (mkF m 0 #[.val (.int p1), .val (.int p2), .unset, .unset, .unset, .unset, .unset] [])) rfl (hb hby at_0) (n := 64) (by decide) (by decide) (by decide) (by decide)
  obtain ⟨a2, T2, h2, j2, b2, k2, X2, e2, E2, hS2, hj2, hZ2, hown2, A2, C2, V2, K2, -, -, I2, st2⟩ := ldcSV (s := s) (vm0 := T1.vm) X1 hx hZ1 hown1 (hw _ (List.mem_of_getElem? (i := 8) rfl)) wS e1 hS1 hj1 (Fr.nil _) hkeep I1 (by decide) hh2 hcw (vs := oUp.map Value.int) (z := 16) ⟨by decide, rfl⟩ (by decide) rfl (g := (mkF m 3 #[.val (.int p1), .val (.int p2), .val (.ref a1), .unset, .unset, .unset, .unset] [])) rfl (hb hby at_3) (n := 64) (by decide) (by decide) (by decide) (by decide)
  have main : oEnd p e (s.setVm T2.vm) below s₁ (mkF m 0 #[.val (.int p1), .val (.int p2), .unset, .unset, .unset, .unset, .unset] []) Z.heap.size h2 4 136 (some (.int 1)) := by
    refine oPre st1 ?_
    show oEnd p e (s.setVm T2.vm) below T1 (mkF m 2 #[.val (.int p1), .val (.int p2), .unset, .unset, .unset, .unset, .unset] [(.ref a1)]) Z.heap.size h2 4 136 (some (.int 1))
    refine oPre (fun _ => XS.astoreN X1.here hx rfl (hb hby at_2) rfl rfl (l' := #[.val (.int p1), .val (.int p2), .val (.ref a1), .unset, .unset, .unset, .unset]) rfl) ?_
    show oEnd p e (s.setVm T2.vm) below T1 (mkF m 3 #[.val (.int p1), .val (.int p2), .val (.ref a1), .unset, .unset, .unset, .unset] []) Z.heap.size h2 4 136 (some (.int 1))
    refine oPre st2 ?_
    show oEnd p e (s.setVm T2.vm) below T2 (mkF m 5 #[.val (.int p1), .val (.int p2), .val (.ref a1), .unset, .unset, .unset, .unset] [(.ref a2)]) Z.heap.size h2 4 136 (some (.int 1))
    refine oPre (fun _ => XS.astoreN X2.here hx rfl (hb hby at_5) rfl rfl (l' := #[.val (.int p1), .val (.int p2), .val (.ref a1), .val (.ref a2), .unset, .unset, .unset]) rfl) ?_
    exact oTail X2 hx hby hml0 Bd.returns Bd.notSynchronized hown2 hZ2 hw e2 (Fr.nil _) (Nat.le_trans E1.1 E2.1) (by decide) (by decide) (A1.ext E2) (V1.ext E2) (C1.ext E2) (K1.ext E2) A2 V2 C2 K2 ((O2.ext E1).ext E2) ((O4.ext E1).ext E2) P5 rG3 p1 p2
  obtain ⟨t, L, hs, hrun, hended, hW, hsame, hN, ht⟩ := main
  obtain ⟨q1, q2, q3⟩ := hS2.ended (U := t) hW (by rw [ht]; exact hj2) hsame
  exact ⟨t, _, castTop (ef_0 m p1 p2) hs, hrun, hended, _, L, rfl, ⟨rfl, hN⟩, ⟨_, rfl⟩, q1, q2, q3.mono (by decide) (by decide)⟩
set_option maxRecDepth 65536 in
set_option maxHeartbeats 4000000 in
theorem comes_1 {Post : Tables → Env → Array Value → State → Outcome → State → Prop} (hpost : ∀ tb e args s v u, (limb_1_1.after args s (.returned v) u = true ∧ limb_1_2.after args s (.returned v) u = true ∧ True) → ReturnedEndW s (.returned v) u (Jvm.fieldLocs frame_1_writes args s ++ Jvm.arrayLocs frame_1_arrays args s ++ Jvm.staticLocs frame_1_statics s) 8 2112 → Post tb e args s (.returned v) u) :
    ArmFor flags0 classFile x code maxLocals ret World_1 tables_1 room_1 Calls_1 rest_1 Pre_1 Post := by
  intro l hfl _ _ p e ha hc hk s m args below hf hA hF happ hP
  obtain ⟨hcalls, hrest, hpre⟩ := hP
  obtain ⟨-, -, -, hnamed, -, -, -, hat⟩ := (Spec.applies_iff hf).mp happ
  obtain ⟨hg, hn⟩ := and_e (Cond.before_iff.mp (show (Jvm.Cond.and given_1 narrow_1).before args s = true from hpre))
  obtain ⟨h1, h2⟩ := and_e hg
  obtain ⟨h3, h4⟩ := and_e h2
  obtain ⟨w0, w1, rfl⟩ : ∃ w0 w1 : Value, args = #[w0, w1] := by
    have hs : args.size = 2 := by simpa [Cond.value, given_1] using h1
    obtain ⟨L⟩ := args
    match L, hs with
    | [w0, w1], _ => exact ⟨w0, w1, rfl⟩
  have hw := fun d (hd : d ∈ tables_1) => atoms_spec (ws := Jvm.Cond.code x code maxLocals ret :: tables_1) hat d (List.mem_cons_of_mem _ hd)
  obtain ⟨hsets, hown0⟩ := atoms_of _ (rest_1_c_eq ▸ (show rest_1_c.before _ s = true from hrest))
  have n5 := not_v (Cond.before_iff.mp (hsets _ (List.mem_of_getElem? (i := 2) rfl)))
  obtain ⟨i7, e6⟩ := is_v h3
  obtain rfl : w0 = (.int i7) := Option.some.inj e6
  obtain ⟨i9, e8⟩ := is_v h4
  obtain rfl : w1 = (.int i9) := Option.some.inj e8
  obtain ⟨i11, e10⟩ := is_v (Cond.before_iff.mp (hsets _ (List.mem_of_getElem? (i := 1) rfl)))
  have S12 : Sta s s.heap "java/lang/String" "COMPACT_STRINGS" "Z" (.int i11) := Sta.start e10 (Or.inl (hsets _ (List.mem_of_getElem? (i := 0) rfl)))
  obtain ⟨v13, e14, r15⟩ := isR_v (Cond.before_iff.mp (hsets _ (List.mem_of_getElem? (i := 8) rfl)))
  have S16 : Sta s s.heap "jdk/internal/util/Preconditions" "SIOOBE_FORMATTER" "Ljava/util/function/BiFunction;" v13 := Sta.start e14 (Or.inl (hsets _ (List.mem_of_getElem? (i := 7) rfl)))
  have c17 : ¬ (i11 = (0 : Int32)) := gotF (Cond.eq_ints e10 (Term.int_eval (0))) n5
  have hheld : constsHeld consts_1 s := hcalls.1
  have hh1 : Jvm.Lit.constHeld s "com/example/anansi/anansi/AsciiHexDigitPinLaw" 7 := hheld _ (List.mem_of_getElem? (i := 0) rfl)
  have hh2 : Jvm.Lit.constHeld s "com/example/anansi/anansi/AsciiHexDigitPinLaw" 9 := hheld _ (List.mem_of_getElem? (i := 1) rfl)
  obtain ⟨n, o, h1, h2, h3, _, L, rfl, ⟨rfl, N⟩, hq⟩ := oR0 l s _ hw tables_1 i7 i9 hh1 hh2 (hsets _ (List.mem_of_getElem? (i := 2) rfl)) S12 S16 c17 r15 p e ha hc hk s m _ below hf ((Spec.applies_iff_loose hf).mp happ).1 ⟨rfl, rfl, rfl⟩ trivial
  refine ⟨n, _, h1, h2, h3, hpost _ _ _ _ _ _ ⟨Cond.after_iff.mpr rfl, Cond.after_iff.mpr (eq_i res_at (Term.int_eval (1)) rfl), trivial⟩ ⟨hq.1, hq.2.1, hq.2.2.1, (hq.2.2.2.sift fun y hy => Or.inr (N y hy)).mono (by decide) (by decide)⟩⟩
theorem main_1_1 : Claimed_1_1 := comes_1 fun _ _ _ _ _ _ h hF => ⟨h.1, hF⟩
theorem main_1_2 : Claimed_1_2 := comes_1 fun _ _ _ _ _ _ h hF => ⟨h.2.1, hF⟩
end Jvm.Pilot.@@N@@
namespace Jvm.Pilot.@@N@@
open Jvm Jvm.ClassFile Sem Op Lib Jvm.Free Jvm.Stand Jvm.Pilot.@@N@@.Jvm.D
/-! MADE BY PROGRAM (witnessworld.py) out of the Statement's table words and the real class files: 17 classes; the members and pool entries that the words name. The judged class is class 1, her method 1. -/
namespace start1
open Jvm.ClassFile
def u (s : String) : CpInfo := .utf8 (stringToUtf16 s)
/-- a pool by its gaps: so many unusable entries, then the entry; so many at the end -/
def gap : Nat → List CpInfo → List CpInfo
  | 0, r => r
  | n + 1, r => .unusable :: gap n r
def poolList (es : List (Nat × CpInfo)) (last : Nat) : List CpInfo := es.foldr (fun e r => gap e.1 (e.2 :: r)) (gap last [])
def pool (es : List (Nat × CpInfo)) (last : Nat) : Array CpInfo := ⟨poolList es last⟩
def fileOf (pool : Array CpInfo) (this : Nat) (attrs : Array Attribute := #[]) (ms : Array MethodInfo := #[]) (fl : Nat := 33) (sup : Nat := 0) (ifs : Array Nat := #[]) (fds : Array FieldInfo := #[]) : ClassFile where
  minorVersion := 0
  majorVersion := 65
  constantPool := pool
  accessFlags := fl
  thisClass := this
  superClass := sup
  interfaces := ifs
  fields := fds
  methods := ms
  attributes := attrs
def plain (name : String) (sup : Option ClassId) : Class where
  name := name
  kind := .ordinary
  loader := none
  accessFlags := 33
  super := sup
  interfaces := #[]
  cf := none
  fields := #[]
  methods := #[]
  instanceTypes := #[]
  staticTypes := #[]
  resolved := #[]
  callSites := []
  init := .initialized
  statics := none
  mirror := none

def pool0 : Array CpInfo := pool [(5, u "<init>"), (0, u "()V"), (1, .class_ 10), (1, u "java/lang/Object")] 113

def k0m0 : Method := { name := "<init>", desc := "()V", sig := { parameters := [], returnType := none }, accessFlags := 1, code := none }
/-- java/lang/Object -/
def k0 : Class := { plain "java/lang/Object" none with
  accessFlags := 33
  interfaces := #[]
  cf := some (fileOf pool0 8 #[] #[{ accessFlags := 1, nameIndex := 5, descriptorIndex := 6, attributes := #[] }] 33 0 #[] #[])
  fields := #[]
  methods := #[k0m0]
  instanceTypes := #[]
  staticTypes := #[]
  resolved := Array.replicate 124 none
  statics := none }

def pool1 : Array CpInfo := pool [(2, .class_ 4), (1, u "java/lang/Object"), (0, u "<init>"), (0, u "()V"), (0, .string 8), (0, u "0123456789abcdef"), (0, .string 10), (0, u "0123456789ABCDEF"), (0, .methodref 12 13), (0, .class_ 14), (0, .nameAndType 15 16), (0, u "java/lang/String"), (0, u "charAt"), (0, u "(I)C"), (0, .methodref 18 19), (0, .class_ 20), (0, .nameAndType 21 22), (0, u "com/example/anansi/anansi/Ascii"), (0, u "hexDigit"), (0, u "(C)I"), (0, .integer 65535), (0, .class_ 25), (0, u "com/example/anansi/anansi/AsciiHexDigitPinLaw"), (2, u "law"), (0, u "(II)Z")] 3

def k1m0 : Method := { name := "<init>", desc := "()V", sig := { parameters := [], returnType := none }, accessFlags := 2, code := none }
def k1c1 : Code := { maxStack := 3, maxLocals := 7, code := code, exceptionTable := #[], attributes := #[] }
def k1m1 : Method := { name := "law", desc := "(II)Z", sig := { parameters := [.int, .int], returnType := some .boolean }, accessFlags := 9, code := some k1c1 }
/-- com/example/anansi/anansi/AsciiHexDigitPinLaw -/
def k1 : Class := { plain "com/example/anansi/anansi/AsciiHexDigitPinLaw" (some 0) with
  accessFlags := 49
  interfaces := #[]
  cf := some (fileOf pool1 24 #[] #[{ accessFlags := 2, nameIndex := 5, descriptorIndex := 6, attributes := #[] }, { accessFlags := 9, nameIndex := 28, descriptorIndex := 29, attributes := #[] }] 49 2 #[] #[])
  fields := #[]
  methods := #[k1m0, k1m1]
  instanceTypes := #[]
  staticTypes := #[]
  resolved := Array.replicate 33 none
  statics := none }

def pool2 : Array CpInfo := pool [(1, .class_ 2), (0, u "java/io/Serializable"), (0, .class_ 4), (0, u "java/lang/Object")] 2

/-- java/io/Serializable -/
def k2 : Class := { plain "java/io/Serializable" (some 0) with
  accessFlags := 1537
  interfaces := #[]
  cf := some (fileOf pool2 1 #[] #[] 1537 3 #[] #[])
  fields := #[]
  methods := #[]
  instanceTypes := #[]
  staticTypes := #[]
  resolved := Array.replicate 7 none
  statics := none }

def pool3 : Array CpInfo := pool [(1, .class_ 2), (0, u "java/lang/Comparable"), (0, .class_ 4), (0, u "java/lang/Object")] 7

/-- java/lang/Comparable -/
def k3 : Class := { plain "java/lang/Comparable" (some 0) with
  accessFlags := 1537
  interfaces := #[]
  cf := some (fileOf pool3 1 #[] #[] 1537 3 #[] #[])
  fields := #[]
  methods := #[]
  instanceTypes := #[]
  staticTypes := #[]
  resolved := Array.replicate 12 none
  statics := none }

def pool4 : Array CpInfo := pool [(2, .class_ 4), (1, u "java/lang/CharSequence"), (42, .class_ 48), (0, u "java/lang/CharSequence$1CodePointIterator"), (10, .class_ 60), (0, u "java/lang/CharSequence$1CharIterator"), (5, .class_ 67), (0, u "java/lang/Object")] 63

/-- java/lang/CharSequence -/
def k4 : Class := { plain "java/lang/CharSequence" (some 0) with
  accessFlags := 1537
  interfaces := #[]
  cf := some (fileOf pool4 2 #[.nestMembers #[47, 59]] #[] 1537 66 #[] #[])
  fields := #[]
  methods := #[]
  instanceTypes := #[]
  staticTypes := #[]
  resolved := Array.replicate 131 none
  statics := none }

def pool5 : Array CpInfo := pool [(1, .class_ 2), (0, u "java/lang/constant/Constable"), (0, .class_ 4), (0, u "java/lang/Object")] 6

/-- java/lang/constant/Constable -/
def k5 : Class := { plain "java/lang/constant/Constable" (some 0) with
  accessFlags := 1537
  interfaces := #[]
  cf := some (fileOf pool5 1 #[] #[] 1537 3 #[] #[])
  fields := #[]
  methods := #[]
  instanceTypes := #[]
  staticTypes := #[]
  resolved := Array.replicate 11 none
  statics := none }

def pool6 : Array CpInfo := pool [(1, .class_ 2), (0, u "java/lang/constant/ConstantDesc"), (0, .class_ 4), (0, u "java/lang/Object")] 32

/-- java/lang/constant/ConstantDesc -/
def k6 : Class := { plain "java/lang/constant/ConstantDesc" (some 0) with
  accessFlags := 1537
  interfaces := #[]
  cf := some (fileOf pool6 1 #[] #[] 1537 3 #[] #[])
  fields := #[]
  methods := #[]
  instanceTypes := #[]
  staticTypes := #[]
  resolved := Array.replicate 37 none
  statics := none }

def pool7 : Array CpInfo := pool [(2, .class_ 4), (1, u "java/lang/Object"), (0, u "<init>"), (0, u "()V"), (2, .fieldref 10 11), (0, .class_ 12), (0, .nameAndType 13 14), (0, u "java/lang/String"), (0, u "value"), (0, u "[B"), (0, .fieldref 10 16), (0, .nameAndType 17 18), (0, u "coder"), (0, u "B"), (2, u "hash"), (0, u "I"), (2, u "hashIsZero"), (0, u "Z"), (11, .fieldref 10 39), (0, .nameAndType 40 26), (0, u "COMPACT_STRINGS"), (66, .class_ 109), (1, u "java/lang/StringLatin1"), (32, u "()Z"), (220, u "([BI)C"), (27, u "(II)V"), (35, u "(I)C"), (64, .methodref 10 493), (0, .nameAndType 494 142), (0, u "isLatin1"), (0, .methodref 107 496), (0, .nameAndType 497 363), (0, u "charAt"), (3, u "checkIndex"), (73, .class_ 576), (0, u "java/lang/CharSequence"), (22, u "CASE_INSENSITIVE_ORDER"), (0, u "Ljava/util/Comparator;"), (452, .fieldref 1054 1055), (0, .class_ 1056), (0, .nameAndType 1057 1058), (0, u "jdk/internal/util/Preconditions"), (0, u "SIOOBE_FORMATTER"), (0, u "Ljava/util/function/BiFunction;"), (0, .methodref 1054 1060), (0, .nameAndType 501 1061), (0, u "(IILjava/util/function/BiFunction;)I"), (39, u "serialPersistentFields"), (0, u "[Ljava/io/ObjectStreamField;"), (0, .class_ 1104), (0, u "java/lang/String$CaseInsensitiveComparator"), (1, .class_ 1107), (0, u "java/io/Serializable"), (0, .class_ 1109), (0, u "java/lang/Comparable"), (0, .class_ 1111), (0, u "java/lang/constant/Constable"), (0, .class_ 1113), (0, u "java/lang/constant/ConstantDesc"), (2, u "serialVersionUID"), (0, u "J"), (3, u "REPL"), (0, u "C"), (2, u "LATIN1"), (1, u "UTF16")] 323

def k7m0 : Method := { name := "<init>", desc := "()V", sig := { parameters := [], returnType := none }, accessFlags := 1, code := none }
def k7c1 : Code := { maxStack := 2, maxLocals := 2, code := jdk_42_method_56_code, exceptionTable := #[], attributes := #[] }
def k7m1 : Method := { name := "charAt", desc := "(I)C", sig := { parameters := [.int], returnType := some .char }, accessFlags := 1, code := some k7c1 }
def k7c2 : Code := { maxStack := 1, maxLocals := 1, code := jdk_42_method_154_code, exceptionTable := #[], attributes := #[] }
def k7m2 : Method := { name := "isLatin1", desc := "()Z", sig := { parameters := [], returnType := some .boolean }, accessFlags := 0, code := some k7c2 }
def k7c3 : Code := { maxStack := 3, maxLocals := 2, code := jdk_42_method_155_code, exceptionTable := #[], attributes := #[] }
def k7m3 : Method := { name := "checkIndex", desc := "(II)V", sig := { parameters := [.int, .int], returnType := none }, accessFlags := 8, code := some k7c3 }
/-- java/lang/String -/
def k7 : Class := { plain "java/lang/String" (some 0) with
  accessFlags := 49
  interfaces := #[2, 3, 4, 5, 6]
  cf := some (fileOf pool7 10 #[.nestMembers #[1103]] #[{ accessFlags := 1, nameIndex := 5, descriptorIndex := 6, attributes := #[] }, { accessFlags := 1, nameIndex := 497, descriptorIndex := 427, attributes := #[] }, { accessFlags := 0, nameIndex := 494, descriptorIndex := 142, attributes := #[] }, { accessFlags := 8, nameIndex := 501, descriptorIndex := 391, attributes := #[] }] 49 2 #[1106, 1108, 575, 1110, 1112] #[{ accessFlags := 18, nameIndex := 13, descriptorIndex := 14, attributes := #[] }, { accessFlags := 18, nameIndex := 17, descriptorIndex := 18, attributes := #[] }, { accessFlags := 2, nameIndex := 21, descriptorIndex := 22, attributes := #[] }, { accessFlags := 2, nameIndex := 25, descriptorIndex := 26, attributes := #[] }, { accessFlags := 26, nameIndex := 1116, descriptorIndex := 1117, attributes := #[] }, { accessFlags := 24, nameIndex := 40, descriptorIndex := 26, attributes := #[] }, { accessFlags := 26, nameIndex := 1101, descriptorIndex := 1102, attributes := #[] }, { accessFlags := 26, nameIndex := 1121, descriptorIndex := 1122, attributes := #[] }, { accessFlags := 25, nameIndex := 599, descriptorIndex := 600, attributes := #[] }, { accessFlags := 24, nameIndex := 1125, descriptorIndex := 18, attributes := #[] }, { accessFlags := 24, nameIndex := 1127, descriptorIndex := 18, attributes := #[] }])
  fields := #[{ name := "value", type := (.array .byte), accessFlags := 18, slot := 0, constantValue := 0 }, { name := "coder", type := .byte, accessFlags := 18, slot := 1, constantValue := 0 }, { name := "hash", type := .int, accessFlags := 2, slot := 2, constantValue := 0 }, { name := "hashIsZero", type := .boolean, accessFlags := 2, slot := 3, constantValue := 0 }, { name := "serialVersionUID", type := .long, accessFlags := 26, slot := 0, constantValue := 0 }, { name := "COMPACT_STRINGS", type := .boolean, accessFlags := 24, slot := 1, constantValue := 0 }, { name := "serialPersistentFields", type := (.array (.object "java/io/ObjectStreamField")), accessFlags := 26, slot := 2, constantValue := 0 }, { name := "REPL", type := .char, accessFlags := 26, slot := 3, constantValue := 0 }, { name := "CASE_INSENSITIVE_ORDER", type := (.object "java/util/Comparator"), accessFlags := 25, slot := 4, constantValue := 0 }, { name := "LATIN1", type := .byte, accessFlags := 24, slot := 5, constantValue := 0 }, { name := "UTF16", type := .byte, accessFlags := 24, slot := 6, constantValue := 0 }]
  methods := #[k7m0, k7m1, k7m2, k7m3]
  instanceTypes := #[(.array .byte), .byte, .int, .boolean]
  staticTypes := #[.long, .boolean, (.array (.object "java/io/ObjectStreamField")), .char, (.object "java/util/Comparator"), .byte, .byte]
  resolved := Array.replicate 1451 none
  statics := some 0 }

def pool8 : Array CpInfo := pool [(1, .class_ 2), (0, u "java/lang/String"), (1, .class_ 6), (1, u "java/lang/Object"), (0, u "<init>"), (0, u "()V"), (0, .methodref 1 10), (0, .nameAndType 11 12), (0, u "checkIndex"), (0, u "(II)V"), (1, .class_ 16), (1, u "java/lang/StringLatin1"), (36, u "([BI)C"), (67, u "$assertionsDisabled"), (0, u "Z"), (98, .class_ 223), (1, u "java/lang/StringLatin1$LinesSpliterator"), (28, u "charAt"), (137, .class_ 391), (0, u "java/lang/StringLatin1$CharsSpliterator")] 3

def k8m0 : Method := { name := "<init>", desc := "()V", sig := { parameters := [], returnType := none }, accessFlags := 0, code := none }
def k8c1 : Code := { maxStack := 2, maxLocals := 2, code := jdk_43_method_2_code, exceptionTable := #[], attributes := #[] }
def k8m1 : Method := { name := "charAt", desc := "([BI)C", sig := { parameters := [(.array .byte), .int], returnType := some .char }, accessFlags := 9, code := some k8c1 }
/-- java/lang/StringLatin1 -/
def k8 : Class := { plain "java/lang/StringLatin1" (some 0) with
  accessFlags := 48
  interfaces := #[]
  cf := some (fileOf pool8 14 #[.nestMembers #[390, 221]] #[{ accessFlags := 0, nameIndex := 7, descriptorIndex := 8, attributes := #[] }, { accessFlags := 9, nameIndex := 252, descriptorIndex := 53, attributes := #[] }] 48 4 #[] #[{ accessFlags := 4120, nameIndex := 121, descriptorIndex := 122, attributes := #[] }])
  fields := #[{ name := "$assertionsDisabled", type := .boolean, accessFlags := 4120, slot := 0, constantValue := 0 }]
  methods := #[k8m0, k8m1]
  instanceTypes := #[]
  staticTypes := #[.boolean]
  resolved := Array.replicate 395 none
  statics := none }

def pool9 : Array CpInfo := pool [(2, .class_ 4), (1, u "java/lang/Object"), (0, u "<init>"), (0, u "()V"), (17, .class_ 26), (1, u "jdk/internal/util/Preconditions"), (6, u "checkIndex"), (21, .class_ 56), (0, u "jdk/internal/util/Preconditions$4"), (57, .class_ 115), (0, u "jdk/internal/util/Preconditions$1"), (7, u "SIOOBE_FORMATTER"), (0, u "Ljava/util/function/BiFunction;"), (0, .class_ 126), (0, u "jdk/internal/util/Preconditions$2"), (3, u "AIOOBE_FORMATTER"), (0, .class_ 132), (0, u "jdk/internal/util/Preconditions$3"), (3, u "IOOBE_FORMATTER"), (41, u "(IILjava/util/function/BiFunction;)I")] 15

def k9m0 : Method := { name := "<init>", desc := "()V", sig := { parameters := [], returnType := none }, accessFlags := 1, code := none }
def k9c1 : Code := { maxStack := 3, maxLocals := 3, code := jdk_41_method_11_code, exceptionTable := #[], attributes := #[] }
def k9m1 : Method := { name := "checkIndex", desc := "(IILjava/util/function/BiFunction;)I", sig := { parameters := [.int, .int, (.object "java/util/function/BiFunction")], returnType := some .int }, accessFlags := 9, code := some k9c1 }
/-- jdk/internal/util/Preconditions -/
def k9 : Class := { plain "jdk/internal/util/Preconditions" (some 0) with
  accessFlags := 33
  interfaces := #[]
  cf := some (fileOf pool9 24 #[.nestMembers #[55, 131, 125, 114]] #[{ accessFlags := 1, nameIndex := 5, descriptorIndex := 6, attributes := #[] }, { accessFlags := 9, nameIndex := 33, descriptorIndex := 178, attributes := #[] }] 33 2 #[] #[{ accessFlags := 25, nameIndex := 123, descriptorIndex := 124, attributes := #[] }, { accessFlags := 25, nameIndex := 130, descriptorIndex := 124, attributes := #[] }, { accessFlags := 25, nameIndex := 136, descriptorIndex := 124, attributes := #[] }])
  fields := #[{ name := "SIOOBE_FORMATTER", type := (.object "java/util/function/BiFunction"), accessFlags := 25, slot := 0, constantValue := 0 }, { name := "AIOOBE_FORMATTER", type := (.object "java/util/function/BiFunction"), accessFlags := 25, slot := 1, constantValue := 0 }, { name := "IOOBE_FORMATTER", type := (.object "java/util/function/BiFunction"), accessFlags := 25, slot := 2, constantValue := 0 }]
  methods := #[k9m0, k9m1]
  instanceTypes := #[]
  staticTypes := #[(.object "java/util/function/BiFunction"), (.object "java/util/function/BiFunction"), (.object "java/util/function/BiFunction")]
  resolved := Array.replicate 194 none
  statics := some 1 }

def pool10 : Array CpInfo := pool [(2, .class_ 4), (1, u "java/lang/Object"), (0, u "<init>"), (0, u "()V"), (8, .class_ 16), (0, u "com/example/anansi/anansi/Ascii"), (2, u "hexDigit"), (0, u "(C)I")] 5

def k10m0 : Method := { name := "<init>", desc := "()V", sig := { parameters := [], returnType := none }, accessFlags := 2, code := none }
def k10c1 : Code := { maxStack := 2, maxLocals := 2, code := prog_1_method_2_code, exceptionTable := #[], attributes := #[] }
def k10m1 : Method := { name := "hexDigit", desc := "(C)I", sig := { parameters := [.char], returnType := some .int }, accessFlags := 8, code := some k10c1 }
/-- com/example/anansi/anansi/Ascii -/
def k10 : Class := { plain "com/example/anansi/anansi/Ascii" (some 0) with
  accessFlags := 48
  interfaces := #[]
  cf := some (fileOf pool10 15 #[] #[{ accessFlags := 2, nameIndex := 5, descriptorIndex := 6, attributes := #[] }, { accessFlags := 8, nameIndex := 19, descriptorIndex := 20, attributes := #[] }] 48 2 #[] #[])
  fields := #[]
  methods := #[k10m0, k10m1]
  instanceTypes := #[]
  staticTypes := #[]
  resolved := Array.replicate 26 none
  statics := none }

def pool11 : Array CpInfo := pool [(9, u "<init>"), (6, .class_ 18), (1, u "java/lang/Object"), (0, u "()V"), (1, .class_ 23), (1, u "jdk/internal/util/ArraysSupport"), (0, u "LOG2_ARRAY_LONG_INDEX_SCALE"), (0, u "I"), (2, u "U"), (0, u "Ljdk/internal/misc/Unsafe;"), (8, u "BIG_ENDIAN"), (0, u "Z"), (8, u "LOG2_BYTE_BIT_SIZE"), (4, u "LOG2_ARRAY_INT_INDEX_SCALE"), (54, u "JLA"), (0, u "Ljdk/internal/access/JavaLangAccess;"), (11, u "LOG2_ARRAY_BOOLEAN_INDEX_SCALE"), (9, u "LOG2_ARRAY_BYTE_INDEX_SCALE"), (5, u "LOG2_ARRAY_CHAR_INDEX_SCALE"), (5, u "LOG2_ARRAY_SHORT_INDEX_SCALE"), (18, u "LOG2_ARRAY_FLOAT_INDEX_SCALE"), (24, u "LOG2_ARRAY_DOUBLE_INDEX_SCALE"), (89, u "T_BOOLEAN"), (2, u "T_CHAR"), (1, u "T_FLOAT"), (1, u "T_DOUBLE"), (1, u "T_BYTE"), (1, u "T_SHORT"), (1, u "T_INT"), (1, u "T_LONG"), (1, u "SOFT_MAX_ARRAY_LENGTH")] 83

def k11m0 : Method := { name := "<init>", desc := "()V", sig := { parameters := [], returnType := none }, accessFlags := 2, code := none }
/-- jdk/internal/util/ArraysSupport -/
def k11 : Class := { plain "jdk/internal/util/ArraysSupport" (some 0) with
  accessFlags := 33
  interfaces := #[]
  cf := some (fileOf pool11 21 #[] #[{ accessFlags := 2, nameIndex := 9, descriptorIndex := 19, attributes := #[] }] 33 16 #[] #[{ accessFlags := 24, nameIndex := 28, descriptorIndex := 29, attributes := #[] }, { accessFlags := 26, nameIndex := 38, descriptorIndex := 39, attributes := #[] }, { accessFlags := 25, nameIndex := 121, descriptorIndex := 25, attributes := #[] }, { accessFlags := 25, nameIndex := 131, descriptorIndex := 25, attributes := #[] }, { accessFlags := 25, nameIndex := 137, descriptorIndex := 25, attributes := #[] }, { accessFlags := 25, nameIndex := 143, descriptorIndex := 25, attributes := #[] }, { accessFlags := 25, nameIndex := 53, descriptorIndex := 25, attributes := #[] }, { accessFlags := 25, nameIndex := 24, descriptorIndex := 25, attributes := #[] }, { accessFlags := 25, nameIndex := 162, descriptorIndex := 25, attributes := #[] }, { accessFlags := 25, nameIndex := 187, descriptorIndex := 25, attributes := #[] }, { accessFlags := 26, nameIndex := 48, descriptorIndex := 25, attributes := #[] }, { accessFlags := 25, nameIndex := 277, descriptorIndex := 25, attributes := #[] }, { accessFlags := 25, nameIndex := 280, descriptorIndex := 25, attributes := #[] }, { accessFlags := 25, nameIndex := 282, descriptorIndex := 25, attributes := #[] }, { accessFlags := 25, nameIndex := 284, descriptorIndex := 25, attributes := #[] }, { accessFlags := 25, nameIndex := 286, descriptorIndex := 25, attributes := #[] }, { accessFlags := 25, nameIndex := 288, descriptorIndex := 25, attributes := #[] }, { accessFlags := 25, nameIndex := 290, descriptorIndex := 25, attributes := #[] }, { accessFlags := 25, nameIndex := 292, descriptorIndex := 25, attributes := #[] }, { accessFlags := 26, nameIndex := 108, descriptorIndex := 109, attributes := #[] }, { accessFlags := 25, nameIndex := 294, descriptorIndex := 25, attributes := #[] }])
  fields := #[{ name := "U", type := (.object "jdk/internal/misc/Unsafe"), accessFlags := 24, slot := 0, constantValue := 0 }, { name := "BIG_ENDIAN", type := .boolean, accessFlags := 26, slot := 1, constantValue := 0 }, { name := "LOG2_ARRAY_BOOLEAN_INDEX_SCALE", type := .int, accessFlags := 25, slot := 2, constantValue := 0 }, { name := "LOG2_ARRAY_BYTE_INDEX_SCALE", type := .int, accessFlags := 25, slot := 3, constantValue := 0 }, { name := "LOG2_ARRAY_CHAR_INDEX_SCALE", type := .int, accessFlags := 25, slot := 4, constantValue := 0 }, { name := "LOG2_ARRAY_SHORT_INDEX_SCALE", type := .int, accessFlags := 25, slot := 5, constantValue := 0 }, { name := "LOG2_ARRAY_INT_INDEX_SCALE", type := .int, accessFlags := 25, slot := 6, constantValue := 0 }, { name := "LOG2_ARRAY_LONG_INDEX_SCALE", type := .int, accessFlags := 25, slot := 7, constantValue := 0 }, { name := "LOG2_ARRAY_FLOAT_INDEX_SCALE", type := .int, accessFlags := 25, slot := 8, constantValue := 0 }, { name := "LOG2_ARRAY_DOUBLE_INDEX_SCALE", type := .int, accessFlags := 25, slot := 9, constantValue := 0 }, { name := "LOG2_BYTE_BIT_SIZE", type := .int, accessFlags := 26, slot := 10, constantValue := 0 }, { name := "T_BOOLEAN", type := .int, accessFlags := 25, slot := 11, constantValue := 0 }, { name := "T_CHAR", type := .int, accessFlags := 25, slot := 12, constantValue := 0 }, { name := "T_FLOAT", type := .int, accessFlags := 25, slot := 13, constantValue := 0 }, { name := "T_DOUBLE", type := .int, accessFlags := 25, slot := 14, constantValue := 0 }, { name := "T_BYTE", type := .int, accessFlags := 25, slot := 15, constantValue := 0 }, { name := "T_SHORT", type := .int, accessFlags := 25, slot := 16, constantValue := 0 }, { name := "T_INT", type := .int, accessFlags := 25, slot := 17, constantValue := 0 }, { name := "T_LONG", type := .int, accessFlags := 25, slot := 18, constantValue := 0 }, { name := "JLA", type := (.object "jdk/internal/access/JavaLangAccess"), accessFlags := 26, slot := 19, constantValue := 0 }, { name := "SOFT_MAX_ARRAY_LENGTH", type := .int, accessFlags := 25, slot := 20, constantValue := 0 }]
  methods := #[k11m0]
  instanceTypes := #[]
  staticTypes := #[(.object "jdk/internal/misc/Unsafe"), .boolean, .int, .int, .int, .int, .int, .int, .int, .int, .int, .int, .int, .int, .int, .int, .int, .int, .int, (.object "jdk/internal/access/JavaLangAccess"), .int]
  resolved := Array.replicate 378 none
  statics := none }

def pool12 : Array CpInfo := pool [(1, u "java/lang/Cloneable"), (0, .class_ 1), (0, u "java/lang/Object"), (0, .class_ 3)] 3

/-- java/lang/Cloneable -/
def k12 : Class := { plain "java/lang/Cloneable" (some 0) with
  accessFlags := 1537
  interfaces := #[]
  cf := some (fileOf pool12 2 #[] #[] 1537 4 #[] #[])
  fields := #[]
  methods := #[]
  instanceTypes := #[]
  staticTypes := #[]
  resolved := Array.replicate 8 none
  statics := none }

/-- the primitive byte -/
def k13 : Class := { plain "byte" none with kind := .primitive 'B', accessFlags := 0x411 }
/-- [B -/
def k14 : Class := { plain "[B" (some 0) with kind := .array 13 .byte, interfaces := #[12, 2], accessFlags := 1041 }

/-- the primitive int -/
def k15 : Class := { plain "int" none with kind := .primitive 'I', accessFlags := 0x411 }
/-- [I -/
def k16 : Class := { plain "[I" (some 0) with kind := .array 15 .int, interfaces := #[12, 2], accessFlags := 1041 }

def heap : Heap := #[{ cls := 7, slots := #[.long 0, .int 1, .null, .int 0, .null, .int 0, .int 0], vm := .statics 7 },
  { cls := 9, slots := #[.null, .null, .null], vm := .statics 9 }]
def classes : Array Class := #[k0, k1, k2, k3, k4, k5, k6, k7, k8, k9, k10, k11, k12, k13, k14, k15, k16]
def interned : List (Array UInt16 × Addr) := []
def slotsUsed : Nat := 10
def theMethod : MethodId := ⟨1, 1⟩
def args0 : Array Value := #[.int 5, .int 6]
def aboutOver (below : List Frame) : State where
  vm := { classes := classes, interned := interned.toArray }
  heap := heap
  slotsUsed := slotsUsed
  threads := #[{ frames := .invoking theMethod args0 :: below }]
def below0 : List Frame := [.native { method := ⟨0, 0⟩, args := #[] }]
def about1 : State := aboutOver below0
def p0 : Program := .bare "" "" ""
def e0 : Env := launch0.env 0 0 0
theorem w_frames : about1.frames = Frame.invoking theMethod args0 :: below0 := rfl
set_option maxRecDepth 65536 in
theorem w_args : argsFit about1.vm theMethod args0 = true := by decide +kernel
set_option maxRecDepth 65536 in
theorem w_heap : heapFits about1 = true := by decide +kernel
set_option maxRecDepth 65536 in
theorem w_runnable : about1.curStatus? = some .runnable := by decide +kernel
set_option maxRecDepth 65536 in
theorem w_alone : about1.alone = true := by decide +kernel
set_option maxRecDepth 65536 in
theorem w_named : about1.methodNamed? x = some theMethod := by decide +kernel
set_option maxRecDepth 65536 in
theorem w_hears : about1.hears theMethod below0 = true := by decide +kernel
set_option maxRecDepth 65536 in
theorem w_ripe : about1.ripe theMethod args0 below0 = true := by decide +kernel
theorem w_running : about1.status = .running := rfl
set_option maxRecDepth 65536 in
theorem w_room : about1.hasRoom e0.platform room_1 = true :=
  launch0.hasRoom_least _ room_1 (by decide +kernel) (by decide +kernel) (by decide +kernel) (by decide +kernel) (by decide +kernel) (by decide +kernel)
theorem allAtoms_all (ts : List Jvm.Cond) (a : Array Jvm.Value) (st : Jvm.State) : (allAtoms ts).before a st = ts.all (fun c => c.before a st) := by
  induction ts with
  | nil => rfl
  | cons c t ih =>
    show (Jvm.Cond.and c (allAtoms t)).before a st = _
    rw [Jvm.Cond.before_and, ih, List.all_cons]
def words1 : List Jvm.Cond := Jvm.Cond.code x code maxLocals ret :: tables_1
/-- a 'code' word, met by the world's own term for the bytes: nothing is compared byte by byte -/
theorem code_word {y : MethodName} {bytes : ByteArray} {mx : Nat} {rt : Option FieldType} {a : Array Value} {s : State} {m : MethodId} {meth : Method} {c : Code} (h1 : s.methodNamed? y = some m) (h2 : s.vm.method? m = some meth) (h3 : meth.code = some c) (h4 : c.code = bytes)
    (h5 : (c.maxLocals == mx && c.exceptionTable.isEmpty && decide (c.maxStack ≤ mostOperands) && decide (meth.sig.returnType = rt) && !meth.locks && decide (parseMethodDescriptor y.desc = some meth.sig)) = true) : (Jvm.Cond.code y bytes mx rt).before a s = true := by
  simp only [Bool.and_eq_true, beq_iff_eq, Bool.not_eq_true', decide_eq_true_eq] at h5
  obtain ⟨⟨⟨⟨⟨g1, g2⟩, g3⟩, g4⟩, g5⟩, g6⟩ := h5
  simp [Cond.before, Cond.holds, Cond.value, h1, h2, h3, h4, g1, g2, g3, g4, g5, g6]
def isCode : Jvm.Cond → Bool
  | .code _ _ _ _ => true
  | _ => false
theorem all_split {L : List Jvm.Cond} {P : Jvm.Cond → Bool} (h1 : L.all (fun c => isCode c || P c) = true) (h2 : ∀ c ∈ L.filter isCode, P c = true) : L.all P = true := by
  refine List.all_eq_true.mpr fun c hc => ?_
  have h := List.all_eq_true.mp h1 c hc
  rcases Bool.eq_false_or_eq_true (isCode c) with hi | hi
  · exact h2 c (List.mem_filter.mpr ⟨hc, hi⟩)
  · simpa [hi] using h
set_option maxRecDepth 65536 in
theorem w_c0 : (Jvm.Cond.code x code maxLocals ret).before args0 about1 = true := code_word (m := ⟨1, 1⟩) (meth := k1m1) (c := k1c1) (by decide +kernel) rfl rfl rfl (by decide +kernel)
set_option maxRecDepth 65536 in
theorem w_c1 : (Jvm.Cond.code ({ cls := "java/lang/String", name := "charAt", desc := "(I)C" } : Jvm.MethodName) jdk_42_method_56_code (2 : Nat) (Option.some Jvm.ClassFile.FieldType.char)).before args0 about1 = true := code_word (m := ⟨7, 1⟩) (meth := k7m1) (c := k7c1) (by decide +kernel) rfl rfl rfl (by decide +kernel)
set_option maxRecDepth 65536 in
theorem w_c2 : (Jvm.Cond.code ({ cls := "java/lang/String", name := "isLatin1", desc := "()Z" } : Jvm.MethodName) jdk_42_method_154_code (1 : Nat) (Option.some Jvm.ClassFile.FieldType.boolean)).before args0 about1 = true := code_word (m := ⟨7, 2⟩) (meth := k7m2) (c := k7c2) (by decide +kernel) rfl rfl rfl (by decide +kernel)
set_option maxRecDepth 65536 in
theorem w_c3 : (Jvm.Cond.code ({ cls := "java/lang/StringLatin1", name := "charAt", desc := "([BI)C" } : Jvm.MethodName) jdk_43_method_2_code (2 : Nat) (Option.some Jvm.ClassFile.FieldType.char)).before args0 about1 = true := code_word (m := ⟨8, 1⟩) (meth := k8m1) (c := k8c1) (by decide +kernel) rfl rfl rfl (by decide +kernel)
set_option maxRecDepth 65536 in
theorem w_c4 : (Jvm.Cond.code ({ cls := "java/lang/String", name := "checkIndex", desc := "(II)V" } : Jvm.MethodName) jdk_42_method_155_code (2 : Nat) (Option.none : Option Jvm.ClassFile.FieldType)).before args0 about1 = true := code_word (m := ⟨7, 3⟩) (meth := k7m3) (c := k7c3) (by decide +kernel) rfl rfl rfl (by decide +kernel)
set_option maxRecDepth 65536 in
theorem w_c5 : (Jvm.Cond.code ({ cls := "jdk/internal/util/Preconditions", name := "checkIndex", desc := "(IILjava/util/function/BiFunction;)I" } : Jvm.MethodName) jdk_41_method_11_code (3 : Nat) (Option.some Jvm.ClassFile.FieldType.int)).before args0 about1 = true := code_word (m := ⟨9, 1⟩) (meth := k9m1) (c := k9c1) (by decide +kernel) rfl rfl rfl (by decide +kernel)
set_option maxRecDepth 65536 in
theorem w_c6 : (Jvm.Cond.code ({ cls := "com/example/anansi/anansi/Ascii", name := "hexDigit", desc := "(C)I" } : Jvm.MethodName) prog_1_method_2_code (2 : Nat) (Option.some Jvm.ClassFile.FieldType.int)).before args0 about1 = true := code_word (m := ⟨10, 1⟩) (meth := k10m1) (c := k10c1) (by decide +kernel) rfl rfl rfl (by decide +kernel)
def codes1 : List Jvm.Cond := [Jvm.Cond.code x code maxLocals ret, Jvm.Cond.code ({ cls := "java/lang/String", name := "charAt", desc := "(I)C" } : Jvm.MethodName) jdk_42_method_56_code (2 : Nat) (Option.some Jvm.ClassFile.FieldType.char), Jvm.Cond.code ({ cls := "java/lang/String", name := "isLatin1", desc := "()Z" } : Jvm.MethodName) jdk_42_method_154_code (1 : Nat) (Option.some Jvm.ClassFile.FieldType.boolean), Jvm.Cond.code ({ cls := "java/lang/StringLatin1", name := "charAt", desc := "([BI)C" } : Jvm.MethodName) jdk_43_method_2_code (2 : Nat) (Option.some Jvm.ClassFile.FieldType.char), Jvm.Cond.code ({ cls := "java/lang/String", name := "checkIndex", desc := "(II)V" } : Jvm.MethodName) jdk_42_method_155_code (2 : Nat) (Option.none : Option Jvm.ClassFile.FieldType), Jvm.Cond.code ({ cls := "jdk/internal/util/Preconditions", name := "checkIndex", desc := "(IILjava/util/function/BiFunction;)I" } : Jvm.MethodName) jdk_41_method_11_code (3 : Nat) (Option.some Jvm.ClassFile.FieldType.int), Jvm.Cond.code ({ cls := "com/example/anansi/anansi/Ascii", name := "hexDigit", desc := "(C)I" } : Jvm.MethodName) prog_1_method_2_code (2 : Nat) (Option.some Jvm.ClassFile.FieldType.int)]
set_option maxRecDepth 65536 in
theorem codes_eq : words1.filter isCode = codes1 := rfl
theorem w_codes : ∀ c ∈ words1.filter isCode, c.before args0 about1 = true := by
  rw [codes_eq]
  intro c hc
  simp only [codes1, List.mem_cons, List.not_mem_nil, or_false] at hc
  rcases hc with rfl | rfl | rfl | rfl | rfl | rfl | rfl
  · exact w_c0
  · exact w_c1
  · exact w_c2
  · exact w_c3
  · exact w_c4
  · exact w_c5
  · exact w_c6
set_option maxRecDepth 65536 in
theorem w_t1 : (words1.take 24).all (fun c => isCode c || c.before args0 about1) = true := by decide +kernel
set_option maxRecDepth 65536 in
theorem w_t2 : (words1.drop 24).all (fun c => isCode c || c.before args0 about1) = true := by decide +kernel
theorem w_tables : (allAtoms (Jvm.Cond.code x code maxLocals ret :: tables_1)).before args0 about1 = true := by
  rw [allAtoms_all]
  show words1.all (fun c => c.before args0 about1) = true
  refine all_split ?_ w_codes
  rw [← List.take_append_drop 24 words1, List.all_append, w_t1, w_t2]
  rfl
set_option maxRecDepth 65536 in
theorem w_rest : rest_1_c.before args0 about1 = true := by decide +kernel
set_option maxRecDepth 65536 in
theorem w_case : (Jvm.Cond.and given_1 narrow_1).before args0 about1 = true := by decide +kernel
set_option maxRecDepth 65536 in
theorem w_consts : constsHeld consts_1 about1 := Jvm.Lit.constsHeldB_iff.mp (by decide +kernel)
theorem w_applies : (headSpec (Jvm.Cond.code x code maxLocals ret :: tables_1) room_1).applies x e0.platform about1 = true :=
  (Spec.applies_iff w_frames).mpr ⟨w_running, w_runnable, w_alone, w_named, w_hears, w_ripe, w_room, w_tables⟩
theorem atStart : AtStart classFile x code maxLocals ret World_1 tables_1 room_1 Calls_1 rest_1 Pre_1 launch0 p0 e0 about1 theMethod args0 below0 :=
  ⟨lists_1, trivial, launch0.admits_env _ _ _, launch0.least_env, fairChoices_fair.cas, fairChoices_fair.clock, w_frames, w_args, w_heap, w_applies, ⟨w_consts, trivial⟩, w_rest, w_case⟩
end start1
theorem witness_1 : WitnessClaimed_1 := ⟨start1.p0, start1.e0, start1.about1, start1.theMethod, start1.args0, start1.below0, start1.atStart⟩
end Jvm.Pilot.@@N@@
