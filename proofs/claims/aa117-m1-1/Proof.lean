import JvmDerived
import JvmDerived.Pilot.@@N@@Statement
import JvmDerived.Pilot.@@N@@Code
set_option linter.unusedVariables false
set_option linter.unusedSimpArgs false
namespace Jvm.Pilot.@@N@@
open Jvm Jvm.ClassFile Sem Op Lib Jvm.Free Jvm.Stand Jvm.LawKit Jvm.RoadKit Bundle Jvm.Pilot.@@N@@.Jvm.D
/-- the run from frame g of state T ends, returns w, leaves heap h and writes new cells alone -/
def oEnd (p : Program) (e : Env) (s : State) (below : List Frame) (T : State) (g : JFrame) (n0 : Nat) (h : Heap) (cells slots : Nat) (w : Option Value) : Prop :=
  ∃ t L, Steps p.tables e below (T.setTop g) t ∧ t.status = .running ∧ Ended t below (.returned w) ∧ s.WarmedH t.vm ∧ s.sameButNew ({ t with vm := s.vm } : State) L cells slots ∧ Fr n0 L ∧ t.heap = h
theorem oPre {p : Program} {e : Env} {s : State} {below : List Frame} {T T' : State} {g g' : JFrame} {n0 : Nat} {h : Heap} {cells slots : Nat} {w : Option Value}
    (k : ∀ target, Steps p.tables e below (T'.setTop g') target → Steps p.tables e below (T.setTop g) target) (q : oEnd p e s below T' g' n0 h cells slots w) : oEnd p e s below T g n0 h cells slots w := by
  obtain ⟨t, L, hs, r⟩ := q
  exact ⟨t, L, k t hs, r⟩
def oI2c (x : Int32) : Int32 := x.toUInt32.toUInt16.toUInt32.toInt32

theorem d1_0 : decode prog_98_method_3_code 0 = .ok (.iload_n 0, 1) := by decide +kernel
theorem d1_1 : decode prog_98_method_3_code 1 = .ok (.bipush 9, 2) := by decide +kernel
theorem d1_3 : decode prog_98_method_3_code 3 = .ok (.if_icmp .eq 51, 3) := by decide +kernel
theorem d1_6 : decode prog_98_method_3_code 6 = .ok (.iload_n 0, 1) := by decide +kernel
theorem d1_7 : decode prog_98_method_3_code 7 = .ok (.bipush 10, 2) := by decide +kernel
theorem d1_9 : decode prog_98_method_3_code 9 = .ok (.if_icmp .eq 45, 3) := by decide +kernel
theorem d1_12 : decode prog_98_method_3_code 12 = .ok (.iload_n 0, 1) := by decide +kernel
theorem d1_13 : decode prog_98_method_3_code 13 = .ok (.bipush 13, 2) := by decide +kernel
theorem d1_15 : decode prog_98_method_3_code 15 = .ok (.if_icmp .eq 39, 3) := by decide +kernel
theorem d1_18 : decode prog_98_method_3_code 18 = .ok (.iload_n 0, 1) := by decide +kernel
theorem d1_19 : decode prog_98_method_3_code 19 = .ok (.bipush 32, 2) := by decide +kernel
theorem d1_21 : decode prog_98_method_3_code 21 = .ok (.if_icmp .lt 9, 3) := by decide +kernel
theorem d1_24 : decode prog_98_method_3_code 24 = .ok (.iload_n 0, 1) := by decide +kernel
theorem d1_25 : decode prog_98_method_3_code 25 = .ok (.ldc 7, 2) := by decide +kernel
theorem d1_27 : decode prog_98_method_3_code 27 = .ok (.if_icmp .le 27, 3) := by decide +kernel
theorem d1_30 : decode prog_98_method_3_code 30 = .ok (.iload_n 0, 1) := by decide +kernel
theorem d1_31 : decode prog_98_method_3_code 31 = .ok (.ldc 8, 2) := by decide +kernel
theorem d1_33 : decode prog_98_method_3_code 33 = .ok (.if_icmp .lt 9, 3) := by decide +kernel
theorem d1_36 : decode prog_98_method_3_code 36 = .ok (.iload_n 0, 1) := by decide +kernel
theorem d1_37 : decode prog_98_method_3_code 37 = .ok (.ldc 9, 2) := by decide +kernel
theorem d1_39 : decode prog_98_method_3_code 39 = .ok (.if_icmp .le 15, 3) := by decide +kernel
theorem d1_42 : decode prog_98_method_3_code 42 = .ok (.iload_n 0, 1) := by decide +kernel
theorem d1_43 : decode prog_98_method_3_code 43 = .ok (.ldc 10, 2) := by decide +kernel
theorem d1_45 : decode prog_98_method_3_code 45 = .ok (.if_icmp .lt 13, 3) := by decide +kernel
theorem d1_48 : decode prog_98_method_3_code 48 = .ok (.iload_n 0, 1) := by decide +kernel
theorem d1_49 : decode prog_98_method_3_code 49 = .ok (.ldc 13, 2) := by decide +kernel
theorem d1_51 : decode prog_98_method_3_code 51 = .ok (.if_icmp .gt 7, 3) := by decide +kernel
theorem d1_54 : decode prog_98_method_3_code 54 = .ok (.iconst 1, 1) := by decide +kernel
theorem d1_55 : decode prog_98_method_3_code 55 = .ok (.goto 4, 3) := by decide +kernel
theorem d1_58 : decode prog_98_method_3_code 58 = .ok (.iconst 0, 1) := by decide +kernel
theorem d1_59 : decode prog_98_method_3_code 59 = .ok (.ireturn, 1) := by decide +kernel
def oF1_59 (p1 : Int32) (q1 : Int32) : Int32 := (q1 &&& 1)
set_option maxRecDepth 65536 in
set_option maxHeartbeats 4000000 in
theorem oB1_59 {p : Program} {l : Launch} {e : Env} {s : State} {m : MethodId} {args : Array Value} {below : List Frame} {meth : Method} {c : Code} {T : State} {locs : List Loc} {cells slots : Nat} {Z : State} {a0 : Array Value} {h0 : Heap} {n0 : Nat} (X : Stand p l e ({ frames := 0, cells := 0, slots := 0, locals := 0 } : Room) s m args below meth c T locs cells slots) (hx : p.tables.exec = Jvm.exec) (hby : c.code = prog_98_method_3_code) (hml : c.maxLocals = 1) (hret : meth.sig.returnType = some .boolean) (hlk : meth.locks = false) (hown : s.vm.findClass "org/provenote/core/xml/XmlCharacters" = some m.cls) (hZ : Z.Warmed39 s.vm) (hw : ∀ d ∈ tables_1, d.before a0 Z = true) (eT : T.heap = h0) (N : Fr n0 locs) (Z0 : n0 ≤ h0.size) (hcs : cells ≤ ({ frames := 0, cells := 0, slots := 0, locals := 0 } : Room).cells) (hss : slots ≤ ({ frames := 0, cells := 0, slots := 0, locals := 0 } : Room).slots) (p1 : Int32) (q1 : Int32) {w : Int32} (hv : oF1_59 p1 q1 = w) : oEnd p e s below T (mkF m 59 #[.val (.int p1)] [(.int q1)]) n0 h0 cells slots (some (.int w)) := by
  show oEnd p e s below T (mkF m 59 #[.val (.int p1)] [(.int q1)]) n0 h0 cells slots (some (.int w))
  subst hv
  obtain ⟨fs, hr, hrun, hended, hW, hsame⟩ := X.leave (v := some (.int (q1 &&& 1))) (fun h => by rw [hret] at h; cases h) hlk
  exact ⟨_, _, retN X hx (t := .boolean) hret (by simp) (hb hby d1_59) hr, hrun, hended, hW, hsame, N, eT⟩
def oF1_58 (p1 : Int32) : Int32 := (oF1_59 p1 (0 : Int32))
set_option maxRecDepth 65536 in
set_option maxHeartbeats 4000000 in
theorem oB1_58 {p : Program} {l : Launch} {e : Env} {s : State} {m : MethodId} {args : Array Value} {below : List Frame} {meth : Method} {c : Code} {T : State} {locs : List Loc} {cells slots : Nat} {Z : State} {a0 : Array Value} {h0 : Heap} {n0 : Nat} (X : Stand p l e ({ frames := 0, cells := 0, slots := 0, locals := 0 } : Room) s m args below meth c T locs cells slots) (hx : p.tables.exec = Jvm.exec) (hby : c.code = prog_98_method_3_code) (hml : c.maxLocals = 1) (hret : meth.sig.returnType = some .boolean) (hlk : meth.locks = false) (hown : s.vm.findClass "org/provenote/core/xml/XmlCharacters" = some m.cls) (hZ : Z.Warmed39 s.vm) (hw : ∀ d ∈ tables_1, d.before a0 Z = true) (eT : T.heap = h0) (N : Fr n0 locs) (Z0 : n0 ≤ h0.size) (hcs : cells ≤ ({ frames := 0, cells := 0, slots := 0, locals := 0 } : Room).cells) (hss : slots ≤ ({ frames := 0, cells := 0, slots := 0, locals := 0 } : Room).slots) (p1 : Int32) {w : Int32} (hv : oF1_58 p1 = w) : oEnd p e s below T (mkF m 58 #[.val (.int p1)] []) n0 h0 cells slots (some (.int w)) := by
  show oEnd p e s below T (mkF m 58 #[.val (.int p1)] []) n0 h0 cells slots (some (.int w))
  refine oPre (fun _ => XS.iconst X.here hx rfl (hb hby d1_58)) ?_
  exact oB1_59 X hx hby hml hret hlk hown hZ hw eT N Z0 hcs hss p1 (0 : Int32) hv
def oF1_54 (p1 : Int32) : Int32 := (oF1_59 p1 (1 : Int32))
set_option maxRecDepth 65536 in
set_option maxHeartbeats 4000000 in
theorem oB1_54 {p : Program} {l : Launch} {e : Env} {s : State} {m : MethodId} {args : Array Value} {below : List Frame} {meth : Method} {c : Code} {T : State} {locs : List Loc} {cells slots : Nat} {Z : State} {a0 : Array Value} {h0 : Heap} {n0 : Nat} (X : Stand p l e ({ frames := 0, cells := 0, slots := 0, locals := 0 } : Room) s m args below meth c T locs cells slots) (hx : p.tables.exec = Jvm.exec) (hby : c.code = prog_98_method_3_code) (hml : c.maxLocals = 1) (hret : meth.sig.returnType = some .boolean) (hlk : meth.locks = false) (hown : s.vm.findClass "org/provenote/core/xml/XmlCharacters" = some m.cls) (hZ : Z.Warmed39 s.vm) (hw : ∀ d ∈ tables_1, d.before a0 Z = true) (eT : T.heap = h0) (N : Fr n0 locs) (Z0 : n0 ≤ h0.size) (hcs : cells ≤ ({ frames := 0, cells := 0, slots := 0, locals := 0 } : Room).cells) (hss : slots ≤ ({ frames := 0, cells := 0, slots := 0, locals := 0 } : Room).slots) (p1 : Int32) {w : Int32} (hv : oF1_54 p1 = w) : oEnd p e s below T (mkF m 54 #[.val (.int p1)] []) n0 h0 cells slots (some (.int w)) := by
  show oEnd p e s below T (mkF m 54 #[.val (.int p1)] []) n0 h0 cells slots (some (.int w))
  refine oPre (fun _ => XS.iconst X.here hx rfl (hb hby d1_54)) ?_
  show oEnd p e s below T (mkF m 55 #[.val (.int p1)] [(.int (1 : Int32))]) n0 h0 cells slots (some (.int w))
  refine oPre (fun _ => XS.goto X.here hx rfl (pc0 := 55) (pc' := 59) rfl (hb hby d1_55) (by decide) (by decide)) ?_
  exact oB1_59 X hx hby hml hret hlk hown hZ hw eT N Z0 hcs hss p1 (1 : Int32) hv
def oF1_42 (p1 : Int32) : Int32 := (if p1 < (65536 : Int32) then (oF1_58 p1) else (if (1114111 : Int32) < p1 then (oF1_58 p1) else (oF1_54 p1)))
set_option maxRecDepth 65536 in
set_option maxHeartbeats 4000000 in
theorem oB1_42 {p : Program} {l : Launch} {e : Env} {s : State} {m : MethodId} {args : Array Value} {below : List Frame} {meth : Method} {c : Code} {T : State} {locs : List Loc} {cells slots : Nat} {Z : State} {a0 : Array Value} {h0 : Heap} {n0 : Nat} (X : Stand p l e ({ frames := 0, cells := 0, slots := 0, locals := 0 } : Room) s m args below meth c T locs cells slots) (hx : p.tables.exec = Jvm.exec) (hby : c.code = prog_98_method_3_code) (hml : c.maxLocals = 1) (hret : meth.sig.returnType = some .boolean) (hlk : meth.locks = false) (hown : s.vm.findClass "org/provenote/core/xml/XmlCharacters" = some m.cls) (hZ : Z.Warmed39 s.vm) (hw : ∀ d ∈ tables_1, d.before a0 Z = true) (eT : T.heap = h0) (N : Fr n0 locs) (Z0 : n0 ≤ h0.size) (hcs : cells ≤ ({ frames := 0, cells := 0, slots := 0, locals := 0 } : Room).cells) (hss : slots ≤ ({ frames := 0, cells := 0, slots := 0, locals := 0 } : Room).slots) (p1 : Int32) {w : Int32} (hv : oF1_42 p1 = w) : oEnd p e s below T (mkF m 42 #[.val (.int p1)] []) n0 h0 cells slots (some (.int w)) := by
  show oEnd p e s below T (mkF m 42 #[.val (.int p1)] []) n0 h0 cells slots (some (.int w))
  refine oPre (fun _ => XS.iloadN X.here hx rfl (hb hby d1_42) rfl) ?_
  show oEnd p e s below T (mkF m 43 #[.val (.int p1)] [(.int p1)]) n0 h0 cells slots (some (.int w))
  refine oPre (fun _ => X.ldcInt hx hown (mvT hZ (hw _ (List.mem_of_getElem? (i := 18) rfl))) (g := (mkF m 43 #[.val (.int p1)] [(.int p1)])) rfl (hb hby d1_43) _) ?_
  show oEnd p e s below T (mkF m 45 #[.val (.int p1)] [(.int (65536 : Int32)), (.int p1)]) n0 h0 cells slots (some (.int w))
  by_cases h45 : p1 < (65536 : Int32)
  · have v45 : (oF1_58 p1) = w := (if_pos h45).symm.trans hv
    refine oPre (fun _ => XS.icmpYes X.here hx rfl (pc0 := 45) (pc' := 58) rfl (hb hby d1_45) rfl (((tlt h45).1)) (by decide) (by decide)) ?_
    exact oB1_58 X hx hby hml hret hlk hown hZ hw eT N Z0 hcs hss p1 v45
  · have v45 : (if (1114111 : Int32) < p1 then (oF1_58 p1) else (oF1_54 p1)) = w := (if_neg h45).symm.trans hv
    refine oPre (fun _ => XS.icmpNo X.here hx rfl (hb hby d1_45) rfl (((flt h45).1))) ?_
    show oEnd p e s below T (mkF m 48 #[.val (.int p1)] []) n0 h0 cells slots (some (.int w))
    refine oPre (fun _ => XS.iloadN X.here hx rfl (hb hby d1_48) rfl) ?_
    show oEnd p e s below T (mkF m 49 #[.val (.int p1)] [(.int p1)]) n0 h0 cells slots (some (.int w))
    refine oPre (fun _ => X.ldcInt hx hown (mvT hZ (hw _ (List.mem_of_getElem? (i := 25) rfl))) (g := (mkF m 49 #[.val (.int p1)] [(.int p1)])) rfl (hb hby d1_49) _) ?_
    show oEnd p e s below T (mkF m 51 #[.val (.int p1)] [(.int (1114111 : Int32)), (.int p1)]) n0 h0 cells slots (some (.int w))
    by_cases h51 : (1114111 : Int32) < p1
    · have v51 : (oF1_58 p1) = w := (if_pos h51).symm.trans v45
      refine oPre (fun _ => XS.icmpYes X.here hx rfl (pc0 := 51) (pc' := 58) rfl (hb hby d1_51) rfl (((tlt h51).2.2.1)) (by decide) (by decide)) ?_
      exact oB1_58 X hx hby hml hret hlk hown hZ hw eT N Z0 hcs hss p1 v51
    · have v51 : (oF1_54 p1) = w := (if_neg h51).symm.trans v45
      refine oPre (fun _ => XS.icmpNo X.here hx rfl (hb hby d1_51) rfl (((flt h51).2.2.1))) ?_
      exact oB1_54 X hx hby hml hret hlk hown hZ hw eT N Z0 hcs hss p1 v51
def oF1_30 (p1 : Int32) : Int32 := (if p1 < (57344 : Int32) then (oF1_42 p1) else (if (65533 : Int32) < p1 then (oF1_42 p1) else (oF1_54 p1)))
set_option maxRecDepth 65536 in
set_option maxHeartbeats 4000000 in
theorem oB1_30 {p : Program} {l : Launch} {e : Env} {s : State} {m : MethodId} {args : Array Value} {below : List Frame} {meth : Method} {c : Code} {T : State} {locs : List Loc} {cells slots : Nat} {Z : State} {a0 : Array Value} {h0 : Heap} {n0 : Nat} (X : Stand p l e ({ frames := 0, cells := 0, slots := 0, locals := 0 } : Room) s m args below meth c T locs cells slots) (hx : p.tables.exec = Jvm.exec) (hby : c.code = prog_98_method_3_code) (hml : c.maxLocals = 1) (hret : meth.sig.returnType = some .boolean) (hlk : meth.locks = false) (hown : s.vm.findClass "org/provenote/core/xml/XmlCharacters" = some m.cls) (hZ : Z.Warmed39 s.vm) (hw : ∀ d ∈ tables_1, d.before a0 Z = true) (eT : T.heap = h0) (N : Fr n0 locs) (Z0 : n0 ≤ h0.size) (hcs : cells ≤ ({ frames := 0, cells := 0, slots := 0, locals := 0 } : Room).cells) (hss : slots ≤ ({ frames := 0, cells := 0, slots := 0, locals := 0 } : Room).slots) (p1 : Int32) {w : Int32} (hv : oF1_30 p1 = w) : oEnd p e s below T (mkF m 30 #[.val (.int p1)] []) n0 h0 cells slots (some (.int w)) := by
  show oEnd p e s below T (mkF m 30 #[.val (.int p1)] []) n0 h0 cells slots (some (.int w))
  refine oPre (fun _ => XS.iloadN X.here hx rfl (hb hby d1_30) rfl) ?_
  show oEnd p e s below T (mkF m 31 #[.val (.int p1)] [(.int p1)]) n0 h0 cells slots (some (.int w))
  refine oPre (fun _ => X.ldcInt hx hown (mvT hZ (hw _ (List.mem_of_getElem? (i := 17) rfl))) (g := (mkF m 31 #[.val (.int p1)] [(.int p1)])) rfl (hb hby d1_31) _) ?_
  show oEnd p e s below T (mkF m 33 #[.val (.int p1)] [(.int (57344 : Int32)), (.int p1)]) n0 h0 cells slots (some (.int w))
  by_cases h33 : p1 < (57344 : Int32)
  · have v33 : (oF1_42 p1) = w := (if_pos h33).symm.trans hv
    refine oPre (fun _ => XS.icmpYes X.here hx rfl (pc0 := 33) (pc' := 42) rfl (hb hby d1_33) rfl (((tlt h33).1)) (by decide) (by decide)) ?_
    exact oB1_42 X hx hby hml hret hlk hown hZ hw eT N Z0 hcs hss p1 v33
  · have v33 : (if (65533 : Int32) < p1 then (oF1_42 p1) else (oF1_54 p1)) = w := (if_neg h33).symm.trans hv
    refine oPre (fun _ => XS.icmpNo X.here hx rfl (hb hby d1_33) rfl (((flt h33).1))) ?_
    show oEnd p e s below T (mkF m 36 #[.val (.int p1)] []) n0 h0 cells slots (some (.int w))
    refine oPre (fun _ => XS.iloadN X.here hx rfl (hb hby d1_36) rfl) ?_
    show oEnd p e s below T (mkF m 37 #[.val (.int p1)] [(.int p1)]) n0 h0 cells slots (some (.int w))
    refine oPre (fun _ => X.ldcInt hx hown (mvT hZ (hw _ (List.mem_of_getElem? (i := 24) rfl))) (g := (mkF m 37 #[.val (.int p1)] [(.int p1)])) rfl (hb hby d1_37) _) ?_
    show oEnd p e s below T (mkF m 39 #[.val (.int p1)] [(.int (65533 : Int32)), (.int p1)]) n0 h0 cells slots (some (.int w))
    by_cases h39 : (65533 : Int32) < p1
    · have v39 : (oF1_42 p1) = w := (if_pos h39).symm.trans v33
      refine oPre (fun _ => XS.icmpNo X.here hx rfl (hb hby d1_39) rfl (((tlt h39).2.2.2))) ?_
      exact oB1_42 X hx hby hml hret hlk hown hZ hw eT N Z0 hcs hss p1 v39
    · have v39 : (oF1_54 p1) = w := (if_neg h39).symm.trans v33
      refine oPre (fun _ => XS.icmpYes X.here hx rfl (pc0 := 39) (pc' := 54) rfl (hb hby d1_39) rfl (((flt h39).2.2.2)) (by decide) (by decide)) ?_
      exact oB1_54 X hx hby hml hret hlk hown hZ hw eT N Z0 hcs hss p1 v39
def oF1_0 (p1 : Int32) : Int32 := (if p1 = (9 : Int32) then (oF1_54 p1) else (if p1 = (10 : Int32) then (oF1_54 p1) else (if p1 = (13 : Int32) then (oF1_54 p1) else (if p1 < (32 : Int32) then (oF1_30 p1) else (if (55295 : Int32) < p1 then (oF1_30 p1) else (oF1_54 p1))))))
set_option maxRecDepth 65536 in
set_option maxHeartbeats 4000000 in
theorem oB1_0 {p : Program} {l : Launch} {e : Env} {s : State} {m : MethodId} {args : Array Value} {below : List Frame} {meth : Method} {c : Code} {T : State} {locs : List Loc} {cells slots : Nat} {Z : State} {a0 : Array Value} {h0 : Heap} {n0 : Nat} (X : Stand p l e ({ frames := 0, cells := 0, slots := 0, locals := 0 } : Room) s m args below meth c T locs cells slots) (hx : p.tables.exec = Jvm.exec) (hby : c.code = prog_98_method_3_code) (hml : c.maxLocals = 1) (hret : meth.sig.returnType = some .boolean) (hlk : meth.locks = false) (hown : s.vm.findClass "org/provenote/core/xml/XmlCharacters" = some m.cls) (hZ : Z.Warmed39 s.vm) (hw : ∀ d ∈ tables_1, d.before a0 Z = true) (eT : T.heap = h0) (N : Fr n0 locs) (Z0 : n0 ≤ h0.size) (hcs : cells ≤ ({ frames := 0, cells := 0, slots := 0, locals := 0 } : Room).cells) (hss : slots ≤ ({ frames := 0, cells := 0, slots := 0, locals := 0 } : Room).slots) (p1 : Int32) {w : Int32} (hv : oF1_0 p1 = w) : oEnd p e s below T (mkF m 0 #[.val (.int p1)] []) n0 h0 cells slots (some (.int w)) := by
  show oEnd p e s below T (mkF m 0 #[.val (.int p1)] []) n0 h0 cells slots (some (.int w))
  refine oPre (fun _ => XS.iloadN X.here hx rfl (hb hby d1_0) rfl) ?_
  show oEnd p e s below T (mkF m 1 #[.val (.int p1)] [(.int p1)]) n0 h0 cells slots (some (.int w))
  refine oPre (fun _ => XS.bipush X.here hx rfl (hb hby d1_1)) ?_
  show oEnd p e s below T (mkF m 3 #[.val (.int p1)] [(.int (9 : Int32)), (.int p1)]) n0 h0 cells slots (some (.int w))
  by_cases h3 : p1 = (9 : Int32)
  · have v3 : (oF1_54 p1) = w := (if_pos h3).symm.trans hv
    refine oPre (fun _ => XS.icmpYes X.here hx rfl (pc0 := 3) (pc' := 54) rfl (hb hby d1_3) rfl (((teq h3).1)) (by decide) (by decide)) ?_
    exact oB1_54 X hx hby hml hret hlk hown hZ hw eT N Z0 hcs hss p1 v3
  · have v3 : (if p1 = (10 : Int32) then (oF1_54 p1) else (if p1 = (13 : Int32) then (oF1_54 p1) else (if p1 < (32 : Int32) then (oF1_30 p1) else (if (55295 : Int32) < p1 then (oF1_30 p1) else (oF1_54 p1))))) = w := (if_neg h3).symm.trans hv
    refine oPre (fun _ => XS.icmpNo X.here hx rfl (hb hby d1_3) rfl (((feq h3).1))) ?_
    show oEnd p e s below T (mkF m 6 #[.val (.int p1)] []) n0 h0 cells slots (some (.int w))
    refine oPre (fun _ => XS.iloadN X.here hx rfl (hb hby d1_6) rfl) ?_
    show oEnd p e s below T (mkF m 7 #[.val (.int p1)] [(.int p1)]) n0 h0 cells slots (some (.int w))
    refine oPre (fun _ => XS.bipush X.here hx rfl (hb hby d1_7)) ?_
    show oEnd p e s below T (mkF m 9 #[.val (.int p1)] [(.int (10 : Int32)), (.int p1)]) n0 h0 cells slots (some (.int w))
    by_cases h9 : p1 = (10 : Int32)
    · have v9 : (oF1_54 p1) = w := (if_pos h9).symm.trans v3
      refine oPre (fun _ => XS.icmpYes X.here hx rfl (pc0 := 9) (pc' := 54) rfl (hb hby d1_9) rfl (((teq h9).1)) (by decide) (by decide)) ?_
      exact oB1_54 X hx hby hml hret hlk hown hZ hw eT N Z0 hcs hss p1 v9
    · have v9 : (if p1 = (13 : Int32) then (oF1_54 p1) else (if p1 < (32 : Int32) then (oF1_30 p1) else (if (55295 : Int32) < p1 then (oF1_30 p1) else (oF1_54 p1)))) = w := (if_neg h9).symm.trans v3
      refine oPre (fun _ => XS.icmpNo X.here hx rfl (hb hby d1_9) rfl (((feq h9).1))) ?_
      show oEnd p e s below T (mkF m 12 #[.val (.int p1)] []) n0 h0 cells slots (some (.int w))
      refine oPre (fun _ => XS.iloadN X.here hx rfl (hb hby d1_12) rfl) ?_
      show oEnd p e s below T (mkF m 13 #[.val (.int p1)] [(.int p1)]) n0 h0 cells slots (some (.int w))
      refine oPre (fun _ => XS.bipush X.here hx rfl (hb hby d1_13)) ?_
      show oEnd p e s below T (mkF m 15 #[.val (.int p1)] [(.int (13 : Int32)), (.int p1)]) n0 h0 cells slots (some (.int w))
      by_cases h15 : p1 = (13 : Int32)
      · have v15 : (oF1_54 p1) = w := (if_pos h15).symm.trans v9
        refine oPre (fun _ => XS.icmpYes X.here hx rfl (pc0 := 15) (pc' := 54) rfl (hb hby d1_15) rfl (((teq h15).1)) (by decide) (by decide)) ?_
        exact oB1_54 X hx hby hml hret hlk hown hZ hw eT N Z0 hcs hss p1 v15
      · have v15 : (if p1 < (32 : Int32) then (oF1_30 p1) else (if (55295 : Int32) < p1 then (oF1_30 p1) else (oF1_54 p1))) = w := (if_neg h15).symm.trans v9
        refine oPre (fun _ => XS.icmpNo X.here hx rfl (hb hby d1_15) rfl (((feq h15).1))) ?_
        show oEnd p e s below T (mkF m 18 #[.val (.int p1)] []) n0 h0 cells slots (some (.int w))
        refine oPre (fun _ => XS.iloadN X.here hx rfl (hb hby d1_18) rfl) ?_
        show oEnd p e s below T (mkF m 19 #[.val (.int p1)] [(.int p1)]) n0 h0 cells slots (some (.int w))
        refine oPre (fun _ => XS.bipush X.here hx rfl (hb hby d1_19)) ?_
        show oEnd p e s below T (mkF m 21 #[.val (.int p1)] [(.int (32 : Int32)), (.int p1)]) n0 h0 cells slots (some (.int w))
        by_cases h21 : p1 < (32 : Int32)
        · have v21 : (oF1_30 p1) = w := (if_pos h21).symm.trans v15
          refine oPre (fun _ => XS.icmpYes X.here hx rfl (pc0 := 21) (pc' := 30) rfl (hb hby d1_21) rfl (((tlt h21).1)) (by decide) (by decide)) ?_
          exact oB1_30 X hx hby hml hret hlk hown hZ hw eT N Z0 hcs hss p1 v21
        · have v21 : (if (55295 : Int32) < p1 then (oF1_30 p1) else (oF1_54 p1)) = w := (if_neg h21).symm.trans v15
          refine oPre (fun _ => XS.icmpNo X.here hx rfl (hb hby d1_21) rfl (((flt h21).1))) ?_
          show oEnd p e s below T (mkF m 24 #[.val (.int p1)] []) n0 h0 cells slots (some (.int w))
          refine oPre (fun _ => XS.iloadN X.here hx rfl (hb hby d1_24) rfl) ?_
          show oEnd p e s below T (mkF m 25 #[.val (.int p1)] [(.int p1)]) n0 h0 cells slots (some (.int w))
          refine oPre (fun _ => X.ldcInt hx hown (mvT hZ (hw _ (List.mem_of_getElem? (i := 23) rfl))) (g := (mkF m 25 #[.val (.int p1)] [(.int p1)])) rfl (hb hby d1_25) _) ?_
          show oEnd p e s below T (mkF m 27 #[.val (.int p1)] [(.int (55295 : Int32)), (.int p1)]) n0 h0 cells slots (some (.int w))
          by_cases h27 : (55295 : Int32) < p1
          · have v27 : (oF1_30 p1) = w := (if_pos h27).symm.trans v21
            refine oPre (fun _ => XS.icmpNo X.here hx rfl (hb hby d1_27) rfl (((tlt h27).2.2.2))) ?_
            exact oB1_30 X hx hby hml hret hlk hown hZ hw eT N Z0 hcs hss p1 v27
          · have v27 : (oF1_54 p1) = w := (if_neg h27).symm.trans v21
            refine oPre (fun _ => XS.icmpYes X.here hx rfl (pc0 := 27) (pc' := 54) rfl (hb hby d1_27) rfl (((flt h27).2.2.2)) (by decide) (by decide)) ?_
            exact oB1_54 X hx hby hml hret hlk hown hZ hw eT N Z0 hcs hss p1 v27
theorem pn_1 : plainName "org/provenote/core/xml/XmlCharacters" = true := by first | (simp [plainName, overriddenIn]; done) | decide +kernel
theorem ef_1 (m : MethodId) (p1 : Int32) : entryFrame m #[(.int p1)] 1 = mkF m 0 #[.val (.int p1)] [] := by first | (simp [entryFrame, mkF, argsToLocals, Value.category]; done) | rfl
def oQ1 (p1 : Int32) (h0 : Heap) (n0 : Nat) (v : Option Value) (h : Heap) (L : List Loc) : Prop := v = some (.int (oF1_0 p1)) ∧ Fr n0 L ∧ h = h0
set_option maxRecDepth 65536 in
set_option maxHeartbeats 4000000 in
theorem oR1 (l : Launch) (Z : State) (a0 : Array Value) (hw : ∀ d ∈ tables_1, d.before a0 Z = true) (ws : List Jvm.Cond) (p1 : Int32) (h0 : Heap) (n0 : Nat) (Z0 : n0 ≤ h0.size) :
    MetFree l (⟨"org/provenote/core/xml/XmlCharacters", "isCharacter", "(I)Z"⟩ : MethodName) (head1 (Jvm.Cond.code (⟨"org/provenote/core/xml/XmlCharacters", "isCharacter", "(I)Z"⟩ : MethodName) prog_98_method_3_code 1 (some .boolean) :: ws) ({ frames := 0, cells := 0, slots := 0, locals := 0 } : Room)) (fun a U => a = #[(.int p1)] ∧ Z.Warmed39 U.vm ∧ U.heap = h0) (fun _ _ _ _ _ => True) (fun _ U o U' => ∃ v L, o = .returned v ∧ oQ1 p1 h0 n0 v U'.heap L ∧ FrameEnd U o U' L ({ frames := 0, cells := 0, slots := 0, locals := 0 } : Room).cells ({ frames := 0, cells := 0, slots := 0, locals := 0 } : Room).slots) := by
  refine MetFree.of_bodySF (plainFor_of_name pn_1) hisR ?_
  intro p e s m args below meth c s₁ Bd hml0 hP hK
  obtain ⟨rfl, hZ, hh⟩ := hP
  have hown : s.vm.findClass "org/provenote/core/xml/XmlCharacters" = some m.cls := findClass_of_methodNamed Bd.named
  have X0 : Stand p l e ({ frames := 0, cells := 0, slots := 0, locals := 0 } : Room) s m #[(.int p1)] below meth c s₁ [] 0 0 := Stand.of_body Bd
  have e0 : s₁.heap = h0 := by rw [← hh, Bd.state]; rfl
  obtain ⟨t, L, hs, hrun, hended, hW, hsame, hN, ht⟩ := oB1_0 X0 Bd.exec Bd.bytes hml0 Bd.returns Bd.notSynchronized hown hZ hw e0 (Fr.nil n0) Z0 (Nat.zero_le _) (Nat.zero_le _) p1 rfl
  exact ⟨t, _, castTop (ef_1 m p1) hs, hrun, hended, _, L, rfl, ⟨rfl, hN, ht⟩, ⟨_, rfl⟩, hW, hsame.mono (Nat.zero_le _) (Nat.zero_le _)⟩
theorem d2_0 : decode method_2_code 0 = .ok (.iload_n 0, 1) := by decide +kernel
theorem d2_1 : decode method_2_code 1 = .ok (.ifCond .lt 9, 3) := by decide +kernel
theorem d2_4 : decode method_2_code 4 = .ok (.iload_n 0, 1) := by decide +kernel
theorem d2_5 : decode method_2_code 5 = .ok (.ldc 7, 2) := by decide +kernel
theorem d2_7 : decode method_2_code 7 = .ok (.if_icmp .le 5, 3) := by decide +kernel
theorem d2_10 : decode method_2_code 10 = .ok (.iconst 0, 1) := by decide +kernel
theorem d2_11 : decode method_2_code 11 = .ok (.ireturn, 1) := by decide +kernel
theorem d2_12 : decode method_2_code 12 = .ok (.iload_n 0, 1) := by decide +kernel
theorem d2_13 : decode method_2_code 13 = .ok (.bipush 32, 2) := by decide +kernel
theorem d2_15 : decode method_2_code 15 = .ok (.if_icmp .ge 27, 3) := by decide +kernel
theorem d2_18 : decode method_2_code 18 = .ok (.iload_n 0, 1) := by decide +kernel
theorem d2_19 : decode method_2_code 19 = .ok (.bipush 9, 2) := by decide +kernel
theorem d2_21 : decode method_2_code 21 = .ok (.if_icmp .eq 15, 3) := by decide +kernel
theorem d2_24 : decode method_2_code 24 = .ok (.iload_n 0, 1) := by decide +kernel
theorem d2_25 : decode method_2_code 25 = .ok (.bipush 10, 2) := by decide +kernel
theorem d2_27 : decode method_2_code 27 = .ok (.if_icmp .eq 9, 3) := by decide +kernel
theorem d2_30 : decode method_2_code 30 = .ok (.iload_n 0, 1) := by decide +kernel
theorem d2_31 : decode method_2_code 31 = .ok (.bipush 13, 2) := by decide +kernel
theorem d2_33 : decode method_2_code 33 = .ok (.if_icmp .ne 7, 3) := by decide +kernel
theorem d2_36 : decode method_2_code 36 = .ok (.iconst 1, 1) := by decide +kernel
theorem d2_37 : decode method_2_code 37 = .ok (.goto 4, 3) := by decide +kernel
theorem d2_40 : decode method_2_code 40 = .ok (.iconst 0, 1) := by decide +kernel
theorem d2_41 : decode method_2_code 41 = .ok (.ireturn, 1) := by decide +kernel
theorem d2_42 : decode method_2_code 42 = .ok (.iload_n 0, 1) := by decide +kernel
theorem d2_43 : decode method_2_code 43 = .ok (.ldc 8, 2) := by decide +kernel
theorem d2_45 : decode method_2_code 45 = .ok (.if_icmp .lt 11, 3) := by decide +kernel
theorem d2_48 : decode method_2_code 48 = .ok (.iload_n 0, 1) := by decide +kernel
theorem d2_49 : decode method_2_code 49 = .ok (.ldc 9, 2) := by decide +kernel
theorem d2_51 : decode method_2_code 51 = .ok (.if_icmp .ge 5, 3) := by decide +kernel
theorem d2_54 : decode method_2_code 54 = .ok (.iconst 0, 1) := by decide +kernel
theorem d2_55 : decode method_2_code 55 = .ok (.ireturn, 1) := by decide +kernel
theorem d2_56 : decode method_2_code 56 = .ok (.iload_n 0, 1) := by decide +kernel
theorem d2_57 : decode method_2_code 57 = .ok (.ldc 10, 2) := by decide +kernel
theorem d2_59 : decode method_2_code 59 = .ok (.if_icmp .eq 9, 3) := by decide +kernel
theorem d2_62 : decode method_2_code 62 = .ok (.iload_n 0, 1) := by decide +kernel
theorem d2_63 : decode method_2_code 63 = .ok (.ldc 11, 2) := by decide +kernel
theorem d2_65 : decode method_2_code 65 = .ok (.if_icmp .ne 5, 3) := by decide +kernel
theorem d2_68 : decode method_2_code 68 = .ok (.iconst 0, 1) := by decide +kernel
theorem d2_69 : decode method_2_code 69 = .ok (.ireturn, 1) := by decide +kernel
theorem d2_70 : decode method_2_code 70 = .ok (.iconst 1, 1) := by decide +kernel
theorem d2_71 : decode method_2_code 71 = .ok (.ireturn, 1) := by decide +kernel
def oF2_68 (p1 : Int32) : Int32 := (0 : Int32)
set_option maxRecDepth 65536 in
set_option maxHeartbeats 4000000 in
theorem oB2_68 {p : Program} {l : Launch} {e : Env} {s : State} {m : MethodId} {args : Array Value} {below : List Frame} {meth : Method} {c : Code} {T : State} {locs : List Loc} {cells slots : Nat} {Z : State} {a0 : Array Value} {h0 : Heap} {n0 : Nat} (X : Stand p l e ({ frames := 0, cells := 0, slots := 0, locals := 0 } : Room) s m args below meth c T locs cells slots) (hx : p.tables.exec = Jvm.exec) (hby : c.code = method_2_code) (hml : c.maxLocals = 1) (hret : meth.sig.returnType = some .boolean) (hlk : meth.locks = false) (hown : s.vm.findClass "org/provenote/core/xml/XmlCharactersIsCharacterPinLaw" = some m.cls) (hZ : Z.Warmed39 s.vm) (hw : ∀ d ∈ tables_1, d.before a0 Z = true) (eT : T.heap = h0) (N : Fr n0 locs) (Z0 : n0 ≤ h0.size) (hcs : cells ≤ ({ frames := 0, cells := 0, slots := 0, locals := 0 } : Room).cells) (hss : slots ≤ ({ frames := 0, cells := 0, slots := 0, locals := 0 } : Room).slots) (p1 : Int32) {w : Int32} (hv : oF2_68 p1 = w) : oEnd p e s below T (mkF m 68 #[.val (.int p1)] []) n0 h0 cells slots (some (.int w)) := by
  show oEnd p e s below T (mkF m 68 #[.val (.int p1)] []) n0 h0 cells slots (some (.int w))
  refine oPre (fun _ => XS.iconst X.here hx rfl (hb hby d2_68)) ?_
  show oEnd p e s below T (mkF m 69 #[.val (.int p1)] [(.int (0 : Int32))]) n0 h0 cells slots (some (.int w))
  subst hv
  obtain ⟨fs, hr, hrun, hended, hW, hsame⟩ := X.leave (v := some (.int (0 : Int32))) (fun h => by rw [hret] at h; cases h) hlk
  exact ⟨_, _, retN X hx (t := .boolean) hret (by simp) (hb hby d2_69) hr, hrun, hended, hW, hsame, N, eT⟩
def oF2_56 (p1 : Int32) : Int32 := (if p1 = (65534 : Int32) then (oF2_68 p1) else (if p1 = (65535 : Int32) then (oF2_68 p1) else (1 : Int32)))
set_option maxRecDepth 65536 in
set_option maxHeartbeats 4000000 in
theorem oB2_56 {p : Program} {l : Launch} {e : Env} {s : State} {m : MethodId} {args : Array Value} {below : List Frame} {meth : Method} {c : Code} {T : State} {locs : List Loc} {cells slots : Nat} {Z : State} {a0 : Array Value} {h0 : Heap} {n0 : Nat} (X : Stand p l e ({ frames := 0, cells := 0, slots := 0, locals := 0 } : Room) s m args below meth c T locs cells slots) (hx : p.tables.exec = Jvm.exec) (hby : c.code = method_2_code) (hml : c.maxLocals = 1) (hret : meth.sig.returnType = some .boolean) (hlk : meth.locks = false) (hown : s.vm.findClass "org/provenote/core/xml/XmlCharactersIsCharacterPinLaw" = some m.cls) (hZ : Z.Warmed39 s.vm) (hw : ∀ d ∈ tables_1, d.before a0 Z = true) (eT : T.heap = h0) (N : Fr n0 locs) (Z0 : n0 ≤ h0.size) (hcs : cells ≤ ({ frames := 0, cells := 0, slots := 0, locals := 0 } : Room).cells) (hss : slots ≤ ({ frames := 0, cells := 0, slots := 0, locals := 0 } : Room).slots) (p1 : Int32) {w : Int32} (hv : oF2_56 p1 = w) : oEnd p e s below T (mkF m 56 #[.val (.int p1)] []) n0 h0 cells slots (some (.int w)) := by
  show oEnd p e s below T (mkF m 56 #[.val (.int p1)] []) n0 h0 cells slots (some (.int w))
  refine oPre (fun _ => XS.iloadN X.here hx rfl (hb hby d2_56) rfl) ?_
  show oEnd p e s below T (mkF m 57 #[.val (.int p1)] [(.int p1)]) n0 h0 cells slots (some (.int w))
  refine oPre (fun _ => X.ldcInt hx hown (mvT hZ (hw _ (List.mem_of_getElem? (i := 6) rfl))) (g := (mkF m 57 #[.val (.int p1)] [(.int p1)])) rfl (hb hby d2_57) _) ?_
  show oEnd p e s below T (mkF m 59 #[.val (.int p1)] [(.int (65534 : Int32)), (.int p1)]) n0 h0 cells slots (some (.int w))
  by_cases h59 : p1 = (65534 : Int32)
  · have v59 : (oF2_68 p1) = w := (if_pos h59).symm.trans hv
    refine oPre (fun _ => XS.icmpYes X.here hx rfl (pc0 := 59) (pc' := 68) rfl (hb hby d2_59) rfl (((teq h59).1)) (by decide) (by decide)) ?_
    exact oB2_68 X hx hby hml hret hlk hown hZ hw eT N Z0 hcs hss p1 v59
  · have v59 : (if p1 = (65535 : Int32) then (oF2_68 p1) else (1 : Int32)) = w := (if_neg h59).symm.trans hv
    refine oPre (fun _ => XS.icmpNo X.here hx rfl (hb hby d2_59) rfl (((feq h59).1))) ?_
    show oEnd p e s below T (mkF m 62 #[.val (.int p1)] []) n0 h0 cells slots (some (.int w))
    refine oPre (fun _ => XS.iloadN X.here hx rfl (hb hby d2_62) rfl) ?_
    show oEnd p e s below T (mkF m 63 #[.val (.int p1)] [(.int p1)]) n0 h0 cells slots (some (.int w))
    refine oPre (fun _ => X.ldcInt hx hown (mvT hZ (hw _ (List.mem_of_getElem? (i := 7) rfl))) (g := (mkF m 63 #[.val (.int p1)] [(.int p1)])) rfl (hb hby d2_63) _) ?_
    show oEnd p e s below T (mkF m 65 #[.val (.int p1)] [(.int (65535 : Int32)), (.int p1)]) n0 h0 cells slots (some (.int w))
    by_cases h65 : p1 = (65535 : Int32)
    · have v65 : (oF2_68 p1) = w := (if_pos h65).symm.trans v59
      refine oPre (fun _ => XS.icmpNo X.here hx rfl (hb hby d2_65) rfl (((teq h65).2))) ?_
      exact oB2_68 X hx hby hml hret hlk hown hZ hw eT N Z0 hcs hss p1 v65
    · have v65 : (1 : Int32) = w := (if_neg h65).symm.trans v59
      refine oPre (fun _ => XS.icmpYes X.here hx rfl (pc0 := 65) (pc' := 70) rfl (hb hby d2_65) rfl (((feq h65).2)) (by decide) (by decide)) ?_
      show oEnd p e s below T (mkF m 70 #[.val (.int p1)] []) n0 h0 cells slots (some (.int w))
      refine oPre (fun _ => XS.iconst X.here hx rfl (hb hby d2_70)) ?_
      show oEnd p e s below T (mkF m 71 #[.val (.int p1)] [(.int (1 : Int32))]) n0 h0 cells slots (some (.int w))
      subst v65
      obtain ⟨fs, hr, hrun, hended, hW, hsame⟩ := X.leave (v := some (.int (1 : Int32))) (fun h => by rw [hret] at h; cases h) hlk
      exact ⟨_, _, retN X hx (t := .boolean) hret (by simp) (hb hby d2_71) hr, hrun, hended, hW, hsame, N, eT⟩
def oF2_41 (p1 : Int32) (q1 : Int32) : Int32 := (q1 &&& 1)
set_option maxRecDepth 65536 in
set_option maxHeartbeats 4000000 in
theorem oB2_41 {p : Program} {l : Launch} {e : Env} {s : State} {m : MethodId} {args : Array Value} {below : List Frame} {meth : Method} {c : Code} {T : State} {locs : List Loc} {cells slots : Nat} {Z : State} {a0 : Array Value} {h0 : Heap} {n0 : Nat} (X : Stand p l e ({ frames := 0, cells := 0, slots := 0, locals := 0 } : Room) s m args below meth c T locs cells slots) (hx : p.tables.exec = Jvm.exec) (hby : c.code = method_2_code) (hml : c.maxLocals = 1) (hret : meth.sig.returnType = some .boolean) (hlk : meth.locks = false) (hown : s.vm.findClass "org/provenote/core/xml/XmlCharactersIsCharacterPinLaw" = some m.cls) (hZ : Z.Warmed39 s.vm) (hw : ∀ d ∈ tables_1, d.before a0 Z = true) (eT : T.heap = h0) (N : Fr n0 locs) (Z0 : n0 ≤ h0.size) (hcs : cells ≤ ({ frames := 0, cells := 0, slots := 0, locals := 0 } : Room).cells) (hss : slots ≤ ({ frames := 0, cells := 0, slots := 0, locals := 0 } : Room).slots) (p1 : Int32) (q1 : Int32) {w : Int32} (hv : oF2_41 p1 q1 = w) : oEnd p e s below T (mkF m 41 #[.val (.int p1)] [(.int q1)]) n0 h0 cells slots (some (.int w)) := by
  show oEnd p e s below T (mkF m 41 #[.val (.int p1)] [(.int q1)]) n0 h0 cells slots (some (.int w))
  subst hv
  obtain ⟨fs, hr, hrun, hended, hW, hsame⟩ := X.leave (v := some (.int (q1 &&& 1))) (fun h => by rw [hret] at h; cases h) hlk
  exact ⟨_, _, retN X hx (t := .boolean) hret (by simp) (hb hby d2_41) hr, hrun, hended, hW, hsame, N, eT⟩
def oF2_36 (p1 : Int32) : Int32 := (oF2_41 p1 (1 : Int32))
set_option maxRecDepth 65536 in
set_option maxHeartbeats 4000000 in
theorem oB2_36 {p : Program} {l : Launch} {e : Env} {s : State} {m : MethodId} {args : Array Value} {below : List Frame} {meth : Method} {c : Code} {T : State} {locs : List Loc} {cells slots : Nat} {Z : State} {a0 : Array Value} {h0 : Heap} {n0 : Nat} (X : Stand p l e ({ frames := 0, cells := 0, slots := 0, locals := 0 } : Room) s m args below meth c T locs cells slots) (hx : p.tables.exec = Jvm.exec) (hby : c.code = method_2_code) (hml : c.maxLocals = 1) (hret : meth.sig.returnType = some .boolean) (hlk : meth.locks = false) (hown : s.vm.findClass "org/provenote/core/xml/XmlCharactersIsCharacterPinLaw" = some m.cls) (hZ : Z.Warmed39 s.vm) (hw : ∀ d ∈ tables_1, d.before a0 Z = true) (eT : T.heap = h0) (N : Fr n0 locs) (Z0 : n0 ≤ h0.size) (hcs : cells ≤ ({ frames := 0, cells := 0, slots := 0, locals := 0 } : Room).cells) (hss : slots ≤ ({ frames := 0, cells := 0, slots := 0, locals := 0 } : Room).slots) (p1 : Int32) {w : Int32} (hv : oF2_36 p1 = w) : oEnd p e s below T (mkF m 36 #[.val (.int p1)] []) n0 h0 cells slots (some (.int w)) := by
  show oEnd p e s below T (mkF m 36 #[.val (.int p1)] []) n0 h0 cells slots (some (.int w))
  refine oPre (fun _ => XS.iconst X.here hx rfl (hb hby d2_36)) ?_
  show oEnd p e s below T (mkF m 37 #[.val (.int p1)] [(.int (1 : Int32))]) n0 h0 cells slots (some (.int w))
  refine oPre (fun _ => XS.goto X.here hx rfl (pc0 := 37) (pc' := 41) rfl (hb hby d2_37) (by decide) (by decide)) ?_
  exact oB2_41 X hx hby hml hret hlk hown hZ hw eT N Z0 hcs hss p1 (1 : Int32) hv
def oF2_10 (p1 : Int32) : Int32 := (0 : Int32)
set_option maxRecDepth 65536 in
set_option maxHeartbeats 4000000 in
theorem oB2_10 {p : Program} {l : Launch} {e : Env} {s : State} {m : MethodId} {args : Array Value} {below : List Frame} {meth : Method} {c : Code} {T : State} {locs : List Loc} {cells slots : Nat} {Z : State} {a0 : Array Value} {h0 : Heap} {n0 : Nat} (X : Stand p l e ({ frames := 0, cells := 0, slots := 0, locals := 0 } : Room) s m args below meth c T locs cells slots) (hx : p.tables.exec = Jvm.exec) (hby : c.code = method_2_code) (hml : c.maxLocals = 1) (hret : meth.sig.returnType = some .boolean) (hlk : meth.locks = false) (hown : s.vm.findClass "org/provenote/core/xml/XmlCharactersIsCharacterPinLaw" = some m.cls) (hZ : Z.Warmed39 s.vm) (hw : ∀ d ∈ tables_1, d.before a0 Z = true) (eT : T.heap = h0) (N : Fr n0 locs) (Z0 : n0 ≤ h0.size) (hcs : cells ≤ ({ frames := 0, cells := 0, slots := 0, locals := 0 } : Room).cells) (hss : slots ≤ ({ frames := 0, cells := 0, slots := 0, locals := 0 } : Room).slots) (p1 : Int32) {w : Int32} (hv : oF2_10 p1 = w) : oEnd p e s below T (mkF m 10 #[.val (.int p1)] []) n0 h0 cells slots (some (.int w)) := by
  show oEnd p e s below T (mkF m 10 #[.val (.int p1)] []) n0 h0 cells slots (some (.int w))
  refine oPre (fun _ => XS.iconst X.here hx rfl (hb hby d2_10)) ?_
  show oEnd p e s below T (mkF m 11 #[.val (.int p1)] [(.int (0 : Int32))]) n0 h0 cells slots (some (.int w))
  subst hv
  obtain ⟨fs, hr, hrun, hended, hW, hsame⟩ := X.leave (v := some (.int (0 : Int32))) (fun h => by rw [hret] at h; cases h) hlk
  exact ⟨_, _, retN X hx (t := .boolean) hret (by simp) (hb hby d2_11) hr, hrun, hended, hW, hsame, N, eT⟩
def oF2_0 (p1 : Int32) : Int32 := (if p1 < (0 : Int32) then (oF2_10 p1) else (if (1114111 : Int32) < p1 then (oF2_10 p1) else (if p1 < (32 : Int32) then (if p1 = (9 : Int32) then (oF2_36 p1) else (if p1 = (10 : Int32) then (oF2_36 p1) else (if p1 = (13 : Int32) then (oF2_36 p1) else (oF2_41 p1 (0 : Int32))))) else (if p1 < (55296 : Int32) then (oF2_56 p1) else (if p1 < (57344 : Int32) then (0 : Int32) else (oF2_56 p1))))))
set_option maxRecDepth 65536 in
set_option maxHeartbeats 4000000 in
theorem oB2_0 {p : Program} {l : Launch} {e : Env} {s : State} {m : MethodId} {args : Array Value} {below : List Frame} {meth : Method} {c : Code} {T : State} {locs : List Loc} {cells slots : Nat} {Z : State} {a0 : Array Value} {h0 : Heap} {n0 : Nat} (X : Stand p l e ({ frames := 0, cells := 0, slots := 0, locals := 0 } : Room) s m args below meth c T locs cells slots) (hx : p.tables.exec = Jvm.exec) (hby : c.code = method_2_code) (hml : c.maxLocals = 1) (hret : meth.sig.returnType = some .boolean) (hlk : meth.locks = false) (hown : s.vm.findClass "org/provenote/core/xml/XmlCharactersIsCharacterPinLaw" = some m.cls) (hZ : Z.Warmed39 s.vm) (hw : ∀ d ∈ tables_1, d.before a0 Z = true) (eT : T.heap = h0) (N : Fr n0 locs) (Z0 : n0 ≤ h0.size) (hcs : cells ≤ ({ frames := 0, cells := 0, slots := 0, locals := 0 } : Room).cells) (hss : slots ≤ ({ frames := 0, cells := 0, slots := 0, locals := 0 } : Room).slots) (p1 : Int32) {w : Int32} (hv : oF2_0 p1 = w) : oEnd p e s below T (mkF m 0 #[.val (.int p1)] []) n0 h0 cells slots (some (.int w)) := by
  show oEnd p e s below T (mkF m 0 #[.val (.int p1)] []) n0 h0 cells slots (some (.int w))
  refine oPre (fun _ => XS.iloadN X.here hx rfl (hb hby d2_0) rfl) ?_
  show oEnd p e s below T (mkF m 1 #[.val (.int p1)] [(.int p1)]) n0 h0 cells slots (some (.int w))
  by_cases h1 : p1 < (0 : Int32)
  · have v1 : (oF2_10 p1) = w := (if_pos h1).symm.trans hv
    refine oPre (fun _ => XS.ifYes X.here hx rfl (pc0 := 1) (pc' := 10) rfl (hb hby d2_1) rfl ((if0 _ _).trans ((tlt h1).1)) (by decide) (by decide)) ?_
    exact oB2_10 X hx hby hml hret hlk hown hZ hw eT N Z0 hcs hss p1 v1
  · have v1 : (if (1114111 : Int32) < p1 then (oF2_10 p1) else (if p1 < (32 : Int32) then (if p1 = (9 : Int32) then (oF2_36 p1) else (if p1 = (10 : Int32) then (oF2_36 p1) else (if p1 = (13 : Int32) then (oF2_36 p1) else (oF2_41 p1 (0 : Int32))))) else (if p1 < (55296 : Int32) then (oF2_56 p1) else (if p1 < (57344 : Int32) then (0 : Int32) else (oF2_56 p1))))) = w := (if_neg h1).symm.trans hv
    refine oPre (fun _ => XS.ifNo X.here hx rfl (hb hby d2_1) rfl ((if0 _ _).trans ((flt h1).1))) ?_
    show oEnd p e s below T (mkF m 4 #[.val (.int p1)] []) n0 h0 cells slots (some (.int w))
    refine oPre (fun _ => XS.iloadN X.here hx rfl (hb hby d2_4) rfl) ?_
    show oEnd p e s below T (mkF m 5 #[.val (.int p1)] [(.int p1)]) n0 h0 cells slots (some (.int w))
    refine oPre (fun _ => X.ldcInt hx hown (mvT hZ (hw _ (List.mem_of_getElem? (i := 9) rfl))) (g := (mkF m 5 #[.val (.int p1)] [(.int p1)])) rfl (hb hby d2_5) _) ?_
    show oEnd p e s below T (mkF m 7 #[.val (.int p1)] [(.int (1114111 : Int32)), (.int p1)]) n0 h0 cells slots (some (.int w))
    by_cases h7 : (1114111 : Int32) < p1
    · have v7 : (oF2_10 p1) = w := (if_pos h7).symm.trans v1
      refine oPre (fun _ => XS.icmpNo X.here hx rfl (hb hby d2_7) rfl (((tlt h7).2.2.2))) ?_
      exact oB2_10 X hx hby hml hret hlk hown hZ hw eT N Z0 hcs hss p1 v7
    · have v7 : (if p1 < (32 : Int32) then (if p1 = (9 : Int32) then (oF2_36 p1) else (if p1 = (10 : Int32) then (oF2_36 p1) else (if p1 = (13 : Int32) then (oF2_36 p1) else (oF2_41 p1 (0 : Int32))))) else (if p1 < (55296 : Int32) then (oF2_56 p1) else (if p1 < (57344 : Int32) then (0 : Int32) else (oF2_56 p1)))) = w := (if_neg h7).symm.trans v1
      refine oPre (fun _ => XS.icmpYes X.here hx rfl (pc0 := 7) (pc' := 12) rfl (hb hby d2_7) rfl (((flt h7).2.2.2)) (by decide) (by decide)) ?_
      show oEnd p e s below T (mkF m 12 #[.val (.int p1)] []) n0 h0 cells slots (some (.int w))
      refine oPre (fun _ => XS.iloadN X.here hx rfl (hb hby d2_12) rfl) ?_
      show oEnd p e s below T (mkF m 13 #[.val (.int p1)] [(.int p1)]) n0 h0 cells slots (some (.int w))
      refine oPre (fun _ => XS.bipush X.here hx rfl (hb hby d2_13)) ?_
      show oEnd p e s below T (mkF m 15 #[.val (.int p1)] [(.int (32 : Int32)), (.int p1)]) n0 h0 cells slots (some (.int w))
      by_cases h15 : p1 < (32 : Int32)
      · have v15 : (if p1 = (9 : Int32) then (oF2_36 p1) else (if p1 = (10 : Int32) then (oF2_36 p1) else (if p1 = (13 : Int32) then (oF2_36 p1) else (oF2_41 p1 (0 : Int32))))) = w := (if_pos h15).symm.trans v7
        refine oPre (fun _ => XS.icmpNo X.here hx rfl (hb hby d2_15) rfl (((tlt h15).2.1))) ?_
        show oEnd p e s below T (mkF m 18 #[.val (.int p1)] []) n0 h0 cells slots (some (.int w))
        refine oPre (fun _ => XS.iloadN X.here hx rfl (hb hby d2_18) rfl) ?_
        show oEnd p e s below T (mkF m 19 #[.val (.int p1)] [(.int p1)]) n0 h0 cells slots (some (.int w))
        refine oPre (fun _ => XS.bipush X.here hx rfl (hb hby d2_19)) ?_
        show oEnd p e s below T (mkF m 21 #[.val (.int p1)] [(.int (9 : Int32)), (.int p1)]) n0 h0 cells slots (some (.int w))
        by_cases h21 : p1 = (9 : Int32)
        · have v21 : (oF2_36 p1) = w := (if_pos h21).symm.trans v15
          refine oPre (fun _ => XS.icmpYes X.here hx rfl (pc0 := 21) (pc' := 36) rfl (hb hby d2_21) rfl (((teq h21).1)) (by decide) (by decide)) ?_
          exact oB2_36 X hx hby hml hret hlk hown hZ hw eT N Z0 hcs hss p1 v21
        · have v21 : (if p1 = (10 : Int32) then (oF2_36 p1) else (if p1 = (13 : Int32) then (oF2_36 p1) else (oF2_41 p1 (0 : Int32)))) = w := (if_neg h21).symm.trans v15
          refine oPre (fun _ => XS.icmpNo X.here hx rfl (hb hby d2_21) rfl (((feq h21).1))) ?_
          show oEnd p e s below T (mkF m 24 #[.val (.int p1)] []) n0 h0 cells slots (some (.int w))
          refine oPre (fun _ => XS.iloadN X.here hx rfl (hb hby d2_24) rfl) ?_
          show oEnd p e s below T (mkF m 25 #[.val (.int p1)] [(.int p1)]) n0 h0 cells slots (some (.int w))
          refine oPre (fun _ => XS.bipush X.here hx rfl (hb hby d2_25)) ?_
          show oEnd p e s below T (mkF m 27 #[.val (.int p1)] [(.int (10 : Int32)), (.int p1)]) n0 h0 cells slots (some (.int w))
          by_cases h27 : p1 = (10 : Int32)
          · have v27 : (oF2_36 p1) = w := (if_pos h27).symm.trans v21
            refine oPre (fun _ => XS.icmpYes X.here hx rfl (pc0 := 27) (pc' := 36) rfl (hb hby d2_27) rfl (((teq h27).1)) (by decide) (by decide)) ?_
            exact oB2_36 X hx hby hml hret hlk hown hZ hw eT N Z0 hcs hss p1 v27
          · have v27 : (if p1 = (13 : Int32) then (oF2_36 p1) else (oF2_41 p1 (0 : Int32))) = w := (if_neg h27).symm.trans v21
            refine oPre (fun _ => XS.icmpNo X.here hx rfl (hb hby d2_27) rfl (((feq h27).1))) ?_
            show oEnd p e s below T (mkF m 30 #[.val (.int p1)] []) n0 h0 cells slots (some (.int w))
            refine oPre (fun _ => XS.iloadN X.here hx rfl (hb hby d2_30) rfl) ?_
            show oEnd p e s below T (mkF m 31 #[.val (.int p1)] [(.int p1)]) n0 h0 cells slots (some (.int w))
            refine oPre (fun _ => XS.bipush X.here hx rfl (hb hby d2_31)) ?_
            show oEnd p e s below T (mkF m 33 #[.val (.int p1)] [(.int (13 : Int32)), (.int p1)]) n0 h0 cells slots (some (.int w))
            by_cases h33 : p1 = (13 : Int32)
            · have v33 : (oF2_36 p1) = w := (if_pos h33).symm.trans v27
              refine oPre (fun _ => XS.icmpNo X.here hx rfl (hb hby d2_33) rfl (((teq h33).2))) ?_
              exact oB2_36 X hx hby hml hret hlk hown hZ hw eT N Z0 hcs hss p1 v33
            · have v33 : (oF2_41 p1 (0 : Int32)) = w := (if_neg h33).symm.trans v27
              refine oPre (fun _ => XS.icmpYes X.here hx rfl (pc0 := 33) (pc' := 40) rfl (hb hby d2_33) rfl (((feq h33).2)) (by decide) (by decide)) ?_
              show oEnd p e s below T (mkF m 40 #[.val (.int p1)] []) n0 h0 cells slots (some (.int w))
              refine oPre (fun _ => XS.iconst X.here hx rfl (hb hby d2_40)) ?_
              exact oB2_41 X hx hby hml hret hlk hown hZ hw eT N Z0 hcs hss p1 (0 : Int32) v33
      · have v15 : (if p1 < (55296 : Int32) then (oF2_56 p1) else (if p1 < (57344 : Int32) then (0 : Int32) else (oF2_56 p1))) = w := (if_neg h15).symm.trans v7
        refine oPre (fun _ => XS.icmpYes X.here hx rfl (pc0 := 15) (pc' := 42) rfl (hb hby d2_15) rfl (((flt h15).2.1)) (by decide) (by decide)) ?_
        show oEnd p e s below T (mkF m 42 #[.val (.int p1)] []) n0 h0 cells slots (some (.int w))
        refine oPre (fun _ => XS.iloadN X.here hx rfl (hb hby d2_42) rfl) ?_
        show oEnd p e s below T (mkF m 43 #[.val (.int p1)] [(.int p1)]) n0 h0 cells slots (some (.int w))
        refine oPre (fun _ => X.ldcInt hx hown (mvT hZ (hw _ (List.mem_of_getElem? (i := 2) rfl))) (g := (mkF m 43 #[.val (.int p1)] [(.int p1)])) rfl (hb hby d2_43) _) ?_
        show oEnd p e s below T (mkF m 45 #[.val (.int p1)] [(.int (55296 : Int32)), (.int p1)]) n0 h0 cells slots (some (.int w))
        by_cases h45 : p1 < (55296 : Int32)
        · have v45 : (oF2_56 p1) = w := (if_pos h45).symm.trans v15
          refine oPre (fun _ => XS.icmpYes X.here hx rfl (pc0 := 45) (pc' := 56) rfl (hb hby d2_45) rfl (((tlt h45).1)) (by decide) (by decide)) ?_
          exact oB2_56 X hx hby hml hret hlk hown hZ hw eT N Z0 hcs hss p1 v45
        · have v45 : (if p1 < (57344 : Int32) then (0 : Int32) else (oF2_56 p1)) = w := (if_neg h45).symm.trans v15
          refine oPre (fun _ => XS.icmpNo X.here hx rfl (hb hby d2_45) rfl (((flt h45).1))) ?_
          show oEnd p e s below T (mkF m 48 #[.val (.int p1)] []) n0 h0 cells slots (some (.int w))
          refine oPre (fun _ => XS.iloadN X.here hx rfl (hb hby d2_48) rfl) ?_
          show oEnd p e s below T (mkF m 49 #[.val (.int p1)] [(.int p1)]) n0 h0 cells slots (some (.int w))
          refine oPre (fun _ => X.ldcInt hx hown (mvT hZ (hw _ (List.mem_of_getElem? (i := 4) rfl))) (g := (mkF m 49 #[.val (.int p1)] [(.int p1)])) rfl (hb hby d2_49) _) ?_
          show oEnd p e s below T (mkF m 51 #[.val (.int p1)] [(.int (57344 : Int32)), (.int p1)]) n0 h0 cells slots (some (.int w))
          by_cases h51 : p1 < (57344 : Int32)
          · have v51 : (0 : Int32) = w := (if_pos h51).symm.trans v45
            refine oPre (fun _ => XS.icmpNo X.here hx rfl (hb hby d2_51) rfl (((tlt h51).2.1))) ?_
            show oEnd p e s below T (mkF m 54 #[.val (.int p1)] []) n0 h0 cells slots (some (.int w))
            refine oPre (fun _ => XS.iconst X.here hx rfl (hb hby d2_54)) ?_
            show oEnd p e s below T (mkF m 55 #[.val (.int p1)] [(.int (0 : Int32))]) n0 h0 cells slots (some (.int w))
            subst v51
            obtain ⟨fs, hr, hrun, hended, hW, hsame⟩ := X.leave (v := some (.int (0 : Int32))) (fun h => by rw [hret] at h; cases h) hlk
            exact ⟨_, _, retN X hx (t := .boolean) hret (by simp) (hb hby d2_55) hr, hrun, hended, hW, hsame, N, eT⟩
          · have v51 : (oF2_56 p1) = w := (if_neg h51).symm.trans v45
            refine oPre (fun _ => XS.icmpYes X.here hx rfl (pc0 := 51) (pc' := 56) rfl (hb hby d2_51) rfl (((flt h51).2.1)) (by decide) (by decide)) ?_
            exact oB2_56 X hx hby hml hret hlk hown hZ hw eT N Z0 hcs hss p1 v51
theorem pn_2 : plainName "org/provenote/core/xml/XmlCharactersIsCharacterPinLaw" = true := by first | (simp [plainName, overriddenIn]; done) | decide +kernel
theorem ef_2 (m : MethodId) (p1 : Int32) : entryFrame m #[(.int p1)] 1 = mkF m 0 #[.val (.int p1)] [] := by first | (simp [entryFrame, mkF, argsToLocals, Value.category]; done) | rfl
def oQ2 (p1 : Int32) (h0 : Heap) (n0 : Nat) (v : Option Value) (h : Heap) (L : List Loc) : Prop := v = some (.int (oF2_0 p1)) ∧ Fr n0 L ∧ h = h0
set_option maxRecDepth 65536 in
set_option maxHeartbeats 4000000 in
theorem oR2 (l : Launch) (Z : State) (a0 : Array Value) (hw : ∀ d ∈ tables_1, d.before a0 Z = true) (ws : List Jvm.Cond) (p1 : Int32) (h0 : Heap) (n0 : Nat) (Z0 : n0 ≤ h0.size) :
    MetFree l (⟨"org/provenote/core/xml/XmlCharactersIsCharacterPinLaw", "ref", "(I)Z"⟩ : MethodName) (head1 (Jvm.Cond.code (⟨"org/provenote/core/xml/XmlCharactersIsCharacterPinLaw", "ref", "(I)Z"⟩ : MethodName) method_2_code 1 (some .boolean) :: ws) ({ frames := 0, cells := 0, slots := 0, locals := 0 } : Room)) (fun a U => a = #[(.int p1)] ∧ Z.Warmed39 U.vm ∧ U.heap = h0) (fun _ _ _ _ _ => True) (fun _ U o U' => ∃ v L, o = .returned v ∧ oQ2 p1 h0 n0 v U'.heap L ∧ FrameEnd U o U' L ({ frames := 0, cells := 0, slots := 0, locals := 0 } : Room).cells ({ frames := 0, cells := 0, slots := 0, locals := 0 } : Room).slots) := by
  refine MetFree.of_bodySF (plainFor_of_name pn_2) hisR ?_
  intro p e s m args below meth c s₁ Bd hml0 hP hK
  obtain ⟨rfl, hZ, hh⟩ := hP
  have hown : s.vm.findClass "org/provenote/core/xml/XmlCharactersIsCharacterPinLaw" = some m.cls := findClass_of_methodNamed Bd.named
  have X0 : Stand p l e ({ frames := 0, cells := 0, slots := 0, locals := 0 } : Room) s m #[(.int p1)] below meth c s₁ [] 0 0 := Stand.of_body Bd
  have e0 : s₁.heap = h0 := by rw [← hh, Bd.state]; rfl
  obtain ⟨t, L, hs, hrun, hended, hW, hsame, hN, ht⟩ := oB2_0 X0 Bd.exec Bd.bytes hml0 Bd.returns Bd.notSynchronized hown hZ hw e0 (Fr.nil n0) Z0 (Nat.zero_le _) (Nat.zero_le _) p1 rfl
  exact ⟨t, _, castTop (ef_2 m p1) hs, hrun, hended, _, L, rfl, ⟨rfl, hN, ht⟩, ⟨_, rfl⟩, hW, hsame.mono (Nat.zero_le _) (Nat.zero_le _)⟩
theorem pd_0 : parseMethodDescriptor "(I)Z" = some ⟨[.int], some .boolean⟩ := by decide +kernel
def oF0_164 (p1 : Int32) (p2 : Int32) (p3 : Int32) (p4 : Addr) (p5 : Int32) (p6 : Int32) (p7 : Int32) (q1 : Int32) : Int32 := (q1 &&& 1)
set_option maxRecDepth 65536 in
set_option maxHeartbeats 4000000 in
theorem oB0_164 {p : Program} {l : Launch} {e : Env} {s : State} {m : MethodId} {args : Array Value} {below : List Frame} {meth : Method} {c : Code} {T : State} {locs : List Loc} {cells slots : Nat} {Z : State} {a0 : Array Value} {h0 : Heap} {n0 : Nat} (X : Stand p l e room_1 s m args below meth c T locs cells slots) (hx : p.tables.exec = Jvm.exec) (hby : c.code = code) (hml : c.maxLocals = 7) (hret : meth.sig.returnType = some .boolean) (hlk : meth.locks = false) (hown : s.vm.findClass "org/provenote/core/xml/XmlCharactersIsCharacterPinLaw" = some m.cls) (hZ : Z.Warmed39 s.vm) (hw : ∀ d ∈ tables_1, d.before a0 Z = true) (eT : T.heap = h0) (N : Fr n0 locs) (Z0 : n0 ≤ h0.size) (hcs : cells ≤ room_1.cells) (hss : slots ≤ room_1.slots) (p1 : Int32) (p2 : Int32) (p3 : Int32) (p4 : Addr) (p5 : Int32) (p6 : Int32) (p7 : Int32) (q1 : Int32) {w : Int32} (hv : oF0_164 p1 p2 p3 p4 p5 p6 p7 q1 = w) : oEnd p e s below T (mkF m 164 #[.val (.int p1), .val (.int p2), .val (.int p3), .val (.ref p4), .val (.int p5), .val (.int p6), .val (.int p7)] [(.int q1)]) n0 h0 cells slots (some (.int w)) := by
  show oEnd p e s below T (mkF m 164 #[.val (.int p1), .val (.int p2), .val (.int p3), .val (.ref p4), .val (.int p5), .val (.int p6), .val (.int p7)] [(.int q1)]) n0 h0 cells slots (some (.int w))
  subst hv
  obtain ⟨fs, hr, hrun, hended, hW, hsame⟩ := X.leave (v := some (.int (q1 &&& 1))) (fun h => by rw [hret] at h; cases h) hlk
  exact ⟨_, _, retN X hx (t := .boolean) hret (by simp) (hb hby at_164) hr, hrun, hended, hW, hsame, N, eT⟩
def oF0_163 (p1 : Int32) (p2 : Int32) (p3 : Int32) (p4 : Addr) (p5 : Int32) (p6 : Int32) (p7 : Int32) : Int32 := (oF0_164 p1 p2 p3 p4 p5 p6 p7 (0 : Int32))
set_option maxRecDepth 65536 in
set_option maxHeartbeats 4000000 in
theorem oB0_163 {p : Program} {l : Launch} {e : Env} {s : State} {m : MethodId} {args : Array Value} {below : List Frame} {meth : Method} {c : Code} {T : State} {locs : List Loc} {cells slots : Nat} {Z : State} {a0 : Array Value} {h0 : Heap} {n0 : Nat} (X : Stand p l e room_1 s m args below meth c T locs cells slots) (hx : p.tables.exec = Jvm.exec) (hby : c.code = code) (hml : c.maxLocals = 7) (hret : meth.sig.returnType = some .boolean) (hlk : meth.locks = false) (hown : s.vm.findClass "org/provenote/core/xml/XmlCharactersIsCharacterPinLaw" = some m.cls) (hZ : Z.Warmed39 s.vm) (hw : ∀ d ∈ tables_1, d.before a0 Z = true) (eT : T.heap = h0) (N : Fr n0 locs) (Z0 : n0 ≤ h0.size) (hcs : cells ≤ room_1.cells) (hss : slots ≤ room_1.slots) (p1 : Int32) (p2 : Int32) (p3 : Int32) (p4 : Addr) (p5 : Int32) (p6 : Int32) (p7 : Int32) {w : Int32} (hv : oF0_163 p1 p2 p3 p4 p5 p6 p7 = w) : oEnd p e s below T (mkF m 163 #[.val (.int p1), .val (.int p2), .val (.int p3), .val (.ref p4), .val (.int p5), .val (.int p6), .val (.int p7)] []) n0 h0 cells slots (some (.int w)) := by
  show oEnd p e s below T (mkF m 163 #[.val (.int p1), .val (.int p2), .val (.int p3), .val (.ref p4), .val (.int p5), .val (.int p6), .val (.int p7)] []) n0 h0 cells slots (some (.int w))
  refine oPre (fun _ => XS.iconst X.here hx rfl (hb hby at_163)) ?_
  exact oB0_164 X hx hby hml hret hlk hown hZ hw eT N Z0 hcs hss p1 p2 p3 p4 p5 p6 p7 (0 : Int32) hv
def oF0_147 (p1 : Int32) (p2 : Int32) (p3 : Int32) (p4 : Addr) (p5 : Int32) (p6 : Int32) (q1 : Int32) : Int32 := (if p6 = (0 : Int32) then (oF0_163 p1 p2 p3 p4 p5 p6 q1) else (if q1 = (0 : Int32) then (oF0_163 p1 p2 p3 p4 p5 p6 q1) else (oF0_164 p1 p2 p3 p4 p5 p6 q1 (1 : Int32))))
set_option maxRecDepth 65536 in
set_option maxHeartbeats 4000000 in
theorem oB0_147 {p : Program} {l : Launch} {e : Env} {s : State} {m : MethodId} {args : Array Value} {below : List Frame} {meth : Method} {c : Code} {T : State} {locs : List Loc} {cells slots : Nat} {Z : State} {a0 : Array Value} {h0 : Heap} {n0 : Nat} (X : Stand p l e room_1 s m args below meth c T locs cells slots) (hx : p.tables.exec = Jvm.exec) (hby : c.code = code) (hml : c.maxLocals = 7) (hret : meth.sig.returnType = some .boolean) (hlk : meth.locks = false) (hown : s.vm.findClass "org/provenote/core/xml/XmlCharactersIsCharacterPinLaw" = some m.cls) (hZ : Z.Warmed39 s.vm) (hw : ∀ d ∈ tables_1, d.before a0 Z = true) (eT : T.heap = h0) (N : Fr n0 locs) (Z0 : n0 ≤ h0.size) (hcs : cells ≤ room_1.cells) (hss : slots ≤ room_1.slots) (p1 : Int32) (p2 : Int32) (p3 : Int32) (p4 : Addr) (p5 : Int32) (p6 : Int32) (q1 : Int32) {w : Int32} (hv : oF0_147 p1 p2 p3 p4 p5 p6 q1 = w) : oEnd p e s below T (mkF m 147 #[.val (.int p1), .val (.int p2), .val (.int p3), .val (.ref p4), .val (.int p5), .val (.int p6), .unset] [(.int q1)]) n0 h0 cells slots (some (.int w)) := by
  show oEnd p e s below T (mkF m 147 #[.val (.int p1), .val (.int p2), .val (.int p3), .val (.ref p4), .val (.int p5), .val (.int p6), .unset] [(.int q1)]) n0 h0 cells slots (some (.int w))
  refine oPre (fun _ => XS.istore X.here hx rfl (hb hby at_147) rfl (l' := #[.val (.int p1), .val (.int p2), .val (.int p3), .val (.ref p4), .val (.int p5), .val (.int p6), .val (.int q1)]) rfl) ?_
  show oEnd p e s below T (mkF m 149 #[.val (.int p1), .val (.int p2), .val (.int p3), .val (.ref p4), .val (.int p5), .val (.int p6), .val (.int q1)] []) n0 h0 cells slots (some (.int w))
  refine oPre (fun _ => XS.iload X.here hx rfl (hb hby at_149) rfl) ?_
  show oEnd p e s below T (mkF m 151 #[.val (.int p1), .val (.int p2), .val (.int p3), .val (.ref p4), .val (.int p5), .val (.int p6), .val (.int q1)] [(.int p6)]) n0 h0 cells slots (some (.int w))
  by_cases h151 : p6 = (0 : Int32)
  · have v151 : (oF0_163 p1 p2 p3 p4 p5 p6 q1) = w := (if_pos h151).symm.trans hv
    refine oPre (fun _ => XS.ifYes X.here hx rfl (pc0 := 151) (pc' := 163) rfl (hb hby at_151) rfl ((if0 _ _).trans ((teq h151).1)) (by decide) (by decide)) ?_
    exact oB0_163 X hx hby hml hret hlk hown hZ hw eT N Z0 hcs hss p1 p2 p3 p4 p5 p6 q1 v151
  · have v151 : (if q1 = (0 : Int32) then (oF0_163 p1 p2 p3 p4 p5 p6 q1) else (oF0_164 p1 p2 p3 p4 p5 p6 q1 (1 : Int32))) = w := (if_neg h151).symm.trans hv
    refine oPre (fun _ => XS.ifNo X.here hx rfl (hb hby at_151) rfl ((if0 _ _).trans ((feq h151).1))) ?_
    show oEnd p e s below T (mkF m 154 #[.val (.int p1), .val (.int p2), .val (.int p3), .val (.ref p4), .val (.int p5), .val (.int p6), .val (.int q1)] []) n0 h0 cells slots (some (.int w))
    refine oPre (fun _ => XS.iload X.here hx rfl (hb hby at_154) rfl) ?_
    show oEnd p e s below T (mkF m 156 #[.val (.int p1), .val (.int p2), .val (.int p3), .val (.ref p4), .val (.int p5), .val (.int p6), .val (.int q1)] [(.int q1)]) n0 h0 cells slots (some (.int w))
    by_cases h156 : q1 = (0 : Int32)
    · have v156 : (oF0_163 p1 p2 p3 p4 p5 p6 q1) = w := (if_pos h156).symm.trans v151
      refine oPre (fun _ => XS.ifYes X.here hx rfl (pc0 := 156) (pc' := 163) rfl (hb hby at_156) rfl ((if0 _ _).trans ((teq h156).1)) (by decide) (by decide)) ?_
      exact oB0_163 X hx hby hml hret hlk hown hZ hw eT N Z0 hcs hss p1 p2 p3 p4 p5 p6 q1 v156
    · have v156 : (oF0_164 p1 p2 p3 p4 p5 p6 q1 (1 : Int32)) = w := (if_neg h156).symm.trans v151
      refine oPre (fun _ => XS.ifNo X.here hx rfl (hb hby at_156) rfl ((if0 _ _).trans ((feq h156).1))) ?_
      show oEnd p e s below T (mkF m 159 #[.val (.int p1), .val (.int p2), .val (.int p3), .val (.ref p4), .val (.int p5), .val (.int p6), .val (.int q1)] []) n0 h0 cells slots (some (.int w))
      refine oPre (fun _ => XS.iconst X.here hx rfl (hb hby at_159)) ?_
      show oEnd p e s below T (mkF m 160 #[.val (.int p1), .val (.int p2), .val (.int p3), .val (.ref p4), .val (.int p5), .val (.int p6), .val (.int q1)] [(.int (1 : Int32))]) n0 h0 cells slots (some (.int w))
      refine oPre (fun _ => XS.goto X.here hx rfl (pc0 := 160) (pc' := 164) rfl (hb hby at_160) (by decide) (by decide)) ?_
      exact oB0_164 X hx hby hml hret hlk hown hZ hw eT N Z0 hcs hss p1 p2 p3 p4 p5 p6 q1 (1 : Int32) v156
def oF0_127 (p1 : Int32) (p2 : Int32) (p3 : Int32) (p4 : Addr) (p5 : Int32) (q1 : Int32) : Int32 := (if (oF1_0 p5) = (oF2_0 p5) then (oF0_147 p1 p2 p3 p4 p5 q1 (1 : Int32)) else (oF0_147 p1 p2 p3 p4 p5 q1 (0 : Int32)))
set_option maxRecDepth 65536 in
set_option maxHeartbeats 4000000 in
theorem oB0_127 {p : Program} {l : Launch} {e : Env} {s : State} {m : MethodId} {args : Array Value} {below : List Frame} {meth : Method} {c : Code} {T : State} {locs : List Loc} {cells slots : Nat} {Z : State} {a0 : Array Value} {h0 : Heap} {n0 : Nat} (X : Stand p l e room_1 s m args below meth c T locs cells slots) (hx : p.tables.exec = Jvm.exec) (hby : c.code = code) (hml : c.maxLocals = 7) (hret : meth.sig.returnType = some .boolean) (hlk : meth.locks = false) (hown : s.vm.findClass "org/provenote/core/xml/XmlCharactersIsCharacterPinLaw" = some m.cls) (hZ : Z.Warmed39 s.vm) (hw : ∀ d ∈ tables_1, d.before a0 Z = true) (eT : T.heap = h0) (N : Fr n0 locs) (Z0 : n0 ≤ h0.size) (hcs : cells ≤ room_1.cells) (hss : slots ≤ room_1.slots) (p1 : Int32) (p2 : Int32) (p3 : Int32) (p4 : Addr) (p5 : Int32) (q1 : Int32) {w : Int32} (hv : oF0_127 p1 p2 p3 p4 p5 q1 = w) : oEnd p e s below T (mkF m 127 #[.val (.int p1), .val (.int p2), .val (.int p3), .val (.ref p4), .val (.int p5), .unset, .unset] [(.int q1)]) n0 h0 cells slots (some (.int w)) := by
  show oEnd p e s below T (mkF m 127 #[.val (.int p1), .val (.int p2), .val (.int p3), .val (.ref p4), .val (.int p5), .unset, .unset] [(.int q1)]) n0 h0 cells slots (some (.int w))
  refine oPre (fun _ => XS.istore X.here hx rfl (hb hby at_127) rfl (l' := #[.val (.int p1), .val (.int p2), .val (.int p3), .val (.ref p4), .val (.int p5), .val (.int q1), .unset]) rfl) ?_
  show oEnd p e s below T (mkF m 129 #[.val (.int p1), .val (.int p2), .val (.int p3), .val (.ref p4), .val (.int p5), .val (.int q1), .unset] []) n0 h0 cells slots (some (.int w))
  refine oPre (fun _ => XS.iload X.here hx rfl (hb hby at_129) rfl) ?_
  show oEnd p e s below T (mkF m 131 #[.val (.int p1), .val (.int p2), .val (.int p3), .val (.ref p4), .val (.int p5), .val (.int q1), .unset] [(.int p5)]) n0 h0 cells slots (some (.int w))
  obtain ⟨_, _, ⟨T131, L131, k131, n131⟩, -, X131, ⟨Lc131, hQ131, l131, y131, z131⟩, st131⟩ := Jvm.LawKit.callS X hx (y := (⟨"org/provenote/core/xml/XmlCharacters", "isCharacter", "(I)Z"⟩ : MethodName)) hown (mvT hZ (hw _ (List.mem_of_getElem? (i := 13) rfl))) (mvT hZ (hw _ (List.mem_of_getElem? (i := 14) rfl))) (mvT hZ (hw _ (List.mem_of_getElem? (i := 15) rfl))) (mvT hZ (hw _ (List.mem_of_getElem? (i := 16) rfl))) (by decide) (backOf (W := 0) (oR1 l Z a0 hw [] p5 h0 n0 Z0) hZ (hw _ (List.mem_of_getElem? (i := 16) rfl)) (hw _ (List.mem_of_getElem? (i := 15) rfl)) (by decide) (by decide)) (g := (mkF m 131 #[.val (.int p1), .val (.int p2), .val (.int p3), .val (.ref p4), .val (.int p5), .val (.int q1), .unset] [(.int p5)])) rfl (by rw [hml]; rfl) (argsL := [(.int p5)]) (rest := []) (lenOf pd_0 rfl) rfl (by show 2 * 0 + _ ≤ _; exact Nat.le_of_eq rfl) (hb hby at_131) (fun _ _ => ⟨rfl, eT, hcs, hss⟩)
  dsimp only [Pt.U, Pt.locs, Pt.cells, Pt.slots] at X131 l131 y131 z131 st131 hQ131
  subst l131
  rw [y131, z131] at X131
  obtain ⟨rfl, N131q, e131⟩ := hQ131
  have N131 := Fr.app N N131q
  refine oPre st131 ?_
  show oEnd p e s below T131 (mkF m 134 #[.val (.int p1), .val (.int p2), .val (.int p3), .val (.ref p4), .val (.int p5), .val (.int q1), .unset] [(.int (oF1_0 p5))]) n0 h0 cells slots (some (.int w))
  refine oPre (fun _ => XS.iload X131.here hx rfl (hb hby at_134) rfl) ?_
  show oEnd p e s below T131 (mkF m 136 #[.val (.int p1), .val (.int p2), .val (.int p3), .val (.ref p4), .val (.int p5), .val (.int q1), .unset] [(.int p5), (.int (oF1_0 p5))]) n0 h0 cells slots (some (.int w))
  obtain ⟨_, _, ⟨T136, L136, k136, n136⟩, -, X136, ⟨Lc136, hQ136, l136, y136, z136⟩, st136⟩ := Jvm.LawKit.callS X131 hx (y := (⟨"org/provenote/core/xml/XmlCharactersIsCharacterPinLaw", "ref", "(I)Z"⟩ : MethodName)) hown (mvT hZ (hw _ (List.mem_of_getElem? (i := 19) rfl))) (mvT hZ (hw _ (List.mem_of_getElem? (i := 20) rfl))) (mvT hZ (hw _ (List.mem_of_getElem? (i := 21) rfl))) (mvT hZ (hw _ (List.mem_of_getElem? (i := 22) rfl))) (by decide) (backOf (W := 1) (oR2 l Z a0 hw [] p5 h0 n0 Z0) hZ (hw _ (List.mem_of_getElem? (i := 22) rfl)) (hw _ (List.mem_of_getElem? (i := 21) rfl)) (by decide) (by decide)) (g := (mkF m 136 #[.val (.int p1), .val (.int p2), .val (.int p3), .val (.ref p4), .val (.int p5), .val (.int q1), .unset] [(.int p5), (.int (oF1_0 p5))])) rfl (by rw [hml]; rfl) (argsL := [(.int p5)]) (rest := [(.int (oF1_0 p5))]) (lenOf pd_0 rfl) rfl (by show 2 * 0 + _ ≤ _; exact Nat.le_of_eq rfl) (hb hby at_136) (fun _ _ => ⟨rfl, e131, hcs, hss⟩)
  dsimp only [Pt.U, Pt.locs, Pt.cells, Pt.slots] at X136 l136 y136 z136 st136 hQ136
  subst l136
  rw [y136, z136] at X136
  obtain ⟨rfl, N136q, e136⟩ := hQ136
  have N136 := Fr.app N131 N136q
  refine oPre st136 ?_
  show oEnd p e s below T136 (mkF m 139 #[.val (.int p1), .val (.int p2), .val (.int p3), .val (.ref p4), .val (.int p5), .val (.int q1), .unset] [(.int (oF2_0 p5)), (.int (oF1_0 p5))]) n0 h0 cells slots (some (.int w))
  by_cases h139 : (oF1_0 p5) = (oF2_0 p5)
  · have v139 : (oF0_147 p1 p2 p3 p4 p5 q1 (1 : Int32)) = w := (if_pos h139).symm.trans hv
    refine oPre (fun _ => XS.icmpNo X136.here hx rfl (hb hby at_139) rfl (((teq h139).2))) ?_
    show oEnd p e s below T136 (mkF m 142 #[.val (.int p1), .val (.int p2), .val (.int p3), .val (.ref p4), .val (.int p5), .val (.int q1), .unset] []) n0 h0 cells slots (some (.int w))
    refine oPre (fun _ => XS.iconst X136.here hx rfl (hb hby at_142)) ?_
    show oEnd p e s below T136 (mkF m 143 #[.val (.int p1), .val (.int p2), .val (.int p3), .val (.ref p4), .val (.int p5), .val (.int q1), .unset] [(.int (1 : Int32))]) n0 h0 cells slots (some (.int w))
    refine oPre (fun _ => XS.goto X136.here hx rfl (pc0 := 143) (pc' := 147) rfl (hb hby at_143) (by decide) (by decide)) ?_
    exact oB0_147 X136 hx hby hml hret hlk hown hZ hw e136 N136 Z0 hcs hss p1 p2 p3 p4 p5 q1 (1 : Int32) v139
  · have v139 : (oF0_147 p1 p2 p3 p4 p5 q1 (0 : Int32)) = w := (if_neg h139).symm.trans hv
    refine oPre (fun _ => XS.icmpYes X136.here hx rfl (pc0 := 139) (pc' := 146) rfl (hb hby at_139) rfl (((feq h139).2)) (by decide) (by decide)) ?_
    show oEnd p e s below T136 (mkF m 146 #[.val (.int p1), .val (.int p2), .val (.int p3), .val (.ref p4), .val (.int p5), .val (.int q1), .unset] []) n0 h0 cells slots (some (.int w))
    refine oPre (fun _ => XS.iconst X136.here hx rfl (hb hby at_146)) ?_
    exact oB0_147 X136 hx hby hml hret hlk hown hZ hw e136 N136 Z0 hcs hss p1 p2 p3 p4 p5 q1 (0 : Int32) v139
def oF0_111 (p1 : Int32) (p2 : Int32) (p3 : Int32) (p4 : Addr) (p5 : Int32) : Int32 := (if (oF1_0 p1) = (oF2_0 p1) then (oF0_127 p1 p2 p3 p4 p5 (1 : Int32)) else (oF0_127 p1 p2 p3 p4 p5 (0 : Int32)))
set_option maxRecDepth 65536 in
set_option maxHeartbeats 4000000 in
theorem oB0_111 {p : Program} {l : Launch} {e : Env} {s : State} {m : MethodId} {args : Array Value} {below : List Frame} {meth : Method} {c : Code} {T : State} {locs : List Loc} {cells slots : Nat} {Z : State} {a0 : Array Value} {h0 : Heap} {n0 : Nat} (X : Stand p l e room_1 s m args below meth c T locs cells slots) (hx : p.tables.exec = Jvm.exec) (hby : c.code = code) (hml : c.maxLocals = 7) (hret : meth.sig.returnType = some .boolean) (hlk : meth.locks = false) (hown : s.vm.findClass "org/provenote/core/xml/XmlCharactersIsCharacterPinLaw" = some m.cls) (hZ : Z.Warmed39 s.vm) (hw : ∀ d ∈ tables_1, d.before a0 Z = true) (eT : T.heap = h0) (N : Fr n0 locs) (Z0 : n0 ≤ h0.size) (hcs : cells ≤ room_1.cells) (hss : slots ≤ room_1.slots) (p1 : Int32) (p2 : Int32) (p3 : Int32) (p4 : Addr) (p5 : Int32) {w : Int32} (hv : oF0_111 p1 p2 p3 p4 p5 = w) : oEnd p e s below T (mkF m 111 #[.val (.int p1), .val (.int p2), .val (.int p3), .val (.ref p4), .val (.int p5), .unset, .unset] []) n0 h0 cells slots (some (.int w)) := by
  show oEnd p e s below T (mkF m 111 #[.val (.int p1), .val (.int p2), .val (.int p3), .val (.ref p4), .val (.int p5), .unset, .unset] []) n0 h0 cells slots (some (.int w))
  refine oPre (fun _ => XS.iloadN X.here hx rfl (hb hby at_111) rfl) ?_
  show oEnd p e s below T (mkF m 112 #[.val (.int p1), .val (.int p2), .val (.int p3), .val (.ref p4), .val (.int p5), .unset, .unset] [(.int p1)]) n0 h0 cells slots (some (.int w))
  obtain ⟨_, _, ⟨T112, L112, k112, n112⟩, -, X112, ⟨Lc112, hQ112, l112, y112, z112⟩, st112⟩ := Jvm.LawKit.callS X hx (y := (⟨"org/provenote/core/xml/XmlCharacters", "isCharacter", "(I)Z"⟩ : MethodName)) hown (mvT hZ (hw _ (List.mem_of_getElem? (i := 13) rfl))) (mvT hZ (hw _ (List.mem_of_getElem? (i := 14) rfl))) (mvT hZ (hw _ (List.mem_of_getElem? (i := 15) rfl))) (mvT hZ (hw _ (List.mem_of_getElem? (i := 16) rfl))) (by decide) (backOf (W := 0) (oR1 l Z a0 hw [] p1 h0 n0 Z0) hZ (hw _ (List.mem_of_getElem? (i := 16) rfl)) (hw _ (List.mem_of_getElem? (i := 15) rfl)) (by decide) (by decide)) (g := (mkF m 112 #[.val (.int p1), .val (.int p2), .val (.int p3), .val (.ref p4), .val (.int p5), .unset, .unset] [(.int p1)])) rfl (by rw [hml]; rfl) (argsL := [(.int p1)]) (rest := []) (lenOf pd_0 rfl) rfl (by show 2 * 0 + _ ≤ _; exact Nat.le_of_eq rfl) (hb hby at_112) (fun _ _ => ⟨rfl, eT, hcs, hss⟩)
  dsimp only [Pt.U, Pt.locs, Pt.cells, Pt.slots] at X112 l112 y112 z112 st112 hQ112
  subst l112
  rw [y112, z112] at X112
  obtain ⟨rfl, N112q, e112⟩ := hQ112
  have N112 := Fr.app N N112q
  refine oPre st112 ?_
  show oEnd p e s below T112 (mkF m 115 #[.val (.int p1), .val (.int p2), .val (.int p3), .val (.ref p4), .val (.int p5), .unset, .unset] [(.int (oF1_0 p1))]) n0 h0 cells slots (some (.int w))
  refine oPre (fun _ => XS.iloadN X112.here hx rfl (hb hby at_115) rfl) ?_
  show oEnd p e s below T112 (mkF m 116 #[.val (.int p1), .val (.int p2), .val (.int p3), .val (.ref p4), .val (.int p5), .unset, .unset] [(.int p1), (.int (oF1_0 p1))]) n0 h0 cells slots (some (.int w))
  obtain ⟨_, _, ⟨T116, L116, k116, n116⟩, -, X116, ⟨Lc116, hQ116, l116, y116, z116⟩, st116⟩ := Jvm.LawKit.callS X112 hx (y := (⟨"org/provenote/core/xml/XmlCharactersIsCharacterPinLaw", "ref", "(I)Z"⟩ : MethodName)) hown (mvT hZ (hw _ (List.mem_of_getElem? (i := 19) rfl))) (mvT hZ (hw _ (List.mem_of_getElem? (i := 20) rfl))) (mvT hZ (hw _ (List.mem_of_getElem? (i := 21) rfl))) (mvT hZ (hw _ (List.mem_of_getElem? (i := 22) rfl))) (by decide) (backOf (W := 1) (oR2 l Z a0 hw [] p1 h0 n0 Z0) hZ (hw _ (List.mem_of_getElem? (i := 22) rfl)) (hw _ (List.mem_of_getElem? (i := 21) rfl)) (by decide) (by decide)) (g := (mkF m 116 #[.val (.int p1), .val (.int p2), .val (.int p3), .val (.ref p4), .val (.int p5), .unset, .unset] [(.int p1), (.int (oF1_0 p1))])) rfl (by rw [hml]; rfl) (argsL := [(.int p1)]) (rest := [(.int (oF1_0 p1))]) (lenOf pd_0 rfl) rfl (by show 2 * 0 + _ ≤ _; exact Nat.le_of_eq rfl) (hb hby at_116) (fun _ _ => ⟨rfl, e112, hcs, hss⟩)
  dsimp only [Pt.U, Pt.locs, Pt.cells, Pt.slots] at X116 l116 y116 z116 st116 hQ116
  subst l116
  rw [y116, z116] at X116
  obtain ⟨rfl, N116q, e116⟩ := hQ116
  have N116 := Fr.app N112 N116q
  refine oPre st116 ?_
  show oEnd p e s below T116 (mkF m 119 #[.val (.int p1), .val (.int p2), .val (.int p3), .val (.ref p4), .val (.int p5), .unset, .unset] [(.int (oF2_0 p1)), (.int (oF1_0 p1))]) n0 h0 cells slots (some (.int w))
  by_cases h119 : (oF1_0 p1) = (oF2_0 p1)
  · have v119 : (oF0_127 p1 p2 p3 p4 p5 (1 : Int32)) = w := (if_pos h119).symm.trans hv
    refine oPre (fun _ => XS.icmpNo X116.here hx rfl (hb hby at_119) rfl (((teq h119).2))) ?_
    show oEnd p e s below T116 (mkF m 122 #[.val (.int p1), .val (.int p2), .val (.int p3), .val (.ref p4), .val (.int p5), .unset, .unset] []) n0 h0 cells slots (some (.int w))
    refine oPre (fun _ => XS.iconst X116.here hx rfl (hb hby at_122)) ?_
    show oEnd p e s below T116 (mkF m 123 #[.val (.int p1), .val (.int p2), .val (.int p3), .val (.ref p4), .val (.int p5), .unset, .unset] [(.int (1 : Int32))]) n0 h0 cells slots (some (.int w))
    refine oPre (fun _ => XS.goto X116.here hx rfl (pc0 := 123) (pc' := 127) rfl (hb hby at_123) (by decide) (by decide)) ?_
    exact oB0_127 X116 hx hby hml hret hlk hown hZ hw e116 N116 Z0 hcs hss p1 p2 p3 p4 p5 (1 : Int32) v119
  · have v119 : (oF0_127 p1 p2 p3 p4 p5 (0 : Int32)) = w := (if_neg h119).symm.trans hv
    refine oPre (fun _ => XS.icmpYes X116.here hx rfl (pc0 := 119) (pc' := 126) rfl (hb hby at_119) rfl (((feq h119).2)) (by decide) (by decide)) ?_
    show oEnd p e s below T116 (mkF m 126 #[.val (.int p1), .val (.int p2), .val (.int p3), .val (.ref p4), .val (.int p5), .unset, .unset] []) n0 h0 cells slots (some (.int w))
    refine oPre (fun _ => XS.iconst X116.here hx rfl (hb hby at_126)) ?_
    exact oB0_127 X116 hx hby hml hret hlk hown hZ hw e116 N116 Z0 hcs hss p1 p2 p3 p4 p5 (0 : Int32) v119
theorem oLt {c k : Int32} {n : Int} (hk : k.toInt = n) (h : c.toInt < n) : c < k := by rw [Int32.lt_iff_toInt_lt, hk]; exact h
theorem oNlt {c k : Int32} {n : Int} (hk : k.toInt = n) (h : n ≤ c.toInt) : ¬ c < k := by rw [Int32.lt_iff_toInt_lt, hk]; omega
theorem oGt {c k : Int32} {n : Int} (hk : k.toInt = n) (h : n < c.toInt) : k < c := by rw [Int32.lt_iff_toInt_lt, hk]; exact h
theorem oNgt {c k : Int32} {n : Int} (hk : k.toInt = n) (h : c.toInt ≤ n) : ¬ k < c := by rw [Int32.lt_iff_toInt_lt, hk]; omega
theorem oEq {c k : Int32} {n : Int} (hk : k.toInt = n) (h : c.toInt = n) : c = k := Int32.toInt_inj.mp (h.trans hk.symm)
theorem oNe {c k : Int32} {n : Int} (hk : k.toInt = n) (h : c.toInt ≠ n) : ¬ c = k := fun q => h (by rw [q, hk])
theorem oI_0 (c : Int32) (h1 : -2147483648 ≤ c.toInt) (h2 : c.toInt ≤ -1) : oF1_0 c = oF2_0 c := by
  have e_oF1_0 : oF1_0 c = 0 := by
    rw [oF1_0, if_neg (oNe (c := c) (k := (9 : Int32)) (n := 9) (by decide) (by omega)), if_neg (oNe (c := c) (k := (10 : Int32)) (n := 10) (by decide) (by omega)), if_neg (oNe (c := c) (k := (13 : Int32)) (n := 13) (by decide) (by omega)), if_pos (oLt (c := c) (k := (32 : Int32)) (n := 32) (by decide) (by omega)), oF1_30, if_pos (oLt (c := c) (k := (57344 : Int32)) (n := 57344) (by decide) (by omega)), oF1_42, if_pos (oLt (c := c) (k := (65536 : Int32)) (n := 65536) (by decide) (by omega)), oF1_58, oF1_59]
    try decide
  have e_oF2_0 : oF2_0 c = 0 := by
    rw [oF2_0, if_pos (oLt (c := c) (k := (0 : Int32)) (n := 0) (by decide) (by omega)), oF2_10]
    try decide
  rw [e_oF1_0, e_oF2_0]
theorem oI_1 (c : Int32) (h1 : 0 ≤ c.toInt) (h2 : c.toInt ≤ 8) : oF1_0 c = oF2_0 c := by
  have e_oF1_0 : oF1_0 c = 0 := by
    rw [oF1_0, if_neg (oNe (c := c) (k := (9 : Int32)) (n := 9) (by decide) (by omega)), if_neg (oNe (c := c) (k := (10 : Int32)) (n := 10) (by decide) (by omega)), if_neg (oNe (c := c) (k := (13 : Int32)) (n := 13) (by decide) (by omega)), if_pos (oLt (c := c) (k := (32 : Int32)) (n := 32) (by decide) (by omega)), oF1_30, if_pos (oLt (c := c) (k := (57344 : Int32)) (n := 57344) (by decide) (by omega)), oF1_42, if_pos (oLt (c := c) (k := (65536 : Int32)) (n := 65536) (by decide) (by omega)), oF1_58, oF1_59]
    try decide
  have e_oF2_0 : oF2_0 c = 0 := by
    rw [oF2_0, if_neg (oNlt (c := c) (k := (0 : Int32)) (n := 0) (by decide) (by omega)), if_neg (oNgt (c := c) (k := (1114111 : Int32)) (n := 1114111) (by decide) (by omega)), if_pos (oLt (c := c) (k := (32 : Int32)) (n := 32) (by decide) (by omega)), if_neg (oNe (c := c) (k := (9 : Int32)) (n := 9) (by decide) (by omega)), if_neg (oNe (c := c) (k := (10 : Int32)) (n := 10) (by decide) (by omega)), if_neg (oNe (c := c) (k := (13 : Int32)) (n := 13) (by decide) (by omega)), oF2_41]
    try decide
  rw [e_oF1_0, e_oF2_0]
theorem oI_2 (c : Int32) (h1 : 9 ≤ c.toInt) (h2 : c.toInt ≤ 9) : oF1_0 c = oF2_0 c := by
  have e_oF1_0 : oF1_0 c = 1 := by
    rw [oF1_0, if_pos (oEq (c := c) (k := (9 : Int32)) (n := 9) (by decide) (by omega)), oF1_54, oF1_59]
    try decide
  have e_oF2_0 : oF2_0 c = 1 := by
    rw [oF2_0, if_neg (oNlt (c := c) (k := (0 : Int32)) (n := 0) (by decide) (by omega)), if_neg (oNgt (c := c) (k := (1114111 : Int32)) (n := 1114111) (by decide) (by omega)), if_pos (oLt (c := c) (k := (32 : Int32)) (n := 32) (by decide) (by omega)), if_pos (oEq (c := c) (k := (9 : Int32)) (n := 9) (by decide) (by omega)), oF2_36, oF2_41]
    try decide
  rw [e_oF1_0, e_oF2_0]
theorem oI_3 (c : Int32) (h1 : 10 ≤ c.toInt) (h2 : c.toInt ≤ 10) : oF1_0 c = oF2_0 c := by
  have e_oF1_0 : oF1_0 c = 1 := by
    rw [oF1_0, if_neg (oNe (c := c) (k := (9 : Int32)) (n := 9) (by decide) (by omega)), if_pos (oEq (c := c) (k := (10 : Int32)) (n := 10) (by decide) (by omega)), oF1_54, oF1_59]
    try decide
  have e_oF2_0 : oF2_0 c = 1 := by
    rw [oF2_0, if_neg (oNlt (c := c) (k := (0 : Int32)) (n := 0) (by decide) (by omega)), if_neg (oNgt (c := c) (k := (1114111 : Int32)) (n := 1114111) (by decide) (by omega)), if_pos (oLt (c := c) (k := (32 : Int32)) (n := 32) (by decide) (by omega)), if_neg (oNe (c := c) (k := (9 : Int32)) (n := 9) (by decide) (by omega)), if_pos (oEq (c := c) (k := (10 : Int32)) (n := 10) (by decide) (by omega)), oF2_36, oF2_41]
    try decide
  rw [e_oF1_0, e_oF2_0]
theorem oI_4 (c : Int32) (h1 : 11 ≤ c.toInt) (h2 : c.toInt ≤ 12) : oF1_0 c = oF2_0 c := by
  have e_oF1_0 : oF1_0 c = 0 := by
    rw [oF1_0, if_neg (oNe (c := c) (k := (9 : Int32)) (n := 9) (by decide) (by omega)), if_neg (oNe (c := c) (k := (10 : Int32)) (n := 10) (by decide) (by omega)), if_neg (oNe (c := c) (k := (13 : Int32)) (n := 13) (by decide) (by omega)), if_pos (oLt (c := c) (k := (32 : Int32)) (n := 32) (by decide) (by omega)), oF1_30, if_pos (oLt (c := c) (k := (57344 : Int32)) (n := 57344) (by decide) (by omega)), oF1_42, if_pos (oLt (c := c) (k := (65536 : Int32)) (n := 65536) (by decide) (by omega)), oF1_58, oF1_59]
    try decide
  have e_oF2_0 : oF2_0 c = 0 := by
    rw [oF2_0, if_neg (oNlt (c := c) (k := (0 : Int32)) (n := 0) (by decide) (by omega)), if_neg (oNgt (c := c) (k := (1114111 : Int32)) (n := 1114111) (by decide) (by omega)), if_pos (oLt (c := c) (k := (32 : Int32)) (n := 32) (by decide) (by omega)), if_neg (oNe (c := c) (k := (9 : Int32)) (n := 9) (by decide) (by omega)), if_neg (oNe (c := c) (k := (10 : Int32)) (n := 10) (by decide) (by omega)), if_neg (oNe (c := c) (k := (13 : Int32)) (n := 13) (by decide) (by omega)), oF2_41]
    try decide
  rw [e_oF1_0, e_oF2_0]
theorem oI_5 (c : Int32) (h1 : 13 ≤ c.toInt) (h2 : c.toInt ≤ 13) : oF1_0 c = oF2_0 c := by
  have e_oF1_0 : oF1_0 c = 1 := by
    rw [oF1_0, if_neg (oNe (c := c) (k := (9 : Int32)) (n := 9) (by decide) (by omega)), if_neg (oNe (c := c) (k := (10 : Int32)) (n := 10) (by decide) (by omega)), if_pos (oEq (c := c) (k := (13 : Int32)) (n := 13) (by decide) (by omega)), oF1_54, oF1_59]
    try decide
  have e_oF2_0 : oF2_0 c = 1 := by
    rw [oF2_0, if_neg (oNlt (c := c) (k := (0 : Int32)) (n := 0) (by decide) (by omega)), if_neg (oNgt (c := c) (k := (1114111 : Int32)) (n := 1114111) (by decide) (by omega)), if_pos (oLt (c := c) (k := (32 : Int32)) (n := 32) (by decide) (by omega)), if_neg (oNe (c := c) (k := (9 : Int32)) (n := 9) (by decide) (by omega)), if_neg (oNe (c := c) (k := (10 : Int32)) (n := 10) (by decide) (by omega)), if_pos (oEq (c := c) (k := (13 : Int32)) (n := 13) (by decide) (by omega)), oF2_36, oF2_41]
    try decide
  rw [e_oF1_0, e_oF2_0]
theorem oI_6 (c : Int32) (h1 : 14 ≤ c.toInt) (h2 : c.toInt ≤ 31) : oF1_0 c = oF2_0 c := by
  have e_oF1_0 : oF1_0 c = 0 := by
    rw [oF1_0, if_neg (oNe (c := c) (k := (9 : Int32)) (n := 9) (by decide) (by omega)), if_neg (oNe (c := c) (k := (10 : Int32)) (n := 10) (by decide) (by omega)), if_neg (oNe (c := c) (k := (13 : Int32)) (n := 13) (by decide) (by omega)), if_pos (oLt (c := c) (k := (32 : Int32)) (n := 32) (by decide) (by omega)), oF1_30, if_pos (oLt (c := c) (k := (57344 : Int32)) (n := 57344) (by decide) (by omega)), oF1_42, if_pos (oLt (c := c) (k := (65536 : Int32)) (n := 65536) (by decide) (by omega)), oF1_58, oF1_59]
    try decide
  have e_oF2_0 : oF2_0 c = 0 := by
    rw [oF2_0, if_neg (oNlt (c := c) (k := (0 : Int32)) (n := 0) (by decide) (by omega)), if_neg (oNgt (c := c) (k := (1114111 : Int32)) (n := 1114111) (by decide) (by omega)), if_pos (oLt (c := c) (k := (32 : Int32)) (n := 32) (by decide) (by omega)), if_neg (oNe (c := c) (k := (9 : Int32)) (n := 9) (by decide) (by omega)), if_neg (oNe (c := c) (k := (10 : Int32)) (n := 10) (by decide) (by omega)), if_neg (oNe (c := c) (k := (13 : Int32)) (n := 13) (by decide) (by omega)), oF2_41]
    try decide
  rw [e_oF1_0, e_oF2_0]
theorem oI_7 (c : Int32) (h1 : 32 ≤ c.toInt) (h2 : c.toInt ≤ 55295) : oF1_0 c = oF2_0 c := by
  have e_oF1_0 : oF1_0 c = 1 := by
    rw [oF1_0, if_neg (oNe (c := c) (k := (9 : Int32)) (n := 9) (by decide) (by omega)), if_neg (oNe (c := c) (k := (10 : Int32)) (n := 10) (by decide) (by omega)), if_neg (oNe (c := c) (k := (13 : Int32)) (n := 13) (by decide) (by omega)), if_neg (oNlt (c := c) (k := (32 : Int32)) (n := 32) (by decide) (by omega)), if_neg (oNgt (c := c) (k := (55295 : Int32)) (n := 55295) (by decide) (by omega)), oF1_54, oF1_59]
    try decide
  have e_oF2_0 : oF2_0 c = 1 := by
    rw [oF2_0, if_neg (oNlt (c := c) (k := (0 : Int32)) (n := 0) (by decide) (by omega)), if_neg (oNgt (c := c) (k := (1114111 : Int32)) (n := 1114111) (by decide) (by omega)), if_neg (oNlt (c := c) (k := (32 : Int32)) (n := 32) (by decide) (by omega)), if_pos (oLt (c := c) (k := (55296 : Int32)) (n := 55296) (by decide) (by omega)), oF2_56, if_neg (oNe (c := c) (k := (65534 : Int32)) (n := 65534) (by decide) (by omega)), if_neg (oNe (c := c) (k := (65535 : Int32)) (n := 65535) (by decide) (by omega))]
    try decide
  rw [e_oF1_0, e_oF2_0]
theorem oI_8 (c : Int32) (h1 : 55296 ≤ c.toInt) (h2 : c.toInt ≤ 57343) : oF1_0 c = oF2_0 c := by
  have e_oF1_0 : oF1_0 c = 0 := by
    rw [oF1_0, if_neg (oNe (c := c) (k := (9 : Int32)) (n := 9) (by decide) (by omega)), if_neg (oNe (c := c) (k := (10 : Int32)) (n := 10) (by decide) (by omega)), if_neg (oNe (c := c) (k := (13 : Int32)) (n := 13) (by decide) (by omega)), if_neg (oNlt (c := c) (k := (32 : Int32)) (n := 32) (by decide) (by omega)), if_pos (oGt (c := c) (k := (55295 : Int32)) (n := 55295) (by decide) (by omega)), oF1_30, if_pos (oLt (c := c) (k := (57344 : Int32)) (n := 57344) (by decide) (by omega)), oF1_42, if_pos (oLt (c := c) (k := (65536 : Int32)) (n := 65536) (by decide) (by omega)), oF1_58, oF1_59]
    try decide
  have e_oF2_0 : oF2_0 c = 0 := by
    rw [oF2_0, if_neg (oNlt (c := c) (k := (0 : Int32)) (n := 0) (by decide) (by omega)), if_neg (oNgt (c := c) (k := (1114111 : Int32)) (n := 1114111) (by decide) (by omega)), if_neg (oNlt (c := c) (k := (32 : Int32)) (n := 32) (by decide) (by omega)), if_neg (oNlt (c := c) (k := (55296 : Int32)) (n := 55296) (by decide) (by omega)), if_pos (oLt (c := c) (k := (57344 : Int32)) (n := 57344) (by decide) (by omega))]
    try decide
  rw [e_oF1_0, e_oF2_0]
theorem oI_9 (c : Int32) (h1 : 57344 ≤ c.toInt) (h2 : c.toInt ≤ 65533) : oF1_0 c = oF2_0 c := by
  have e_oF1_0 : oF1_0 c = 1 := by
    rw [oF1_0, if_neg (oNe (c := c) (k := (9 : Int32)) (n := 9) (by decide) (by omega)), if_neg (oNe (c := c) (k := (10 : Int32)) (n := 10) (by decide) (by omega)), if_neg (oNe (c := c) (k := (13 : Int32)) (n := 13) (by decide) (by omega)), if_neg (oNlt (c := c) (k := (32 : Int32)) (n := 32) (by decide) (by omega)), if_pos (oGt (c := c) (k := (55295 : Int32)) (n := 55295) (by decide) (by omega)), oF1_30, if_neg (oNlt (c := c) (k := (57344 : Int32)) (n := 57344) (by decide) (by omega)), if_neg (oNgt (c := c) (k := (65533 : Int32)) (n := 65533) (by decide) (by omega)), oF1_54, oF1_59]
    try decide
  have e_oF2_0 : oF2_0 c = 1 := by
    rw [oF2_0, if_neg (oNlt (c := c) (k := (0 : Int32)) (n := 0) (by decide) (by omega)), if_neg (oNgt (c := c) (k := (1114111 : Int32)) (n := 1114111) (by decide) (by omega)), if_neg (oNlt (c := c) (k := (32 : Int32)) (n := 32) (by decide) (by omega)), if_neg (oNlt (c := c) (k := (55296 : Int32)) (n := 55296) (by decide) (by omega)), if_neg (oNlt (c := c) (k := (57344 : Int32)) (n := 57344) (by decide) (by omega)), oF2_56, if_neg (oNe (c := c) (k := (65534 : Int32)) (n := 65534) (by decide) (by omega)), if_neg (oNe (c := c) (k := (65535 : Int32)) (n := 65535) (by decide) (by omega))]
    try decide
  rw [e_oF1_0, e_oF2_0]
theorem oI_10 (c : Int32) (h1 : 65534 ≤ c.toInt) (h2 : c.toInt ≤ 65534) : oF1_0 c = oF2_0 c := by
  have e_oF1_0 : oF1_0 c = 0 := by
    rw [oF1_0, if_neg (oNe (c := c) (k := (9 : Int32)) (n := 9) (by decide) (by omega)), if_neg (oNe (c := c) (k := (10 : Int32)) (n := 10) (by decide) (by omega)), if_neg (oNe (c := c) (k := (13 : Int32)) (n := 13) (by decide) (by omega)), if_neg (oNlt (c := c) (k := (32 : Int32)) (n := 32) (by decide) (by omega)), if_pos (oGt (c := c) (k := (55295 : Int32)) (n := 55295) (by decide) (by omega)), oF1_30, if_neg (oNlt (c := c) (k := (57344 : Int32)) (n := 57344) (by decide) (by omega)), if_pos (oGt (c := c) (k := (65533 : Int32)) (n := 65533) (by decide) (by omega)), oF1_42, if_pos (oLt (c := c) (k := (65536 : Int32)) (n := 65536) (by decide) (by omega)), oF1_58, oF1_59]
    try decide
  have e_oF2_0 : oF2_0 c = 0 := by
    rw [oF2_0, if_neg (oNlt (c := c) (k := (0 : Int32)) (n := 0) (by decide) (by omega)), if_neg (oNgt (c := c) (k := (1114111 : Int32)) (n := 1114111) (by decide) (by omega)), if_neg (oNlt (c := c) (k := (32 : Int32)) (n := 32) (by decide) (by omega)), if_neg (oNlt (c := c) (k := (55296 : Int32)) (n := 55296) (by decide) (by omega)), if_neg (oNlt (c := c) (k := (57344 : Int32)) (n := 57344) (by decide) (by omega)), oF2_56, if_pos (oEq (c := c) (k := (65534 : Int32)) (n := 65534) (by decide) (by omega)), oF2_68]
    try decide
  rw [e_oF1_0, e_oF2_0]
theorem oI_11 (c : Int32) (h1 : 65535 ≤ c.toInt) (h2 : c.toInt ≤ 65535) : oF1_0 c = oF2_0 c := by
  have e_oF1_0 : oF1_0 c = 0 := by
    rw [oF1_0, if_neg (oNe (c := c) (k := (9 : Int32)) (n := 9) (by decide) (by omega)), if_neg (oNe (c := c) (k := (10 : Int32)) (n := 10) (by decide) (by omega)), if_neg (oNe (c := c) (k := (13 : Int32)) (n := 13) (by decide) (by omega)), if_neg (oNlt (c := c) (k := (32 : Int32)) (n := 32) (by decide) (by omega)), if_pos (oGt (c := c) (k := (55295 : Int32)) (n := 55295) (by decide) (by omega)), oF1_30, if_neg (oNlt (c := c) (k := (57344 : Int32)) (n := 57344) (by decide) (by omega)), if_pos (oGt (c := c) (k := (65533 : Int32)) (n := 65533) (by decide) (by omega)), oF1_42, if_pos (oLt (c := c) (k := (65536 : Int32)) (n := 65536) (by decide) (by omega)), oF1_58, oF1_59]
    try decide
  have e_oF2_0 : oF2_0 c = 0 := by
    rw [oF2_0, if_neg (oNlt (c := c) (k := (0 : Int32)) (n := 0) (by decide) (by omega)), if_neg (oNgt (c := c) (k := (1114111 : Int32)) (n := 1114111) (by decide) (by omega)), if_neg (oNlt (c := c) (k := (32 : Int32)) (n := 32) (by decide) (by omega)), if_neg (oNlt (c := c) (k := (55296 : Int32)) (n := 55296) (by decide) (by omega)), if_neg (oNlt (c := c) (k := (57344 : Int32)) (n := 57344) (by decide) (by omega)), oF2_56, if_neg (oNe (c := c) (k := (65534 : Int32)) (n := 65534) (by decide) (by omega)), if_pos (oEq (c := c) (k := (65535 : Int32)) (n := 65535) (by decide) (by omega)), oF2_68]
    try decide
  rw [e_oF1_0, e_oF2_0]
theorem oI_12 (c : Int32) (h1 : 65536 ≤ c.toInt) (h2 : c.toInt ≤ 1114111) : oF1_0 c = oF2_0 c := by
  have e_oF1_0 : oF1_0 c = 1 := by
    rw [oF1_0, if_neg (oNe (c := c) (k := (9 : Int32)) (n := 9) (by decide) (by omega)), if_neg (oNe (c := c) (k := (10 : Int32)) (n := 10) (by decide) (by omega)), if_neg (oNe (c := c) (k := (13 : Int32)) (n := 13) (by decide) (by omega)), if_neg (oNlt (c := c) (k := (32 : Int32)) (n := 32) (by decide) (by omega)), if_pos (oGt (c := c) (k := (55295 : Int32)) (n := 55295) (by decide) (by omega)), oF1_30, if_neg (oNlt (c := c) (k := (57344 : Int32)) (n := 57344) (by decide) (by omega)), if_pos (oGt (c := c) (k := (65533 : Int32)) (n := 65533) (by decide) (by omega)), oF1_42, if_neg (oNlt (c := c) (k := (65536 : Int32)) (n := 65536) (by decide) (by omega)), if_neg (oNgt (c := c) (k := (1114111 : Int32)) (n := 1114111) (by decide) (by omega)), oF1_54, oF1_59]
    try decide
  have e_oF2_0 : oF2_0 c = 1 := by
    rw [oF2_0, if_neg (oNlt (c := c) (k := (0 : Int32)) (n := 0) (by decide) (by omega)), if_neg (oNgt (c := c) (k := (1114111 : Int32)) (n := 1114111) (by decide) (by omega)), if_neg (oNlt (c := c) (k := (32 : Int32)) (n := 32) (by decide) (by omega)), if_neg (oNlt (c := c) (k := (55296 : Int32)) (n := 55296) (by decide) (by omega)), if_neg (oNlt (c := c) (k := (57344 : Int32)) (n := 57344) (by decide) (by omega)), oF2_56, if_neg (oNe (c := c) (k := (65534 : Int32)) (n := 65534) (by decide) (by omega)), if_neg (oNe (c := c) (k := (65535 : Int32)) (n := 65535) (by decide) (by omega))]
    try decide
  rw [e_oF1_0, e_oF2_0]
theorem oI_13 (c : Int32) (h1 : 1114112 ≤ c.toInt) (h2 : c.toInt ≤ 2147483647) : oF1_0 c = oF2_0 c := by
  have e_oF1_0 : oF1_0 c = 0 := by
    rw [oF1_0, if_neg (oNe (c := c) (k := (9 : Int32)) (n := 9) (by decide) (by omega)), if_neg (oNe (c := c) (k := (10 : Int32)) (n := 10) (by decide) (by omega)), if_neg (oNe (c := c) (k := (13 : Int32)) (n := 13) (by decide) (by omega)), if_neg (oNlt (c := c) (k := (32 : Int32)) (n := 32) (by decide) (by omega)), if_pos (oGt (c := c) (k := (55295 : Int32)) (n := 55295) (by decide) (by omega)), oF1_30, if_neg (oNlt (c := c) (k := (57344 : Int32)) (n := 57344) (by decide) (by omega)), if_pos (oGt (c := c) (k := (65533 : Int32)) (n := 65533) (by decide) (by omega)), oF1_42, if_neg (oNlt (c := c) (k := (65536 : Int32)) (n := 65536) (by decide) (by omega)), if_pos (oGt (c := c) (k := (1114111 : Int32)) (n := 1114111) (by decide) (by omega)), oF1_58, oF1_59]
    try decide
  have e_oF2_0 : oF2_0 c = 0 := by
    rw [oF2_0, if_neg (oNlt (c := c) (k := (0 : Int32)) (n := 0) (by decide) (by omega)), if_pos (oGt (c := c) (k := (1114111 : Int32)) (n := 1114111) (by decide) (by omega)), oF2_10]
    try decide
  rw [e_oF1_0, e_oF2_0]
theorem oAgree (c : Int32) : oF1_0 c = oF2_0 c := by
  have hlo := c.le_toInt
  have hhi := c.toInt_lt
  by_cases g0 : c.toInt ≤ -1
  · exact oI_0 c (by omega) g0
  by_cases g1 : c.toInt ≤ 8
  · exact oI_1 c (by omega) g1
  by_cases g2 : c.toInt ≤ 9
  · exact oI_2 c (by omega) g2
  by_cases g3 : c.toInt ≤ 10
  · exact oI_3 c (by omega) g3
  by_cases g4 : c.toInt ≤ 12
  · exact oI_4 c (by omega) g4
  by_cases g5 : c.toInt ≤ 13
  · exact oI_5 c (by omega) g5
  by_cases g6 : c.toInt ≤ 31
  · exact oI_6 c (by omega) g6
  by_cases g7 : c.toInt ≤ 55295
  · exact oI_7 c (by omega) g7
  by_cases g8 : c.toInt ≤ 57343
  · exact oI_8 c (by omega) g8
  by_cases g9 : c.toInt ≤ 65533
  · exact oI_9 c (by omega) g9
  by_cases g10 : c.toInt ≤ 65534
  · exact oI_10 c (by omega) g10
  by_cases g11 : c.toInt ≤ 65535
  · exact oI_11 c (by omega) g11
  by_cases g12 : c.toInt ≤ 1114111
  · exact oI_12 c (by omega) g12
  by_cases g13 : c.toInt ≤ 2147483647
  · exact oI_13 c (by omega) g13
  exfalso; omega
theorem oLaw (p1 p2 p3 : Int32) (p4 : Addr) (p5 : Int32) : oF0_111 p1 p2 p3 p4 p5 = 1 := by
  rw [oF0_111, if_pos (oAgree p1), oF0_127, if_pos (oAgree p5)]
  rfl
def oEndE (p : Program) (e : Env) (s : State) (below : List Frame) (T : State) (g : JFrame) (n0 : Nat) (cells slots : Nat) (w : Option Value) : Prop := ∃ h, oEnd p e s below T g n0 h cells slots w
theorem oPreE {p : Program} {e : Env} {s : State} {below : List Frame} {T T' : State} {g g' : JFrame} {n0 : Nat} {cells slots : Nat} {w : Option Value}
    (k : ∀ target, Steps p.tables e below (T'.setTop g') target → Steps p.tables e below (T.setTop g) target) (q : oEndE p e s below T' g' n0 cells slots w) : oEndE p e s below T g n0 cells slots w := by
  obtain ⟨h, q⟩ := q
  exact ⟨h, oPre k q⟩
/-- an int array of 16 places, each of which holds an int -/
def oArr (Z : State) (h : Heap) (a : Addr) : Prop := ∃ c : Cell, Arr Z h a c .int ∧ c.slots.size = (16 : Int32).toNatClampNeg ∧ ∀ i, i < (16 : Int32).toNatClampNeg → ∃ v : Int32, c.slots[i]? = some (.int v)
theorem oArr_new {Z : State} {h : Heap} {a : Addr} {k : ClassId} (A : Arr Z h a (newA k .int 16) .int) : oArr Z h a :=
  ⟨_, A, sz_new _ _ _, fun i hi => ⟨0, by
    have hi' : i < 16 := hi
    simp [newA, defaultValue, hi']⟩⟩
theorem oSt {p : Program} {l : Launch} {e : Env} {R : Room} {s : State} {m : MethodId} {args : Array Value} {below : List Frame} {meth : Method} {c : Code} {T : State} {locs : List Loc} {cells slots : Nat} {Z : State} {h : Heap} {n0 : Nat}
    (X : Stand p l e R s m args below meth c T locs cells slots) (hx : p.tables.exec = Jvm.exec) (hZ : Z.Warmed39 s.vm) (eT : T.heap = h) {a : Addr} (A : oArr Z h a) (N : Fr n0 locs) (ha : n0 ≤ a) (j x : Int32) (hj : ¬ j < 0 ∧ j < 16)
    {g : JFrame} (hg : g.method = m) {rest : List Value} (hs : g.stack = .int x :: .int j :: .ref a :: rest) (hd : decode c.code g.pc = .ok (.iastore, 1)) :
    ∃ T' h' locs', Stand p l e R s m args below meth c T' locs' cells slots ∧ T'.heap = h' ∧ oArr Z h' a ∧ Fr n0 locs' ∧ h'.size = h.size ∧ ∀ target, Steps p.tables e below (T'.setTop { g with pc := g.pc + 1, stack := rest }) target → Steps p.tables e below (T.setTop g) target := by
  obtain ⟨cl, Ar, S, H⟩ := A
  obtain ⟨T', h', X', e', W', st⟩ := stI X hx hZ eT Ar (inb_of S hj) hg hs hd
  refine ⟨T', h', _, X', e', ⟨_, Ar.same W', by rw [sz_set]; exact S, fun i hi => ?_⟩, Fr.snoc X' N ha, W'.size, st⟩
  by_cases q : j.toNatClampNeg = i
  · subst q
    have hlt : j.toNatClampNeg < cl.slots.size := by rw [S]; exact hi
    exact ⟨x, by simp [Cell.setSlot, hlt]⟩
  · obtain ⟨v, hv⟩ := H i hi
    exact ⟨v, by simp [Cell.setSlot, Array.getElem?_setIfInBounds, q, hv]⟩
theorem oIdx (x : Int32) : ¬ ((x &&& (2147483647 : Int32)) - ((x &&& (2147483647 : Int32)) / (16 : Int32)) * (16 : Int32)) < 0 ∧ ((x &&& (2147483647 : Int32)) - ((x &&& (2147483647 : Int32)) / (16 : Int32)) * (16 : Int32)) < (16 : Int32) := by
  have h0 := c_and x (2147483647 : Int32) (by decide)
  generalize (x &&& (2147483647 : Int32)) = y at h0 ⊢
  have h1 := (c_idiv y (16 : Int32) 16 (by decide) (by decide)).1 h0.1
  have h2 := c_imul (y / 16) (16 : Int32)
  have h3 := c_isub y ((y / 16) * 16)
  have h4 : (16 : Int32).toInt = 16 := by decide
  have h5 : (0 : Int32).toInt = 0 := by decide
  have h6 : (2147483647 : Int32).toInt = 2147483647 := by decide
  have r1 := rng32 ((y / 16) * 16)
  have r2 := rng32 (y - (y / 16) * 16)
  rw [Int32.lt_iff_toInt_lt, Int32.lt_iff_toInt_lt]
  rw [h4, h1] at h2
  omega
theorem pn_0 : plainName "org/provenote/core/xml/XmlCharactersIsCharacterPinLaw" = true := by first | (simp [plainName, overriddenIn]; done) | decide +kernel
theorem ef_0 (m : MethodId) (p1 p2 p3 : Int32) : entryFrame m #[(.int p1), (.int p2), (.int p3)] maxLocals = mkF m 0 #[.val (.int p1), .val (.int p2), .val (.int p3), .unset, .unset, .unset, .unset] [] := by first | (simp [entryFrame, mkF, argsToLocals, Value.category, maxLocals]; done) | rfl
set_option maxRecDepth 65536 in
set_option maxHeartbeats 40000000 in
theorem oR0 (l : Launch) (Z : State) (a0 : Array Value) (hw : ∀ d ∈ tables_1, d.before a0 Z = true) (ws : List Jvm.Cond) (p1 p2 p3 : Int32) (h0 : Heap) (n0 : Nat) (Z0 : n0 ≤ h0.size) :
    MetFree l x (head1 (Jvm.Cond.code x code maxLocals ret :: ws) room_1) (fun a U => a = #[(.int p1), (.int p2), (.int p3)] ∧ Z.Warmed39 U.vm ∧ U.heap = h0) (fun _ _ _ _ _ => True) (fun _ U o U' => ∃ v L, o = .returned v ∧ (v = some (.int 1) ∧ Fr n0 L ∧ True) ∧ FrameEnd U o U' L room_1.cells room_1.slots) := by
  refine MetFree.of_bodySF (plainFor_of_name pn_0) hisR ?_
  intro p e s m args below meth c s₁ Bd hml0 hP hK
  obtain ⟨rfl, hZ, hh⟩ := hP
  have hx := Bd.exec
  have hby := Bd.bytes
  have hown : s.vm.findClass "org/provenote/core/xml/XmlCharactersIsCharacterPinLaw" = some m.cls := findClass_of_methodNamed Bd.named
  have X0 : Stand p l e room_1 s m #[(.int p1), (.int p2), (.int p3)] below meth c s₁ [] 0 0 := Stand.of_body Bd
  have e0 : s₁.heap = h0 := by rw [← hh, Bd.state]; rfl
  have N0 := Fr.nil n0
  have main : oEndE p e s below s₁ (mkF m 0 #[.val (.int p1), .val (.int p2), .val (.int p3), .unset, .unset, .unset, .unset] []) n0 1 16 (some (.int 1)) := by
    show oEndE p e s below s₁ (mkF m 0 #[.val (.int p1), .val (.int p2), .val (.int p3), .unset, .unset, .unset, .unset] []) n0 1 16 (some (.int 1))
    refine oPreE (fun _ => XS.bipush X0.here hx rfl (hb hby at_0)) ?_
    show oEndE p e s below s₁ (mkF m 2 #[.val (.int p1), .val (.int p2), .val (.int p3), .unset, .unset, .unset, .unset] [(.int (16 : Int32))]) n0 1 16 (some (.int 1))
    obtain ⟨T1, h1, k1, X1, e1, E1, A1, st1⟩ := newP X0 hx hZ (hw _ (List.mem_of_getElem? (i := 0) rfl)) e0 (g := (mkF m 2 #[.val (.int p1), .val (.int p2), .val (.int p3), .unset, .unset, .unset, .unset] [(.int (16 : Int32))])) rfl (hb hby at_2) rfl (by decide) (cap := 16) (by decide) (by decide) (by decide) (by decide)
    obtain ⟨b4, g4⟩ : ∃ z, z = h0.size := ⟨_, rfl⟩
    rw [← g4] at A1 st1
    have hb4 : n0 ≤ b4 := by rw [g4]; exact Z0
    have V1 : oArr Z h1 b4 := oArr_new A1
    have Z1 : n0 ≤ h1.size := Nat.le_trans Z0 E1.1
    refine oPreE st1 ?_
    show oEndE p e s below T1 (mkF m 4 #[.val (.int p1), .val (.int p2), .val (.int p3), .unset, .unset, .unset, .unset] [(.ref b4)]) n0 1 16 (some (.int 1))
    refine oPreE (fun _ => XS.dup X1.here hx rfl (hb hby at_4) rfl rfl) ?_
    show oEndE p e s below T1 (mkF m 5 #[.val (.int p1), .val (.int p2), .val (.int p3), .unset, .unset, .unset, .unset] [(.ref b4), (.ref b4)]) n0 1 16 (some (.int 1))
    refine oPreE (fun _ => XS.iconst X1.here hx rfl (hb hby at_5)) ?_
    show oEndE p e s below T1 (mkF m 6 #[.val (.int p1), .val (.int p2), .val (.int p3), .unset, .unset, .unset, .unset] [(.int (0 : Int32)), (.ref b4), (.ref b4)]) n0 1 16 (some (.int 1))
    refine oPreE (fun _ => XS.bipush X1.here hx rfl (hb hby at_6)) ?_
    show oEndE p e s below T1 (mkF m 8 #[.val (.int p1), .val (.int p2), .val (.int p3), .unset, .unset, .unset, .unset] [(.int (9 : Int32)), (.int (0 : Int32)), (.ref b4), (.ref b4)]) n0 1 16 (some (.int 1))
    obtain ⟨T2, h2, L2, X2, e2, V2, N2, z2, st2⟩ := oSt X1 hx hZ e1 V1 N0 hb4 (0 : Int32) (9 : Int32) (by decide) (g := (mkF m 8 #[.val (.int p1), .val (.int p2), .val (.int p3), .unset, .unset, .unset, .unset] [(.int (9 : Int32)), (.int (0 : Int32)), (.ref b4), (.ref b4)])) rfl (rest := [(.ref b4)]) rfl (hb hby at_8)
    have Z2 : n0 ≤ h2.size := by rw [z2]; exact Z1
    refine oPreE st2 ?_
    show oEndE p e s below T2 (mkF m 9 #[.val (.int p1), .val (.int p2), .val (.int p3), .unset, .unset, .unset, .unset] [(.ref b4)]) n0 1 16 (some (.int 1))
    refine oPreE (fun _ => XS.dup X2.here hx rfl (hb hby at_9) rfl rfl) ?_
    show oEndE p e s below T2 (mkF m 10 #[.val (.int p1), .val (.int p2), .val (.int p3), .unset, .unset, .unset, .unset] [(.ref b4), (.ref b4)]) n0 1 16 (some (.int 1))
    refine oPreE (fun _ => XS.iconst X2.here hx rfl (hb hby at_10)) ?_
    show oEndE p e s below T2 (mkF m 11 #[.val (.int p1), .val (.int p2), .val (.int p3), .unset, .unset, .unset, .unset] [(.int (1 : Int32)), (.ref b4), (.ref b4)]) n0 1 16 (some (.int 1))
    refine oPreE (fun _ => XS.bipush X2.here hx rfl (hb hby at_11)) ?_
    show oEndE p e s below T2 (mkF m 13 #[.val (.int p1), .val (.int p2), .val (.int p3), .unset, .unset, .unset, .unset] [(.int (10 : Int32)), (.int (1 : Int32)), (.ref b4), (.ref b4)]) n0 1 16 (some (.int 1))
    obtain ⟨T3, h3, L3, X3, e3, V3, N3, z3, st3⟩ := oSt X2 hx hZ e2 V2 N2 hb4 (1 : Int32) (10 : Int32) (by decide) (g := (mkF m 13 #[.val (.int p1), .val (.int p2), .val (.int p3), .unset, .unset, .unset, .unset] [(.int (10 : Int32)), (.int (1 : Int32)), (.ref b4), (.ref b4)])) rfl (rest := [(.ref b4)]) rfl (hb hby at_13)
    have Z3 : n0 ≤ h3.size := by rw [z3]; exact Z2
    refine oPreE st3 ?_
    show oEndE p e s below T3 (mkF m 14 #[.val (.int p1), .val (.int p2), .val (.int p3), .unset, .unset, .unset, .unset] [(.ref b4)]) n0 1 16 (some (.int 1))
    refine oPreE (fun _ => XS.dup X3.here hx rfl (hb hby at_14) rfl rfl) ?_
    show oEndE p e s below T3 (mkF m 15 #[.val (.int p1), .val (.int p2), .val (.int p3), .unset, .unset, .unset, .unset] [(.ref b4), (.ref b4)]) n0 1 16 (some (.int 1))
    refine oPreE (fun _ => XS.iconst X3.here hx rfl (hb hby at_15)) ?_
    show oEndE p e s below T3 (mkF m 16 #[.val (.int p1), .val (.int p2), .val (.int p3), .unset, .unset, .unset, .unset] [(.int (2 : Int32)), (.ref b4), (.ref b4)]) n0 1 16 (some (.int 1))
    refine oPreE (fun _ => XS.bipush X3.here hx rfl (hb hby at_16)) ?_
    show oEndE p e s below T3 (mkF m 18 #[.val (.int p1), .val (.int p2), .val (.int p3), .unset, .unset, .unset, .unset] [(.int (13 : Int32)), (.int (2 : Int32)), (.ref b4), (.ref b4)]) n0 1 16 (some (.int 1))
    obtain ⟨T4, h4, L4, X4, e4, V4, N4, z4, st4⟩ := oSt X3 hx hZ e3 V3 N3 hb4 (2 : Int32) (13 : Int32) (by decide) (g := (mkF m 18 #[.val (.int p1), .val (.int p2), .val (.int p3), .unset, .unset, .unset, .unset] [(.int (13 : Int32)), (.int (2 : Int32)), (.ref b4), (.ref b4)])) rfl (rest := [(.ref b4)]) rfl (hb hby at_18)
    have Z4 : n0 ≤ h4.size := by rw [z4]; exact Z3
    refine oPreE st4 ?_
    show oEndE p e s below T4 (mkF m 19 #[.val (.int p1), .val (.int p2), .val (.int p3), .unset, .unset, .unset, .unset] [(.ref b4)]) n0 1 16 (some (.int 1))
    refine oPreE (fun _ => XS.dup X4.here hx rfl (hb hby at_19) rfl rfl) ?_
    show oEndE p e s below T4 (mkF m 20 #[.val (.int p1), .val (.int p2), .val (.int p3), .unset, .unset, .unset, .unset] [(.ref b4), (.ref b4)]) n0 1 16 (some (.int 1))
    refine oPreE (fun _ => XS.iconst X4.here hx rfl (hb hby at_20)) ?_
    show oEndE p e s below T4 (mkF m 21 #[.val (.int p1), .val (.int p2), .val (.int p3), .unset, .unset, .unset, .unset] [(.int (3 : Int32)), (.ref b4), (.ref b4)]) n0 1 16 (some (.int 1))
    refine oPreE (fun _ => XS.bipush X4.here hx rfl (hb hby at_21)) ?_
    show oEndE p e s below T4 (mkF m 23 #[.val (.int p1), .val (.int p2), .val (.int p3), .unset, .unset, .unset, .unset] [(.int (32 : Int32)), (.int (3 : Int32)), (.ref b4), (.ref b4)]) n0 1 16 (some (.int 1))
    obtain ⟨T5, h5, L5, X5, e5, V5, N5, z5, st5⟩ := oSt X4 hx hZ e4 V4 N4 hb4 (3 : Int32) (32 : Int32) (by decide) (g := (mkF m 23 #[.val (.int p1), .val (.int p2), .val (.int p3), .unset, .unset, .unset, .unset] [(.int (32 : Int32)), (.int (3 : Int32)), (.ref b4), (.ref b4)])) rfl (rest := [(.ref b4)]) rfl (hb hby at_23)
    have Z5 : n0 ≤ h5.size := by rw [z5]; exact Z4
    refine oPreE st5 ?_
    show oEndE p e s below T5 (mkF m 24 #[.val (.int p1), .val (.int p2), .val (.int p3), .unset, .unset, .unset, .unset] [(.ref b4)]) n0 1 16 (some (.int 1))
    refine oPreE (fun _ => XS.dup X5.here hx rfl (hb hby at_24) rfl rfl) ?_
    show oEndE p e s below T5 (mkF m 25 #[.val (.int p1), .val (.int p2), .val (.int p3), .unset, .unset, .unset, .unset] [(.ref b4), (.ref b4)]) n0 1 16 (some (.int 1))
    refine oPreE (fun _ => XS.iconst X5.here hx rfl (hb hby at_25)) ?_
    show oEndE p e s below T5 (mkF m 26 #[.val (.int p1), .val (.int p2), .val (.int p3), .unset, .unset, .unset, .unset] [(.int (4 : Int32)), (.ref b4), (.ref b4)]) n0 1 16 (some (.int 1))
    refine oPreE (fun _ => X5.ldcInt hx hown (mvT hZ (hw _ (List.mem_of_getElem? (i := 1) rfl))) (g := (mkF m 26 #[.val (.int p1), .val (.int p2), .val (.int p3), .unset, .unset, .unset, .unset] [(.int (4 : Int32)), (.ref b4), (.ref b4)])) rfl (hb hby at_26) _) ?_
    show oEndE p e s below T5 (mkF m 28 #[.val (.int p1), .val (.int p2), .val (.int p3), .unset, .unset, .unset, .unset] [(.int (55295 : Int32)), (.int (4 : Int32)), (.ref b4), (.ref b4)]) n0 1 16 (some (.int 1))
    obtain ⟨T6, h6, L6, X6, e6, V6, N6, z6, st6⟩ := oSt X5 hx hZ e5 V5 N5 hb4 (4 : Int32) (55295 : Int32) (by decide) (g := (mkF m 28 #[.val (.int p1), .val (.int p2), .val (.int p3), .unset, .unset, .unset, .unset] [(.int (55295 : Int32)), (.int (4 : Int32)), (.ref b4), (.ref b4)])) rfl (rest := [(.ref b4)]) rfl (hb hby at_28)
    have Z6 : n0 ≤ h6.size := by rw [z6]; exact Z5
    refine oPreE st6 ?_
    show oEndE p e s below T6 (mkF m 29 #[.val (.int p1), .val (.int p2), .val (.int p3), .unset, .unset, .unset, .unset] [(.ref b4)]) n0 1 16 (some (.int 1))
    refine oPreE (fun _ => XS.dup X6.here hx rfl (hb hby at_29) rfl rfl) ?_
    show oEndE p e s below T6 (mkF m 30 #[.val (.int p1), .val (.int p2), .val (.int p3), .unset, .unset, .unset, .unset] [(.ref b4), (.ref b4)]) n0 1 16 (some (.int 1))
    refine oPreE (fun _ => XS.iconst X6.here hx rfl (hb hby at_30)) ?_
    show oEndE p e s below T6 (mkF m 31 #[.val (.int p1), .val (.int p2), .val (.int p3), .unset, .unset, .unset, .unset] [(.int (5 : Int32)), (.ref b4), (.ref b4)]) n0 1 16 (some (.int 1))
    refine oPreE (fun _ => X6.ldcInt hx hown (mvT hZ (hw _ (List.mem_of_getElem? (i := 2) rfl))) (g := (mkF m 31 #[.val (.int p1), .val (.int p2), .val (.int p3), .unset, .unset, .unset, .unset] [(.int (5 : Int32)), (.ref b4), (.ref b4)])) rfl (hb hby at_31) _) ?_
    show oEndE p e s below T6 (mkF m 33 #[.val (.int p1), .val (.int p2), .val (.int p3), .unset, .unset, .unset, .unset] [(.int (55296 : Int32)), (.int (5 : Int32)), (.ref b4), (.ref b4)]) n0 1 16 (some (.int 1))
    obtain ⟨T7, h7, L7, X7, e7, V7, N7, z7, st7⟩ := oSt X6 hx hZ e6 V6 N6 hb4 (5 : Int32) (55296 : Int32) (by decide) (g := (mkF m 33 #[.val (.int p1), .val (.int p2), .val (.int p3), .unset, .unset, .unset, .unset] [(.int (55296 : Int32)), (.int (5 : Int32)), (.ref b4), (.ref b4)])) rfl (rest := [(.ref b4)]) rfl (hb hby at_33)
    have Z7 : n0 ≤ h7.size := by rw [z7]; exact Z6
    refine oPreE st7 ?_
    show oEndE p e s below T7 (mkF m 34 #[.val (.int p1), .val (.int p2), .val (.int p3), .unset, .unset, .unset, .unset] [(.ref b4)]) n0 1 16 (some (.int 1))
    refine oPreE (fun _ => XS.dup X7.here hx rfl (hb hby at_34) rfl rfl) ?_
    show oEndE p e s below T7 (mkF m 35 #[.val (.int p1), .val (.int p2), .val (.int p3), .unset, .unset, .unset, .unset] [(.ref b4), (.ref b4)]) n0 1 16 (some (.int 1))
    refine oPreE (fun _ => XS.bipush X7.here hx rfl (hb hby at_35)) ?_
    show oEndE p e s below T7 (mkF m 37 #[.val (.int p1), .val (.int p2), .val (.int p3), .unset, .unset, .unset, .unset] [(.int (6 : Int32)), (.ref b4), (.ref b4)]) n0 1 16 (some (.int 1))
    refine oPreE (fun _ => X7.ldcInt hx hown (mvT hZ (hw _ (List.mem_of_getElem? (i := 3) rfl))) (g := (mkF m 37 #[.val (.int p1), .val (.int p2), .val (.int p3), .unset, .unset, .unset, .unset] [(.int (6 : Int32)), (.ref b4), (.ref b4)])) rfl (hb hby at_37) _) ?_
    show oEndE p e s below T7 (mkF m 39 #[.val (.int p1), .val (.int p2), .val (.int p3), .unset, .unset, .unset, .unset] [(.int (57343 : Int32)), (.int (6 : Int32)), (.ref b4), (.ref b4)]) n0 1 16 (some (.int 1))
    obtain ⟨T8, h8, L8, X8, e8, V8, N8, z8, st8⟩ := oSt X7 hx hZ e7 V7 N7 hb4 (6 : Int32) (57343 : Int32) (by decide) (g := (mkF m 39 #[.val (.int p1), .val (.int p2), .val (.int p3), .unset, .unset, .unset, .unset] [(.int (57343 : Int32)), (.int (6 : Int32)), (.ref b4), (.ref b4)])) rfl (rest := [(.ref b4)]) rfl (hb hby at_39)
    have Z8 : n0 ≤ h8.size := by rw [z8]; exact Z7
    refine oPreE st8 ?_
    show oEndE p e s below T8 (mkF m 40 #[.val (.int p1), .val (.int p2), .val (.int p3), .unset, .unset, .unset, .unset] [(.ref b4)]) n0 1 16 (some (.int 1))
    refine oPreE (fun _ => XS.dup X8.here hx rfl (hb hby at_40) rfl rfl) ?_
    show oEndE p e s below T8 (mkF m 41 #[.val (.int p1), .val (.int p2), .val (.int p3), .unset, .unset, .unset, .unset] [(.ref b4), (.ref b4)]) n0 1 16 (some (.int 1))
    refine oPreE (fun _ => XS.bipush X8.here hx rfl (hb hby at_41)) ?_
    show oEndE p e s below T8 (mkF m 43 #[.val (.int p1), .val (.int p2), .val (.int p3), .unset, .unset, .unset, .unset] [(.int (7 : Int32)), (.ref b4), (.ref b4)]) n0 1 16 (some (.int 1))
    refine oPreE (fun _ => X8.ldcInt hx hown (mvT hZ (hw _ (List.mem_of_getElem? (i := 4) rfl))) (g := (mkF m 43 #[.val (.int p1), .val (.int p2), .val (.int p3), .unset, .unset, .unset, .unset] [(.int (7 : Int32)), (.ref b4), (.ref b4)])) rfl (hb hby at_43) _) ?_
    show oEndE p e s below T8 (mkF m 45 #[.val (.int p1), .val (.int p2), .val (.int p3), .unset, .unset, .unset, .unset] [(.int (57344 : Int32)), (.int (7 : Int32)), (.ref b4), (.ref b4)]) n0 1 16 (some (.int 1))
    obtain ⟨T9, h9, L9, X9, e9, V9, N9, z9, st9⟩ := oSt X8 hx hZ e8 V8 N8 hb4 (7 : Int32) (57344 : Int32) (by decide) (g := (mkF m 45 #[.val (.int p1), .val (.int p2), .val (.int p3), .unset, .unset, .unset, .unset] [(.int (57344 : Int32)), (.int (7 : Int32)), (.ref b4), (.ref b4)])) rfl (rest := [(.ref b4)]) rfl (hb hby at_45)
    have Z9 : n0 ≤ h9.size := by rw [z9]; exact Z8
    refine oPreE st9 ?_
    show oEndE p e s below T9 (mkF m 46 #[.val (.int p1), .val (.int p2), .val (.int p3), .unset, .unset, .unset, .unset] [(.ref b4)]) n0 1 16 (some (.int 1))
    refine oPreE (fun _ => XS.dup X9.here hx rfl (hb hby at_46) rfl rfl) ?_
    show oEndE p e s below T9 (mkF m 47 #[.val (.int p1), .val (.int p2), .val (.int p3), .unset, .unset, .unset, .unset] [(.ref b4), (.ref b4)]) n0 1 16 (some (.int 1))
    refine oPreE (fun _ => XS.bipush X9.here hx rfl (hb hby at_47)) ?_
    show oEndE p e s below T9 (mkF m 49 #[.val (.int p1), .val (.int p2), .val (.int p3), .unset, .unset, .unset, .unset] [(.int (8 : Int32)), (.ref b4), (.ref b4)]) n0 1 16 (some (.int 1))
    refine oPreE (fun _ => X9.ldcInt hx hown (mvT hZ (hw _ (List.mem_of_getElem? (i := 5) rfl))) (g := (mkF m 49 #[.val (.int p1), .val (.int p2), .val (.int p3), .unset, .unset, .unset, .unset] [(.int (8 : Int32)), (.ref b4), (.ref b4)])) rfl (hb hby at_49) _) ?_
    show oEndE p e s below T9 (mkF m 51 #[.val (.int p1), .val (.int p2), .val (.int p3), .unset, .unset, .unset, .unset] [(.int (65533 : Int32)), (.int (8 : Int32)), (.ref b4), (.ref b4)]) n0 1 16 (some (.int 1))
    obtain ⟨T10, h10, L10, X10, e10, V10, N10, z10, st10⟩ := oSt X9 hx hZ e9 V9 N9 hb4 (8 : Int32) (65533 : Int32) (by decide) (g := (mkF m 51 #[.val (.int p1), .val (.int p2), .val (.int p3), .unset, .unset, .unset, .unset] [(.int (65533 : Int32)), (.int (8 : Int32)), (.ref b4), (.ref b4)])) rfl (rest := [(.ref b4)]) rfl (hb hby at_51)
    have Z10 : n0 ≤ h10.size := by rw [z10]; exact Z9
    refine oPreE st10 ?_
    show oEndE p e s below T10 (mkF m 52 #[.val (.int p1), .val (.int p2), .val (.int p3), .unset, .unset, .unset, .unset] [(.ref b4)]) n0 1 16 (some (.int 1))
    refine oPreE (fun _ => XS.dup X10.here hx rfl (hb hby at_52) rfl rfl) ?_
    show oEndE p e s below T10 (mkF m 53 #[.val (.int p1), .val (.int p2), .val (.int p3), .unset, .unset, .unset, .unset] [(.ref b4), (.ref b4)]) n0 1 16 (some (.int 1))
    refine oPreE (fun _ => XS.bipush X10.here hx rfl (hb hby at_53)) ?_
    show oEndE p e s below T10 (mkF m 55 #[.val (.int p1), .val (.int p2), .val (.int p3), .unset, .unset, .unset, .unset] [(.int (9 : Int32)), (.ref b4), (.ref b4)]) n0 1 16 (some (.int 1))
    refine oPreE (fun _ => X10.ldcInt hx hown (mvT hZ (hw _ (List.mem_of_getElem? (i := 6) rfl))) (g := (mkF m 55 #[.val (.int p1), .val (.int p2), .val (.int p3), .unset, .unset, .unset, .unset] [(.int (9 : Int32)), (.ref b4), (.ref b4)])) rfl (hb hby at_55) _) ?_
    show oEndE p e s below T10 (mkF m 57 #[.val (.int p1), .val (.int p2), .val (.int p3), .unset, .unset, .unset, .unset] [(.int (65534 : Int32)), (.int (9 : Int32)), (.ref b4), (.ref b4)]) n0 1 16 (some (.int 1))
    obtain ⟨T11, h11, L11, X11, e11, V11, N11, z11, st11⟩ := oSt X10 hx hZ e10 V10 N10 hb4 (9 : Int32) (65534 : Int32) (by decide) (g := (mkF m 57 #[.val (.int p1), .val (.int p2), .val (.int p3), .unset, .unset, .unset, .unset] [(.int (65534 : Int32)), (.int (9 : Int32)), (.ref b4), (.ref b4)])) rfl (rest := [(.ref b4)]) rfl (hb hby at_57)
    have Z11 : n0 ≤ h11.size := by rw [z11]; exact Z10
    refine oPreE st11 ?_
    show oEndE p e s below T11 (mkF m 58 #[.val (.int p1), .val (.int p2), .val (.int p3), .unset, .unset, .unset, .unset] [(.ref b4)]) n0 1 16 (some (.int 1))
    refine oPreE (fun _ => XS.dup X11.here hx rfl (hb hby at_58) rfl rfl) ?_
    show oEndE p e s below T11 (mkF m 59 #[.val (.int p1), .val (.int p2), .val (.int p3), .unset, .unset, .unset, .unset] [(.ref b4), (.ref b4)]) n0 1 16 (some (.int 1))
    refine oPreE (fun _ => XS.bipush X11.here hx rfl (hb hby at_59)) ?_
    show oEndE p e s below T11 (mkF m 61 #[.val (.int p1), .val (.int p2), .val (.int p3), .unset, .unset, .unset, .unset] [(.int (10 : Int32)), (.ref b4), (.ref b4)]) n0 1 16 (some (.int 1))
    refine oPreE (fun _ => X11.ldcInt hx hown (mvT hZ (hw _ (List.mem_of_getElem? (i := 7) rfl))) (g := (mkF m 61 #[.val (.int p1), .val (.int p2), .val (.int p3), .unset, .unset, .unset, .unset] [(.int (10 : Int32)), (.ref b4), (.ref b4)])) rfl (hb hby at_61) _) ?_
    show oEndE p e s below T11 (mkF m 63 #[.val (.int p1), .val (.int p2), .val (.int p3), .unset, .unset, .unset, .unset] [(.int (65535 : Int32)), (.int (10 : Int32)), (.ref b4), (.ref b4)]) n0 1 16 (some (.int 1))
    obtain ⟨T12, h12, L12, X12, e12, V12, N12, z12, st12⟩ := oSt X11 hx hZ e11 V11 N11 hb4 (10 : Int32) (65535 : Int32) (by decide) (g := (mkF m 63 #[.val (.int p1), .val (.int p2), .val (.int p3), .unset, .unset, .unset, .unset] [(.int (65535 : Int32)), (.int (10 : Int32)), (.ref b4), (.ref b4)])) rfl (rest := [(.ref b4)]) rfl (hb hby at_63)
    have Z12 : n0 ≤ h12.size := by rw [z12]; exact Z11
    refine oPreE st12 ?_
    show oEndE p e s below T12 (mkF m 64 #[.val (.int p1), .val (.int p2), .val (.int p3), .unset, .unset, .unset, .unset] [(.ref b4)]) n0 1 16 (some (.int 1))
    refine oPreE (fun _ => XS.dup X12.here hx rfl (hb hby at_64) rfl rfl) ?_
    show oEndE p e s below T12 (mkF m 65 #[.val (.int p1), .val (.int p2), .val (.int p3), .unset, .unset, .unset, .unset] [(.ref b4), (.ref b4)]) n0 1 16 (some (.int 1))
    refine oPreE (fun _ => XS.bipush X12.here hx rfl (hb hby at_65)) ?_
    show oEndE p e s below T12 (mkF m 67 #[.val (.int p1), .val (.int p2), .val (.int p3), .unset, .unset, .unset, .unset] [(.int (11 : Int32)), (.ref b4), (.ref b4)]) n0 1 16 (some (.int 1))
    refine oPreE (fun _ => X12.ldcInt hx hown (mvT hZ (hw _ (List.mem_of_getElem? (i := 8) rfl))) (g := (mkF m 67 #[.val (.int p1), .val (.int p2), .val (.int p3), .unset, .unset, .unset, .unset] [(.int (11 : Int32)), (.ref b4), (.ref b4)])) rfl (hb hby at_67) _) ?_
    show oEndE p e s below T12 (mkF m 69 #[.val (.int p1), .val (.int p2), .val (.int p3), .unset, .unset, .unset, .unset] [(.int (65536 : Int32)), (.int (11 : Int32)), (.ref b4), (.ref b4)]) n0 1 16 (some (.int 1))
    obtain ⟨T13, h13, L13, X13, e13, V13, N13, z13, st13⟩ := oSt X12 hx hZ e12 V12 N12 hb4 (11 : Int32) (65536 : Int32) (by decide) (g := (mkF m 69 #[.val (.int p1), .val (.int p2), .val (.int p3), .unset, .unset, .unset, .unset] [(.int (65536 : Int32)), (.int (11 : Int32)), (.ref b4), (.ref b4)])) rfl (rest := [(.ref b4)]) rfl (hb hby at_69)
    have Z13 : n0 ≤ h13.size := by rw [z13]; exact Z12
    refine oPreE st13 ?_
    show oEndE p e s below T13 (mkF m 70 #[.val (.int p1), .val (.int p2), .val (.int p3), .unset, .unset, .unset, .unset] [(.ref b4)]) n0 1 16 (some (.int 1))
    refine oPreE (fun _ => XS.dup X13.here hx rfl (hb hby at_70) rfl rfl) ?_
    show oEndE p e s below T13 (mkF m 71 #[.val (.int p1), .val (.int p2), .val (.int p3), .unset, .unset, .unset, .unset] [(.ref b4), (.ref b4)]) n0 1 16 (some (.int 1))
    refine oPreE (fun _ => XS.bipush X13.here hx rfl (hb hby at_71)) ?_
    show oEndE p e s below T13 (mkF m 73 #[.val (.int p1), .val (.int p2), .val (.int p3), .unset, .unset, .unset, .unset] [(.int (12 : Int32)), (.ref b4), (.ref b4)]) n0 1 16 (some (.int 1))
    refine oPreE (fun _ => X13.ldcInt hx hown (mvT hZ (hw _ (List.mem_of_getElem? (i := 9) rfl))) (g := (mkF m 73 #[.val (.int p1), .val (.int p2), .val (.int p3), .unset, .unset, .unset, .unset] [(.int (12 : Int32)), (.ref b4), (.ref b4)])) rfl (hb hby at_73) _) ?_
    show oEndE p e s below T13 (mkF m 75 #[.val (.int p1), .val (.int p2), .val (.int p3), .unset, .unset, .unset, .unset] [(.int (1114111 : Int32)), (.int (12 : Int32)), (.ref b4), (.ref b4)]) n0 1 16 (some (.int 1))
    obtain ⟨T14, h14, L14, X14, e14, V14, N14, z14, st14⟩ := oSt X13 hx hZ e13 V13 N13 hb4 (12 : Int32) (1114111 : Int32) (by decide) (g := (mkF m 75 #[.val (.int p1), .val (.int p2), .val (.int p3), .unset, .unset, .unset, .unset] [(.int (1114111 : Int32)), (.int (12 : Int32)), (.ref b4), (.ref b4)])) rfl (rest := [(.ref b4)]) rfl (hb hby at_75)
    have Z14 : n0 ≤ h14.size := by rw [z14]; exact Z13
    refine oPreE st14 ?_
    show oEndE p e s below T14 (mkF m 76 #[.val (.int p1), .val (.int p2), .val (.int p3), .unset, .unset, .unset, .unset] [(.ref b4)]) n0 1 16 (some (.int 1))
    refine oPreE (fun _ => XS.dup X14.here hx rfl (hb hby at_76) rfl rfl) ?_
    show oEndE p e s below T14 (mkF m 77 #[.val (.int p1), .val (.int p2), .val (.int p3), .unset, .unset, .unset, .unset] [(.ref b4), (.ref b4)]) n0 1 16 (some (.int 1))
    refine oPreE (fun _ => XS.bipush X14.here hx rfl (hb hby at_77)) ?_
    show oEndE p e s below T14 (mkF m 79 #[.val (.int p1), .val (.int p2), .val (.int p3), .unset, .unset, .unset, .unset] [(.int (13 : Int32)), (.ref b4), (.ref b4)]) n0 1 16 (some (.int 1))
    refine oPreE (fun _ => X14.ldcInt hx hown (mvT hZ (hw _ (List.mem_of_getElem? (i := 10) rfl))) (g := (mkF m 79 #[.val (.int p1), .val (.int p2), .val (.int p3), .unset, .unset, .unset, .unset] [(.int (13 : Int32)), (.ref b4), (.ref b4)])) rfl (hb hby at_79) _) ?_
    show oEndE p e s below T14 (mkF m 81 #[.val (.int p1), .val (.int p2), .val (.int p3), .unset, .unset, .unset, .unset] [(.int (1114112 : Int32)), (.int (13 : Int32)), (.ref b4), (.ref b4)]) n0 1 16 (some (.int 1))
    obtain ⟨T15, h15, L15, X15, e15, V15, N15, z15, st15⟩ := oSt X14 hx hZ e14 V14 N14 hb4 (13 : Int32) (1114112 : Int32) (by decide) (g := (mkF m 81 #[.val (.int p1), .val (.int p2), .val (.int p3), .unset, .unset, .unset, .unset] [(.int (1114112 : Int32)), (.int (13 : Int32)), (.ref b4), (.ref b4)])) rfl (rest := [(.ref b4)]) rfl (hb hby at_81)
    have Z15 : n0 ≤ h15.size := by rw [z15]; exact Z14
    refine oPreE st15 ?_
    show oEndE p e s below T15 (mkF m 82 #[.val (.int p1), .val (.int p2), .val (.int p3), .unset, .unset, .unset, .unset] [(.ref b4)]) n0 1 16 (some (.int 1))
    refine oPreE (fun _ => XS.dup X15.here hx rfl (hb hby at_82) rfl rfl) ?_
    show oEndE p e s below T15 (mkF m 83 #[.val (.int p1), .val (.int p2), .val (.int p3), .unset, .unset, .unset, .unset] [(.ref b4), (.ref b4)]) n0 1 16 (some (.int 1))
    refine oPreE (fun _ => XS.bipush X15.here hx rfl (hb hby at_83)) ?_
    show oEndE p e s below T15 (mkF m 85 #[.val (.int p1), .val (.int p2), .val (.int p3), .unset, .unset, .unset, .unset] [(.int (14 : Int32)), (.ref b4), (.ref b4)]) n0 1 16 (some (.int 1))
    refine oPreE (fun _ => XS.iconst X15.here hx rfl (hb hby at_85)) ?_
    show oEndE p e s below T15 (mkF m 86 #[.val (.int p1), .val (.int p2), .val (.int p3), .unset, .unset, .unset, .unset] [(.int (0 : Int32)), (.int (14 : Int32)), (.ref b4), (.ref b4)]) n0 1 16 (some (.int 1))
    obtain ⟨T16, h16, L16, X16, e16, V16, N16, z16, st16⟩ := oSt X15 hx hZ e15 V15 N15 hb4 (14 : Int32) (0 : Int32) (by decide) (g := (mkF m 86 #[.val (.int p1), .val (.int p2), .val (.int p3), .unset, .unset, .unset, .unset] [(.int (0 : Int32)), (.int (14 : Int32)), (.ref b4), (.ref b4)])) rfl (rest := [(.ref b4)]) rfl (hb hby at_86)
    have Z16 : n0 ≤ h16.size := by rw [z16]; exact Z15
    refine oPreE st16 ?_
    show oEndE p e s below T16 (mkF m 87 #[.val (.int p1), .val (.int p2), .val (.int p3), .unset, .unset, .unset, .unset] [(.ref b4)]) n0 1 16 (some (.int 1))
    refine oPreE (fun _ => XS.dup X16.here hx rfl (hb hby at_87) rfl rfl) ?_
    show oEndE p e s below T16 (mkF m 88 #[.val (.int p1), .val (.int p2), .val (.int p3), .unset, .unset, .unset, .unset] [(.ref b4), (.ref b4)]) n0 1 16 (some (.int 1))
    refine oPreE (fun _ => XS.bipush X16.here hx rfl (hb hby at_88)) ?_
    show oEndE p e s below T16 (mkF m 90 #[.val (.int p1), .val (.int p2), .val (.int p3), .unset, .unset, .unset, .unset] [(.int (15 : Int32)), (.ref b4), (.ref b4)]) n0 1 16 (some (.int 1))
    refine oPreE (fun _ => X16.ldcInt hx hown (mvT hZ (hw _ (List.mem_of_getElem? (i := 11) rfl))) (g := (mkF m 90 #[.val (.int p1), .val (.int p2), .val (.int p3), .unset, .unset, .unset, .unset] [(.int (15 : Int32)), (.ref b4), (.ref b4)])) rfl (hb hby at_90) _) ?_
    show oEndE p e s below T16 (mkF m 92 #[.val (.int p1), .val (.int p2), .val (.int p3), .unset, .unset, .unset, .unset] [(.int (-2147483648 : Int32)), (.int (15 : Int32)), (.ref b4), (.ref b4)]) n0 1 16 (some (.int 1))
    obtain ⟨T17, h17, L17, X17, e17, V17, N17, z17, st17⟩ := oSt X16 hx hZ e16 V16 N16 hb4 (15 : Int32) (-2147483648 : Int32) (by decide) (g := (mkF m 92 #[.val (.int p1), .val (.int p2), .val (.int p3), .unset, .unset, .unset, .unset] [(.int (-2147483648 : Int32)), (.int (15 : Int32)), (.ref b4), (.ref b4)])) rfl (rest := [(.ref b4)]) rfl (hb hby at_92)
    have Z17 : n0 ≤ h17.size := by rw [z17]; exact Z16
    refine oPreE st17 ?_
    show oEndE p e s below T17 (mkF m 93 #[.val (.int p1), .val (.int p2), .val (.int p3), .unset, .unset, .unset, .unset] [(.ref b4)]) n0 1 16 (some (.int 1))
    refine oPreE (fun _ => XS.astoreN X17.here hx rfl (hb hby at_93) rfl rfl (l' := #[.val (.int p1), .val (.int p2), .val (.int p3), .val (.ref b4), .unset, .unset, .unset]) rfl) ?_
    show oEndE p e s below T17 (mkF m 94 #[.val (.int p1), .val (.int p2), .val (.int p3), .val (.ref b4), .unset, .unset, .unset] []) n0 1 16 (some (.int 1))
    refine oPreE (fun _ => XS.aloadN X17.here hx rfl (hb hby at_94) rfl rfl) ?_
    show oEndE p e s below T17 (mkF m 95 #[.val (.int p1), .val (.int p2), .val (.int p3), .val (.ref b4), .unset, .unset, .unset] [(.ref b4)]) n0 1 16 (some (.int 1))
    refine oPreE (fun _ => XS.iloadN X17.here hx rfl (hb hby at_95) rfl) ?_
    show oEndE p e s below T17 (mkF m 96 #[.val (.int p1), .val (.int p2), .val (.int p3), .val (.ref b4), .unset, .unset, .unset] [(.int p2), (.ref b4)]) n0 1 16 (some (.int 1))
    refine oPreE (fun _ => X17.ldcInt hx hown (mvT hZ (hw _ (List.mem_of_getElem? (i := 12) rfl))) (g := (mkF m 96 #[.val (.int p1), .val (.int p2), .val (.int p3), .val (.ref b4), .unset, .unset, .unset] [(.int p2), (.ref b4)])) rfl (hb hby at_96) _) ?_
    show oEndE p e s below T17 (mkF m 98 #[.val (.int p1), .val (.int p2), .val (.int p3), .val (.ref b4), .unset, .unset, .unset] [(.int (2147483647 : Int32)), (.int p2), (.ref b4)]) n0 1 16 (some (.int 1))
    refine oPreE (fun _ => XS.iand X17.here hx rfl (hb hby at_98) rfl) ?_
    show oEndE p e s below T17 (mkF m 99 #[.val (.int p1), .val (.int p2), .val (.int p3), .val (.ref b4), .unset, .unset, .unset] [(.int (p2 &&& (2147483647 : Int32))), (.ref b4)]) n0 1 16 (some (.int 1))
    refine oPreE (fun _ => XS.bipush X17.here hx rfl (hb hby at_99)) ?_
    show oEndE p e s below T17 (mkF m 101 #[.val (.int p1), .val (.int p2), .val (.int p3), .val (.ref b4), .unset, .unset, .unset] [(.int (16 : Int32)), (.int (p2 &&& (2147483647 : Int32))), (.ref b4)]) n0 1 16 (some (.int 1))
    refine oPreE (fun _ => XS.irem X17.here hx rfl (hb hby at_101) rfl (by decide)) ?_
    show oEndE p e s below T17 (mkF m 102 #[.val (.int p1), .val (.int p2), .val (.int p3), .val (.ref b4), .unset, .unset, .unset] [(.int ((p2 &&& (2147483647 : Int32)) - ((p2 &&& (2147483647 : Int32)) / (16 : Int32)) * (16 : Int32))), (.ref b4)]) n0 1 16 (some (.int 1))
    obtain ⟨cl, Ar, Sz, H⟩ := V17
    have hin := inb_of Sz (oIdx p2)
    obtain ⟨vj, hat⟩ := H (((p2 &&& (2147483647 : Int32)) - ((p2 &&& (2147483647 : Int32)) / (16 : Int32)) * (16 : Int32))).toNatClampNeg (by rw [← Sz]; exact Nat.lt_of_not_le fun q => hin (Or.inr q))
    refine oPreE (fun _ => X17.iaload hx (v := .int vj) (by rw [e17]; exact Ar.1) (State.isArrayOf_alike hZ.alike Ar.2.1) Ar.2.2 hin hat (g := (mkF m 102 #[.val (.int p1), .val (.int p2), .val (.int p3), .val (.ref b4), .unset, .unset, .unset] [(.int ((p2 &&& (2147483647 : Int32)) - ((p2 &&& (2147483647 : Int32)) / (16 : Int32)) * (16 : Int32))), (.ref b4)])) rfl rfl (hb hby at_102) _) ?_
    show oEndE p e s below T17 (mkF m 103 #[.val (.int p1), .val (.int p2), .val (.int p3), .val (.ref b4), .unset, .unset, .unset] [(.int vj)]) n0 1 16 (some (.int 1))
    refine oPreE (fun _ => XS.iloadN X17.here hx rfl (hb hby at_103) rfl) ?_
    show oEndE p e s below T17 (mkF m 104 #[.val (.int p1), .val (.int p2), .val (.int p3), .val (.ref b4), .unset, .unset, .unset] [(.int p3), (.int vj)]) n0 1 16 (some (.int 1))
    refine oPreE (fun _ => XS.iconst X17.here hx rfl (hb hby at_104)) ?_
    show oEndE p e s below T17 (mkF m 105 #[.val (.int p1), .val (.int p2), .val (.int p3), .val (.ref b4), .unset, .unset, .unset] [(.int (3 : Int32)), (.int p3), (.int vj)]) n0 1 16 (some (.int 1))
    refine oPreE (fun _ => XS.iand X17.here hx rfl (hb hby at_105) rfl) ?_
    show oEndE p e s below T17 (mkF m 106 #[.val (.int p1), .val (.int p2), .val (.int p3), .val (.ref b4), .unset, .unset, .unset] [(.int (p3 &&& (3 : Int32))), (.int vj)]) n0 1 16 (some (.int 1))
    refine oPreE (fun _ => XS.iconst X17.here hx rfl (hb hby at_106)) ?_
    show oEndE p e s below T17 (mkF m 107 #[.val (.int p1), .val (.int p2), .val (.int p3), .val (.ref b4), .unset, .unset, .unset] [(.int (1 : Int32)), (.int (p3 &&& (3 : Int32))), (.int vj)]) n0 1 16 (some (.int 1))
    refine oPreE (fun _ => XS.isub X17.here hx rfl (hb hby at_107) rfl) ?_
    show oEndE p e s below T17 (mkF m 108 #[.val (.int p1), .val (.int p2), .val (.int p3), .val (.ref b4), .unset, .unset, .unset] [(.int ((p3 &&& (3 : Int32)) - (1 : Int32))), (.int vj)]) n0 1 16 (some (.int 1))
    refine oPreE (fun _ => XS.iadd X17.here hx rfl (hb hby at_108) rfl) ?_
    show oEndE p e s below T17 (mkF m 109 #[.val (.int p1), .val (.int p2), .val (.int p3), .val (.ref b4), .unset, .unset, .unset] [(.int (vj + ((p3 &&& (3 : Int32)) - (1 : Int32))))]) n0 1 16 (some (.int 1))
    refine oPreE (fun _ => XS.istore X17.here hx rfl (hb hby at_109) rfl (l' := #[.val (.int p1), .val (.int p2), .val (.int p3), .val (.ref b4), .val (.int (vj + ((p3 &&& (3 : Int32)) - (1 : Int32)))), .unset, .unset]) rfl) ?_
    exact ⟨_, oB0_111 X17 hx hby hml0 Bd.returns Bd.notSynchronized hown hZ hw e17 N17 Z17 (by decide) (by decide) p1 p2 p3 b4 (vj + ((p3 &&& (3 : Int32)) - (1 : Int32))) (oLaw _ _ _ _ _)⟩
  obtain ⟨hh, t, L, hs, hrun, hended, hW, hsame, hN, ht⟩ := main
  exact ⟨t, _, castTop (ef_0 m p1 p2 p3) hs, hrun, hended, _, L, rfl, ⟨rfl, hN, trivial⟩, ⟨_, rfl⟩, hW, hsame.mono (by decide) (by decide)⟩
set_option maxRecDepth 65536 in
set_option maxHeartbeats 4000000 in
theorem comes_1 {Post : Tables → Env → Array Value → State → Outcome → State → Prop} (hpost : ∀ tb e args s v u, (limb_1_1.after args s (.returned v) u = true ∧ limb_1_2.after args s (.returned v) u = true ∧ True) → FrameEnd s (.returned v) u (Jvm.fieldLocs frame_1_writes args s ++ Jvm.arrayLocs frame_1_arrays args s ++ Jvm.staticLocs frame_1_statics s) 16 128 → Post tb e args s (.returned v) u) :
    ArmFor flags0 classFile x code maxLocals ret World_1 tables_1 room_1 Calls_1 rest_1 Pre_1 Post := by
  intro l hfl _ _ p e ha hc hk s m args below hf hA hF happ hP
  obtain ⟨hcalls, hrest, hpre⟩ := hP
  obtain ⟨-, -, -, hnamed, -, -, -, hat⟩ := (Spec.applies_iff hf).mp happ
  obtain ⟨hg, hn⟩ := and_e (Cond.before_iff.mp (show (Jvm.Cond.and given_1 narrow_1).before args s = true from hpre))
  obtain ⟨gc, gr0⟩ := and_e hg
  obtain ⟨g0, gr1⟩ := and_e gr0
  obtain ⟨g1, gr2⟩ := and_e gr1
  have g2 := gr2
  obtain ⟨w0, w1, w2, rfl⟩ : ∃ w0 w1 w2 : Value, args = #[w0, w1, w2] := by
    have hs : args.size = 3 := by simpa [Cond.value, given_1] using gc
    obtain ⟨L⟩ := args
    match L, hs with
    | [w0, w1, w2], _ => exact ⟨w0, w1, w2, rfl⟩
  have hw := fun d (hd : d ∈ tables_1) => atoms_spec (ws := Jvm.Cond.code x code maxLocals ret :: tables_1) hat d (List.mem_cons_of_mem _ hd)
  obtain ⟨i0, ei0⟩ := is_v g0
  obtain rfl : w0 = (.int i0) := Option.some.inj ei0
  obtain ⟨i1, ei1⟩ := is_v g1
  obtain rfl : w1 = (.int i1) := Option.some.inj ei1
  obtain ⟨i2, ei2⟩ := is_v g2
  obtain rfl : w2 = (.int i2) := Option.some.inj ei2
  obtain ⟨n, o, h1, h2, h3, _, L, rfl, ⟨rfl, N, -⟩, hq⟩ := oR0 l s _ hw tables_1 i0 i1 i2 s.heap s.heap.size (Nat.le_refl _) p e ha hc hk s m _ below hf ((Spec.applies_iff_loose hf).mp happ).1 ⟨rfl, State.Warmed39.refl s, rfl⟩ trivial
  refine ⟨n, _, h1, h2, h3, hpost _ _ _ _ _ _ ⟨Cond.after_iff.mpr rfl, Cond.after_iff.mpr (eq_i res_at (Term.int_eval (1)) rfl), trivial⟩ ⟨hq.1, hq.2.1, (hq.2.2.sift fun y hy => Or.inr (N y hy)).mono (by decide) (by decide)⟩⟩
theorem main_1_1 : Claimed_1_1 := comes_1 fun _ _ _ _ _ _ h hF => ⟨h.1, hF⟩
theorem main_1_2 : Claimed_1_2 := comes_1 fun _ _ _ _ _ _ h hF => ⟨h.2.1, hF⟩
end Jvm.Pilot.@@N@@
namespace Jvm.Pilot.@@N@@
open Jvm Jvm.ClassFile Sem Op Lib Jvm.Free Jvm.Stand Jvm.Pilot.@@N@@.Jvm.D
/-! MADE BY PROGRAM (witnessworld.py) out of the Statement's table words and the real class files: 9 classes; the members and pool entries that the words name. The judged class is class 1, her method 2. -/
namespace start1
open Jvm.ClassFile
def u (s : String) : CpInfo := .utf8 (stringToUtf16 s)
/-- a pool by its gaps: so many unusable entries, then the entry; so many at the end -/
def gap : Nat → List CpInfo → List CpInfo
  | 0, r => r
  | n + 1, r => .unusable :: gap n r
def poolList (es : List (Nat × CpInfo)) (last : Nat) : List CpInfo := es.foldr (fun e r => gap e.1 (e.2 :: r)) (gap last [])
def pool (es : List (Nat × CpInfo)) (last : Nat) : Array CpInfo := ⟨poolList es last⟩
def fileOf (pool : Array CpInfo) (this : Nat) (attrs : Array Attribute := #[]) (ms : Array MethodInfo := #[]) (fl : Nat := 33) (sup : Nat := 0) (ifs : Array Nat := #[]) (fds : Array FieldInfo := #[]) : ClassFile where
  minorVersion := 0
  majorVersion := 65
  constantPool := pool
  accessFlags := fl
  thisClass := this
  superClass := sup
  interfaces := ifs
  fields := fds
  methods := ms
  attributes := attrs
def plain (name : String) (sup : Option ClassId) : Class where
  name := name
  kind := .ordinary
  loader := none
  accessFlags := 33
  super := sup
  interfaces := #[]
  cf := none
  fields := #[]
  methods := #[]
  instanceTypes := #[]
  staticTypes := #[]
  resolved := #[]
  callSites := []
  init := .initialized
  statics := none
  mirror := none

def pool0 : Array CpInfo := pool [(5, u "<init>"), (0, u "()V"), (1, .class_ 10), (1, u "java/lang/Object")] 113

def k0m0 : Method := { name := "<init>", desc := "()V", sig := { parameters := [], returnType := none }, accessFlags := 1, code := none }
/-- java/lang/Object -/
def k0 : Class := { plain "java/lang/Object" none with
  accessFlags := 33
  interfaces := #[]
  cf := some (fileOf pool0 8 #[] #[{ accessFlags := 1, nameIndex := 5, descriptorIndex := 6, attributes := #[] }] 33 0 #[] #[])
  fields := #[]
  methods := #[k0m0]
  instanceTypes := #[]
  staticTypes := #[]
  resolved := Array.replicate 124 none
  statics := none }

def pool1 : Array CpInfo := pool [(2, .class_ 4), (1, u "java/lang/Object"), (0, u "<init>"), (0, u "()V"), (0, .integer 1114111), (0, .integer 55296), (0, .integer 57344), (0, .integer 65534), (0, .integer 65535), (0, .integer 55295), (0, .integer 57343), (0, .integer 65533), (0, .integer 65536), (0, .integer 1114112), (2, .integer 2147483648), (0, .integer 2147483647), (0, .methodref 22 23), (0, .class_ 24), (0, .nameAndType 25 26), (0, u "org/provenote/core/xml/XmlCharacters"), (0, u "isCharacter"), (0, u "(I)Z"), (0, .methodref 28 29), (0, .class_ 30), (0, .nameAndType 31 26), (0, u "org/provenote/core/xml/XmlCharactersIsCharacterPinLaw"), (0, u "ref"), (3, u "law"), (0, u "(III)Z")] 4

def k1m0 : Method := { name := "<init>", desc := "()V", sig := { parameters := [], returnType := none }, accessFlags := 2, code := none }
def k1c1 : Code := { maxStack := 2, maxLocals := 1, code := method_2_code, exceptionTable := #[], attributes := #[] }
def k1m1 : Method := { name := "ref", desc := "(I)Z", sig := { parameters := [.int], returnType := some .boolean }, accessFlags := 10, code := some k1c1 }
def k1c2 : Code := { maxStack := 4, maxLocals := 7, code := code, exceptionTable := #[], attributes := #[] }
def k1m2 : Method := { name := "law", desc := "(III)Z", sig := { parameters := [.int, .int, .int], returnType := some .boolean }, accessFlags := 9, code := some k1c2 }
/-- org/provenote/core/xml/XmlCharactersIsCharacterPinLaw -/
def k1 : Class := { plain "org/provenote/core/xml/XmlCharactersIsCharacterPinLaw" (some 0) with
  accessFlags := 49
  interfaces := #[]
  cf := some (fileOf pool1 28 #[] #[{ accessFlags := 2, nameIndex := 5, descriptorIndex := 6, attributes := #[] }, { accessFlags := 10, nameIndex := 31, descriptorIndex := 26, attributes := #[] }, { accessFlags := 9, nameIndex := 35, descriptorIndex := 36, attributes := #[] }] 49 2 #[] #[])
  fields := #[]
  methods := #[k1m0, k1m1, k1m2]
  instanceTypes := #[]
  staticTypes := #[]
  resolved := Array.replicate 41 none
  statics := none }

def pool2 : Array CpInfo := pool [(2, .class_ 4), (1, u "java/lang/Object"), (0, u "<init>"), (0, u "()V"), (0, .integer 55295), (0, .integer 57344), (0, .integer 65533), (0, .integer 65536), (2, .integer 1114111), (1, .class_ 17), (1, u "org/provenote/core/xml/XmlCharacters"), (0, u "isCharacter"), (0, u "(I)Z"), (6, u "NEXT_LINE"), (0, u "I")] 9

def k2m0 : Method := { name := "<init>", desc := "()V", sig := { parameters := [], returnType := none }, accessFlags := 2, code := none }
def k2c1 : Code := { maxStack := 2, maxLocals := 1, code := prog_98_method_3_code, exceptionTable := #[], attributes := #[] }
def k2m1 : Method := { name := "isCharacter", desc := "(I)Z", sig := { parameters := [.int], returnType := some .boolean }, accessFlags := 9, code := some k2c1 }
/-- org/provenote/core/xml/XmlCharacters -/
def k2 : Class := { plain "org/provenote/core/xml/XmlCharacters" (some 0) with
  accessFlags := 49
  interfaces := #[]
  cf := some (fileOf pool2 15 #[] #[{ accessFlags := 2, nameIndex := 5, descriptorIndex := 6, attributes := #[] }, { accessFlags := 9, nameIndex := 18, descriptorIndex := 19, attributes := #[] }] 49 2 #[] #[{ accessFlags := 24, nameIndex := 26, descriptorIndex := 27, attributes := #[] }])
  fields := #[{ name := "NEXT_LINE", type := .int, accessFlags := 24, slot := 0, constantValue := 0 }]
  methods := #[k2m0, k2m1]
  instanceTypes := #[]
  staticTypes := #[.int]
  resolved := Array.replicate 37 none
  statics := none }

def pool3 : Array CpInfo := pool [(1, u "java/lang/Cloneable"), (0, .class_ 1), (0, u "java/lang/Object"), (0, .class_ 3)] 3

/-- java/lang/Cloneable -/
def k3 : Class := { plain "java/lang/Cloneable" (some 0) with
  accessFlags := 1537
  interfaces := #[]
  cf := some (fileOf pool3 2 #[] #[] 1537 4 #[] #[])
  fields := #[]
  methods := #[]
  instanceTypes := #[]
  staticTypes := #[]
  resolved := Array.replicate 8 none
  statics := none }

def pool4 : Array CpInfo := pool [(1, u "java/io/Serializable"), (0, .class_ 1), (0, u "java/lang/Object"), (0, .class_ 3)] 3

/-- java/io/Serializable -/
def k4 : Class := { plain "java/io/Serializable" (some 0) with
  accessFlags := 1537
  interfaces := #[]
  cf := some (fileOf pool4 2 #[] #[] 1537 4 #[] #[])
  fields := #[]
  methods := #[]
  instanceTypes := #[]
  staticTypes := #[]
  resolved := Array.replicate 8 none
  statics := none }

/-- the primitive byte -/
def k5 : Class := { plain "byte" none with kind := .primitive 'B', accessFlags := 0x411 }
/-- [B -/
def k6 : Class := { plain "[B" (some 0) with kind := .array 5 .byte, interfaces := #[3, 4], accessFlags := 1041 }

/-- the primitive int -/
def k7 : Class := { plain "int" none with kind := .primitive 'I', accessFlags := 0x411 }
/-- [I -/
def k8 : Class := { plain "[I" (some 0) with kind := .array 7 .int, interfaces := #[3, 4], accessFlags := 1041 }

def heap : Heap := #[]
def classes : Array Class := #[k0, k1, k2, k3, k4, k5, k6, k7, k8]
def interned : List (Array UInt16 × Addr) := []
def slotsUsed : Nat := 0
def theMethod : MethodId := ⟨1, 2⟩
def args0 : Array Value := #[.int 5, .int 1, .int 2]
def aboutOver (below : List Frame) : State where
  vm := { classes := classes, interned := interned.toArray }
  heap := heap
  slotsUsed := slotsUsed
  threads := #[{ frames := .invoking theMethod args0 :: below }]
def below0 : List Frame := [.native { method := ⟨0, 0⟩, args := #[] }]
def about1 : State := aboutOver below0
def p0 : Program := .bare "" "" ""
def e0 : Env := launch0.env 0 0 0
theorem w_frames : about1.frames = Frame.invoking theMethod args0 :: below0 := rfl
set_option maxRecDepth 65536 in
theorem w_args : argsFit about1.vm theMethod args0 = true := by decide +kernel
set_option maxRecDepth 65536 in
theorem w_heap : heapFits about1 = true := by decide +kernel
set_option maxRecDepth 65536 in
theorem w_runnable : about1.curStatus? = some .runnable := by decide +kernel
set_option maxRecDepth 65536 in
theorem w_alone : about1.alone = true := by decide +kernel
set_option maxRecDepth 65536 in
theorem w_named : about1.methodNamed? x = some theMethod := by decide +kernel
set_option maxRecDepth 65536 in
theorem w_hears : about1.hears theMethod below0 = true := by decide +kernel
set_option maxRecDepth 65536 in
theorem w_ripe : about1.ripe theMethod args0 below0 = true := by decide +kernel
theorem w_running : about1.status = .running := rfl
set_option maxRecDepth 65536 in
theorem w_room : about1.hasRoom e0.platform room_1 = true :=
  launch0.hasRoom_least _ room_1 (by decide +kernel) (by decide +kernel) (by decide +kernel) (by decide +kernel) (by decide +kernel) (by decide +kernel)
theorem allAtoms_all (ts : List Jvm.Cond) (a : Array Jvm.Value) (st : Jvm.State) : (allAtoms ts).before a st = ts.all (fun c => c.before a st) := by
  induction ts with
  | nil => rfl
  | cons c t ih =>
    show (Jvm.Cond.and c (allAtoms t)).before a st = _
    rw [Jvm.Cond.before_and, ih, List.all_cons]
def words1 : List Jvm.Cond := Jvm.Cond.code x code maxLocals ret :: tables_1
/-- a 'code' word, met by the world's own term for the bytes: nothing is compared byte by byte -/
theorem code_word {y : MethodName} {bytes : ByteArray} {mx : Nat} {rt : Option FieldType} {a : Array Value} {s : State} {m : MethodId} {meth : Method} {c : Code} (h1 : s.methodNamed? y = some m) (h2 : s.vm.method? m = some meth) (h3 : meth.code = some c) (h4 : c.code = bytes)
    (h5 : (c.maxLocals == mx && c.exceptionTable.isEmpty && decide (c.maxStack ≤ mostOperands) && decide (meth.sig.returnType = rt) && !meth.locks && decide (parseMethodDescriptor y.desc = some meth.sig)) = true) : (Jvm.Cond.code y bytes mx rt).before a s = true := by
  simp only [Bool.and_eq_true, beq_iff_eq, Bool.not_eq_true', decide_eq_true_eq] at h5
  obtain ⟨⟨⟨⟨⟨g1, g2⟩, g3⟩, g4⟩, g5⟩, g6⟩ := h5
  simp [Cond.before, Cond.holds, Cond.value, h1, h2, h3, h4, g1, g2, g3, g4, g5, g6]
def isCode : Jvm.Cond → Bool
  | .code _ _ _ _ => true
  | _ => false
theorem all_split {L : List Jvm.Cond} {P : Jvm.Cond → Bool} (h1 : L.all (fun c => isCode c || P c) = true) (h2 : ∀ c ∈ L.filter isCode, P c = true) : L.all P = true := by
  refine List.all_eq_true.mpr fun c hc => ?_
  have h := List.all_eq_true.mp h1 c hc
  rcases Bool.eq_false_or_eq_true (isCode c) with hi | hi
  · exact h2 c (List.mem_filter.mpr ⟨hc, hi⟩)
  · simpa [hi] using h
set_option maxRecDepth 65536 in
theorem w_c0 : (Jvm.Cond.code x code maxLocals ret).before args0 about1 = true := code_word (m := ⟨1, 2⟩) (meth := k1m2) (c := k1c2) (by decide +kernel) rfl rfl rfl (by decide +kernel)
set_option maxRecDepth 65536 in
theorem w_c1 : (Jvm.Cond.code ({ cls := "org/provenote/core/xml/XmlCharacters", name := "isCharacter", desc := "(I)Z" } : Jvm.MethodName) prog_98_method_3_code (1 : Nat) (Option.some Jvm.ClassFile.FieldType.boolean)).before args0 about1 = true := code_word (m := ⟨2, 1⟩) (meth := k2m1) (c := k2c1) (by decide +kernel) rfl rfl rfl (by decide +kernel)
set_option maxRecDepth 65536 in
theorem w_c2 : (Jvm.Cond.code ({ cls := "org/provenote/core/xml/XmlCharactersIsCharacterPinLaw", name := "ref", desc := "(I)Z" } : Jvm.MethodName) method_2_code (1 : Nat) (Option.some Jvm.ClassFile.FieldType.boolean)).before args0 about1 = true := code_word (m := ⟨1, 1⟩) (meth := k1m1) (c := k1c1) (by decide +kernel) rfl rfl rfl (by decide +kernel)
def codes1 : List Jvm.Cond := [Jvm.Cond.code x code maxLocals ret, Jvm.Cond.code ({ cls := "org/provenote/core/xml/XmlCharacters", name := "isCharacter", desc := "(I)Z" } : Jvm.MethodName) prog_98_method_3_code (1 : Nat) (Option.some Jvm.ClassFile.FieldType.boolean), Jvm.Cond.code ({ cls := "org/provenote/core/xml/XmlCharactersIsCharacterPinLaw", name := "ref", desc := "(I)Z" } : Jvm.MethodName) method_2_code (1 : Nat) (Option.some Jvm.ClassFile.FieldType.boolean)]
set_option maxRecDepth 65536 in
theorem codes_eq : words1.filter isCode = codes1 := rfl
theorem w_codes : ∀ c ∈ words1.filter isCode, c.before args0 about1 = true := by
  rw [codes_eq]
  intro c hc
  simp only [codes1, List.mem_cons, List.not_mem_nil, or_false] at hc
  rcases hc with rfl | rfl | rfl
  · exact w_c0
  · exact w_c1
  · exact w_c2
set_option maxRecDepth 65536 in
theorem w_t1 : (words1.take 24).all (fun c => isCode c || c.before args0 about1) = true := by decide +kernel
set_option maxRecDepth 65536 in
theorem w_t2 : (words1.drop 24).all (fun c => isCode c || c.before args0 about1) = true := by decide +kernel
theorem w_tables : (allAtoms (Jvm.Cond.code x code maxLocals ret :: tables_1)).before args0 about1 = true := by
  rw [allAtoms_all]
  show words1.all (fun c => c.before args0 about1) = true
  refine all_split ?_ w_codes
  rw [← List.take_append_drop 24 words1, List.all_append, w_t1, w_t2]
  rfl
set_option maxRecDepth 65536 in
theorem w_case : (Jvm.Cond.and given_1 narrow_1).before args0 about1 = true := by decide +kernel
theorem w_applies : (headSpec (Jvm.Cond.code x code maxLocals ret :: tables_1) room_1).applies x e0.platform about1 = true :=
  (Spec.applies_iff w_frames).mpr ⟨w_running, w_runnable, w_alone, w_named, w_hears, w_ripe, w_room, w_tables⟩
theorem atStart : AtStart classFile x code maxLocals ret World_1 tables_1 room_1 Calls_1 rest_1 Pre_1 launch0 p0 e0 about1 theMethod args0 below0 :=
  ⟨lists_1, trivial, launch0.admits_env _ _ _, launch0.least_env, fairChoices_fair.cas, fairChoices_fair.clock, w_frames, w_args, w_heap, w_applies, trivial, trivial, w_case⟩
end start1
theorem witness_1 : WitnessClaimed_1 := ⟨start1.p0, start1.e0, start1.about1, start1.theMethod, start1.args0, start1.below0, start1.atStart⟩
end Jvm.Pilot.@@N@@
