import JvmDerived
import JvmDerived.Pilot.@@N@@Statement
import JvmDerived.Pilot.@@N@@Code
set_option linter.unusedVariables false
set_option linter.unusedSimpArgs false
namespace Jvm.Pilot.@@N@@
open Jvm Jvm.ClassFile Sem Op Lib Jvm.Free Jvm.Stand Jvm.LawKit Jvm.RoadKit Bundle Jvm.Pilot.@@N@@.Jvm.D
/-- the run from frame g of state T ends, returns w, leaves heap h and writes new cells alone -/
def oEnd (p : Program) (e : Env) (s : State) (below : List Frame) (T : State) (g : JFrame) (n0 : Nat) (h : Heap) (cells slots : Nat) (w : Option Value) : Prop :=
  ∃ t L, Steps p.tables e below (T.setTop g) t ∧ t.status = .running ∧ Ended t below (.returned w) ∧ s.WarmedH t.vm ∧ s.sameButNew ({ t with vm := s.vm } : State) L cells slots ∧ Fr n0 L ∧ t.heap = h
theorem oPre {p : Program} {e : Env} {s : State} {below : List Frame} {T T' : State} {g g' : JFrame} {n0 : Nat} {h : Heap} {cells slots : Nat} {w : Option Value}
    (k : ∀ target, Steps p.tables e below (T'.setTop g') target → Steps p.tables e below (T.setTop g) target) (q : oEnd p e s below T' g' n0 h cells slots w) : oEnd p e s below T g n0 h cells slots w := by
  obtain ⟨t, L, hs, r⟩ := q
  exact ⟨t, L, k t hs, r⟩
def oI2c (x : Int32) : Int32 := x.toUInt32.toUInt16.toUInt32.toInt32

theorem d1_0 : decode prog_252_method_6_code 0 = .ok (.iload_n 0, 1) := by decide +kernel
theorem d1_1 : decode prog_252_method_6_code 1 = .ok (.iconst 1, 1) := by decide +kernel
theorem d1_2 : decode prog_252_method_6_code 2 = .ok (.if_icmp .lt 9, 3) := by decide +kernel
theorem d1_5 : decode prog_252_method_6_code 5 = .ok (.iload_n 0, 1) := by decide +kernel
theorem d1_6 : decode prog_252_method_6_code 6 = .ok (.bipush 8, 2) := by decide +kernel
theorem d1_8 : decode prog_252_method_6_code 8 = .ok (.if_icmp .le 47, 3) := by decide +kernel
theorem d1_11 : decode prog_252_method_6_code 11 = .ok (.iload_n 0, 1) := by decide +kernel
theorem d1_12 : decode prog_252_method_6_code 12 = .ok (.bipush 11, 2) := by decide +kernel
theorem d1_14 : decode prog_252_method_6_code 14 = .ok (.if_icmp .eq 41, 3) := by decide +kernel
theorem d1_17 : decode prog_252_method_6_code 17 = .ok (.iload_n 0, 1) := by decide +kernel
theorem d1_18 : decode prog_252_method_6_code 18 = .ok (.bipush 12, 2) := by decide +kernel
theorem d1_20 : decode prog_252_method_6_code 20 = .ok (.if_icmp .eq 35, 3) := by decide +kernel
theorem d1_23 : decode prog_252_method_6_code 23 = .ok (.iload_n 0, 1) := by decide +kernel
theorem d1_24 : decode prog_252_method_6_code 24 = .ok (.bipush 14, 2) := by decide +kernel
theorem d1_26 : decode prog_252_method_6_code 26 = .ok (.if_icmp .lt 9, 3) := by decide +kernel
theorem d1_29 : decode prog_252_method_6_code 29 = .ok (.iload_n 0, 1) := by decide +kernel
theorem d1_30 : decode prog_252_method_6_code 30 = .ok (.bipush 31, 2) := by decide +kernel
theorem d1_32 : decode prog_252_method_6_code 32 = .ok (.if_icmp .le 23, 3) := by decide +kernel
theorem d1_35 : decode prog_252_method_6_code 35 = .ok (.iload_n 0, 1) := by decide +kernel
theorem d1_36 : decode prog_252_method_6_code 36 = .ok (.bipush 127, 2) := by decide +kernel
theorem d1_38 : decode prog_252_method_6_code 38 = .ok (.if_icmp .lt 10, 3) := by decide +kernel
theorem d1_41 : decode prog_252_method_6_code 41 = .ok (.iload_n 0, 1) := by decide +kernel
theorem d1_42 : decode prog_252_method_6_code 42 = .ok (.sipush 159, 3) := by decide +kernel
theorem d1_45 : decode prog_252_method_6_code 45 = .ok (.if_icmp .le 10, 3) := by decide +kernel
theorem d1_48 : decode prog_252_method_6_code 48 = .ok (.iload_n 0, 1) := by decide +kernel
theorem d1_49 : decode prog_252_method_6_code 49 = .ok (.sipush 8232, 3) := by decide +kernel
theorem d1_52 : decode prog_252_method_6_code 52 = .ok (.if_icmp .ne 7, 3) := by decide +kernel
theorem d1_55 : decode prog_252_method_6_code 55 = .ok (.iconst 1, 1) := by decide +kernel
theorem d1_56 : decode prog_252_method_6_code 56 = .ok (.goto 4, 3) := by decide +kernel
theorem d1_59 : decode prog_252_method_6_code 59 = .ok (.iconst 0, 1) := by decide +kernel
theorem d1_60 : decode prog_252_method_6_code 60 = .ok (.ireturn, 1) := by decide +kernel
def oF1_60 (p1 : Int32) (q1 : Int32) : Int32 := (q1 &&& 1)
set_option maxRecDepth 65536 in
set_option maxHeartbeats 4000000 in
theorem oB1_60 {p : Program} {l : Launch} {e : Env} {s : State} {m : MethodId} {args : Array Value} {below : List Frame} {meth : Method} {c : Code} {T : State} {locs : List Loc} {cells slots : Nat} {Z : State} {a0 : Array Value} {h0 : Heap} {n0 : Nat} (X : Stand p l e ({ frames := 0, cells := 0, slots := 0, locals := 0 } : Room) s m args below meth c T locs cells slots) (hx : p.tables.exec = Jvm.exec) (hby : c.code = prog_252_method_6_code) (hml : c.maxLocals = 1) (hret : meth.sig.returnType = some .boolean) (hlk : meth.locks = false) (hown : s.vm.findClass "com/example/wary_query/waryquery/model/XmlCharacters" = some m.cls) (hZ : Z.Warmed39 s.vm) (hw : ∀ d ∈ tables_1, d.before a0 Z = true) (eT : T.heap = h0) (N : Fr n0 locs) (Z0 : n0 ≤ h0.size) (hcs : cells ≤ ({ frames := 0, cells := 0, slots := 0, locals := 0 } : Room).cells) (hss : slots ≤ ({ frames := 0, cells := 0, slots := 0, locals := 0 } : Room).slots) (p1 : Int32) (q1 : Int32) {w : Int32} (hv : oF1_60 p1 q1 = w) : oEnd p e s below T (mkF m 60 #[.val (.int p1)] [(.int q1)]) n0 h0 cells slots (some (.int w)) := by
  show oEnd p e s below T (mkF m 60 #[.val (.int p1)] [(.int q1)]) n0 h0 cells slots (some (.int w))
  subst hv
  obtain ⟨fs, hr, hrun, hended, hW, hsame⟩ := X.leave (v := some (.int (q1 &&& 1))) (fun h => by rw [hret] at h; cases h) hlk
  exact ⟨_, _, retN X hx (t := .boolean) hret (by simp) (hb hby d1_60) hr, hrun, hended, hW, hsame, N, eT⟩
def oF1_55 (p1 : Int32) : Int32 := (oF1_60 p1 (1 : Int32))
set_option maxRecDepth 65536 in
set_option maxHeartbeats 4000000 in
theorem oB1_55 {p : Program} {l : Launch} {e : Env} {s : State} {m : MethodId} {args : Array Value} {below : List Frame} {meth : Method} {c : Code} {T : State} {locs : List Loc} {cells slots : Nat} {Z : State} {a0 : Array Value} {h0 : Heap} {n0 : Nat} (X : Stand p l e ({ frames := 0, cells := 0, slots := 0, locals := 0 } : Room) s m args below meth c T locs cells slots) (hx : p.tables.exec = Jvm.exec) (hby : c.code = prog_252_method_6_code) (hml : c.maxLocals = 1) (hret : meth.sig.returnType = some .boolean) (hlk : meth.locks = false) (hown : s.vm.findClass "com/example/wary_query/waryquery/model/XmlCharacters" = some m.cls) (hZ : Z.Warmed39 s.vm) (hw : ∀ d ∈ tables_1, d.before a0 Z = true) (eT : T.heap = h0) (N : Fr n0 locs) (Z0 : n0 ≤ h0.size) (hcs : cells ≤ ({ frames := 0, cells := 0, slots := 0, locals := 0 } : Room).cells) (hss : slots ≤ ({ frames := 0, cells := 0, slots := 0, locals := 0 } : Room).slots) (p1 : Int32) {w : Int32} (hv : oF1_55 p1 = w) : oEnd p e s below T (mkF m 55 #[.val (.int p1)] []) n0 h0 cells slots (some (.int w)) := by
  show oEnd p e s below T (mkF m 55 #[.val (.int p1)] []) n0 h0 cells slots (some (.int w))
  refine oPre (fun _ => XS.iconst X.here hx rfl (hb hby d1_55)) ?_
  show oEnd p e s below T (mkF m 56 #[.val (.int p1)] [(.int (1 : Int32))]) n0 h0 cells slots (some (.int w))
  refine oPre (fun _ => XS.goto X.here hx rfl (pc0 := 56) (pc' := 60) rfl (hb hby d1_56) (by decide) (by decide)) ?_
  exact oB1_60 X hx hby hml hret hlk hown hZ hw eT N Z0 hcs hss p1 (1 : Int32) hv
def oF1_48 (p1 : Int32) : Int32 := (if p1 = (8232 : Int32) then (oF1_55 p1) else (oF1_60 p1 (0 : Int32)))
set_option maxRecDepth 65536 in
set_option maxHeartbeats 4000000 in
theorem oB1_48 {p : Program} {l : Launch} {e : Env} {s : State} {m : MethodId} {args : Array Value} {below : List Frame} {meth : Method} {c : Code} {T : State} {locs : List Loc} {cells slots : Nat} {Z : State} {a0 : Array Value} {h0 : Heap} {n0 : Nat} (X : Stand p l e ({ frames := 0, cells := 0, slots := 0, locals := 0 } : Room) s m args below meth c T locs cells slots) (hx : p.tables.exec = Jvm.exec) (hby : c.code = prog_252_method_6_code) (hml : c.maxLocals = 1) (hret : meth.sig.returnType = some .boolean) (hlk : meth.locks = false) (hown : s.vm.findClass "com/example/wary_query/waryquery/model/XmlCharacters" = some m.cls) (hZ : Z.Warmed39 s.vm) (hw : ∀ d ∈ tables_1, d.before a0 Z = true) (eT : T.heap = h0) (N : Fr n0 locs) (Z0 : n0 ≤ h0.size) (hcs : cells ≤ ({ frames := 0, cells := 0, slots := 0, locals := 0 } : Room).cells) (hss : slots ≤ ({ frames := 0, cells := 0, slots := 0, locals := 0 } : Room).slots) (p1 : Int32) {w : Int32} (hv : oF1_48 p1 = w) : oEnd p e s below T (mkF m 48 #[.val (.int p1)] []) n0 h0 cells slots (some (.int w)) := by
  show oEnd p e s below T (mkF m 48 #[.val (.int p1)] []) n0 h0 cells slots (some (.int w))
  refine oPre (fun _ => XS.iloadN X.here hx rfl (hb hby d1_48) rfl) ?_
  show oEnd p e s below T (mkF m 49 #[.val (.int p1)] [(.int p1)]) n0 h0 cells slots (some (.int w))
  refine oPre (fun _ => XS.sipush X.here hx rfl (hb hby d1_49)) ?_
  show oEnd p e s below T (mkF m 52 #[.val (.int p1)] [(.int (8232 : Int32)), (.int p1)]) n0 h0 cells slots (some (.int w))
  by_cases h52 : p1 = (8232 : Int32)
  · have v52 : (oF1_55 p1) = w := (if_pos h52).symm.trans hv
    refine oPre (fun _ => XS.icmpNo X.here hx rfl (hb hby d1_52) rfl (((teq h52).2))) ?_
    exact oB1_55 X hx hby hml hret hlk hown hZ hw eT N Z0 hcs hss p1 v52
  · have v52 : (oF1_60 p1 (0 : Int32)) = w := (if_neg h52).symm.trans hv
    refine oPre (fun _ => XS.icmpYes X.here hx rfl (pc0 := 52) (pc' := 59) rfl (hb hby d1_52) rfl (((feq h52).2)) (by decide) (by decide)) ?_
    show oEnd p e s below T (mkF m 59 #[.val (.int p1)] []) n0 h0 cells slots (some (.int w))
    refine oPre (fun _ => XS.iconst X.here hx rfl (hb hby d1_59)) ?_
    exact oB1_60 X hx hby hml hret hlk hown hZ hw eT N Z0 hcs hss p1 (0 : Int32) v52
def oF1_35 (p1 : Int32) : Int32 := (if p1 < (127 : Int32) then (oF1_48 p1) else (if (159 : Int32) < p1 then (oF1_48 p1) else (oF1_55 p1)))
set_option maxRecDepth 65536 in
set_option maxHeartbeats 4000000 in
theorem oB1_35 {p : Program} {l : Launch} {e : Env} {s : State} {m : MethodId} {args : Array Value} {below : List Frame} {meth : Method} {c : Code} {T : State} {locs : List Loc} {cells slots : Nat} {Z : State} {a0 : Array Value} {h0 : Heap} {n0 : Nat} (X : Stand p l e ({ frames := 0, cells := 0, slots := 0, locals := 0 } : Room) s m args below meth c T locs cells slots) (hx : p.tables.exec = Jvm.exec) (hby : c.code = prog_252_method_6_code) (hml : c.maxLocals = 1) (hret : meth.sig.returnType = some .boolean) (hlk : meth.locks = false) (hown : s.vm.findClass "com/example/wary_query/waryquery/model/XmlCharacters" = some m.cls) (hZ : Z.Warmed39 s.vm) (hw : ∀ d ∈ tables_1, d.before a0 Z = true) (eT : T.heap = h0) (N : Fr n0 locs) (Z0 : n0 ≤ h0.size) (hcs : cells ≤ ({ frames := 0, cells := 0, slots := 0, locals := 0 } : Room).cells) (hss : slots ≤ ({ frames := 0, cells := 0, slots := 0, locals := 0 } : Room).slots) (p1 : Int32) {w : Int32} (hv : oF1_35 p1 = w) : oEnd p e s below T (mkF m 35 #[.val (.int p1)] []) n0 h0 cells slots (some (.int w)) := by
  show oEnd p e s below T (mkF m 35 #[.val (.int p1)] []) n0 h0 cells slots (some (.int w))
  refine oPre (fun _ => XS.iloadN X.here hx rfl (hb hby d1_35) rfl) ?_
  show oEnd p e s below T (mkF m 36 #[.val (.int p1)] [(.int p1)]) n0 h0 cells slots (some (.int w))
  refine oPre (fun _ => XS.bipush X.here hx rfl (hb hby d1_36)) ?_
  show oEnd p e s below T (mkF m 38 #[.val (.int p1)] [(.int (127 : Int32)), (.int p1)]) n0 h0 cells slots (some (.int w))
  by_cases h38 : p1 < (127 : Int32)
  · have v38 : (oF1_48 p1) = w := (if_pos h38).symm.trans hv
    refine oPre (fun _ => XS.icmpYes X.here hx rfl (pc0 := 38) (pc' := 48) rfl (hb hby d1_38) rfl (((tlt h38).1)) (by decide) (by decide)) ?_
    exact oB1_48 X hx hby hml hret hlk hown hZ hw eT N Z0 hcs hss p1 v38
  · have v38 : (if (159 : Int32) < p1 then (oF1_48 p1) else (oF1_55 p1)) = w := (if_neg h38).symm.trans hv
    refine oPre (fun _ => XS.icmpNo X.here hx rfl (hb hby d1_38) rfl (((flt h38).1))) ?_
    show oEnd p e s below T (mkF m 41 #[.val (.int p1)] []) n0 h0 cells slots (some (.int w))
    refine oPre (fun _ => XS.iloadN X.here hx rfl (hb hby d1_41) rfl) ?_
    show oEnd p e s below T (mkF m 42 #[.val (.int p1)] [(.int p1)]) n0 h0 cells slots (some (.int w))
    refine oPre (fun _ => XS.sipush X.here hx rfl (hb hby d1_42)) ?_
    show oEnd p e s below T (mkF m 45 #[.val (.int p1)] [(.int (159 : Int32)), (.int p1)]) n0 h0 cells slots (some (.int w))
    by_cases h45 : (159 : Int32) < p1
    · have v45 : (oF1_48 p1) = w := (if_pos h45).symm.trans v38
      refine oPre (fun _ => XS.icmpNo X.here hx rfl (hb hby d1_45) rfl (((tlt h45).2.2.2))) ?_
      exact oB1_48 X hx hby hml hret hlk hown hZ hw eT N Z0 hcs hss p1 v45
    · have v45 : (oF1_55 p1) = w := (if_neg h45).symm.trans v38
      refine oPre (fun _ => XS.icmpYes X.here hx rfl (pc0 := 45) (pc' := 55) rfl (hb hby d1_45) rfl (((flt h45).2.2.2)) (by decide) (by decide)) ?_
      exact oB1_55 X hx hby hml hret hlk hown hZ hw eT N Z0 hcs hss p1 v45
def oF1_11 (p1 : Int32) : Int32 := (if p1 = (11 : Int32) then (oF1_55 p1) else (if p1 = (12 : Int32) then (oF1_55 p1) else (if p1 < (14 : Int32) then (oF1_35 p1) else (if (31 : Int32) < p1 then (oF1_35 p1) else (oF1_55 p1)))))
set_option maxRecDepth 65536 in
set_option maxHeartbeats 4000000 in
theorem oB1_11 {p : Program} {l : Launch} {e : Env} {s : State} {m : MethodId} {args : Array Value} {below : List Frame} {meth : Method} {c : Code} {T : State} {locs : List Loc} {cells slots : Nat} {Z : State} {a0 : Array Value} {h0 : Heap} {n0 : Nat} (X : Stand p l e ({ frames := 0, cells := 0, slots := 0, locals := 0 } : Room) s m args below meth c T locs cells slots) (hx : p.tables.exec = Jvm.exec) (hby : c.code = prog_252_method_6_code) (hml : c.maxLocals = 1) (hret : meth.sig.returnType = some .boolean) (hlk : meth.locks = false) (hown : s.vm.findClass "com/example/wary_query/waryquery/model/XmlCharacters" = some m.cls) (hZ : Z.Warmed39 s.vm) (hw : ∀ d ∈ tables_1, d.before a0 Z = true) (eT : T.heap = h0) (N : Fr n0 locs) (Z0 : n0 ≤ h0.size) (hcs : cells ≤ ({ frames := 0, cells := 0, slots := 0, locals := 0 } : Room).cells) (hss : slots ≤ ({ frames := 0, cells := 0, slots := 0, locals := 0 } : Room).slots) (p1 : Int32) {w : Int32} (hv : oF1_11 p1 = w) : oEnd p e s below T (mkF m 11 #[.val (.int p1)] []) n0 h0 cells slots (some (.int w)) := by
  show oEnd p e s below T (mkF m 11 #[.val (.int p1)] []) n0 h0 cells slots (some (.int w))
  refine oPre (fun _ => XS.iloadN X.here hx rfl (hb hby d1_11) rfl) ?_
  show oEnd p e s below T (mkF m 12 #[.val (.int p1)] [(.int p1)]) n0 h0 cells slots (some (.int w))
  refine oPre (fun _ => XS.bipush X.here hx rfl (hb hby d1_12)) ?_
  show oEnd p e s below T (mkF m 14 #[.val (.int p1)] [(.int (11 : Int32)), (.int p1)]) n0 h0 cells slots (some (.int w))
  by_cases h14 : p1 = (11 : Int32)
  · have v14 : (oF1_55 p1) = w := (if_pos h14).symm.trans hv
    refine oPre (fun _ => XS.icmpYes X.here hx rfl (pc0 := 14) (pc' := 55) rfl (hb hby d1_14) rfl (((teq h14).1)) (by decide) (by decide)) ?_
    exact oB1_55 X hx hby hml hret hlk hown hZ hw eT N Z0 hcs hss p1 v14
  · have v14 : (if p1 = (12 : Int32) then (oF1_55 p1) else (if p1 < (14 : Int32) then (oF1_35 p1) else (if (31 : Int32) < p1 then (oF1_35 p1) else (oF1_55 p1)))) = w := (if_neg h14).symm.trans hv
    refine oPre (fun _ => XS.icmpNo X.here hx rfl (hb hby d1_14) rfl (((feq h14).1))) ?_
    show oEnd p e s below T (mkF m 17 #[.val (.int p1)] []) n0 h0 cells slots (some (.int w))
    refine oPre (fun _ => XS.iloadN X.here hx rfl (hb hby d1_17) rfl) ?_
    show oEnd p e s below T (mkF m 18 #[.val (.int p1)] [(.int p1)]) n0 h0 cells slots (some (.int w))
    refine oPre (fun _ => XS.bipush X.here hx rfl (hb hby d1_18)) ?_
    show oEnd p e s below T (mkF m 20 #[.val (.int p1)] [(.int (12 : Int32)), (.int p1)]) n0 h0 cells slots (some (.int w))
    by_cases h20 : p1 = (12 : Int32)
    · have v20 : (oF1_55 p1) = w := (if_pos h20).symm.trans v14
      refine oPre (fun _ => XS.icmpYes X.here hx rfl (pc0 := 20) (pc' := 55) rfl (hb hby d1_20) rfl (((teq h20).1)) (by decide) (by decide)) ?_
      exact oB1_55 X hx hby hml hret hlk hown hZ hw eT N Z0 hcs hss p1 v20
    · have v20 : (if p1 < (14 : Int32) then (oF1_35 p1) else (if (31 : Int32) < p1 then (oF1_35 p1) else (oF1_55 p1))) = w := (if_neg h20).symm.trans v14
      refine oPre (fun _ => XS.icmpNo X.here hx rfl (hb hby d1_20) rfl (((feq h20).1))) ?_
      show oEnd p e s below T (mkF m 23 #[.val (.int p1)] []) n0 h0 cells slots (some (.int w))
      refine oPre (fun _ => XS.iloadN X.here hx rfl (hb hby d1_23) rfl) ?_
      show oEnd p e s below T (mkF m 24 #[.val (.int p1)] [(.int p1)]) n0 h0 cells slots (some (.int w))
      refine oPre (fun _ => XS.bipush X.here hx rfl (hb hby d1_24)) ?_
      show oEnd p e s below T (mkF m 26 #[.val (.int p1)] [(.int (14 : Int32)), (.int p1)]) n0 h0 cells slots (some (.int w))
      by_cases h26 : p1 < (14 : Int32)
      · have v26 : (oF1_35 p1) = w := (if_pos h26).symm.trans v20
        refine oPre (fun _ => XS.icmpYes X.here hx rfl (pc0 := 26) (pc' := 35) rfl (hb hby d1_26) rfl (((tlt h26).1)) (by decide) (by decide)) ?_
        exact oB1_35 X hx hby hml hret hlk hown hZ hw eT N Z0 hcs hss p1 v26
      · have v26 : (if (31 : Int32) < p1 then (oF1_35 p1) else (oF1_55 p1)) = w := (if_neg h26).symm.trans v20
        refine oPre (fun _ => XS.icmpNo X.here hx rfl (hb hby d1_26) rfl (((flt h26).1))) ?_
        show oEnd p e s below T (mkF m 29 #[.val (.int p1)] []) n0 h0 cells slots (some (.int w))
        refine oPre (fun _ => XS.iloadN X.here hx rfl (hb hby d1_29) rfl) ?_
        show oEnd p e s below T (mkF m 30 #[.val (.int p1)] [(.int p1)]) n0 h0 cells slots (some (.int w))
        refine oPre (fun _ => XS.bipush X.here hx rfl (hb hby d1_30)) ?_
        show oEnd p e s below T (mkF m 32 #[.val (.int p1)] [(.int (31 : Int32)), (.int p1)]) n0 h0 cells slots (some (.int w))
        by_cases h32 : (31 : Int32) < p1
        · have v32 : (oF1_35 p1) = w := (if_pos h32).symm.trans v26
          refine oPre (fun _ => XS.icmpNo X.here hx rfl (hb hby d1_32) rfl (((tlt h32).2.2.2))) ?_
          exact oB1_35 X hx hby hml hret hlk hown hZ hw eT N Z0 hcs hss p1 v32
        · have v32 : (oF1_55 p1) = w := (if_neg h32).symm.trans v26
          refine oPre (fun _ => XS.icmpYes X.here hx rfl (pc0 := 32) (pc' := 55) rfl (hb hby d1_32) rfl (((flt h32).2.2.2)) (by decide) (by decide)) ?_
          exact oB1_55 X hx hby hml hret hlk hown hZ hw eT N Z0 hcs hss p1 v32
def oF1_0 (p1 : Int32) : Int32 := (if p1 < (1 : Int32) then (oF1_11 p1) else (if (8 : Int32) < p1 then (oF1_11 p1) else (oF1_55 p1)))
set_option maxRecDepth 65536 in
set_option maxHeartbeats 4000000 in
theorem oB1_0 {p : Program} {l : Launch} {e : Env} {s : State} {m : MethodId} {args : Array Value} {below : List Frame} {meth : Method} {c : Code} {T : State} {locs : List Loc} {cells slots : Nat} {Z : State} {a0 : Array Value} {h0 : Heap} {n0 : Nat} (X : Stand p l e ({ frames := 0, cells := 0, slots := 0, locals := 0 } : Room) s m args below meth c T locs cells slots) (hx : p.tables.exec = Jvm.exec) (hby : c.code = prog_252_method_6_code) (hml : c.maxLocals = 1) (hret : meth.sig.returnType = some .boolean) (hlk : meth.locks = false) (hown : s.vm.findClass "com/example/wary_query/waryquery/model/XmlCharacters" = some m.cls) (hZ : Z.Warmed39 s.vm) (hw : ∀ d ∈ tables_1, d.before a0 Z = true) (eT : T.heap = h0) (N : Fr n0 locs) (Z0 : n0 ≤ h0.size) (hcs : cells ≤ ({ frames := 0, cells := 0, slots := 0, locals := 0 } : Room).cells) (hss : slots ≤ ({ frames := 0, cells := 0, slots := 0, locals := 0 } : Room).slots) (p1 : Int32) {w : Int32} (hv : oF1_0 p1 = w) : oEnd p e s below T (mkF m 0 #[.val (.int p1)] []) n0 h0 cells slots (some (.int w)) := by
  show oEnd p e s below T (mkF m 0 #[.val (.int p1)] []) n0 h0 cells slots (some (.int w))
  refine oPre (fun _ => XS.iloadN X.here hx rfl (hb hby d1_0) rfl) ?_
  show oEnd p e s below T (mkF m 1 #[.val (.int p1)] [(.int p1)]) n0 h0 cells slots (some (.int w))
  refine oPre (fun _ => XS.iconst X.here hx rfl (hb hby d1_1)) ?_
  show oEnd p e s below T (mkF m 2 #[.val (.int p1)] [(.int (1 : Int32)), (.int p1)]) n0 h0 cells slots (some (.int w))
  by_cases h2 : p1 < (1 : Int32)
  · have v2 : (oF1_11 p1) = w := (if_pos h2).symm.trans hv
    refine oPre (fun _ => XS.icmpYes X.here hx rfl (pc0 := 2) (pc' := 11) rfl (hb hby d1_2) rfl (((tlt h2).1)) (by decide) (by decide)) ?_
    exact oB1_11 X hx hby hml hret hlk hown hZ hw eT N Z0 hcs hss p1 v2
  · have v2 : (if (8 : Int32) < p1 then (oF1_11 p1) else (oF1_55 p1)) = w := (if_neg h2).symm.trans hv
    refine oPre (fun _ => XS.icmpNo X.here hx rfl (hb hby d1_2) rfl (((flt h2).1))) ?_
    show oEnd p e s below T (mkF m 5 #[.val (.int p1)] []) n0 h0 cells slots (some (.int w))
    refine oPre (fun _ => XS.iloadN X.here hx rfl (hb hby d1_5) rfl) ?_
    show oEnd p e s below T (mkF m 6 #[.val (.int p1)] [(.int p1)]) n0 h0 cells slots (some (.int w))
    refine oPre (fun _ => XS.bipush X.here hx rfl (hb hby d1_6)) ?_
    show oEnd p e s below T (mkF m 8 #[.val (.int p1)] [(.int (8 : Int32)), (.int p1)]) n0 h0 cells slots (some (.int w))
    by_cases h8 : (8 : Int32) < p1
    · have v8 : (oF1_11 p1) = w := (if_pos h8).symm.trans v2
      refine oPre (fun _ => XS.icmpNo X.here hx rfl (hb hby d1_8) rfl (((tlt h8).2.2.2))) ?_
      exact oB1_11 X hx hby hml hret hlk hown hZ hw eT N Z0 hcs hss p1 v8
    · have v8 : (oF1_55 p1) = w := (if_neg h8).symm.trans v2
      refine oPre (fun _ => XS.icmpYes X.here hx rfl (pc0 := 8) (pc' := 55) rfl (hb hby d1_8) rfl (((flt h8).2.2.2)) (by decide) (by decide)) ?_
      exact oB1_55 X hx hby hml hret hlk hown hZ hw eT N Z0 hcs hss p1 v8
theorem pn_1 : plainName "com/example/wary_query/waryquery/model/XmlCharacters" = true := by first | (simp [plainName, overriddenIn]; done) | decide +kernel
theorem ef_1 (m : MethodId) (p1 : Int32) : entryFrame m #[(.int p1)] 1 = mkF m 0 #[.val (.int p1)] [] := by first | (simp [entryFrame, mkF, argsToLocals, Value.category]; done) | rfl
def oQ1 (p1 : Int32) (h0 : Heap) (n0 : Nat) (v : Option Value) (h : Heap) (L : List Loc) : Prop := v = some (.int (oF1_0 p1)) ∧ Fr n0 L ∧ h = h0
set_option maxRecDepth 65536 in
set_option maxHeartbeats 4000000 in
theorem oR1 (l : Launch) (Z : State) (a0 : Array Value) (hw : ∀ d ∈ tables_1, d.before a0 Z = true) (ws : List Jvm.Cond) (p1 : Int32) (h0 : Heap) (n0 : Nat) (Z0 : n0 ≤ h0.size) :
    MetFree l (⟨"com/example/wary_query/waryquery/model/XmlCharacters", "isReferenceOnlyInXml11", "(I)Z"⟩ : MethodName) (head1 (Jvm.Cond.code (⟨"com/example/wary_query/waryquery/model/XmlCharacters", "isReferenceOnlyInXml11", "(I)Z"⟩ : MethodName) prog_252_method_6_code 1 (some .boolean) :: ws) ({ frames := 0, cells := 0, slots := 0, locals := 0 } : Room)) (fun a U => a = #[(.int p1)] ∧ Z.Warmed39 U.vm ∧ U.heap = h0) (fun _ _ _ _ _ => True) (fun _ U o U' => ∃ v L, o = .returned v ∧ oQ1 p1 h0 n0 v U'.heap L ∧ FrameEnd U o U' L ({ frames := 0, cells := 0, slots := 0, locals := 0 } : Room).cells ({ frames := 0, cells := 0, slots := 0, locals := 0 } : Room).slots) := by
  refine MetFree.of_bodySF (plainFor_of_name pn_1) hisR ?_
  intro p e s m args below meth c s₁ Bd hml0 hP hK
  obtain ⟨rfl, hZ, hh⟩ := hP
  have hown : s.vm.findClass "com/example/wary_query/waryquery/model/XmlCharacters" = some m.cls := findClass_of_methodNamed Bd.named
  have X0 : Stand p l e ({ frames := 0, cells := 0, slots := 0, locals := 0 } : Room) s m #[(.int p1)] below meth c s₁ [] 0 0 := Stand.of_body Bd
  have e0 : s₁.heap = h0 := by rw [← hh, Bd.state]; rfl
  obtain ⟨t, L, hs, hrun, hended, hW, hsame, hN, ht⟩ := oB1_0 X0 Bd.exec Bd.bytes hml0 Bd.returns Bd.notSynchronized hown hZ hw e0 (Fr.nil n0) Z0 (Nat.zero_le _) (Nat.zero_le _) p1 rfl
  exact ⟨t, _, castTop (ef_1 m p1) hs, hrun, hended, _, L, rfl, ⟨rfl, hN, ht⟩, ⟨_, rfl⟩, hW, hsame.mono (Nat.zero_le _) (Nat.zero_le _)⟩
theorem d2_0 : decode method_3_code 0 = .ok (.iload_n 0, 1) := by decide +kernel
theorem d2_1 : decode method_3_code 1 = .ok (.ifCond .lt 27, 3) := by decide +kernel
theorem d2_4 : decode method_3_code 4 = .ok (.iload_n 0, 1) := by decide +kernel
theorem d2_5 : decode method_3_code 5 = .ok (.bipush 32, 2) := by decide +kernel
theorem d2_7 : decode method_3_code 7 = .ok (.if_icmp .ge 21, 3) := by decide +kernel
theorem d2_10 : decode method_3_code 10 = .ok (.ldc2_w 18, 3) := by decide +kernel
theorem d2_13 : decode method_3_code 13 = .ok (.iload_n 0, 1) := by decide +kernel
theorem d2_14 : decode method_3_code 14 = .ok (.lushr, 1) := by decide +kernel
theorem d2_15 : decode method_3_code 15 = .ok (.lconst 1, 1) := by decide +kernel
theorem d2_16 : decode method_3_code 16 = .ok (.land, 1) := by decide +kernel
theorem d2_17 : decode method_3_code 17 = .ok (.lconst 0, 1) := by decide +kernel
theorem d2_18 : decode method_3_code 18 = .ok (.lcmp, 1) := by decide +kernel
theorem d2_19 : decode method_3_code 19 = .ok (.ifCond .eq 7, 3) := by decide +kernel
theorem d2_22 : decode method_3_code 22 = .ok (.iconst 1, 1) := by decide +kernel
theorem d2_23 : decode method_3_code 23 = .ok (.goto 4, 3) := by decide +kernel
theorem d2_26 : decode method_3_code 26 = .ok (.iconst 0, 1) := by decide +kernel
theorem d2_27 : decode method_3_code 27 = .ok (.ireturn, 1) := by decide +kernel
theorem d2_28 : decode method_3_code 28 = .ok (.iload_n 0, 1) := by decide +kernel
theorem d2_29 : decode method_3_code 29 = .ok (.bipush 127, 2) := by decide +kernel
theorem d2_31 : decode method_3_code 31 = .ok (.if_icmp .lt 12, 3) := by decide +kernel
theorem d2_34 : decode method_3_code 34 = .ok (.iload_n 0, 1) := by decide +kernel
theorem d2_35 : decode method_3_code 35 = .ok (.sipush 159, 3) := by decide +kernel
theorem d2_38 : decode method_3_code 38 = .ok (.if_icmp .gt 5, 3) := by decide +kernel
theorem d2_41 : decode method_3_code 41 = .ok (.iconst 1, 1) := by decide +kernel
theorem d2_42 : decode method_3_code 42 = .ok (.ireturn, 1) := by decide +kernel
theorem d2_43 : decode method_3_code 43 = .ok (.iload_n 0, 1) := by decide +kernel
theorem d2_44 : decode method_3_code 44 = .ok (.sipush 8232, 3) := by decide +kernel
theorem d2_47 : decode method_3_code 47 = .ok (.if_icmp .ne 7, 3) := by decide +kernel
theorem d2_50 : decode method_3_code 50 = .ok (.iconst 1, 1) := by decide +kernel
theorem d2_51 : decode method_3_code 51 = .ok (.goto 4, 3) := by decide +kernel
theorem d2_54 : decode method_3_code 54 = .ok (.iconst 0, 1) := by decide +kernel
theorem d2_55 : decode method_3_code 55 = .ok (.ireturn, 1) := by decide +kernel
def oF2_55 (p1 : Int32) (q1 : Int32) : Int32 := (q1 &&& 1)
set_option maxRecDepth 65536 in
set_option maxHeartbeats 4000000 in
theorem oB2_55 {p : Program} {l : Launch} {e : Env} {s : State} {m : MethodId} {args : Array Value} {below : List Frame} {meth : Method} {c : Code} {T : State} {locs : List Loc} {cells slots : Nat} {Z : State} {a0 : Array Value} {h0 : Heap} {n0 : Nat} (X : Stand p l e ({ frames := 0, cells := 0, slots := 0, locals := 0 } : Room) s m args below meth c T locs cells slots) (hx : p.tables.exec = Jvm.exec) (hby : c.code = method_3_code) (hml : c.maxLocals = 1) (hret : meth.sig.returnType = some .boolean) (hlk : meth.locks = false) (hown : s.vm.findClass "com/example/wary_query/waryquery/model/XmlCharactersIsReferenceOnlyInXml11PinLaw" = some m.cls) (hZ : Z.Warmed39 s.vm) (hw : ∀ d ∈ tables_1, d.before a0 Z = true) (eT : T.heap = h0) (N : Fr n0 locs) (Z0 : n0 ≤ h0.size) (hcs : cells ≤ ({ frames := 0, cells := 0, slots := 0, locals := 0 } : Room).cells) (hss : slots ≤ ({ frames := 0, cells := 0, slots := 0, locals := 0 } : Room).slots) (p1 : Int32) (q1 : Int32) {w : Int32} (hv : oF2_55 p1 q1 = w) : oEnd p e s below T (mkF m 55 #[.val (.int p1)] [(.int q1)]) n0 h0 cells slots (some (.int w)) := by
  show oEnd p e s below T (mkF m 55 #[.val (.int p1)] [(.int q1)]) n0 h0 cells slots (some (.int w))
  subst hv
  obtain ⟨fs, hr, hrun, hended, hW, hsame⟩ := X.leave (v := some (.int (q1 &&& 1))) (fun h => by rw [hret] at h; cases h) hlk
  exact ⟨_, _, retN X hx (t := .boolean) hret (by simp) (hb hby d2_55) hr, hrun, hended, hW, hsame, N, eT⟩
def oF2_43 (p1 : Int32) : Int32 := (if p1 = (8232 : Int32) then (oF2_55 p1 (1 : Int32)) else (oF2_55 p1 (0 : Int32)))
set_option maxRecDepth 65536 in
set_option maxHeartbeats 4000000 in
theorem oB2_43 {p : Program} {l : Launch} {e : Env} {s : State} {m : MethodId} {args : Array Value} {below : List Frame} {meth : Method} {c : Code} {T : State} {locs : List Loc} {cells slots : Nat} {Z : State} {a0 : Array Value} {h0 : Heap} {n0 : Nat} (X : Stand p l e ({ frames := 0, cells := 0, slots := 0, locals := 0 } : Room) s m args below meth c T locs cells slots) (hx : p.tables.exec = Jvm.exec) (hby : c.code = method_3_code) (hml : c.maxLocals = 1) (hret : meth.sig.returnType = some .boolean) (hlk : meth.locks = false) (hown : s.vm.findClass "com/example/wary_query/waryquery/model/XmlCharactersIsReferenceOnlyInXml11PinLaw" = some m.cls) (hZ : Z.Warmed39 s.vm) (hw : ∀ d ∈ tables_1, d.before a0 Z = true) (eT : T.heap = h0) (N : Fr n0 locs) (Z0 : n0 ≤ h0.size) (hcs : cells ≤ ({ frames := 0, cells := 0, slots := 0, locals := 0 } : Room).cells) (hss : slots ≤ ({ frames := 0, cells := 0, slots := 0, locals := 0 } : Room).slots) (p1 : Int32) {w : Int32} (hv : oF2_43 p1 = w) : oEnd p e s below T (mkF m 43 #[.val (.int p1)] []) n0 h0 cells slots (some (.int w)) := by
  show oEnd p e s below T (mkF m 43 #[.val (.int p1)] []) n0 h0 cells slots (some (.int w))
  refine oPre (fun _ => XS.iloadN X.here hx rfl (hb hby d2_43) rfl) ?_
  show oEnd p e s below T (mkF m 44 #[.val (.int p1)] [(.int p1)]) n0 h0 cells slots (some (.int w))
  refine oPre (fun _ => XS.sipush X.here hx rfl (hb hby d2_44)) ?_
  show oEnd p e s below T (mkF m 47 #[.val (.int p1)] [(.int (8232 : Int32)), (.int p1)]) n0 h0 cells slots (some (.int w))
  by_cases h47 : p1 = (8232 : Int32)
  · have v47 : (oF2_55 p1 (1 : Int32)) = w := (if_pos h47).symm.trans hv
    refine oPre (fun _ => XS.icmpNo X.here hx rfl (hb hby d2_47) rfl (((teq h47).2))) ?_
    show oEnd p e s below T (mkF m 50 #[.val (.int p1)] []) n0 h0 cells slots (some (.int w))
    refine oPre (fun _ => XS.iconst X.here hx rfl (hb hby d2_50)) ?_
    show oEnd p e s below T (mkF m 51 #[.val (.int p1)] [(.int (1 : Int32))]) n0 h0 cells slots (some (.int w))
    refine oPre (fun _ => XS.goto X.here hx rfl (pc0 := 51) (pc' := 55) rfl (hb hby d2_51) (by decide) (by decide)) ?_
    exact oB2_55 X hx hby hml hret hlk hown hZ hw eT N Z0 hcs hss p1 (1 : Int32) v47
  · have v47 : (oF2_55 p1 (0 : Int32)) = w := (if_neg h47).symm.trans hv
    refine oPre (fun _ => XS.icmpYes X.here hx rfl (pc0 := 47) (pc' := 54) rfl (hb hby d2_47) rfl (((feq h47).2)) (by decide) (by decide)) ?_
    show oEnd p e s below T (mkF m 54 #[.val (.int p1)] []) n0 h0 cells slots (some (.int w))
    refine oPre (fun _ => XS.iconst X.here hx rfl (hb hby d2_54)) ?_
    exact oB2_55 X hx hby hml hret hlk hown hZ hw eT N Z0 hcs hss p1 (0 : Int32) v47
def oF2_28 (p1 : Int32) : Int32 := (if p1 < (127 : Int32) then (oF2_43 p1) else (if (159 : Int32) < p1 then (oF2_43 p1) else (1 : Int32)))
set_option maxRecDepth 65536 in
set_option maxHeartbeats 4000000 in
theorem oB2_28 {p : Program} {l : Launch} {e : Env} {s : State} {m : MethodId} {args : Array Value} {below : List Frame} {meth : Method} {c : Code} {T : State} {locs : List Loc} {cells slots : Nat} {Z : State} {a0 : Array Value} {h0 : Heap} {n0 : Nat} (X : Stand p l e ({ frames := 0, cells := 0, slots := 0, locals := 0 } : Room) s m args below meth c T locs cells slots) (hx : p.tables.exec = Jvm.exec) (hby : c.code = method_3_code) (hml : c.maxLocals = 1) (hret : meth.sig.returnType = some .boolean) (hlk : meth.locks = false) (hown : s.vm.findClass "com/example/wary_query/waryquery/model/XmlCharactersIsReferenceOnlyInXml11PinLaw" = some m.cls) (hZ : Z.Warmed39 s.vm) (hw : ∀ d ∈ tables_1, d.before a0 Z = true) (eT : T.heap = h0) (N : Fr n0 locs) (Z0 : n0 ≤ h0.size) (hcs : cells ≤ ({ frames := 0, cells := 0, slots := 0, locals := 0 } : Room).cells) (hss : slots ≤ ({ frames := 0, cells := 0, slots := 0, locals := 0 } : Room).slots) (p1 : Int32) {w : Int32} (hv : oF2_28 p1 = w) : oEnd p e s below T (mkF m 28 #[.val (.int p1)] []) n0 h0 cells slots (some (.int w)) := by
  show oEnd p e s below T (mkF m 28 #[.val (.int p1)] []) n0 h0 cells slots (some (.int w))
  refine oPre (fun _ => XS.iloadN X.here hx rfl (hb hby d2_28) rfl) ?_
  show oEnd p e s below T (mkF m 29 #[.val (.int p1)] [(.int p1)]) n0 h0 cells slots (some (.int w))
  refine oPre (fun _ => XS.bipush X.here hx rfl (hb hby d2_29)) ?_
  show oEnd p e s below T (mkF m 31 #[.val (.int p1)] [(.int (127 : Int32)), (.int p1)]) n0 h0 cells slots (some (.int w))
  by_cases h31 : p1 < (127 : Int32)
  · have v31 : (oF2_43 p1) = w := (if_pos h31).symm.trans hv
    refine oPre (fun _ => XS.icmpYes X.here hx rfl (pc0 := 31) (pc' := 43) rfl (hb hby d2_31) rfl (((tlt h31).1)) (by decide) (by decide)) ?_
    exact oB2_43 X hx hby hml hret hlk hown hZ hw eT N Z0 hcs hss p1 v31
  · have v31 : (if (159 : Int32) < p1 then (oF2_43 p1) else (1 : Int32)) = w := (if_neg h31).symm.trans hv
    refine oPre (fun _ => XS.icmpNo X.here hx rfl (hb hby d2_31) rfl (((flt h31).1))) ?_
    show oEnd p e s below T (mkF m 34 #[.val (.int p1)] []) n0 h0 cells slots (some (.int w))
    refine oPre (fun _ => XS.iloadN X.here hx rfl (hb hby d2_34) rfl) ?_
    show oEnd p e s below T (mkF m 35 #[.val (.int p1)] [(.int p1)]) n0 h0 cells slots (some (.int w))
    refine oPre (fun _ => XS.sipush X.here hx rfl (hb hby d2_35)) ?_
    show oEnd p e s below T (mkF m 38 #[.val (.int p1)] [(.int (159 : Int32)), (.int p1)]) n0 h0 cells slots (some (.int w))
    by_cases h38 : (159 : Int32) < p1
    · have v38 : (oF2_43 p1) = w := (if_pos h38).symm.trans v31
      refine oPre (fun _ => XS.icmpYes X.here hx rfl (pc0 := 38) (pc' := 43) rfl (hb hby d2_38) rfl (((tlt h38).2.2.1)) (by decide) (by decide)) ?_
      exact oB2_43 X hx hby hml hret hlk hown hZ hw eT N Z0 hcs hss p1 v38
    · have v38 : (1 : Int32) = w := (if_neg h38).symm.trans v31
      refine oPre (fun _ => XS.icmpNo X.here hx rfl (hb hby d2_38) rfl (((flt h38).2.2.1))) ?_
      show oEnd p e s below T (mkF m 41 #[.val (.int p1)] []) n0 h0 cells slots (some (.int w))
      refine oPre (fun _ => XS.iconst X.here hx rfl (hb hby d2_41)) ?_
      show oEnd p e s below T (mkF m 42 #[.val (.int p1)] [(.int (1 : Int32))]) n0 h0 cells slots (some (.int w))
      subst v38
      obtain ⟨fs, hr, hrun, hended, hW, hsame⟩ := X.leave (v := some (.int (1 : Int32))) (fun h => by rw [hret] at h; cases h) hlk
      exact ⟨_, _, retN X hx (t := .boolean) hret (by simp) (hb hby d2_42) hr, hrun, hended, hW, hsame, N, eT⟩
def oF2_27 (p1 : Int32) (q1 : Int32) : Int32 := (q1 &&& 1)
set_option maxRecDepth 65536 in
set_option maxHeartbeats 4000000 in
theorem oB2_27 {p : Program} {l : Launch} {e : Env} {s : State} {m : MethodId} {args : Array Value} {below : List Frame} {meth : Method} {c : Code} {T : State} {locs : List Loc} {cells slots : Nat} {Z : State} {a0 : Array Value} {h0 : Heap} {n0 : Nat} (X : Stand p l e ({ frames := 0, cells := 0, slots := 0, locals := 0 } : Room) s m args below meth c T locs cells slots) (hx : p.tables.exec = Jvm.exec) (hby : c.code = method_3_code) (hml : c.maxLocals = 1) (hret : meth.sig.returnType = some .boolean) (hlk : meth.locks = false) (hown : s.vm.findClass "com/example/wary_query/waryquery/model/XmlCharactersIsReferenceOnlyInXml11PinLaw" = some m.cls) (hZ : Z.Warmed39 s.vm) (hw : ∀ d ∈ tables_1, d.before a0 Z = true) (eT : T.heap = h0) (N : Fr n0 locs) (Z0 : n0 ≤ h0.size) (hcs : cells ≤ ({ frames := 0, cells := 0, slots := 0, locals := 0 } : Room).cells) (hss : slots ≤ ({ frames := 0, cells := 0, slots := 0, locals := 0 } : Room).slots) (p1 : Int32) (q1 : Int32) {w : Int32} (hv : oF2_27 p1 q1 = w) : oEnd p e s below T (mkF m 27 #[.val (.int p1)] [(.int q1)]) n0 h0 cells slots (some (.int w)) := by
  show oEnd p e s below T (mkF m 27 #[.val (.int p1)] [(.int q1)]) n0 h0 cells slots (some (.int w))
  subst hv
  obtain ⟨fs, hr, hrun, hended, hW, hsame⟩ := X.leave (v := some (.int (q1 &&& 1))) (fun h => by rw [hret] at h; cases h) hlk
  exact ⟨_, _, retN X hx (t := .boolean) hret (by simp) (hb hby d2_27) hr, hrun, hended, hW, hsame, N, eT⟩
def oF2_0 (p1 : Int32) : Int32 := (if p1 < (0 : Int32) then (oF2_28 p1) else (if p1 < (32 : Int32) then (if (lcmpW ((((4294957566 : Int64).toUInt64 >>> (p1 &&& 0x3f).toInt64.toUInt64).toInt64) &&& (1 : Int64)) (0 : Int64)) = (0 : Int32) then (oF2_27 p1 (0 : Int32)) else (oF2_27 p1 (1 : Int32))) else (oF2_28 p1)))
set_option maxRecDepth 65536 in
set_option maxHeartbeats 4000000 in
theorem oB2_0 {p : Program} {l : Launch} {e : Env} {s : State} {m : MethodId} {args : Array Value} {below : List Frame} {meth : Method} {c : Code} {T : State} {locs : List Loc} {cells slots : Nat} {Z : State} {a0 : Array Value} {h0 : Heap} {n0 : Nat} (X : Stand p l e ({ frames := 0, cells := 0, slots := 0, locals := 0 } : Room) s m args below meth c T locs cells slots) (hx : p.tables.exec = Jvm.exec) (hby : c.code = method_3_code) (hml : c.maxLocals = 1) (hret : meth.sig.returnType = some .boolean) (hlk : meth.locks = false) (hown : s.vm.findClass "com/example/wary_query/waryquery/model/XmlCharactersIsReferenceOnlyInXml11PinLaw" = some m.cls) (hZ : Z.Warmed39 s.vm) (hw : ∀ d ∈ tables_1, d.before a0 Z = true) (eT : T.heap = h0) (N : Fr n0 locs) (Z0 : n0 ≤ h0.size) (hcs : cells ≤ ({ frames := 0, cells := 0, slots := 0, locals := 0 } : Room).cells) (hss : slots ≤ ({ frames := 0, cells := 0, slots := 0, locals := 0 } : Room).slots) (p1 : Int32) {w : Int32} (hv : oF2_0 p1 = w) : oEnd p e s below T (mkF m 0 #[.val (.int p1)] []) n0 h0 cells slots (some (.int w)) := by
  show oEnd p e s below T (mkF m 0 #[.val (.int p1)] []) n0 h0 cells slots (some (.int w))
  refine oPre (fun _ => XS.iloadN X.here hx rfl (hb hby d2_0) rfl) ?_
  show oEnd p e s below T (mkF m 1 #[.val (.int p1)] [(.int p1)]) n0 h0 cells slots (some (.int w))
  by_cases h1 : p1 < (0 : Int32)
  · have v1 : (oF2_28 p1) = w := (if_pos h1).symm.trans hv
    refine oPre (fun _ => XS.ifYes X.here hx rfl (pc0 := 1) (pc' := 28) rfl (hb hby d2_1) rfl ((if0 _ _).trans ((tlt h1).1)) (by decide) (by decide)) ?_
    exact oB2_28 X hx hby hml hret hlk hown hZ hw eT N Z0 hcs hss p1 v1
  · have v1 : (if p1 < (32 : Int32) then (if (lcmpW ((((4294957566 : Int64).toUInt64 >>> (p1 &&& 0x3f).toInt64.toUInt64).toInt64) &&& (1 : Int64)) (0 : Int64)) = (0 : Int32) then (oF2_27 p1 (0 : Int32)) else (oF2_27 p1 (1 : Int32))) else (oF2_28 p1)) = w := (if_neg h1).symm.trans hv
    refine oPre (fun _ => XS.ifNo X.here hx rfl (hb hby d2_1) rfl ((if0 _ _).trans ((flt h1).1))) ?_
    show oEnd p e s below T (mkF m 4 #[.val (.int p1)] []) n0 h0 cells slots (some (.int w))
    refine oPre (fun _ => XS.iloadN X.here hx rfl (hb hby d2_4) rfl) ?_
    show oEnd p e s below T (mkF m 5 #[.val (.int p1)] [(.int p1)]) n0 h0 cells slots (some (.int w))
    refine oPre (fun _ => XS.bipush X.here hx rfl (hb hby d2_5)) ?_
    show oEnd p e s below T (mkF m 7 #[.val (.int p1)] [(.int (32 : Int32)), (.int p1)]) n0 h0 cells slots (some (.int w))
    by_cases h7 : p1 < (32 : Int32)
    · have v7 : (if (lcmpW ((((4294957566 : Int64).toUInt64 >>> (p1 &&& 0x3f).toInt64.toUInt64).toInt64) &&& (1 : Int64)) (0 : Int64)) = (0 : Int32) then (oF2_27 p1 (0 : Int32)) else (oF2_27 p1 (1 : Int32))) = w := (if_pos h7).symm.trans v1
      refine oPre (fun _ => XS.icmpNo X.here hx rfl (hb hby d2_7) rfl (((tlt h7).2.1))) ?_
      show oEnd p e s below T (mkF m 10 #[.val (.int p1)] []) n0 h0 cells slots (some (.int w))
      refine oPre (fun _ => X.ldc2Long hx hown (mvT hZ (hw _ (List.mem_of_getElem? (i := 8) rfl))) (g := (mkF m 10 #[.val (.int p1)] [])) rfl (hb hby d2_10) _) ?_
      show oEnd p e s below T (mkF m 13 #[.val (.int p1)] [(.long (4294957566 : Int64))]) n0 h0 cells slots (some (.int w))
      refine oPre (fun _ => XS.iloadN X.here hx rfl (hb hby d2_13) rfl) ?_
      show oEnd p e s below T (mkF m 14 #[.val (.int p1)] [(.int p1), (.long (4294957566 : Int64))]) n0 h0 cells slots (some (.int w))
      refine oPre (fun _ => XS.lushr X.here hx rfl (hb hby d2_14) rfl) ?_
      show oEnd p e s below T (mkF m 15 #[.val (.int p1)] [(.long (((4294957566 : Int64).toUInt64 >>> (p1 &&& 0x3f).toInt64.toUInt64).toInt64))]) n0 h0 cells slots (some (.int w))
      refine oPre (fun _ => XS.lconst X.here hx rfl (hb hby d2_15)) ?_
      show oEnd p e s below T (mkF m 16 #[.val (.int p1)] [(.long (1 : Int64)), (.long (((4294957566 : Int64).toUInt64 >>> (p1 &&& 0x3f).toInt64.toUInt64).toInt64))]) n0 h0 cells slots (some (.int w))
      refine oPre (fun _ => XS.land X.here hx rfl (hb hby d2_16) rfl) ?_
      show oEnd p e s below T (mkF m 17 #[.val (.int p1)] [(.long ((((4294957566 : Int64).toUInt64 >>> (p1 &&& 0x3f).toInt64.toUInt64).toInt64) &&& (1 : Int64)))]) n0 h0 cells slots (some (.int w))
      refine oPre (fun _ => XS.lconst X.here hx rfl (hb hby d2_17)) ?_
      show oEnd p e s below T (mkF m 18 #[.val (.int p1)] [(.long (0 : Int64)), (.long ((((4294957566 : Int64).toUInt64 >>> (p1 &&& 0x3f).toInt64.toUInt64).toInt64) &&& (1 : Int64)))]) n0 h0 cells slots (some (.int w))
      refine oPre (fun _ => XS.lcmp X.here hx rfl (hb hby d2_18) rfl) ?_
      show oEnd p e s below T (mkF m 19 #[.val (.int p1)] [(.int (lcmpW ((((4294957566 : Int64).toUInt64 >>> (p1 &&& 0x3f).toInt64.toUInt64).toInt64) &&& (1 : Int64)) (0 : Int64)))]) n0 h0 cells slots (some (.int w))
      by_cases h19 : (lcmpW ((((4294957566 : Int64).toUInt64 >>> (p1 &&& 0x3f).toInt64.toUInt64).toInt64) &&& (1 : Int64)) (0 : Int64)) = (0 : Int32)
      · have v19 : (oF2_27 p1 (0 : Int32)) = w := (if_pos h19).symm.trans v7
        refine oPre (fun _ => XS.ifYes X.here hx rfl (pc0 := 19) (pc' := 26) rfl (hb hby d2_19) rfl ((if0 _ _).trans ((teq h19).1)) (by decide) (by decide)) ?_
        show oEnd p e s below T (mkF m 26 #[.val (.int p1)] []) n0 h0 cells slots (some (.int w))
        refine oPre (fun _ => XS.iconst X.here hx rfl (hb hby d2_26)) ?_
        exact oB2_27 X hx hby hml hret hlk hown hZ hw eT N Z0 hcs hss p1 (0 : Int32) v19
      · have v19 : (oF2_27 p1 (1 : Int32)) = w := (if_neg h19).symm.trans v7
        refine oPre (fun _ => XS.ifNo X.here hx rfl (hb hby d2_19) rfl ((if0 _ _).trans ((feq h19).1))) ?_
        show oEnd p e s below T (mkF m 22 #[.val (.int p1)] []) n0 h0 cells slots (some (.int w))
        refine oPre (fun _ => XS.iconst X.here hx rfl (hb hby d2_22)) ?_
        show oEnd p e s below T (mkF m 23 #[.val (.int p1)] [(.int (1 : Int32))]) n0 h0 cells slots (some (.int w))
        refine oPre (fun _ => XS.goto X.here hx rfl (pc0 := 23) (pc' := 27) rfl (hb hby d2_23) (by decide) (by decide)) ?_
        exact oB2_27 X hx hby hml hret hlk hown hZ hw eT N Z0 hcs hss p1 (1 : Int32) v19
    · have v7 : (oF2_28 p1) = w := (if_neg h7).symm.trans v1
      refine oPre (fun _ => XS.icmpYes X.here hx rfl (pc0 := 7) (pc' := 28) rfl (hb hby d2_7) rfl (((flt h7).2.1)) (by decide) (by decide)) ?_
      exact oB2_28 X hx hby hml hret hlk hown hZ hw eT N Z0 hcs hss p1 v7
theorem pn_2 : plainName "com/example/wary_query/waryquery/model/XmlCharactersIsReferenceOnlyInXml11PinLaw" = true := by first | (simp [plainName, overriddenIn]; done) | decide +kernel
theorem ef_2 (m : MethodId) (p1 : Int32) : entryFrame m #[(.int p1)] 1 = mkF m 0 #[.val (.int p1)] [] := by first | (simp [entryFrame, mkF, argsToLocals, Value.category]; done) | rfl
def oQ2 (p1 : Int32) (h0 : Heap) (n0 : Nat) (v : Option Value) (h : Heap) (L : List Loc) : Prop := v = some (.int (oF2_0 p1)) ∧ Fr n0 L ∧ h = h0
set_option maxRecDepth 65536 in
set_option maxHeartbeats 4000000 in
theorem oR2 (l : Launch) (Z : State) (a0 : Array Value) (hw : ∀ d ∈ tables_1, d.before a0 Z = true) (ws : List Jvm.Cond) (p1 : Int32) (h0 : Heap) (n0 : Nat) (Z0 : n0 ≤ h0.size) :
    MetFree l (⟨"com/example/wary_query/waryquery/model/XmlCharactersIsReferenceOnlyInXml11PinLaw", "expected", "(I)Z"⟩ : MethodName) (head1 (Jvm.Cond.code (⟨"com/example/wary_query/waryquery/model/XmlCharactersIsReferenceOnlyInXml11PinLaw", "expected", "(I)Z"⟩ : MethodName) method_3_code 1 (some .boolean) :: ws) ({ frames := 0, cells := 0, slots := 0, locals := 0 } : Room)) (fun a U => a = #[(.int p1)] ∧ Z.Warmed39 U.vm ∧ U.heap = h0) (fun _ _ _ _ _ => True) (fun _ U o U' => ∃ v L, o = .returned v ∧ oQ2 p1 h0 n0 v U'.heap L ∧ FrameEnd U o U' L ({ frames := 0, cells := 0, slots := 0, locals := 0 } : Room).cells ({ frames := 0, cells := 0, slots := 0, locals := 0 } : Room).slots) := by
  refine MetFree.of_bodySF (plainFor_of_name pn_2) hisR ?_
  intro p e s m args below meth c s₁ Bd hml0 hP hK
  obtain ⟨rfl, hZ, hh⟩ := hP
  have hown : s.vm.findClass "com/example/wary_query/waryquery/model/XmlCharactersIsReferenceOnlyInXml11PinLaw" = some m.cls := findClass_of_methodNamed Bd.named
  have X0 : Stand p l e ({ frames := 0, cells := 0, slots := 0, locals := 0 } : Room) s m #[(.int p1)] below meth c s₁ [] 0 0 := Stand.of_body Bd
  have e0 : s₁.heap = h0 := by rw [← hh, Bd.state]; rfl
  obtain ⟨t, L, hs, hrun, hended, hW, hsame, hN, ht⟩ := oB2_0 X0 Bd.exec Bd.bytes hml0 Bd.returns Bd.notSynchronized hown hZ hw e0 (Fr.nil n0) Z0 (Nat.zero_le _) (Nat.zero_le _) p1 rfl
  exact ⟨t, _, castTop (ef_2 m p1) hs, hrun, hended, _, L, rfl, ⟨rfl, hN, ht⟩, ⟨_, rfl⟩, hW, hsame.mono (Nat.zero_le _) (Nat.zero_le _)⟩
theorem pd_0 : parseMethodDescriptor "(I)Z" = some ⟨[.int], some .boolean⟩ := by decide +kernel
def oF0_67 (p1 : Int32) (p2 : Int32) (p3 : Int32) (p4 : Int32) (q1 : Int32) : Int32 := (q1 &&& 1)
set_option maxRecDepth 65536 in
set_option maxHeartbeats 4000000 in
theorem oB0_67 {p : Program} {l : Launch} {e : Env} {s : State} {m : MethodId} {args : Array Value} {below : List Frame} {meth : Method} {c : Code} {T : State} {locs : List Loc} {cells slots : Nat} {Z : State} {a0 : Array Value} {h0 : Heap} {n0 : Nat} (X : Stand p l e room_1 s m args below meth c T locs cells slots) (hx : p.tables.exec = Jvm.exec) (hby : c.code = code) (hml : c.maxLocals = 4) (hret : meth.sig.returnType = some .boolean) (hlk : meth.locks = false) (hown : s.vm.findClass "com/example/wary_query/waryquery/model/XmlCharactersIsReferenceOnlyInXml11PinLaw" = some m.cls) (hZ : Z.Warmed39 s.vm) (hw : ∀ d ∈ tables_1, d.before a0 Z = true) (eT : T.heap = h0) (N : Fr n0 locs) (Z0 : n0 ≤ h0.size) (hcs : cells ≤ room_1.cells) (hss : slots ≤ room_1.slots) (p1 : Int32) (p2 : Int32) (p3 : Int32) (p4 : Int32) (q1 : Int32) {w : Int32} (hv : oF0_67 p1 p2 p3 p4 q1 = w) : oEnd p e s below T (mkF m 67 #[.val (.int p1), .val (.int p2), .val (.int p3), .val (.int p4)] [(.int q1)]) n0 h0 cells slots (some (.int w)) := by
  show oEnd p e s below T (mkF m 67 #[.val (.int p1), .val (.int p2), .val (.int p3), .val (.int p4)] [(.int q1)]) n0 h0 cells slots (some (.int w))
  subst hv
  obtain ⟨fs, hr, hrun, hended, hW, hsame⟩ := X.leave (v := some (.int (q1 &&& 1))) (fun h => by rw [hret] at h; cases h) hlk
  exact ⟨_, _, retN X hx (t := .boolean) hret (by simp) (hb hby at_67) hr, hrun, hended, hW, hsame, N, eT⟩
def oF0_51 (p1 : Int32) (p2 : Int32) (p3 : Int32) (p4 : Int32) : Int32 := (if (oF1_0 p4) = (oF2_0 p4) then (oF0_67 p1 p2 p3 p4 (1 : Int32)) else (oF0_67 p1 p2 p3 p4 (0 : Int32)))
set_option maxRecDepth 65536 in
set_option maxHeartbeats 4000000 in
theorem oB0_51 {p : Program} {l : Launch} {e : Env} {s : State} {m : MethodId} {args : Array Value} {below : List Frame} {meth : Method} {c : Code} {T : State} {locs : List Loc} {cells slots : Nat} {Z : State} {a0 : Array Value} {h0 : Heap} {n0 : Nat} (X : Stand p l e room_1 s m args below meth c T locs cells slots) (hx : p.tables.exec = Jvm.exec) (hby : c.code = code) (hml : c.maxLocals = 4) (hret : meth.sig.returnType = some .boolean) (hlk : meth.locks = false) (hown : s.vm.findClass "com/example/wary_query/waryquery/model/XmlCharactersIsReferenceOnlyInXml11PinLaw" = some m.cls) (hZ : Z.Warmed39 s.vm) (hw : ∀ d ∈ tables_1, d.before a0 Z = true) (eT : T.heap = h0) (N : Fr n0 locs) (Z0 : n0 ≤ h0.size) (hcs : cells ≤ room_1.cells) (hss : slots ≤ room_1.slots) (p1 : Int32) (p2 : Int32) (p3 : Int32) (p4 : Int32) {w : Int32} (hv : oF0_51 p1 p2 p3 p4 = w) : oEnd p e s below T (mkF m 51 #[.val (.int p1), .val (.int p2), .val (.int p3), .val (.int p4)] []) n0 h0 cells slots (some (.int w)) := by
  show oEnd p e s below T (mkF m 51 #[.val (.int p1), .val (.int p2), .val (.int p3), .val (.int p4)] []) n0 h0 cells slots (some (.int w))
  refine oPre (fun _ => XS.iloadN X.here hx rfl (hb hby at_51) rfl) ?_
  show oEnd p e s below T (mkF m 52 #[.val (.int p1), .val (.int p2), .val (.int p3), .val (.int p4)] [(.int p4)]) n0 h0 cells slots (some (.int w))
  obtain ⟨_, _, ⟨T52, L52, k52, n52⟩, -, X52, ⟨Lc52, hQ52, l52, y52, z52⟩, st52⟩ := Jvm.LawKit.callS X hx (y := (⟨"com/example/wary_query/waryquery/model/XmlCharacters", "isReferenceOnlyInXml11", "(I)Z"⟩ : MethodName)) hown (mvT hZ (hw _ (List.mem_of_getElem? (i := 0) rfl))) (mvT hZ (hw _ (List.mem_of_getElem? (i := 1) rfl))) (mvT hZ (hw _ (List.mem_of_getElem? (i := 2) rfl))) (mvT hZ (hw _ (List.mem_of_getElem? (i := 3) rfl))) (by decide) (backOf (W := 0) (oR1 l Z a0 hw [] p4 h0 n0 Z0) hZ (hw _ (List.mem_of_getElem? (i := 3) rfl)) (hw _ (List.mem_of_getElem? (i := 2) rfl)) (by decide) (by decide)) (g := (mkF m 52 #[.val (.int p1), .val (.int p2), .val (.int p3), .val (.int p4)] [(.int p4)])) rfl (by rw [hml]; rfl) (argsL := [(.int p4)]) (rest := []) (lenOf pd_0 rfl) rfl (by show 2 * 0 + _ ≤ _; exact Nat.le_of_eq rfl) (hb hby at_52) (fun _ _ => ⟨rfl, eT, hcs, hss⟩)
  dsimp only [Pt.U, Pt.locs, Pt.cells, Pt.slots] at X52 l52 y52 z52 st52 hQ52
  subst l52
  rw [y52, z52] at X52
  obtain ⟨rfl, N52q, e52⟩ := hQ52
  have N52 := Fr.app N N52q
  refine oPre st52 ?_
  show oEnd p e s below T52 (mkF m 55 #[.val (.int p1), .val (.int p2), .val (.int p3), .val (.int p4)] [(.int (oF1_0 p4))]) n0 h0 cells slots (some (.int w))
  refine oPre (fun _ => XS.iloadN X52.here hx rfl (hb hby at_55) rfl) ?_
  show oEnd p e s below T52 (mkF m 56 #[.val (.int p1), .val (.int p2), .val (.int p3), .val (.int p4)] [(.int p4), (.int (oF1_0 p4))]) n0 h0 cells slots (some (.int w))
  obtain ⟨_, _, ⟨T56, L56, k56, n56⟩, -, X56, ⟨Lc56, hQ56, l56, y56, z56⟩, st56⟩ := Jvm.LawKit.callS X52 hx (y := (⟨"com/example/wary_query/waryquery/model/XmlCharactersIsReferenceOnlyInXml11PinLaw", "expected", "(I)Z"⟩ : MethodName)) hown (mvT hZ (hw _ (List.mem_of_getElem? (i := 4) rfl))) (mvT hZ (hw _ (List.mem_of_getElem? (i := 5) rfl))) (mvT hZ (hw _ (List.mem_of_getElem? (i := 6) rfl))) (mvT hZ (hw _ (List.mem_of_getElem? (i := 7) rfl))) (by decide) (backOf (W := 1) (oR2 l Z a0 hw [] p4 h0 n0 Z0) hZ (hw _ (List.mem_of_getElem? (i := 7) rfl)) (hw _ (List.mem_of_getElem? (i := 6) rfl)) (by decide) (by decide)) (g := (mkF m 56 #[.val (.int p1), .val (.int p2), .val (.int p3), .val (.int p4)] [(.int p4), (.int (oF1_0 p4))])) rfl (by rw [hml]; rfl) (argsL := [(.int p4)]) (rest := [(.int (oF1_0 p4))]) (lenOf pd_0 rfl) rfl (by show 2 * 0 + _ ≤ _; exact Nat.le_of_eq rfl) (hb hby at_56) (fun _ _ => ⟨rfl, e52, hcs, hss⟩)
  dsimp only [Pt.U, Pt.locs, Pt.cells, Pt.slots] at X56 l56 y56 z56 st56 hQ56
  subst l56
  rw [y56, z56] at X56
  obtain ⟨rfl, N56q, e56⟩ := hQ56
  have N56 := Fr.app N52 N56q
  refine oPre st56 ?_
  show oEnd p e s below T56 (mkF m 59 #[.val (.int p1), .val (.int p2), .val (.int p3), .val (.int p4)] [(.int (oF2_0 p4)), (.int (oF1_0 p4))]) n0 h0 cells slots (some (.int w))
  by_cases h59 : (oF1_0 p4) = (oF2_0 p4)
  · have v59 : (oF0_67 p1 p2 p3 p4 (1 : Int32)) = w := (if_pos h59).symm.trans hv
    refine oPre (fun _ => XS.icmpNo X56.here hx rfl (hb hby at_59) rfl (((teq h59).2))) ?_
    show oEnd p e s below T56 (mkF m 62 #[.val (.int p1), .val (.int p2), .val (.int p3), .val (.int p4)] []) n0 h0 cells slots (some (.int w))
    refine oPre (fun _ => XS.iconst X56.here hx rfl (hb hby at_62)) ?_
    show oEnd p e s below T56 (mkF m 63 #[.val (.int p1), .val (.int p2), .val (.int p3), .val (.int p4)] [(.int (1 : Int32))]) n0 h0 cells slots (some (.int w))
    refine oPre (fun _ => XS.goto X56.here hx rfl (pc0 := 63) (pc' := 67) rfl (hb hby at_63) (by decide) (by decide)) ?_
    exact oB0_67 X56 hx hby hml hret hlk hown hZ hw e56 N56 Z0 hcs hss p1 p2 p3 p4 (1 : Int32) v59
  · have v59 : (oF0_67 p1 p2 p3 p4 (0 : Int32)) = w := (if_neg h59).symm.trans hv
    refine oPre (fun _ => XS.icmpYes X56.here hx rfl (pc0 := 59) (pc' := 66) rfl (hb hby at_59) rfl (((feq h59).2)) (by decide) (by decide)) ?_
    show oEnd p e s below T56 (mkF m 66 #[.val (.int p1), .val (.int p2), .val (.int p3), .val (.int p4)] []) n0 h0 cells slots (some (.int w))
    refine oPre (fun _ => XS.iconst X56.here hx rfl (hb hby at_66)) ?_
    exact oB0_67 X56 hx hby hml hret hlk hown hZ hw e56 N56 Z0 hcs hss p1 p2 p3 p4 (0 : Int32) v59
def oF0_0 (p1 : Int32) (p2 : Int32) : Int32 := (if (p2 &&& (3 : Int32)) = (0 : Int32) then (oF0_51 p1 p2 (p2 &&& (3 : Int32)) p1) else (if (p2 &&& (3 : Int32)) = (1 : Int32) then (oF0_51 p1 p2 (p2 &&& (3 : Int32)) (p1 &&& (63 : Int32))) else (if (p2 &&& (3 : Int32)) = (2 : Int32) then (oF0_51 p1 p2 (p2 &&& (3 : Int32)) ((96 : Int32) + (p1 &&& (127 : Int32)))) else (oF0_51 p1 p2 (p2 &&& (3 : Int32)) ((8192 : Int32) + (p1 &&& (63 : Int32)))))))
set_option maxRecDepth 65536 in
set_option maxHeartbeats 4000000 in
theorem oB0_0 {p : Program} {l : Launch} {e : Env} {s : State} {m : MethodId} {args : Array Value} {below : List Frame} {meth : Method} {c : Code} {T : State} {locs : List Loc} {cells slots : Nat} {Z : State} {a0 : Array Value} {h0 : Heap} {n0 : Nat} (X : Stand p l e room_1 s m args below meth c T locs cells slots) (hx : p.tables.exec = Jvm.exec) (hby : c.code = code) (hml : c.maxLocals = 4) (hret : meth.sig.returnType = some .boolean) (hlk : meth.locks = false) (hown : s.vm.findClass "com/example/wary_query/waryquery/model/XmlCharactersIsReferenceOnlyInXml11PinLaw" = some m.cls) (hZ : Z.Warmed39 s.vm) (hw : ∀ d ∈ tables_1, d.before a0 Z = true) (eT : T.heap = h0) (N : Fr n0 locs) (Z0 : n0 ≤ h0.size) (hcs : cells ≤ room_1.cells) (hss : slots ≤ room_1.slots) (p1 : Int32) (p2 : Int32) {w : Int32} (hv : oF0_0 p1 p2 = w) : oEnd p e s below T (mkF m 0 #[.val (.int p1), .val (.int p2), .unset, .unset] []) n0 h0 cells slots (some (.int w)) := by
  show oEnd p e s below T (mkF m 0 #[.val (.int p1), .val (.int p2), .unset, .unset] []) n0 h0 cells slots (some (.int w))
  refine oPre (fun _ => XS.iloadN X.here hx rfl (hb hby at_0) rfl) ?_
  show oEnd p e s below T (mkF m 1 #[.val (.int p1), .val (.int p2), .unset, .unset] [(.int p2)]) n0 h0 cells slots (some (.int w))
  refine oPre (fun _ => XS.iconst X.here hx rfl (hb hby at_1)) ?_
  show oEnd p e s below T (mkF m 2 #[.val (.int p1), .val (.int p2), .unset, .unset] [(.int (3 : Int32)), (.int p2)]) n0 h0 cells slots (some (.int w))
  refine oPre (fun _ => XS.iand X.here hx rfl (hb hby at_2) rfl) ?_
  show oEnd p e s below T (mkF m 3 #[.val (.int p1), .val (.int p2), .unset, .unset] [(.int (p2 &&& (3 : Int32)))]) n0 h0 cells slots (some (.int w))
  refine oPre (fun _ => XS.istoreN X.here hx rfl (hb hby at_3) rfl (l' := #[.val (.int p1), .val (.int p2), .val (.int (p2 &&& (3 : Int32))), .unset]) rfl) ?_
  show oEnd p e s below T (mkF m 4 #[.val (.int p1), .val (.int p2), .val (.int (p2 &&& (3 : Int32))), .unset] []) n0 h0 cells slots (some (.int w))
  refine oPre (fun _ => XS.iloadN X.here hx rfl (hb hby at_4) rfl) ?_
  show oEnd p e s below T (mkF m 5 #[.val (.int p1), .val (.int p2), .val (.int (p2 &&& (3 : Int32))), .unset] [(.int (p2 &&& (3 : Int32)))]) n0 h0 cells slots (some (.int w))
  by_cases h5 : (p2 &&& (3 : Int32)) = (0 : Int32)
  · have v5 : (oF0_51 p1 p2 (p2 &&& (3 : Int32)) p1) = w := (if_pos h5).symm.trans hv
    refine oPre (fun _ => XS.ifNo X.here hx rfl (hb hby at_5) rfl ((if0 _ _).trans ((teq h5).2))) ?_
    show oEnd p e s below T (mkF m 8 #[.val (.int p1), .val (.int p2), .val (.int (p2 &&& (3 : Int32))), .unset] []) n0 h0 cells slots (some (.int w))
    refine oPre (fun _ => XS.iloadN X.here hx rfl (hb hby at_8) rfl) ?_
    show oEnd p e s below T (mkF m 9 #[.val (.int p1), .val (.int p2), .val (.int (p2 &&& (3 : Int32))), .unset] [(.int p1)]) n0 h0 cells slots (some (.int w))
    refine oPre (fun _ => XS.istoreN X.here hx rfl (hb hby at_9) rfl (l' := #[.val (.int p1), .val (.int p2), .val (.int (p2 &&& (3 : Int32))), .val (.int p1)]) rfl) ?_
    show oEnd p e s below T (mkF m 10 #[.val (.int p1), .val (.int p2), .val (.int (p2 &&& (3 : Int32))), .val (.int p1)] []) n0 h0 cells slots (some (.int w))
    refine oPre (fun _ => XS.goto X.here hx rfl (pc0 := 10) (pc' := 51) rfl (hb hby at_10) (by decide) (by decide)) ?_
    exact oB0_51 X hx hby hml hret hlk hown hZ hw eT N Z0 hcs hss p1 p2 (p2 &&& (3 : Int32)) p1 v5
  · have v5 : (if (p2 &&& (3 : Int32)) = (1 : Int32) then (oF0_51 p1 p2 (p2 &&& (3 : Int32)) (p1 &&& (63 : Int32))) else (if (p2 &&& (3 : Int32)) = (2 : Int32) then (oF0_51 p1 p2 (p2 &&& (3 : Int32)) ((96 : Int32) + (p1 &&& (127 : Int32)))) else (oF0_51 p1 p2 (p2 &&& (3 : Int32)) ((8192 : Int32) + (p1 &&& (63 : Int32)))))) = w := (if_neg h5).symm.trans hv
    refine oPre (fun _ => XS.ifYes X.here hx rfl (pc0 := 5) (pc' := 13) rfl (hb hby at_5) rfl ((if0 _ _).trans ((feq h5).2)) (by decide) (by decide)) ?_
    show oEnd p e s below T (mkF m 13 #[.val (.int p1), .val (.int p2), .val (.int (p2 &&& (3 : Int32))), .unset] []) n0 h0 cells slots (some (.int w))
    refine oPre (fun _ => XS.iloadN X.here hx rfl (hb hby at_13) rfl) ?_
    show oEnd p e s below T (mkF m 14 #[.val (.int p1), .val (.int p2), .val (.int (p2 &&& (3 : Int32))), .unset] [(.int (p2 &&& (3 : Int32)))]) n0 h0 cells slots (some (.int w))
    refine oPre (fun _ => XS.iconst X.here hx rfl (hb hby at_14)) ?_
    show oEnd p e s below T (mkF m 15 #[.val (.int p1), .val (.int p2), .val (.int (p2 &&& (3 : Int32))), .unset] [(.int (1 : Int32)), (.int (p2 &&& (3 : Int32)))]) n0 h0 cells slots (some (.int w))
    by_cases h15 : (p2 &&& (3 : Int32)) = (1 : Int32)
    · have v15 : (oF0_51 p1 p2 (p2 &&& (3 : Int32)) (p1 &&& (63 : Int32))) = w := (if_pos h15).symm.trans v5
      refine oPre (fun _ => XS.icmpNo X.here hx rfl (hb hby at_15) rfl (((teq h15).2))) ?_
      show oEnd p e s below T (mkF m 18 #[.val (.int p1), .val (.int p2), .val (.int (p2 &&& (3 : Int32))), .unset] []) n0 h0 cells slots (some (.int w))
      refine oPre (fun _ => XS.iloadN X.here hx rfl (hb hby at_18) rfl) ?_
      show oEnd p e s below T (mkF m 19 #[.val (.int p1), .val (.int p2), .val (.int (p2 &&& (3 : Int32))), .unset] [(.int p1)]) n0 h0 cells slots (some (.int w))
      refine oPre (fun _ => XS.bipush X.here hx rfl (hb hby at_19)) ?_
      show oEnd p e s below T (mkF m 21 #[.val (.int p1), .val (.int p2), .val (.int (p2 &&& (3 : Int32))), .unset] [(.int (63 : Int32)), (.int p1)]) n0 h0 cells slots (some (.int w))
      refine oPre (fun _ => XS.iand X.here hx rfl (hb hby at_21) rfl) ?_
      show oEnd p e s below T (mkF m 22 #[.val (.int p1), .val (.int p2), .val (.int (p2 &&& (3 : Int32))), .unset] [(.int (p1 &&& (63 : Int32)))]) n0 h0 cells slots (some (.int w))
      refine oPre (fun _ => XS.istoreN X.here hx rfl (hb hby at_22) rfl (l' := #[.val (.int p1), .val (.int p2), .val (.int (p2 &&& (3 : Int32))), .val (.int (p1 &&& (63 : Int32)))]) rfl) ?_
      show oEnd p e s below T (mkF m 23 #[.val (.int p1), .val (.int p2), .val (.int (p2 &&& (3 : Int32))), .val (.int (p1 &&& (63 : Int32)))] []) n0 h0 cells slots (some (.int w))
      refine oPre (fun _ => XS.goto X.here hx rfl (pc0 := 23) (pc' := 51) rfl (hb hby at_23) (by decide) (by decide)) ?_
      exact oB0_51 X hx hby hml hret hlk hown hZ hw eT N Z0 hcs hss p1 p2 (p2 &&& (3 : Int32)) (p1 &&& (63 : Int32)) v15
    · have v15 : (if (p2 &&& (3 : Int32)) = (2 : Int32) then (oF0_51 p1 p2 (p2 &&& (3 : Int32)) ((96 : Int32) + (p1 &&& (127 : Int32)))) else (oF0_51 p1 p2 (p2 &&& (3 : Int32)) ((8192 : Int32) + (p1 &&& (63 : Int32))))) = w := (if_neg h15).symm.trans v5
      refine oPre (fun _ => XS.icmpYes X.here hx rfl (pc0 := 15) (pc' := 26) rfl (hb hby at_15) rfl (((feq h15).2)) (by decide) (by decide)) ?_
      show oEnd p e s below T (mkF m 26 #[.val (.int p1), .val (.int p2), .val (.int (p2 &&& (3 : Int32))), .unset] []) n0 h0 cells slots (some (.int w))
      refine oPre (fun _ => XS.iloadN X.here hx rfl (hb hby at_26) rfl) ?_
      show oEnd p e s below T (mkF m 27 #[.val (.int p1), .val (.int p2), .val (.int (p2 &&& (3 : Int32))), .unset] [(.int (p2 &&& (3 : Int32)))]) n0 h0 cells slots (some (.int w))
      refine oPre (fun _ => XS.iconst X.here hx rfl (hb hby at_27)) ?_
      show oEnd p e s below T (mkF m 28 #[.val (.int p1), .val (.int p2), .val (.int (p2 &&& (3 : Int32))), .unset] [(.int (2 : Int32)), (.int (p2 &&& (3 : Int32)))]) n0 h0 cells slots (some (.int w))
      by_cases h28 : (p2 &&& (3 : Int32)) = (2 : Int32)
      · have v28 : (oF0_51 p1 p2 (p2 &&& (3 : Int32)) ((96 : Int32) + (p1 &&& (127 : Int32)))) = w := (if_pos h28).symm.trans v15
        refine oPre (fun _ => XS.icmpNo X.here hx rfl (hb hby at_28) rfl (((teq h28).2))) ?_
        show oEnd p e s below T (mkF m 31 #[.val (.int p1), .val (.int p2), .val (.int (p2 &&& (3 : Int32))), .unset] []) n0 h0 cells slots (some (.int w))
        refine oPre (fun _ => XS.bipush X.here hx rfl (hb hby at_31)) ?_
        show oEnd p e s below T (mkF m 33 #[.val (.int p1), .val (.int p2), .val (.int (p2 &&& (3 : Int32))), .unset] [(.int (96 : Int32))]) n0 h0 cells slots (some (.int w))
        refine oPre (fun _ => XS.iloadN X.here hx rfl (hb hby at_33) rfl) ?_
        show oEnd p e s below T (mkF m 34 #[.val (.int p1), .val (.int p2), .val (.int (p2 &&& (3 : Int32))), .unset] [(.int p1), (.int (96 : Int32))]) n0 h0 cells slots (some (.int w))
        refine oPre (fun _ => XS.bipush X.here hx rfl (hb hby at_34)) ?_
        show oEnd p e s below T (mkF m 36 #[.val (.int p1), .val (.int p2), .val (.int (p2 &&& (3 : Int32))), .unset] [(.int (127 : Int32)), (.int p1), (.int (96 : Int32))]) n0 h0 cells slots (some (.int w))
        refine oPre (fun _ => XS.iand X.here hx rfl (hb hby at_36) rfl) ?_
        show oEnd p e s below T (mkF m 37 #[.val (.int p1), .val (.int p2), .val (.int (p2 &&& (3 : Int32))), .unset] [(.int (p1 &&& (127 : Int32))), (.int (96 : Int32))]) n0 h0 cells slots (some (.int w))
        refine oPre (fun _ => XS.iadd X.here hx rfl (hb hby at_37) rfl) ?_
        show oEnd p e s below T (mkF m 38 #[.val (.int p1), .val (.int p2), .val (.int (p2 &&& (3 : Int32))), .unset] [(.int ((96 : Int32) + (p1 &&& (127 : Int32))))]) n0 h0 cells slots (some (.int w))
        refine oPre (fun _ => XS.istoreN X.here hx rfl (hb hby at_38) rfl (l' := #[.val (.int p1), .val (.int p2), .val (.int (p2 &&& (3 : Int32))), .val (.int ((96 : Int32) + (p1 &&& (127 : Int32))))]) rfl) ?_
        show oEnd p e s below T (mkF m 39 #[.val (.int p1), .val (.int p2), .val (.int (p2 &&& (3 : Int32))), .val (.int ((96 : Int32) + (p1 &&& (127 : Int32))))] []) n0 h0 cells slots (some (.int w))
        refine oPre (fun _ => XS.goto X.here hx rfl (pc0 := 39) (pc' := 51) rfl (hb hby at_39) (by decide) (by decide)) ?_
        exact oB0_51 X hx hby hml hret hlk hown hZ hw eT N Z0 hcs hss p1 p2 (p2 &&& (3 : Int32)) ((96 : Int32) + (p1 &&& (127 : Int32))) v28
      · have v28 : (oF0_51 p1 p2 (p2 &&& (3 : Int32)) ((8192 : Int32) + (p1 &&& (63 : Int32)))) = w := (if_neg h28).symm.trans v15
        refine oPre (fun _ => XS.icmpYes X.here hx rfl (pc0 := 28) (pc' := 42) rfl (hb hby at_28) rfl (((feq h28).2)) (by decide) (by decide)) ?_
        show oEnd p e s below T (mkF m 42 #[.val (.int p1), .val (.int p2), .val (.int (p2 &&& (3 : Int32))), .unset] []) n0 h0 cells slots (some (.int w))
        refine oPre (fun _ => XS.sipush X.here hx rfl (hb hby at_42)) ?_
        show oEnd p e s below T (mkF m 45 #[.val (.int p1), .val (.int p2), .val (.int (p2 &&& (3 : Int32))), .unset] [(.int (8192 : Int32))]) n0 h0 cells slots (some (.int w))
        refine oPre (fun _ => XS.iloadN X.here hx rfl (hb hby at_45) rfl) ?_
        show oEnd p e s below T (mkF m 46 #[.val (.int p1), .val (.int p2), .val (.int (p2 &&& (3 : Int32))), .unset] [(.int p1), (.int (8192 : Int32))]) n0 h0 cells slots (some (.int w))
        refine oPre (fun _ => XS.bipush X.here hx rfl (hb hby at_46)) ?_
        show oEnd p e s below T (mkF m 48 #[.val (.int p1), .val (.int p2), .val (.int (p2 &&& (3 : Int32))), .unset] [(.int (63 : Int32)), (.int p1), (.int (8192 : Int32))]) n0 h0 cells slots (some (.int w))
        refine oPre (fun _ => XS.iand X.here hx rfl (hb hby at_48) rfl) ?_
        show oEnd p e s below T (mkF m 49 #[.val (.int p1), .val (.int p2), .val (.int (p2 &&& (3 : Int32))), .unset] [(.int (p1 &&& (63 : Int32))), (.int (8192 : Int32))]) n0 h0 cells slots (some (.int w))
        refine oPre (fun _ => XS.iadd X.here hx rfl (hb hby at_49) rfl) ?_
        show oEnd p e s below T (mkF m 50 #[.val (.int p1), .val (.int p2), .val (.int (p2 &&& (3 : Int32))), .unset] [(.int ((8192 : Int32) + (p1 &&& (63 : Int32))))]) n0 h0 cells slots (some (.int w))
        refine oPre (fun _ => XS.istoreN X.here hx rfl (hb hby at_50) rfl (l' := #[.val (.int p1), .val (.int p2), .val (.int (p2 &&& (3 : Int32))), .val (.int ((8192 : Int32) + (p1 &&& (63 : Int32))))]) rfl) ?_
        exact oB0_51 X hx hby hml hret hlk hown hZ hw eT N Z0 hcs hss p1 p2 (p2 &&& (3 : Int32)) ((8192 : Int32) + (p1 &&& (63 : Int32))) v28
theorem oLt {c k : Int32} {n : Int} (hk : k.toInt = n) (h : c.toInt < n) : c < k := by rw [Int32.lt_iff_toInt_lt, hk]; exact h
theorem oNlt {c k : Int32} {n : Int} (hk : k.toInt = n) (h : n ≤ c.toInt) : ¬ c < k := by rw [Int32.lt_iff_toInt_lt, hk]; omega
theorem oGt {c k : Int32} {n : Int} (hk : k.toInt = n) (h : n < c.toInt) : k < c := by rw [Int32.lt_iff_toInt_lt, hk]; exact h
theorem oNgt {c k : Int32} {n : Int} (hk : k.toInt = n) (h : c.toInt ≤ n) : ¬ k < c := by rw [Int32.lt_iff_toInt_lt, hk]; omega
theorem oEq {c k : Int32} {n : Int} (hk : k.toInt = n) (h : c.toInt = n) : c = k := Int32.toInt_inj.mp (h.trans hk.symm)
theorem oNe {c k : Int32} {n : Int} (hk : k.toInt = n) (h : c.toInt ≠ n) : ¬ c = k := fun q => h (by rw [q, hk])
theorem oI_0 (c : Int32) (h1 : -2147483648 ≤ c.toInt) (h2 : c.toInt ≤ -1) : oF1_0 c = oF2_0 c := by
  have e_oF1_0 : oF1_0 c = 0 := by
    rw [oF1_0, if_pos (oLt (c := c) (k := (1 : Int32)) (n := 1) (by decide) (by omega)), oF1_11, if_neg (oNe (c := c) (k := (11 : Int32)) (n := 11) (by decide) (by omega)), if_neg (oNe (c := c) (k := (12 : Int32)) (n := 12) (by decide) (by omega)), if_pos (oLt (c := c) (k := (14 : Int32)) (n := 14) (by decide) (by omega)), oF1_35, if_pos (oLt (c := c) (k := (127 : Int32)) (n := 127) (by decide) (by omega)), oF1_48, if_neg (oNe (c := c) (k := (8232 : Int32)) (n := 8232) (by decide) (by omega)), oF1_60]
    try decide
  have e_oF2_0 : oF2_0 c = 0 := by
    rw [oF2_0, if_pos (oLt (c := c) (k := (0 : Int32)) (n := 0) (by decide) (by omega)), oF2_28, if_pos (oLt (c := c) (k := (127 : Int32)) (n := 127) (by decide) (by omega)), oF2_43, if_neg (oNe (c := c) (k := (8232 : Int32)) (n := 8232) (by decide) (by omega)), oF2_55]
    try decide
  rw [e_oF1_0, e_oF2_0]
theorem oI_8 (c : Int32) (h1 : 32 ≤ c.toInt) (h2 : c.toInt ≤ 126) : oF1_0 c = oF2_0 c := by
  have e_oF1_0 : oF1_0 c = 0 := by
    rw [oF1_0, if_neg (oNlt (c := c) (k := (1 : Int32)) (n := 1) (by decide) (by omega)), if_pos (oGt (c := c) (k := (8 : Int32)) (n := 8) (by decide) (by omega)), oF1_11, if_neg (oNe (c := c) (k := (11 : Int32)) (n := 11) (by decide) (by omega)), if_neg (oNe (c := c) (k := (12 : Int32)) (n := 12) (by decide) (by omega)), if_neg (oNlt (c := c) (k := (14 : Int32)) (n := 14) (by decide) (by omega)), if_pos (oGt (c := c) (k := (31 : Int32)) (n := 31) (by decide) (by omega)), oF1_35, if_pos (oLt (c := c) (k := (127 : Int32)) (n := 127) (by decide) (by omega)), oF1_48, if_neg (oNe (c := c) (k := (8232 : Int32)) (n := 8232) (by decide) (by omega)), oF1_60]
    try decide
  have e_oF2_0 : oF2_0 c = 0 := by
    rw [oF2_0, if_neg (oNlt (c := c) (k := (0 : Int32)) (n := 0) (by decide) (by omega)), if_neg (oNlt (c := c) (k := (32 : Int32)) (n := 32) (by decide) (by omega)), oF2_28, if_pos (oLt (c := c) (k := (127 : Int32)) (n := 127) (by decide) (by omega)), oF2_43, if_neg (oNe (c := c) (k := (8232 : Int32)) (n := 8232) (by decide) (by omega)), oF2_55]
    try decide
  rw [e_oF1_0, e_oF2_0]
theorem oI_9 (c : Int32) (h1 : 127 ≤ c.toInt) (h2 : c.toInt ≤ 159) : oF1_0 c = oF2_0 c := by
  have e_oF1_0 : oF1_0 c = 1 := by
    rw [oF1_0, if_neg (oNlt (c := c) (k := (1 : Int32)) (n := 1) (by decide) (by omega)), if_pos (oGt (c := c) (k := (8 : Int32)) (n := 8) (by decide) (by omega)), oF1_11, if_neg (oNe (c := c) (k := (11 : Int32)) (n := 11) (by decide) (by omega)), if_neg (oNe (c := c) (k := (12 : Int32)) (n := 12) (by decide) (by omega)), if_neg (oNlt (c := c) (k := (14 : Int32)) (n := 14) (by decide) (by omega)), if_pos (oGt (c := c) (k := (31 : Int32)) (n := 31) (by decide) (by omega)), oF1_35, if_neg (oNlt (c := c) (k := (127 : Int32)) (n := 127) (by decide) (by omega)), if_neg (oNgt (c := c) (k := (159 : Int32)) (n := 159) (by decide) (by omega)), oF1_55, oF1_60]
    try decide
  have e_oF2_0 : oF2_0 c = 1 := by
    rw [oF2_0, if_neg (oNlt (c := c) (k := (0 : Int32)) (n := 0) (by decide) (by omega)), if_neg (oNlt (c := c) (k := (32 : Int32)) (n := 32) (by decide) (by omega)), oF2_28, if_neg (oNlt (c := c) (k := (127 : Int32)) (n := 127) (by decide) (by omega)), if_neg (oNgt (c := c) (k := (159 : Int32)) (n := 159) (by decide) (by omega))]
    try decide
  rw [e_oF1_0, e_oF2_0]
theorem oI_10 (c : Int32) (h1 : 160 ≤ c.toInt) (h2 : c.toInt ≤ 8231) : oF1_0 c = oF2_0 c := by
  have e_oF1_0 : oF1_0 c = 0 := by
    rw [oF1_0, if_neg (oNlt (c := c) (k := (1 : Int32)) (n := 1) (by decide) (by omega)), if_pos (oGt (c := c) (k := (8 : Int32)) (n := 8) (by decide) (by omega)), oF1_11, if_neg (oNe (c := c) (k := (11 : Int32)) (n := 11) (by decide) (by omega)), if_neg (oNe (c := c) (k := (12 : Int32)) (n := 12) (by decide) (by omega)), if_neg (oNlt (c := c) (k := (14 : Int32)) (n := 14) (by decide) (by omega)), if_pos (oGt (c := c) (k := (31 : Int32)) (n := 31) (by decide) (by omega)), oF1_35, if_neg (oNlt (c := c) (k := (127 : Int32)) (n := 127) (by decide) (by omega)), if_pos (oGt (c := c) (k := (159 : Int32)) (n := 159) (by decide) (by omega)), oF1_48, if_neg (oNe (c := c) (k := (8232 : Int32)) (n := 8232) (by decide) (by omega)), oF1_60]
    try decide
  have e_oF2_0 : oF2_0 c = 0 := by
    rw [oF2_0, if_neg (oNlt (c := c) (k := (0 : Int32)) (n := 0) (by decide) (by omega)), if_neg (oNlt (c := c) (k := (32 : Int32)) (n := 32) (by decide) (by omega)), oF2_28, if_neg (oNlt (c := c) (k := (127 : Int32)) (n := 127) (by decide) (by omega)), if_pos (oGt (c := c) (k := (159 : Int32)) (n := 159) (by decide) (by omega)), oF2_43, if_neg (oNe (c := c) (k := (8232 : Int32)) (n := 8232) (by decide) (by omega)), oF2_55]
    try decide
  rw [e_oF1_0, e_oF2_0]
theorem oI_11 (c : Int32) (h1 : 8232 ≤ c.toInt) (h2 : c.toInt ≤ 8232) : oF1_0 c = oF2_0 c := by
  have e_oF1_0 : oF1_0 c = 1 := by
    rw [oF1_0, if_neg (oNlt (c := c) (k := (1 : Int32)) (n := 1) (by decide) (by omega)), if_pos (oGt (c := c) (k := (8 : Int32)) (n := 8) (by decide) (by omega)), oF1_11, if_neg (oNe (c := c) (k := (11 : Int32)) (n := 11) (by decide) (by omega)), if_neg (oNe (c := c) (k := (12 : Int32)) (n := 12) (by decide) (by omega)), if_neg (oNlt (c := c) (k := (14 : Int32)) (n := 14) (by decide) (by omega)), if_pos (oGt (c := c) (k := (31 : Int32)) (n := 31) (by decide) (by omega)), oF1_35, if_neg (oNlt (c := c) (k := (127 : Int32)) (n := 127) (by decide) (by omega)), if_pos (oGt (c := c) (k := (159 : Int32)) (n := 159) (by decide) (by omega)), oF1_48, if_pos (oEq (c := c) (k := (8232 : Int32)) (n := 8232) (by decide) (by omega)), oF1_55, oF1_60]
    try decide
  have e_oF2_0 : oF2_0 c = 1 := by
    rw [oF2_0, if_neg (oNlt (c := c) (k := (0 : Int32)) (n := 0) (by decide) (by omega)), if_neg (oNlt (c := c) (k := (32 : Int32)) (n := 32) (by decide) (by omega)), oF2_28, if_neg (oNlt (c := c) (k := (127 : Int32)) (n := 127) (by decide) (by omega)), if_pos (oGt (c := c) (k := (159 : Int32)) (n := 159) (by decide) (by omega)), oF2_43, if_pos (oEq (c := c) (k := (8232 : Int32)) (n := 8232) (by decide) (by omega)), oF2_55]
    try decide
  rw [e_oF1_0, e_oF2_0]
theorem oI_12 (c : Int32) (h1 : 8233 ≤ c.toInt) (h2 : c.toInt ≤ 2147483647) : oF1_0 c = oF2_0 c := by
  have e_oF1_0 : oF1_0 c = 0 := by
    rw [oF1_0, if_neg (oNlt (c := c) (k := (1 : Int32)) (n := 1) (by decide) (by omega)), if_pos (oGt (c := c) (k := (8 : Int32)) (n := 8) (by decide) (by omega)), oF1_11, if_neg (oNe (c := c) (k := (11 : Int32)) (n := 11) (by decide) (by omega)), if_neg (oNe (c := c) (k := (12 : Int32)) (n := 12) (by decide) (by omega)), if_neg (oNlt (c := c) (k := (14 : Int32)) (n := 14) (by decide) (by omega)), if_pos (oGt (c := c) (k := (31 : Int32)) (n := 31) (by decide) (by omega)), oF1_35, if_neg (oNlt (c := c) (k := (127 : Int32)) (n := 127) (by decide) (by omega)), if_pos (oGt (c := c) (k := (159 : Int32)) (n := 159) (by decide) (by omega)), oF1_48, if_neg (oNe (c := c) (k := (8232 : Int32)) (n := 8232) (by decide) (by omega)), oF1_60]
    try decide
  have e_oF2_0 : oF2_0 c = 0 := by
    rw [oF2_0, if_neg (oNlt (c := c) (k := (0 : Int32)) (n := 0) (by decide) (by omega)), if_neg (oNlt (c := c) (k := (32 : Int32)) (n := 32) (by decide) (by omega)), oF2_28, if_neg (oNlt (c := c) (k := (127 : Int32)) (n := 127) (by decide) (by omega)), if_pos (oGt (c := c) (k := (159 : Int32)) (n := 159) (by decide) (by omega)), oF2_43, if_neg (oNe (c := c) (k := (8232 : Int32)) (n := 8232) (by decide) (by omega)), oF2_55]
    try decide
  rw [e_oF1_0, e_oF2_0]
theorem oSmall : ∀ n : Fin 32, oF1_0 (Int32.ofInt (n.val : Int)) = oF2_0 (Int32.ofInt (n.val : Int)) := by decide +kernel
theorem oAgree (c : Int32) : oF1_0 c = oF2_0 c := by
  have hlo := c.le_toInt
  have hhi := c.toInt_lt
  by_cases g0 : c.toInt ≤ -1
  · exact oI_0 c (by omega) g0
  by_cases gs : c.toInt < 32
  · have q := oSmall ⟨c.toInt.toNat, by omega⟩
    have e : ((c.toInt.toNat : Nat) : Int) = c.toInt := Int.toNat_of_nonneg (by omega)
    simp only [e, Int32.ofInt_toInt] at q
    exact q
  by_cases g8 : c.toInt ≤ 126
  · exact oI_8 c (by omega) g8
  by_cases g9 : c.toInt ≤ 159
  · exact oI_9 c (by omega) g9
  by_cases g10 : c.toInt ≤ 8231
  · exact oI_10 c (by omega) g10
  by_cases g11 : c.toInt ≤ 8232
  · exact oI_11 c (by omega) g11
  by_cases g12 : c.toInt ≤ 2147483647
  · exact oI_12 c (by omega) g12
  exfalso; omega
theorem oAt (a b d c : Int32) : oF0_51 a b d c = 1 := by
  rw [oF0_51, if_pos (oAgree c)]
  rfl
theorem oLaw (p1 p2 : Int32) : oF0_0 p1 p2 = 1 := by
  rw [oF0_0]
  by_cases h1 : (p2 &&& (3 : Int32)) = (0 : Int32)
  · rw [if_pos h1, oAt]
  · rw [if_neg h1]
    by_cases h2 : (p2 &&& (3 : Int32)) = (1 : Int32)
    · rw [if_pos h2, oAt]
    · rw [if_neg h2]
      by_cases h3 : (p2 &&& (3 : Int32)) = (2 : Int32)
      · rw [if_pos h3, oAt]
      · rw [if_neg h3, oAt]
theorem pn_0 : plainName "com/example/wary_query/waryquery/model/XmlCharactersIsReferenceOnlyInXml11PinLaw" = true := by first | (simp [plainName, overriddenIn]; done) | decide +kernel
theorem ef_0 (m : MethodId) (p1 : Int32) (p2 : Int32) : entryFrame m #[(.int p1), (.int p2)] maxLocals = mkF m 0 #[.val (.int p1), .val (.int p2), .unset, .unset] [] := by first | (simp [entryFrame, mkF, argsToLocals, Value.category, maxLocals]; done) | rfl
def oQ0 (p1 : Int32) (p2 : Int32) (h0 : Heap) (n0 : Nat) (v : Option Value) (h : Heap) (L : List Loc) : Prop := v = some (.int (1)) ∧ Fr n0 L ∧ h = h0
set_option maxRecDepth 65536 in
set_option maxHeartbeats 4000000 in
theorem oR0 (l : Launch) (Z : State) (a0 : Array Value) (hw : ∀ d ∈ tables_1, d.before a0 Z = true) (ws : List Jvm.Cond) (p1 : Int32) (p2 : Int32) (h0 : Heap) (n0 : Nat) (Z0 : n0 ≤ h0.size) :
    MetFree l x (head1 (Jvm.Cond.code x code maxLocals ret :: ws) room_1) (fun a U => a = #[(.int p1), (.int p2)] ∧ Z.Warmed39 U.vm ∧ U.heap = h0) (fun _ _ _ _ _ => True) (fun _ U o U' => ∃ v L, o = .returned v ∧ oQ0 p1 p2 h0 n0 v U'.heap L ∧ FrameEnd U o U' L room_1.cells room_1.slots) := by
  refine MetFree.of_bodySF (plainFor_of_name pn_0) hisR ?_
  intro p e s m args below meth c s₁ Bd hml0 hP hK
  obtain ⟨rfl, hZ, hh⟩ := hP
  have hown : s.vm.findClass "com/example/wary_query/waryquery/model/XmlCharactersIsReferenceOnlyInXml11PinLaw" = some m.cls := findClass_of_methodNamed Bd.named
  have X0 : Stand p l e room_1 s m #[(.int p1), (.int p2)] below meth c s₁ [] 0 0 := Stand.of_body Bd
  have e0 : s₁.heap = h0 := by rw [← hh, Bd.state]; rfl
  obtain ⟨t, L, hs, hrun, hended, hW, hsame, hN, ht⟩ := oB0_0 X0 Bd.exec Bd.bytes hml0 Bd.returns Bd.notSynchronized hown hZ hw e0 (Fr.nil n0) Z0 (Nat.zero_le _) (Nat.zero_le _) p1 p2 (oLaw p1 p2)
  exact ⟨t, _, castTop (ef_0 m p1 p2) hs, hrun, hended, _, L, rfl, ⟨rfl, hN, ht⟩, ⟨_, rfl⟩, hW, hsame.mono (Nat.zero_le _) (Nat.zero_le _)⟩
set_option maxRecDepth 65536 in
set_option maxHeartbeats 4000000 in
theorem comes_1 {Post : Tables → Env → Array Value → State → Outcome → State → Prop} (hpost : ∀ tb e args s v u, (limb_1_1.after args s (.returned v) u = true ∧ limb_1_2.after args s (.returned v) u = true ∧ True) → FrameEnd s (.returned v) u (Jvm.fieldLocs frame_1_writes args s ++ Jvm.arrayLocs frame_1_arrays args s ++ Jvm.staticLocs frame_1_statics s) 0 0 → Post tb e args s (.returned v) u) :
    ArmFor flags0 classFile x code maxLocals ret World_1 tables_1 room_1 Calls_1 rest_1 Pre_1 Post := by
  intro l hfl _ _ p e ha hc hk s m args below hf hA hF happ hP
  obtain ⟨hcalls, hrest, hpre⟩ := hP
  obtain ⟨-, -, -, hnamed, -, -, -, hat⟩ := (Spec.applies_iff hf).mp happ
  obtain ⟨hg, hn⟩ := and_e (Cond.before_iff.mp (show (Jvm.Cond.and given_1 narrow_1).before args s = true from hpre))
  obtain ⟨gc, gr0⟩ := and_e hg
  obtain ⟨g0, gr1⟩ := and_e gr0
  have g1 := gr1
  obtain ⟨w0, w1, rfl⟩ : ∃ w0 w1 : Value, args = #[w0, w1] := by
    have hs : args.size = 2 := by simpa [Cond.value, given_1] using gc
    obtain ⟨L⟩ := args
    match L, hs with
    | [w0, w1], _ => exact ⟨w0, w1, rfl⟩
  have hw := fun d (hd : d ∈ tables_1) => atoms_spec (ws := Jvm.Cond.code x code maxLocals ret :: tables_1) hat d (List.mem_cons_of_mem _ hd)
  obtain ⟨i0, ei0⟩ := is_v g0
  obtain rfl : w0 = (.int i0) := Option.some.inj ei0
  obtain ⟨i1, ei1⟩ := is_v g1
  obtain rfl : w1 = (.int i1) := Option.some.inj ei1
  obtain ⟨n, o, h1, h2, h3, _, L, rfl, ⟨rfl, N, -⟩, hq⟩ := oR0 l s _ hw tables_1 i0 i1 s.heap s.heap.size (Nat.le_refl _) p e ha hc hk s m _ below hf ((Spec.applies_iff_loose hf).mp happ).1 ⟨rfl, State.Warmed39.refl s, rfl⟩ trivial
  refine ⟨n, _, h1, h2, h3, hpost _ _ _ _ _ _ ⟨Cond.after_iff.mpr rfl, Cond.after_iff.mpr (eq_i res_at (Term.int_eval (1)) rfl), trivial⟩ ⟨hq.1, hq.2.1, (hq.2.2.sift fun y hy => Or.inr (N y hy)).mono (by decide) (by decide)⟩⟩
theorem main_1_1 : Claimed_1_1 := comes_1 fun _ _ _ _ _ _ h hF => ⟨h.1, hF⟩
theorem main_1_2 : Claimed_1_2 := comes_1 fun _ _ _ _ _ _ h hF => ⟨h.2.1, hF⟩
end Jvm.Pilot.@@N@@
namespace Jvm.Pilot.@@N@@
open Jvm Jvm.ClassFile Sem Op Lib Jvm.Free Jvm.Stand Jvm.Pilot.@@N@@.Jvm.D
/-! MADE BY PROGRAM (witnessworld.py) out of the Statement's table words and the real class files: 9 classes; the members and pool entries that the words name. The judged class is class 1, her method 1. -/
namespace start1
open Jvm.ClassFile
def u (s : String) : CpInfo := .utf8 (stringToUtf16 s)
/-- a pool by its gaps: so many unusable entries, then the entry; so many at the end -/
def gap : Nat → List CpInfo → List CpInfo
  | 0, r => r
  | n + 1, r => .unusable :: gap n r
def poolList (es : List (Nat × CpInfo)) (last : Nat) : List CpInfo := es.foldr (fun e r => gap e.1 (e.2 :: r)) (gap last [])
def pool (es : List (Nat × CpInfo)) (last : Nat) : Array CpInfo := ⟨poolList es last⟩
def fileOf (pool : Array CpInfo) (this : Nat) (attrs : Array Attribute := #[]) (ms : Array MethodInfo := #[]) (fl : Nat := 33) (sup : Nat := 0) (ifs : Array Nat := #[]) (fds : Array FieldInfo := #[]) : ClassFile where
  minorVersion := 0
  majorVersion := 65
  constantPool := pool
  accessFlags := fl
  thisClass := this
  superClass := sup
  interfaces := ifs
  fields := fds
  methods := ms
  attributes := attrs
def plain (name : String) (sup : Option ClassId) : Class where
  name := name
  kind := .ordinary
  loader := none
  accessFlags := 33
  super := sup
  interfaces := #[]
  cf := none
  fields := #[]
  methods := #[]
  instanceTypes := #[]
  staticTypes := #[]
  resolved := #[]
  callSites := []
  init := .initialized
  statics := none
  mirror := none

def pool0 : Array CpInfo := pool [(5, u "<init>"), (0, u "()V"), (1, .class_ 10), (1, u "java/lang/Object")] 113

def k0m0 : Method := { name := "<init>", desc := "()V", sig := { parameters := [], returnType := none }, accessFlags := 1, code := none }
/-- java/lang/Object -/
def k0 : Class := { plain "java/lang/Object" none with
  accessFlags := 33
  interfaces := #[]
  cf := some (fileOf pool0 8 #[] #[{ accessFlags := 1, nameIndex := 5, descriptorIndex := 6, attributes := #[] }] 33 0 #[] #[])
  fields := #[]
  methods := #[k0m0]
  instanceTypes := #[]
  staticTypes := #[]
  resolved := Array.replicate 124 none
  statics := none }

def pool1 : Array CpInfo := pool [(2, .class_ 4), (1, u "java/lang/Object"), (0, u "<init>"), (0, u "()V"), (0, .methodref 8 9), (0, .class_ 10), (0, .nameAndType 11 12), (0, u "com/example/wary_query/waryquery/model/XmlCharacters"), (0, u "isReferenceOnlyInXml11"), (0, u "(I)Z"), (0, .methodref 14 15), (0, .class_ 16), (0, .nameAndType 17 12), (0, u "com/example/wary_query/waryquery/model/XmlCharactersIsReferenceOnlyInXml11PinLaw"), (0, u "expected"), (0, .long 4294957566), (3, u "law"), (0, u "(II)Z")] 3

def k1m0 : Method := { name := "<init>", desc := "()V", sig := { parameters := [], returnType := none }, accessFlags := 2, code := none }
def k1c1 : Code := { maxStack := 3, maxLocals := 4, code := code, exceptionTable := #[], attributes := #[] }
def k1m1 : Method := { name := "law", desc := "(II)Z", sig := { parameters := [.int, .int], returnType := some .boolean }, accessFlags := 9, code := some k1c1 }
def k1c2 : Code := { maxStack := 4, maxLocals := 1, code := method_3_code, exceptionTable := #[], attributes := #[] }
def k1m2 : Method := { name := "expected", desc := "(I)Z", sig := { parameters := [.int], returnType := some .boolean }, accessFlags := 10, code := some k1c2 }
/-- com/example/wary_query/waryquery/model/XmlCharactersIsReferenceOnlyInXml11PinLaw -/
def k1 : Class := { plain "com/example/wary_query/waryquery/model/XmlCharactersIsReferenceOnlyInXml11PinLaw" (some 0) with
  accessFlags := 49
  interfaces := #[]
  cf := some (fileOf pool1 14 #[] #[{ accessFlags := 2, nameIndex := 5, descriptorIndex := 6, attributes := #[] }, { accessFlags := 9, nameIndex := 22, descriptorIndex := 23, attributes := #[] }, { accessFlags := 10, nameIndex := 17, descriptorIndex := 12, attributes := #[] }] 49 2 #[] #[])
  fields := #[]
  methods := #[k1m0, k1m1, k1m2]
  instanceTypes := #[]
  staticTypes := #[]
  resolved := Array.replicate 27 none
  statics := none }

def pool2 : Array CpInfo := pool [(2, .class_ 4), (1, u "java/lang/Object"), (0, u "<init>"), (0, u "()V"), (1, .class_ 10), (1, u "com/example/wary_query/waryquery/model/XmlCharacters"), (0, u "ENCODING_NAME"), (0, u "Ljava/util/regex/Pattern;"), (26, u "(I)Z"), (18, u "isReferenceOnlyInXml11")] 3

def k2m0 : Method := { name := "<init>", desc := "()V", sig := { parameters := [], returnType := none }, accessFlags := 2, code := none }
def k2c1 : Code := { maxStack := 2, maxLocals := 1, code := prog_252_method_6_code, exceptionTable := #[], attributes := #[] }
def k2m1 : Method := { name := "isReferenceOnlyInXml11", desc := "(I)Z", sig := { parameters := [.int], returnType := some .boolean }, accessFlags := 8, code := some k2c1 }
/-- com/example/wary_query/waryquery/model/XmlCharacters -/
def k2 : Class := { plain "com/example/wary_query/waryquery/model/XmlCharacters" (some 0) with
  accessFlags := 49
  interfaces := #[]
  cf := some (fileOf pool2 8 #[] #[{ accessFlags := 2, nameIndex := 5, descriptorIndex := 6, attributes := #[] }, { accessFlags := 8, nameIndex := 58, descriptorIndex := 39, attributes := #[] }] 49 2 #[] #[{ accessFlags := 26, nameIndex := 11, descriptorIndex := 12, attributes := #[] }])
  fields := #[{ name := "ENCODING_NAME", type := (.object "java/util/regex/Pattern"), accessFlags := 26, slot := 0, constantValue := 0 }]
  methods := #[k2m0, k2m1]
  instanceTypes := #[]
  staticTypes := #[(.object "java/util/regex/Pattern")]
  resolved := Array.replicate 62 none
  statics := none }

def pool3 : Array CpInfo := pool [(1, u "java/lang/Cloneable"), (0, .class_ 1), (0, u "java/lang/Object"), (0, .class_ 3)] 3

/-- java/lang/Cloneable -/
def k3 : Class := { plain "java/lang/Cloneable" (some 0) with
  accessFlags := 1537
  interfaces := #[]
  cf := some (fileOf pool3 2 #[] #[] 1537 4 #[] #[])
  fields := #[]
  methods := #[]
  instanceTypes := #[]
  staticTypes := #[]
  resolved := Array.replicate 8 none
  statics := none }

def pool4 : Array CpInfo := pool [(1, u "java/io/Serializable"), (0, .class_ 1), (0, u "java/lang/Object"), (0, .class_ 3)] 3

/-- java/io/Serializable -/
def k4 : Class := { plain "java/io/Serializable" (some 0) with
  accessFlags := 1537
  interfaces := #[]
  cf := some (fileOf pool4 2 #[] #[] 1537 4 #[] #[])
  fields := #[]
  methods := #[]
  instanceTypes := #[]
  staticTypes := #[]
  resolved := Array.replicate 8 none
  statics := none }

/-- the primitive byte -/
def k5 : Class := { plain "byte" none with kind := .primitive 'B', accessFlags := 0x411 }
/-- [B -/
def k6 : Class := { plain "[B" (some 0) with kind := .array 5 .byte, interfaces := #[3, 4], accessFlags := 1041 }

/-- the primitive int -/
def k7 : Class := { plain "int" none with kind := .primitive 'I', accessFlags := 0x411 }
/-- [I -/
def k8 : Class := { plain "[I" (some 0) with kind := .array 7 .int, interfaces := #[3, 4], accessFlags := 1041 }

def heap : Heap := #[]
def classes : Array Class := #[k0, k1, k2, k3, k4, k5, k6, k7, k8]
def interned : List (Array UInt16 × Addr) := []
def slotsUsed : Nat := 0
def theMethod : MethodId := ⟨1, 1⟩
def args0 : Array Value := #[.int 5, .int 1]
def aboutOver (below : List Frame) : State where
  vm := { classes := classes, interned := interned.toArray }
  heap := heap
  slotsUsed := slotsUsed
  threads := #[{ frames := .invoking theMethod args0 :: below }]
def below0 : List Frame := [.native { method := ⟨0, 0⟩, args := #[] }]
def about1 : State := aboutOver below0
def p0 : Program := .bare "" "" ""
def e0 : Env := launch0.env 0 0 0
theorem w_frames : about1.frames = Frame.invoking theMethod args0 :: below0 := rfl
set_option maxRecDepth 65536 in
theorem w_args : argsFit about1.vm theMethod args0 = true := by decide +kernel
set_option maxRecDepth 65536 in
theorem w_heap : heapFits about1 = true := by decide +kernel
set_option maxRecDepth 65536 in
theorem w_runnable : about1.curStatus? = some .runnable := by decide +kernel
set_option maxRecDepth 65536 in
theorem w_alone : about1.alone = true := by decide +kernel
set_option maxRecDepth 65536 in
theorem w_named : about1.methodNamed? x = some theMethod := by decide +kernel
set_option maxRecDepth 65536 in
theorem w_hears : about1.hears theMethod below0 = true := by decide +kernel
set_option maxRecDepth 65536 in
theorem w_ripe : about1.ripe theMethod args0 below0 = true := by decide +kernel
theorem w_running : about1.status = .running := rfl
set_option maxRecDepth 65536 in
theorem w_room : about1.hasRoom e0.platform room_1 = true :=
  launch0.hasRoom_least _ room_1 (by decide +kernel) (by decide +kernel) (by decide +kernel) (by decide +kernel) (by decide +kernel) (by decide +kernel)
theorem allAtoms_all (ts : List Jvm.Cond) (a : Array Jvm.Value) (st : Jvm.State) : (allAtoms ts).before a st = ts.all (fun c => c.before a st) := by
  induction ts with
  | nil => rfl
  | cons c t ih =>
    show (Jvm.Cond.and c (allAtoms t)).before a st = _
    rw [Jvm.Cond.before_and, ih, List.all_cons]
def words1 : List Jvm.Cond := Jvm.Cond.code x code maxLocals ret :: tables_1
/-- a 'code' word, met by the world's own term for the bytes: nothing is compared byte by byte -/
theorem code_word {y : MethodName} {bytes : ByteArray} {mx : Nat} {rt : Option FieldType} {a : Array Value} {s : State} {m : MethodId} {meth : Method} {c : Code} (h1 : s.methodNamed? y = some m) (h2 : s.vm.method? m = some meth) (h3 : meth.code = some c) (h4 : c.code = bytes)
    (h5 : (c.maxLocals == mx && c.exceptionTable.isEmpty && decide (c.maxStack ≤ mostOperands) && decide (meth.sig.returnType = rt) && !meth.locks && decide (parseMethodDescriptor y.desc = some meth.sig)) = true) : (Jvm.Cond.code y bytes mx rt).before a s = true := by
  simp only [Bool.and_eq_true, beq_iff_eq, Bool.not_eq_true', decide_eq_true_eq] at h5
  obtain ⟨⟨⟨⟨⟨g1, g2⟩, g3⟩, g4⟩, g5⟩, g6⟩ := h5
  simp [Cond.before, Cond.holds, Cond.value, h1, h2, h3, h4, g1, g2, g3, g4, g5, g6]
def isCode : Jvm.Cond → Bool
  | .code _ _ _ _ => true
  | _ => false
theorem all_split {L : List Jvm.Cond} {P : Jvm.Cond → Bool} (h1 : L.all (fun c => isCode c || P c) = true) (h2 : ∀ c ∈ L.filter isCode, P c = true) : L.all P = true := by
  refine List.all_eq_true.mpr fun c hc => ?_
  have h := List.all_eq_true.mp h1 c hc
  rcases Bool.eq_false_or_eq_true (isCode c) with hi | hi
  · exact h2 c (List.mem_filter.mpr ⟨hc, hi⟩)
  · simpa [hi] using h
set_option maxRecDepth 65536 in
theorem w_c0 : (Jvm.Cond.code x code maxLocals ret).before args0 about1 = true := code_word (m := ⟨1, 1⟩) (meth := k1m1) (c := k1c1) (by decide +kernel) rfl rfl rfl (by decide +kernel)
set_option maxRecDepth 65536 in
theorem w_c1 : (Jvm.Cond.code ({ cls := "com/example/wary_query/waryquery/model/XmlCharacters", name := "isReferenceOnlyInXml11", desc := "(I)Z" } : Jvm.MethodName) prog_252_method_6_code (1 : Nat) (Option.some Jvm.ClassFile.FieldType.boolean)).before args0 about1 = true := code_word (m := ⟨2, 1⟩) (meth := k2m1) (c := k2c1) (by decide +kernel) rfl rfl rfl (by decide +kernel)
set_option maxRecDepth 65536 in
theorem w_c2 : (Jvm.Cond.code ({ cls := "com/example/wary_query/waryquery/model/XmlCharactersIsReferenceOnlyInXml11PinLaw", name := "expected", desc := "(I)Z" } : Jvm.MethodName) method_3_code (1 : Nat) (Option.some Jvm.ClassFile.FieldType.boolean)).before args0 about1 = true := code_word (m := ⟨1, 2⟩) (meth := k1m2) (c := k1c2) (by decide +kernel) rfl rfl rfl (by decide +kernel)
def codes1 : List Jvm.Cond := [Jvm.Cond.code x code maxLocals ret, Jvm.Cond.code ({ cls := "com/example/wary_query/waryquery/model/XmlCharacters", name := "isReferenceOnlyInXml11", desc := "(I)Z" } : Jvm.MethodName) prog_252_method_6_code (1 : Nat) (Option.some Jvm.ClassFile.FieldType.boolean), Jvm.Cond.code ({ cls := "com/example/wary_query/waryquery/model/XmlCharactersIsReferenceOnlyInXml11PinLaw", name := "expected", desc := "(I)Z" } : Jvm.MethodName) method_3_code (1 : Nat) (Option.some Jvm.ClassFile.FieldType.boolean)]
set_option maxRecDepth 65536 in
theorem codes_eq : words1.filter isCode = codes1 := rfl
theorem w_codes : ∀ c ∈ words1.filter isCode, c.before args0 about1 = true := by
  rw [codes_eq]
  intro c hc
  simp only [codes1, List.mem_cons, List.not_mem_nil, or_false] at hc
  rcases hc with rfl | rfl | rfl
  · exact w_c0
  · exact w_c1
  · exact w_c2
set_option maxRecDepth 65536 in
theorem w_t1 : words1.all (fun c => isCode c || c.before args0 about1) = true := by decide +kernel
theorem w_tables : (allAtoms (Jvm.Cond.code x code maxLocals ret :: tables_1)).before args0 about1 = true := by
  rw [allAtoms_all]
  show words1.all (fun c => c.before args0 about1) = true
  refine all_split ?_ w_codes
  rw [w_t1]
set_option maxRecDepth 65536 in
theorem w_case : (Jvm.Cond.and given_1 narrow_1).before args0 about1 = true := by decide +kernel
theorem w_applies : (headSpec (Jvm.Cond.code x code maxLocals ret :: tables_1) room_1).applies x e0.platform about1 = true :=
  (Spec.applies_iff w_frames).mpr ⟨w_running, w_runnable, w_alone, w_named, w_hears, w_ripe, w_room, w_tables⟩
theorem atStart : AtStart classFile x code maxLocals ret World_1 tables_1 room_1 Calls_1 rest_1 Pre_1 launch0 p0 e0 about1 theMethod args0 below0 :=
  ⟨lists_1, trivial, launch0.admits_env _ _ _, launch0.least_env, fairChoices_fair.cas, fairChoices_fair.clock, w_frames, w_args, w_heap, w_applies, trivial, trivial, w_case⟩
end start1
theorem witness_1 : WitnessClaimed_1 := ⟨start1.p0, start1.e0, start1.about1, start1.theMethod, start1.args0, start1.below0, start1.atStart⟩
end Jvm.Pilot.@@N@@
