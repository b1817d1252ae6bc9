import JvmDerived
import JvmDerived.Pilot.@@N@@Statement
import JvmDerived.Pilot.@@N@@Code
set_option linter.unusedVariables false
set_option linter.unusedSimpArgs false
namespace Jvm.Pilot.@@N@@
open Jvm Jvm.ClassFile Sem Op Lib Jvm.Free Jvm.Stand Jvm.LawKit Jvm.RoadKit Bundle Jvm.Pilot.@@N@@.Jvm.D
/-- the run from frame g of state T ends, returns w, leaves heap h and writes new cells alone -/
def oEnd (p : Program) (e : Env) (s : State) (below : List Frame) (T : State) (g : JFrame) (n0 : Nat) (h : Heap) (cells slots : Nat) (w : Option Value) : Prop :=
  ∃ t L, Steps p.tables e below (T.setTop g) t ∧ t.status = .running ∧ Ended t below (.returned w) ∧ s.WarmedH t.vm ∧ s.sameButNew ({ t with vm := s.vm } : State) L cells slots ∧ Fr n0 L ∧ t.heap = h
theorem oPre {p : Program} {e : Env} {s : State} {below : List Frame} {T T' : State} {g g' : JFrame} {n0 : Nat} {h : Heap} {cells slots : Nat} {w : Option Value}
    (k : ∀ target, Steps p.tables e below (T'.setTop g') target → Steps p.tables e below (T.setTop g) target) (q : oEnd p e s below T' g' n0 h cells slots w) : oEnd p e s below T g n0 h cells slots w := by
  obtain ⟨t, L, hs, r⟩ := q
  exact ⟨t, L, k t hs, r⟩
def oI2c (x : Int32) : Int32 := x.toUInt32.toUInt16.toUInt32.toInt32

theorem d2_0 : decode prog_233_method_8_code 0 = .ok (.iload_n 0, 1) := by decide +kernel
theorem d2_1 : decode prog_233_method_8_code 1 = .ok (.bipush 97, 2) := by decide +kernel
theorem d2_3 : decode prog_233_method_8_code 3 = .ok (.if_icmp .lt 9, 3) := by decide +kernel
theorem d2_6 : decode prog_233_method_8_code 6 = .ok (.iload_n 0, 1) := by decide +kernel
theorem d2_7 : decode prog_233_method_8_code 7 = .ok (.bipush 122, 2) := by decide +kernel
theorem d2_9 : decode prog_233_method_8_code 9 = .ok (.if_icmp .le 182, 3) := by decide +kernel
theorem d2_12 : decode prog_233_method_8_code 12 = .ok (.iload_n 0, 1) := by decide +kernel
theorem d2_13 : decode prog_233_method_8_code 13 = .ok (.bipush 65, 2) := by decide +kernel
theorem d2_15 : decode prog_233_method_8_code 15 = .ok (.if_icmp .lt 9, 3) := by decide +kernel
theorem d2_18 : decode prog_233_method_8_code 18 = .ok (.iload_n 0, 1) := by decide +kernel
theorem d2_19 : decode prog_233_method_8_code 19 = .ok (.bipush 90, 2) := by decide +kernel
theorem d2_21 : decode prog_233_method_8_code 21 = .ok (.if_icmp .le 170, 3) := by decide +kernel
theorem d2_24 : decode prog_233_method_8_code 24 = .ok (.iload_n 0, 1) := by decide +kernel
theorem d2_25 : decode prog_233_method_8_code 25 = .ok (.bipush 95, 2) := by decide +kernel
theorem d2_27 : decode prog_233_method_8_code 27 = .ok (.if_icmp .eq 164, 3) := by decide +kernel
theorem d2_30 : decode prog_233_method_8_code 30 = .ok (.iload_n 0, 1) := by decide +kernel
theorem d2_31 : decode prog_233_method_8_code 31 = .ok (.sipush 192, 3) := by decide +kernel
theorem d2_34 : decode prog_233_method_8_code 34 = .ok (.if_icmp .lt 10, 3) := by decide +kernel
theorem d2_37 : decode prog_233_method_8_code 37 = .ok (.iload_n 0, 1) := by decide +kernel
theorem d2_38 : decode prog_233_method_8_code 38 = .ok (.sipush 214, 3) := by decide +kernel
theorem d2_41 : decode prog_233_method_8_code 41 = .ok (.if_icmp .le 150, 3) := by decide +kernel
theorem d2_44 : decode prog_233_method_8_code 44 = .ok (.iload_n 0, 1) := by decide +kernel
theorem d2_45 : decode prog_233_method_8_code 45 = .ok (.sipush 216, 3) := by decide +kernel
theorem d2_48 : decode prog_233_method_8_code 48 = .ok (.if_icmp .lt 10, 3) := by decide +kernel
theorem d2_51 : decode prog_233_method_8_code 51 = .ok (.iload_n 0, 1) := by decide +kernel
theorem d2_52 : decode prog_233_method_8_code 52 = .ok (.sipush 246, 3) := by decide +kernel
theorem d2_55 : decode prog_233_method_8_code 55 = .ok (.if_icmp .le 136, 3) := by decide +kernel
theorem d2_58 : decode prog_233_method_8_code 58 = .ok (.iload_n 0, 1) := by decide +kernel
theorem d2_59 : decode prog_233_method_8_code 59 = .ok (.sipush 248, 3) := by decide +kernel
theorem d2_62 : decode prog_233_method_8_code 62 = .ok (.if_icmp .lt 10, 3) := by decide +kernel
theorem d2_65 : decode prog_233_method_8_code 65 = .ok (.iload_n 0, 1) := by decide +kernel
theorem d2_66 : decode prog_233_method_8_code 66 = .ok (.sipush 767, 3) := by decide +kernel
theorem d2_69 : decode prog_233_method_8_code 69 = .ok (.if_icmp .le 122, 3) := by decide +kernel
theorem d2_72 : decode prog_233_method_8_code 72 = .ok (.iload_n 0, 1) := by decide +kernel
theorem d2_73 : decode prog_233_method_8_code 73 = .ok (.sipush 880, 3) := by decide +kernel
theorem d2_76 : decode prog_233_method_8_code 76 = .ok (.if_icmp .lt 10, 3) := by decide +kernel
theorem d2_79 : decode prog_233_method_8_code 79 = .ok (.iload_n 0, 1) := by decide +kernel
theorem d2_80 : decode prog_233_method_8_code 80 = .ok (.sipush 893, 3) := by decide +kernel
theorem d2_83 : decode prog_233_method_8_code 83 = .ok (.if_icmp .le 108, 3) := by decide +kernel
theorem d2_86 : decode prog_233_method_8_code 86 = .ok (.iload_n 0, 1) := by decide +kernel
theorem d2_87 : decode prog_233_method_8_code 87 = .ok (.sipush 895, 3) := by decide +kernel
theorem d2_90 : decode prog_233_method_8_code 90 = .ok (.if_icmp .lt 10, 3) := by decide +kernel
theorem d2_93 : decode prog_233_method_8_code 93 = .ok (.iload_n 0, 1) := by decide +kernel
theorem d2_94 : decode prog_233_method_8_code 94 = .ok (.sipush 8191, 3) := by decide +kernel
theorem d2_97 : decode prog_233_method_8_code 97 = .ok (.if_icmp .le 94, 3) := by decide +kernel
theorem d2_100 : decode prog_233_method_8_code 100 = .ok (.iload_n 0, 1) := by decide +kernel
theorem d2_101 : decode prog_233_method_8_code 101 = .ok (.sipush 8204, 3) := by decide +kernel
theorem d2_104 : decode prog_233_method_8_code 104 = .ok (.if_icmp .lt 10, 3) := by decide +kernel
theorem d2_107 : decode prog_233_method_8_code 107 = .ok (.iload_n 0, 1) := by decide +kernel
theorem d2_108 : decode prog_233_method_8_code 108 = .ok (.sipush 8205, 3) := by decide +kernel
theorem d2_111 : decode prog_233_method_8_code 111 = .ok (.if_icmp .le 80, 3) := by decide +kernel
theorem d2_114 : decode prog_233_method_8_code 114 = .ok (.iload_n 0, 1) := by decide +kernel
theorem d2_115 : decode prog_233_method_8_code 115 = .ok (.sipush 8304, 3) := by decide +kernel
theorem d2_118 : decode prog_233_method_8_code 118 = .ok (.if_icmp .lt 10, 3) := by decide +kernel
theorem d2_121 : decode prog_233_method_8_code 121 = .ok (.iload_n 0, 1) := by decide +kernel
theorem d2_122 : decode prog_233_method_8_code 122 = .ok (.sipush 8591, 3) := by decide +kernel
theorem d2_125 : decode prog_233_method_8_code 125 = .ok (.if_icmp .le 66, 3) := by decide +kernel
theorem d2_128 : decode prog_233_method_8_code 128 = .ok (.iload_n 0, 1) := by decide +kernel
theorem d2_129 : decode prog_233_method_8_code 129 = .ok (.sipush 11264, 3) := by decide +kernel
theorem d2_132 : decode prog_233_method_8_code 132 = .ok (.if_icmp .lt 10, 3) := by decide +kernel
theorem d2_135 : decode prog_233_method_8_code 135 = .ok (.iload_n 0, 1) := by decide +kernel
theorem d2_136 : decode prog_233_method_8_code 136 = .ok (.sipush 12271, 3) := by decide +kernel
theorem d2_139 : decode prog_233_method_8_code 139 = .ok (.if_icmp .le 52, 3) := by decide +kernel
theorem d2_142 : decode prog_233_method_8_code 142 = .ok (.iload_n 0, 1) := by decide +kernel
theorem d2_143 : decode prog_233_method_8_code 143 = .ok (.sipush 12289, 3) := by decide +kernel
theorem d2_146 : decode prog_233_method_8_code 146 = .ok (.if_icmp .lt 9, 3) := by decide +kernel
theorem d2_149 : decode prog_233_method_8_code 149 = .ok (.iload_n 0, 1) := by decide +kernel
theorem d2_150 : decode prog_233_method_8_code 150 = .ok (.ldc 69, 2) := by decide +kernel
theorem d2_152 : decode prog_233_method_8_code 152 = .ok (.if_icmp .le 39, 3) := by decide +kernel
theorem d2_155 : decode prog_233_method_8_code 155 = .ok (.iload_n 0, 1) := by decide +kernel
theorem d2_156 : decode prog_233_method_8_code 156 = .ok (.ldc 70, 2) := by decide +kernel
theorem d2_158 : decode prog_233_method_8_code 158 = .ok (.if_icmp .lt 9, 3) := by decide +kernel
theorem d2_161 : decode prog_233_method_8_code 161 = .ok (.iload_n 0, 1) := by decide +kernel
theorem d2_162 : decode prog_233_method_8_code 162 = .ok (.ldc 71, 2) := by decide +kernel
theorem d2_164 : decode prog_233_method_8_code 164 = .ok (.if_icmp .le 27, 3) := by decide +kernel
theorem d2_167 : decode prog_233_method_8_code 167 = .ok (.iload_n 0, 1) := by decide +kernel
theorem d2_168 : decode prog_233_method_8_code 168 = .ok (.ldc 72, 2) := by decide +kernel
theorem d2_170 : decode prog_233_method_8_code 170 = .ok (.if_icmp .lt 9, 3) := by decide +kernel
theorem d2_173 : decode prog_233_method_8_code 173 = .ok (.iload_n 0, 1) := by decide +kernel
theorem d2_174 : decode prog_233_method_8_code 174 = .ok (.ldc 73, 2) := by decide +kernel
theorem d2_176 : decode prog_233_method_8_code 176 = .ok (.if_icmp .le 15, 3) := by decide +kernel
theorem d2_179 : decode prog_233_method_8_code 179 = .ok (.iload_n 0, 1) := by decide +kernel
theorem d2_180 : decode prog_233_method_8_code 180 = .ok (.ldc 74, 2) := by decide +kernel
theorem d2_182 : decode prog_233_method_8_code 182 = .ok (.if_icmp .lt 13, 3) := by decide +kernel
theorem d2_185 : decode prog_233_method_8_code 185 = .ok (.iload_n 0, 1) := by decide +kernel
theorem d2_186 : decode prog_233_method_8_code 186 = .ok (.ldc 75, 2) := by decide +kernel
theorem d2_188 : decode prog_233_method_8_code 188 = .ok (.if_icmp .gt 7, 3) := by decide +kernel
theorem d2_191 : decode prog_233_method_8_code 191 = .ok (.iconst 1, 1) := by decide +kernel
theorem d2_192 : decode prog_233_method_8_code 192 = .ok (.goto 4, 3) := by decide +kernel
theorem d2_195 : decode prog_233_method_8_code 195 = .ok (.iconst 0, 1) := by decide +kernel
theorem d2_196 : decode prog_233_method_8_code 196 = .ok (.ireturn, 1) := by decide +kernel
def oF2_196 (p1 : Int32) (q1 : Int32) : Int32 := (q1 &&& 1)
set_option maxRecDepth 65536 in
set_option maxHeartbeats 4000000 in
theorem oB2_196 {p : Program} {l : Launch} {e : Env} {s : State} {m : MethodId} {args : Array Value} {below : List Frame} {meth : Method} {c : Code} {T : State} {locs : List Loc} {cells slots : Nat} {Z : State} {a0 : Array Value} {h0 : Heap} {n0 : Nat} (X : Stand p l e ({ frames := 0, cells := 0, slots := 0, locals := 0 } : Room) s m args below meth c T locs cells slots) (hx : p.tables.exec = Jvm.exec) (hby : c.code = prog_233_method_8_code) (hml : c.maxLocals = 1) (hret : meth.sig.returnType = some .boolean) (hlk : meth.locks = false) (hown : s.vm.findClass "com/example/wary_query/waryquery/model/QName" = some m.cls) (hZ : Z.Warmed39 s.vm) (hw : ∀ d ∈ tables_1, d.before a0 Z = true) (eT : T.heap = h0) (N : Fr n0 locs) (Z0 : n0 ≤ h0.size) (hcs : cells ≤ ({ frames := 0, cells := 0, slots := 0, locals := 0 } : Room).cells) (hss : slots ≤ ({ frames := 0, cells := 0, slots := 0, locals := 0 } : Room).slots) (p1 : Int32) (q1 : Int32) {w : Int32} (hv : oF2_196 p1 q1 = w) : oEnd p e s below T (mkF m 196 #[.val (.int p1)] [(.int q1)]) n0 h0 cells slots (some (.int w)) := by
  show oEnd p e s below T (mkF m 196 #[.val (.int p1)] [(.int q1)]) n0 h0 cells slots (some (.int w))
  subst hv
  obtain ⟨fs, hr, hrun, hended, hW, hsame⟩ := X.leave (v := some (.int (q1 &&& 1))) (fun h => by rw [hret] at h; cases h) hlk
  exact ⟨_, _, retN X hx (t := .boolean) hret (by simp) (hb hby d2_196) hr, hrun, hended, hW, hsame, N, eT⟩
def oF2_195 (p1 : Int32) : Int32 := (oF2_196 p1 (0 : Int32))
set_option maxRecDepth 65536 in
set_option maxHeartbeats 4000000 in
theorem oB2_195 {p : Program} {l : Launch} {e : Env} {s : State} {m : MethodId} {args : Array Value} {below : List Frame} {meth : Method} {c : Code} {T : State} {locs : List Loc} {cells slots : Nat} {Z : State} {a0 : Array Value} {h0 : Heap} {n0 : Nat} (X : Stand p l e ({ frames := 0, cells := 0, slots := 0, locals := 0 } : Room) s m args below meth c T locs cells slots) (hx : p.tables.exec = Jvm.exec) (hby : c.code = prog_233_method_8_code) (hml : c.maxLocals = 1) (hret : meth.sig.returnType = some .boolean) (hlk : meth.locks = false) (hown : s.vm.findClass "com/example/wary_query/waryquery/model/QName" = some m.cls) (hZ : Z.Warmed39 s.vm) (hw : ∀ d ∈ tables_1, d.before a0 Z = true) (eT : T.heap = h0) (N : Fr n0 locs) (Z0 : n0 ≤ h0.size) (hcs : cells ≤ ({ frames := 0, cells := 0, slots := 0, locals := 0 } : Room).cells) (hss : slots ≤ ({ frames := 0, cells := 0, slots := 0, locals := 0 } : Room).slots) (p1 : Int32) {w : Int32} (hv : oF2_195 p1 = w) : oEnd p e s below T (mkF m 195 #[.val (.int p1)] []) n0 h0 cells slots (some (.int w)) := by
  show oEnd p e s below T (mkF m 195 #[.val (.int p1)] []) n0 h0 cells slots (some (.int w))
  refine oPre (fun _ => XS.iconst X.here hx rfl (hb hby d2_195)) ?_
  exact oB2_196 X hx hby hml hret hlk hown hZ hw eT N Z0 hcs hss p1 (0 : Int32) hv
def oF2_191 (p1 : Int32) : Int32 := (oF2_196 p1 (1 : Int32))
set_option maxRecDepth 65536 in
set_option maxHeartbeats 4000000 in
theorem oB2_191 {p : Program} {l : Launch} {e : Env} {s : State} {m : MethodId} {args : Array Value} {below : List Frame} {meth : Method} {c : Code} {T : State} {locs : List Loc} {cells slots : Nat} {Z : State} {a0 : Array Value} {h0 : Heap} {n0 : Nat} (X : Stand p l e ({ frames := 0, cells := 0, slots := 0, locals := 0 } : Room) s m args below meth c T locs cells slots) (hx : p.tables.exec = Jvm.exec) (hby : c.code = prog_233_method_8_code) (hml : c.maxLocals = 1) (hret : meth.sig.returnType = some .boolean) (hlk : meth.locks = false) (hown : s.vm.findClass "com/example/wary_query/waryquery/model/QName" = some m.cls) (hZ : Z.Warmed39 s.vm) (hw : ∀ d ∈ tables_1, d.before a0 Z = true) (eT : T.heap = h0) (N : Fr n0 locs) (Z0 : n0 ≤ h0.size) (hcs : cells ≤ ({ frames := 0, cells := 0, slots := 0, locals := 0 } : Room).cells) (hss : slots ≤ ({ frames := 0, cells := 0, slots := 0, locals := 0 } : Room).slots) (p1 : Int32) {w : Int32} (hv : oF2_191 p1 = w) : oEnd p e s below T (mkF m 191 #[.val (.int p1)] []) n0 h0 cells slots (some (.int w)) := by
  show oEnd p e s below T (mkF m 191 #[.val (.int p1)] []) n0 h0 cells slots (some (.int w))
  refine oPre (fun _ => XS.iconst X.here hx rfl (hb hby d2_191)) ?_
  show oEnd p e s below T (mkF m 192 #[.val (.int p1)] [(.int (1 : Int32))]) n0 h0 cells slots (some (.int w))
  refine oPre (fun _ => XS.goto X.here hx rfl (pc0 := 192) (pc' := 196) rfl (hb hby d2_192) (by decide) (by decide)) ?_
  exact oB2_196 X hx hby hml hret hlk hown hZ hw eT N Z0 hcs hss p1 (1 : Int32) hv
def oF2_179 (p1 : Int32) : Int32 := (if p1 < (65536 : Int32) then (oF2_195 p1) else (if (983039 : Int32) < p1 then (oF2_195 p1) else (oF2_191 p1)))
set_option maxRecDepth 65536 in
set_option maxHeartbeats 4000000 in
theorem oB2_179 {p : Program} {l : Launch} {e : Env} {s : State} {m : MethodId} {args : Array Value} {below : List Frame} {meth : Method} {c : Code} {T : State} {locs : List Loc} {cells slots : Nat} {Z : State} {a0 : Array Value} {h0 : Heap} {n0 : Nat} (X : Stand p l e ({ frames := 0, cells := 0, slots := 0, locals := 0 } : Room) s m args below meth c T locs cells slots) (hx : p.tables.exec = Jvm.exec) (hby : c.code = prog_233_method_8_code) (hml : c.maxLocals = 1) (hret : meth.sig.returnType = some .boolean) (hlk : meth.locks = false) (hown : s.vm.findClass "com/example/wary_query/waryquery/model/QName" = some m.cls) (hZ : Z.Warmed39 s.vm) (hw : ∀ d ∈ tables_1, d.before a0 Z = true) (eT : T.heap = h0) (N : Fr n0 locs) (Z0 : n0 ≤ h0.size) (hcs : cells ≤ ({ frames := 0, cells := 0, slots := 0, locals := 0 } : Room).cells) (hss : slots ≤ ({ frames := 0, cells := 0, slots := 0, locals := 0 } : Room).slots) (p1 : Int32) {w : Int32} (hv : oF2_179 p1 = w) : oEnd p e s below T (mkF m 179 #[.val (.int p1)] []) n0 h0 cells slots (some (.int w)) := by
  show oEnd p e s below T (mkF m 179 #[.val (.int p1)] []) n0 h0 cells slots (some (.int w))
  refine oPre (fun _ => XS.iloadN X.here hx rfl (hb hby d2_179) rfl) ?_
  show oEnd p e s below T (mkF m 180 #[.val (.int p1)] [(.int p1)]) n0 h0 cells slots (some (.int w))
  refine oPre (fun _ => X.ldcInt hx hown (mvT hZ (hw _ (List.mem_of_getElem? (i := 11) rfl))) (g := (mkF m 180 #[.val (.int p1)] [(.int p1)])) rfl (hb hby d2_180) _) ?_
  show oEnd p e s below T (mkF m 182 #[.val (.int p1)] [(.int (65536 : Int32)), (.int p1)]) n0 h0 cells slots (some (.int w))
  by_cases h182 : p1 < (65536 : Int32)
  · have v182 : (oF2_195 p1) = w := (if_pos h182).symm.trans hv
    refine oPre (fun _ => XS.icmpYes X.here hx rfl (pc0 := 182) (pc' := 195) rfl (hb hby d2_182) rfl (((tlt h182).1)) (by decide) (by decide)) ?_
    exact oB2_195 X hx hby hml hret hlk hown hZ hw eT N Z0 hcs hss p1 v182
  · have v182 : (if (983039 : Int32) < p1 then (oF2_195 p1) else (oF2_191 p1)) = w := (if_neg h182).symm.trans hv
    refine oPre (fun _ => XS.icmpNo X.here hx rfl (hb hby d2_182) rfl (((flt h182).1))) ?_
    show oEnd p e s below T (mkF m 185 #[.val (.int p1)] []) n0 h0 cells slots (some (.int w))
    refine oPre (fun _ => XS.iloadN X.here hx rfl (hb hby d2_185) rfl) ?_
    show oEnd p e s below T (mkF m 186 #[.val (.int p1)] [(.int p1)]) n0 h0 cells slots (some (.int w))
    refine oPre (fun _ => X.ldcInt hx hown (mvT hZ (hw _ (List.mem_of_getElem? (i := 22) rfl))) (g := (mkF m 186 #[.val (.int p1)] [(.int p1)])) rfl (hb hby d2_186) _) ?_
    show oEnd p e s below T (mkF m 188 #[.val (.int p1)] [(.int (983039 : Int32)), (.int p1)]) n0 h0 cells slots (some (.int w))
    by_cases h188 : (983039 : Int32) < p1
    · have v188 : (oF2_195 p1) = w := (if_pos h188).symm.trans v182
      refine oPre (fun _ => XS.icmpYes X.here hx rfl (pc0 := 188) (pc' := 195) rfl (hb hby d2_188) rfl (((tlt h188).2.2.1)) (by decide) (by decide)) ?_
      exact oB2_195 X hx hby hml hret hlk hown hZ hw eT N Z0 hcs hss p1 v188
    · have v188 : (oF2_191 p1) = w := (if_neg h188).symm.trans v182
      refine oPre (fun _ => XS.icmpNo X.here hx rfl (hb hby d2_188) rfl (((flt h188).2.2.1))) ?_
      exact oB2_191 X hx hby hml hret hlk hown hZ hw eT N Z0 hcs hss p1 v188
def oF2_167 (p1 : Int32) : Int32 := (if p1 < (65008 : Int32) then (oF2_179 p1) else (if (65533 : Int32) < p1 then (oF2_179 p1) else (oF2_191 p1)))
set_option maxRecDepth 65536 in
set_option maxHeartbeats 4000000 in
theorem oB2_167 {p : Program} {l : Launch} {e : Env} {s : State} {m : MethodId} {args : Array Value} {below : List Frame} {meth : Method} {c : Code} {T : State} {locs : List Loc} {cells slots : Nat} {Z : State} {a0 : Array Value} {h0 : Heap} {n0 : Nat} (X : Stand p l e ({ frames := 0, cells := 0, slots := 0, locals := 0 } : Room) s m args below meth c T locs cells slots) (hx : p.tables.exec = Jvm.exec) (hby : c.code = prog_233_method_8_code) (hml : c.maxLocals = 1) (hret : meth.sig.returnType = some .boolean) (hlk : meth.locks = false) (hown : s.vm.findClass "com/example/wary_query/waryquery/model/QName" = some m.cls) (hZ : Z.Warmed39 s.vm) (hw : ∀ d ∈ tables_1, d.before a0 Z = true) (eT : T.heap = h0) (N : Fr n0 locs) (Z0 : n0 ≤ h0.size) (hcs : cells ≤ ({ frames := 0, cells := 0, slots := 0, locals := 0 } : Room).cells) (hss : slots ≤ ({ frames := 0, cells := 0, slots := 0, locals := 0 } : Room).slots) (p1 : Int32) {w : Int32} (hv : oF2_167 p1 = w) : oEnd p e s below T (mkF m 167 #[.val (.int p1)] []) n0 h0 cells slots (some (.int w)) := by
  show oEnd p e s below T (mkF m 167 #[.val (.int p1)] []) n0 h0 cells slots (some (.int w))
  refine oPre (fun _ => XS.iloadN X.here hx rfl (hb hby d2_167) rfl) ?_
  show oEnd p e s below T (mkF m 168 #[.val (.int p1)] [(.int p1)]) n0 h0 cells slots (some (.int w))
  refine oPre (fun _ => X.ldcInt hx hown (mvT hZ (hw _ (List.mem_of_getElem? (i := 10) rfl))) (g := (mkF m 168 #[.val (.int p1)] [(.int p1)])) rfl (hb hby d2_168) _) ?_
  show oEnd p e s below T (mkF m 170 #[.val (.int p1)] [(.int (65008 : Int32)), (.int p1)]) n0 h0 cells slots (some (.int w))
  by_cases h170 : p1 < (65008 : Int32)
  · have v170 : (oF2_179 p1) = w := (if_pos h170).symm.trans hv
    refine oPre (fun _ => XS.icmpYes X.here hx rfl (pc0 := 170) (pc' := 179) rfl (hb hby d2_170) rfl (((tlt h170).1)) (by decide) (by decide)) ?_
    exact oB2_179 X hx hby hml hret hlk hown hZ hw eT N Z0 hcs hss p1 v170
  · have v170 : (if (65533 : Int32) < p1 then (oF2_179 p1) else (oF2_191 p1)) = w := (if_neg h170).symm.trans hv
    refine oPre (fun _ => XS.icmpNo X.here hx rfl (hb hby d2_170) rfl (((flt h170).1))) ?_
    show oEnd p e s below T (mkF m 173 #[.val (.int p1)] []) n0 h0 cells slots (some (.int w))
    refine oPre (fun _ => XS.iloadN X.here hx rfl (hb hby d2_173) rfl) ?_
    show oEnd p e s below T (mkF m 174 #[.val (.int p1)] [(.int p1)]) n0 h0 cells slots (some (.int w))
    refine oPre (fun _ => X.ldcInt hx hown (mvT hZ (hw _ (List.mem_of_getElem? (i := 21) rfl))) (g := (mkF m 174 #[.val (.int p1)] [(.int p1)])) rfl (hb hby d2_174) _) ?_
    show oEnd p e s below T (mkF m 176 #[.val (.int p1)] [(.int (65533 : Int32)), (.int p1)]) n0 h0 cells slots (some (.int w))
    by_cases h176 : (65533 : Int32) < p1
    · have v176 : (oF2_179 p1) = w := (if_pos h176).symm.trans v170
      refine oPre (fun _ => XS.icmpNo X.here hx rfl (hb hby d2_176) rfl (((tlt h176).2.2.2))) ?_
      exact oB2_179 X hx hby hml hret hlk hown hZ hw eT N Z0 hcs hss p1 v176
    · have v176 : (oF2_191 p1) = w := (if_neg h176).symm.trans v170
      refine oPre (fun _ => XS.icmpYes X.here hx rfl (pc0 := 176) (pc' := 191) rfl (hb hby d2_176) rfl (((flt h176).2.2.2)) (by decide) (by decide)) ?_
      exact oB2_191 X hx hby hml hret hlk hown hZ hw eT N Z0 hcs hss p1 v176
def oF2_155 (p1 : Int32) : Int32 := (if p1 < (63744 : Int32) then (oF2_167 p1) else (if (64975 : Int32) < p1 then (oF2_167 p1) else (oF2_191 p1)))
set_option maxRecDepth 65536 in
set_option maxHeartbeats 4000000 in
theorem oB2_155 {p : Program} {l : Launch} {e : Env} {s : State} {m : MethodId} {args : Array Value} {below : List Frame} {meth : Method} {c : Code} {T : State} {locs : List Loc} {cells slots : Nat} {Z : State} {a0 : Array Value} {h0 : Heap} {n0 : Nat} (X : Stand p l e ({ frames := 0, cells := 0, slots := 0, locals := 0 } : Room) s m args below meth c T locs cells slots) (hx : p.tables.exec = Jvm.exec) (hby : c.code = prog_233_method_8_code) (hml : c.maxLocals = 1) (hret : meth.sig.returnType = some .boolean) (hlk : meth.locks = false) (hown : s.vm.findClass "com/example/wary_query/waryquery/model/QName" = some m.cls) (hZ : Z.Warmed39 s.vm) (hw : ∀ d ∈ tables_1, d.before a0 Z = true) (eT : T.heap = h0) (N : Fr n0 locs) (Z0 : n0 ≤ h0.size) (hcs : cells ≤ ({ frames := 0, cells := 0, slots := 0, locals := 0 } : Room).cells) (hss : slots ≤ ({ frames := 0, cells := 0, slots := 0, locals := 0 } : Room).slots) (p1 : Int32) {w : Int32} (hv : oF2_155 p1 = w) : oEnd p e s below T (mkF m 155 #[.val (.int p1)] []) n0 h0 cells slots (some (.int w)) := by
  show oEnd p e s below T (mkF m 155 #[.val (.int p1)] []) n0 h0 cells slots (some (.int w))
  refine oPre (fun _ => XS.iloadN X.here hx rfl (hb hby d2_155) rfl) ?_
  show oEnd p e s below T (mkF m 156 #[.val (.int p1)] [(.int p1)]) n0 h0 cells slots (some (.int w))
  refine oPre (fun _ => X.ldcInt hx hown (mvT hZ (hw _ (List.mem_of_getElem? (i := 9) rfl))) (g := (mkF m 156 #[.val (.int p1)] [(.int p1)])) rfl (hb hby d2_156) _) ?_
  show oEnd p e s below T (mkF m 158 #[.val (.int p1)] [(.int (63744 : Int32)), (.int p1)]) n0 h0 cells slots (some (.int w))
  by_cases h158 : p1 < (63744 : Int32)
  · have v158 : (oF2_167 p1) = w := (if_pos h158).symm.trans hv
    refine oPre (fun _ => XS.icmpYes X.here hx rfl (pc0 := 158) (pc' := 167) rfl (hb hby d2_158) rfl (((tlt h158).1)) (by decide) (by decide)) ?_
    exact oB2_167 X hx hby hml hret hlk hown hZ hw eT N Z0 hcs hss p1 v158
  · have v158 : (if (64975 : Int32) < p1 then (oF2_167 p1) else (oF2_191 p1)) = w := (if_neg h158).symm.trans hv
    refine oPre (fun _ => XS.icmpNo X.here hx rfl (hb hby d2_158) rfl (((flt h158).1))) ?_
    show oEnd p e s below T (mkF m 161 #[.val (.int p1)] []) n0 h0 cells slots (some (.int w))
    refine oPre (fun _ => XS.iloadN X.here hx rfl (hb hby d2_161) rfl) ?_
    show oEnd p e s below T (mkF m 162 #[.val (.int p1)] [(.int p1)]) n0 h0 cells slots (some (.int w))
    refine oPre (fun _ => X.ldcInt hx hown (mvT hZ (hw _ (List.mem_of_getElem? (i := 20) rfl))) (g := (mkF m 162 #[.val (.int p1)] [(.int p1)])) rfl (hb hby d2_162) _) ?_
    show oEnd p e s below T (mkF m 164 #[.val (.int p1)] [(.int (64975 : Int32)), (.int p1)]) n0 h0 cells slots (some (.int w))
    by_cases h164 : (64975 : Int32) < p1
    · have v164 : (oF2_167 p1) = w := (if_pos h164).symm.trans v158
      refine oPre (fun _ => XS.icmpNo X.here hx rfl (hb hby d2_164) rfl (((tlt h164).2.2.2))) ?_
      exact oB2_167 X hx hby hml hret hlk hown hZ hw eT N Z0 hcs hss p1 v164
    · have v164 : (oF2_191 p1) = w := (if_neg h164).symm.trans v158
      refine oPre (fun _ => XS.icmpYes X.here hx rfl (pc0 := 164) (pc' := 191) rfl (hb hby d2_164) rfl (((flt h164).2.2.2)) (by decide) (by decide)) ?_
      exact oB2_191 X hx hby hml hret hlk hown hZ hw eT N Z0 hcs hss p1 v164
def oF2_142 (p1 : Int32) : Int32 := (if p1 < (12289 : Int32) then (oF2_155 p1) else (if (55295 : Int32) < p1 then (oF2_155 p1) else (oF2_191 p1)))
set_option maxRecDepth 65536 in
set_option maxHeartbeats 4000000 in
theorem oB2_142 {p : Program} {l : Launch} {e : Env} {s : State} {m : MethodId} {args : Array Value} {below : List Frame} {meth : Method} {c : Code} {T : State} {locs : List Loc} {cells slots : Nat} {Z : State} {a0 : Array Value} {h0 : Heap} {n0 : Nat} (X : Stand p l e ({ frames := 0, cells := 0, slots := 0, locals := 0 } : Room) s m args below meth c T locs cells slots) (hx : p.tables.exec = Jvm.exec) (hby : c.code = prog_233_method_8_code) (hml : c.maxLocals = 1) (hret : meth.sig.returnType = some .boolean) (hlk : meth.locks = false) (hown : s.vm.findClass "com/example/wary_query/waryquery/model/QName" = some m.cls) (hZ : Z.Warmed39 s.vm) (hw : ∀ d ∈ tables_1, d.before a0 Z = true) (eT : T.heap = h0) (N : Fr n0 locs) (Z0 : n0 ≤ h0.size) (hcs : cells ≤ ({ frames := 0, cells := 0, slots := 0, locals := 0 } : Room).cells) (hss : slots ≤ ({ frames := 0, cells := 0, slots := 0, locals := 0 } : Room).slots) (p1 : Int32) {w : Int32} (hv : oF2_142 p1 = w) : oEnd p e s below T (mkF m 142 #[.val (.int p1)] []) n0 h0 cells slots (some (.int w)) := by
  show oEnd p e s below T (mkF m 142 #[.val (.int p1)] []) n0 h0 cells slots (some (.int w))
  refine oPre (fun _ => XS.iloadN X.here hx rfl (hb hby d2_142) rfl) ?_
  show oEnd p e s below T (mkF m 143 #[.val (.int p1)] [(.int p1)]) n0 h0 cells slots (some (.int w))
  refine oPre (fun _ => XS.sipush X.here hx rfl (hb hby d2_143)) ?_
  show oEnd p e s below T (mkF m 146 #[.val (.int p1)] [(.int (12289 : Int32)), (.int p1)]) n0 h0 cells slots (some (.int w))
  by_cases h146 : p1 < (12289 : Int32)
  · have v146 : (oF2_155 p1) = w := (if_pos h146).symm.trans hv
    refine oPre (fun _ => XS.icmpYes X.here hx rfl (pc0 := 146) (pc' := 155) rfl (hb hby d2_146) rfl (((tlt h146).1)) (by decide) (by decide)) ?_
    exact oB2_155 X hx hby hml hret hlk hown hZ hw eT N Z0 hcs hss p1 v146
  · have v146 : (if (55295 : Int32) < p1 then (oF2_155 p1) else (oF2_191 p1)) = w := (if_neg h146).symm.trans hv
    refine oPre (fun _ => XS.icmpNo X.here hx rfl (hb hby d2_146) rfl (((flt h146).1))) ?_
    show oEnd p e s below T (mkF m 149 #[.val (.int p1)] []) n0 h0 cells slots (some (.int w))
    refine oPre (fun _ => XS.iloadN X.here hx rfl (hb hby d2_149) rfl) ?_
    show oEnd p e s below T (mkF m 150 #[.val (.int p1)] [(.int p1)]) n0 h0 cells slots (some (.int w))
    refine oPre (fun _ => X.ldcInt hx hown (mvT hZ (hw _ (List.mem_of_getElem? (i := 19) rfl))) (g := (mkF m 150 #[.val (.int p1)] [(.int p1)])) rfl (hb hby d2_150) _) ?_
    show oEnd p e s below T (mkF m 152 #[.val (.int p1)] [(.int (55295 : Int32)), (.int p1)]) n0 h0 cells slots (some (.int w))
    by_cases h152 : (55295 : Int32) < p1
    · have v152 : (oF2_155 p1) = w := (if_pos h152).symm.trans v146
      refine oPre (fun _ => XS.icmpNo X.here hx rfl (hb hby d2_152) rfl (((tlt h152).2.2.2))) ?_
      exact oB2_155 X hx hby hml hret hlk hown hZ hw eT N Z0 hcs hss p1 v152
    · have v152 : (oF2_191 p1) = w := (if_neg h152).symm.trans v146
      refine oPre (fun _ => XS.icmpYes X.here hx rfl (pc0 := 152) (pc' := 191) rfl (hb hby d2_152) rfl (((flt h152).2.2.2)) (by decide) (by decide)) ?_
      exact oB2_191 X hx hby hml hret hlk hown hZ hw eT N Z0 hcs hss p1 v152
def oF2_128 (p1 : Int32) : Int32 := (if p1 < (11264 : Int32) then (oF2_142 p1) else (if (12271 : Int32) < p1 then (oF2_142 p1) else (oF2_191 p1)))
set_option maxRecDepth 65536 in
set_option maxHeartbeats 4000000 in
theorem oB2_128 {p : Program} {l : Launch} {e : Env} {s : State} {m : MethodId} {args : Array Value} {below : List Frame} {meth : Method} {c : Code} {T : State} {locs : List Loc} {cells slots : Nat} {Z : State} {a0 : Array Value} {h0 : Heap} {n0 : Nat} (X : Stand p l e ({ frames := 0, cells := 0, slots := 0, locals := 0 } : Room) s m args below meth c T locs cells slots) (hx : p.tables.exec = Jvm.exec) (hby : c.code = prog_233_method_8_code) (hml : c.maxLocals = 1) (hret : meth.sig.returnType = some .boolean) (hlk : meth.locks = false) (hown : s.vm.findClass "com/example/wary_query/waryquery/model/QName" = some m.cls) (hZ : Z.Warmed39 s.vm) (hw : ∀ d ∈ tables_1, d.before a0 Z = true) (eT : T.heap = h0) (N : Fr n0 locs) (Z0 : n0 ≤ h0.size) (hcs : cells ≤ ({ frames := 0, cells := 0, slots := 0, locals := 0 } : Room).cells) (hss : slots ≤ ({ frames := 0, cells := 0, slots := 0, locals := 0 } : Room).slots) (p1 : Int32) {w : Int32} (hv : oF2_128 p1 = w) : oEnd p e s below T (mkF m 128 #[.val (.int p1)] []) n0 h0 cells slots (some (.int w)) := by
  show oEnd p e s below T (mkF m 128 #[.val (.int p1)] []) n0 h0 cells slots (some (.int w))
  refine oPre (fun _ => XS.iloadN X.here hx rfl (hb hby d2_128) rfl) ?_
  show oEnd p e s below T (mkF m 129 #[.val (.int p1)] [(.int p1)]) n0 h0 cells slots (some (.int w))
  refine oPre (fun _ => XS.sipush X.here hx rfl (hb hby d2_129)) ?_
  show oEnd p e s below T (mkF m 132 #[.val (.int p1)] [(.int (11264 : Int32)), (.int p1)]) n0 h0 cells slots (some (.int w))
  by_cases h132 : p1 < (11264 : Int32)
  · have v132 : (oF2_142 p1) = w := (if_pos h132).symm.trans hv
    refine oPre (fun _ => XS.icmpYes X.here hx rfl (pc0 := 132) (pc' := 142) rfl (hb hby d2_132) rfl (((tlt h132).1)) (by decide) (by decide)) ?_
    exact oB2_142 X hx hby hml hret hlk hown hZ hw eT N Z0 hcs hss p1 v132
  · have v132 : (if (12271 : Int32) < p1 then (oF2_142 p1) else (oF2_191 p1)) = w := (if_neg h132).symm.trans hv
    refine oPre (fun _ => XS.icmpNo X.here hx rfl (hb hby d2_132) rfl (((flt h132).1))) ?_
    show oEnd p e s below T (mkF m 135 #[.val (.int p1)] []) n0 h0 cells slots (some (.int w))
    refine oPre (fun _ => XS.iloadN X.here hx rfl (hb hby d2_135) rfl) ?_
    show oEnd p e s below T (mkF m 136 #[.val (.int p1)] [(.int p1)]) n0 h0 cells slots (some (.int w))
    refine oPre (fun _ => XS.sipush X.here hx rfl (hb hby d2_136)) ?_
    show oEnd p e s below T (mkF m 139 #[.val (.int p1)] [(.int (12271 : Int32)), (.int p1)]) n0 h0 cells slots (some (.int w))
    by_cases h139 : (12271 : Int32) < p1
    · have v139 : (oF2_142 p1) = w := (if_pos h139).symm.trans v132
      refine oPre (fun _ => XS.icmpNo X.here hx rfl (hb hby d2_139) rfl (((tlt h139).2.2.2))) ?_
      exact oB2_142 X hx hby hml hret hlk hown hZ hw eT N Z0 hcs hss p1 v139
    · have v139 : (oF2_191 p1) = w := (if_neg h139).symm.trans v132
      refine oPre (fun _ => XS.icmpYes X.here hx rfl (pc0 := 139) (pc' := 191) rfl (hb hby d2_139) rfl (((flt h139).2.2.2)) (by decide) (by decide)) ?_
      exact oB2_191 X hx hby hml hret hlk hown hZ hw eT N Z0 hcs hss p1 v139
def oF2_114 (p1 : Int32) : Int32 := (if p1 < (8304 : Int32) then (oF2_128 p1) else (if (8591 : Int32) < p1 then (oF2_128 p1) else (oF2_191 p1)))
set_option maxRecDepth 65536 in
set_option maxHeartbeats 4000000 in
theorem oB2_114 {p : Program} {l : Launch} {e : Env} {s : State} {m : MethodId} {args : Array Value} {below : List Frame} {meth : Method} {c : Code} {T : State} {locs : List Loc} {cells slots : Nat} {Z : State} {a0 : Array Value} {h0 : Heap} {n0 : Nat} (X : Stand p l e ({ frames := 0, cells := 0, slots := 0, locals := 0 } : Room) s m args below meth c T locs cells slots) (hx : p.tables.exec = Jvm.exec) (hby : c.code = prog_233_method_8_code) (hml : c.maxLocals = 1) (hret : meth.sig.returnType = some .boolean) (hlk : meth.locks = false) (hown : s.vm.findClass "com/example/wary_query/waryquery/model/QName" = some m.cls) (hZ : Z.Warmed39 s.vm) (hw : ∀ d ∈ tables_1, d.before a0 Z = true) (eT : T.heap = h0) (N : Fr n0 locs) (Z0 : n0 ≤ h0.size) (hcs : cells ≤ ({ frames := 0, cells := 0, slots := 0, locals := 0 } : Room).cells) (hss : slots ≤ ({ frames := 0, cells := 0, slots := 0, locals := 0 } : Room).slots) (p1 : Int32) {w : Int32} (hv : oF2_114 p1 = w) : oEnd p e s below T (mkF m 114 #[.val (.int p1)] []) n0 h0 cells slots (some (.int w)) := by
  show oEnd p e s below T (mkF m 114 #[.val (.int p1)] []) n0 h0 cells slots (some (.int w))
  refine oPre (fun _ => XS.iloadN X.here hx rfl (hb hby d2_114) rfl) ?_
  show oEnd p e s below T (mkF m 115 #[.val (.int p1)] [(.int p1)]) n0 h0 cells slots (some (.int w))
  refine oPre (fun _ => XS.sipush X.here hx rfl (hb hby d2_115)) ?_
  show oEnd p e s below T (mkF m 118 #[.val (.int p1)] [(.int (8304 : Int32)), (.int p1)]) n0 h0 cells slots (some (.int w))
  by_cases h118 : p1 < (8304 : Int32)
  · have v118 : (oF2_128 p1) = w := (if_pos h118).symm.trans hv
    refine oPre (fun _ => XS.icmpYes X.here hx rfl (pc0 := 118) (pc' := 128) rfl (hb hby d2_118) rfl (((tlt h118).1)) (by decide) (by decide)) ?_
    exact oB2_128 X hx hby hml hret hlk hown hZ hw eT N Z0 hcs hss p1 v118
  · have v118 : (if (8591 : Int32) < p1 then (oF2_128 p1) else (oF2_191 p1)) = w := (if_neg h118).symm.trans hv
    refine oPre (fun _ => XS.icmpNo X.here hx rfl (hb hby d2_118) rfl (((flt h118).1))) ?_
    show oEnd p e s below T (mkF m 121 #[.val (.int p1)] []) n0 h0 cells slots (some (.int w))
    refine oPre (fun _ => XS.iloadN X.here hx rfl (hb hby d2_121) rfl) ?_
    show oEnd p e s below T (mkF m 122 #[.val (.int p1)] [(.int p1)]) n0 h0 cells slots (some (.int w))
    refine oPre (fun _ => XS.sipush X.here hx rfl (hb hby d2_122)) ?_
    show oEnd p e s below T (mkF m 125 #[.val (.int p1)] [(.int (8591 : Int32)), (.int p1)]) n0 h0 cells slots (some (.int w))
    by_cases h125 : (8591 : Int32) < p1
    · have v125 : (oF2_128 p1) = w := (if_pos h125).symm.trans v118
      refine oPre (fun _ => XS.icmpNo X.here hx rfl (hb hby d2_125) rfl (((tlt h125).2.2.2))) ?_
      exact oB2_128 X hx hby hml hret hlk hown hZ hw eT N Z0 hcs hss p1 v125
    · have v125 : (oF2_191 p1) = w := (if_neg h125).symm.trans v118
      refine oPre (fun _ => XS.icmpYes X.here hx rfl (pc0 := 125) (pc' := 191) rfl (hb hby d2_125) rfl (((flt h125).2.2.2)) (by decide) (by decide)) ?_
      exact oB2_191 X hx hby hml hret hlk hown hZ hw eT N Z0 hcs hss p1 v125
def oF2_100 (p1 : Int32) : Int32 := (if p1 < (8204 : Int32) then (oF2_114 p1) else (if (8205 : Int32) < p1 then (oF2_114 p1) else (oF2_191 p1)))
set_option maxRecDepth 65536 in
set_option maxHeartbeats 4000000 in
theorem oB2_100 {p : Program} {l : Launch} {e : Env} {s : State} {m : MethodId} {args : Array Value} {below : List Frame} {meth : Method} {c : Code} {T : State} {locs : List Loc} {cells slots : Nat} {Z : State} {a0 : Array Value} {h0 : Heap} {n0 : Nat} (X : Stand p l e ({ frames := 0, cells := 0, slots := 0, locals := 0 } : Room) s m args below meth c T locs cells slots) (hx : p.tables.exec = Jvm.exec) (hby : c.code = prog_233_method_8_code) (hml : c.maxLocals = 1) (hret : meth.sig.returnType = some .boolean) (hlk : meth.locks = false) (hown : s.vm.findClass "com/example/wary_query/waryquery/model/QName" = some m.cls) (hZ : Z.Warmed39 s.vm) (hw : ∀ d ∈ tables_1, d.before a0 Z = true) (eT : T.heap = h0) (N : Fr n0 locs) (Z0 : n0 ≤ h0.size) (hcs : cells ≤ ({ frames := 0, cells := 0, slots := 0, locals := 0 } : Room).cells) (hss : slots ≤ ({ frames := 0, cells := 0, slots := 0, locals := 0 } : Room).slots) (p1 : Int32) {w : Int32} (hv : oF2_100 p1 = w) : oEnd p e s below T (mkF m 100 #[.val (.int p1)] []) n0 h0 cells slots (some (.int w)) := by
  show oEnd p e s below T (mkF m 100 #[.val (.int p1)] []) n0 h0 cells slots (some (.int w))
  refine oPre (fun _ => XS.iloadN X.here hx rfl (hb hby d2_100) rfl) ?_
  show oEnd p e s below T (mkF m 101 #[.val (.int p1)] [(.int p1)]) n0 h0 cells slots (some (.int w))
  refine oPre (fun _ => XS.sipush X.here hx rfl (hb hby d2_101)) ?_
  show oEnd p e s below T (mkF m 104 #[.val (.int p1)] [(.int (8204 : Int32)), (.int p1)]) n0 h0 cells slots (some (.int w))
  by_cases h104 : p1 < (8204 : Int32)
  · have v104 : (oF2_114 p1) = w := (if_pos h104).symm.trans hv
    refine oPre (fun _ => XS.icmpYes X.here hx rfl (pc0 := 104) (pc' := 114) rfl (hb hby d2_104) rfl (((tlt h104).1)) (by decide) (by decide)) ?_
    exact oB2_114 X hx hby hml hret hlk hown hZ hw eT N Z0 hcs hss p1 v104
  · have v104 : (if (8205 : Int32) < p1 then (oF2_114 p1) else (oF2_191 p1)) = w := (if_neg h104).symm.trans hv
    refine oPre (fun _ => XS.icmpNo X.here hx rfl (hb hby d2_104) rfl (((flt h104).1))) ?_
    show oEnd p e s below T (mkF m 107 #[.val (.int p1)] []) n0 h0 cells slots (some (.int w))
    refine oPre (fun _ => XS.iloadN X.here hx rfl (hb hby d2_107) rfl) ?_
    show oEnd p e s below T (mkF m 108 #[.val (.int p1)] [(.int p1)]) n0 h0 cells slots (some (.int w))
    refine oPre (fun _ => XS.sipush X.here hx rfl (hb hby d2_108)) ?_
    show oEnd p e s below T (mkF m 111 #[.val (.int p1)] [(.int (8205 : Int32)), (.int p1)]) n0 h0 cells slots (some (.int w))
    by_cases h111 : (8205 : Int32) < p1
    · have v111 : (oF2_114 p1) = w := (if_pos h111).symm.trans v104
      refine oPre (fun _ => XS.icmpNo X.here hx rfl (hb hby d2_111) rfl (((tlt h111).2.2.2))) ?_
      exact oB2_114 X hx hby hml hret hlk hown hZ hw eT N Z0 hcs hss p1 v111
    · have v111 : (oF2_191 p1) = w := (if_neg h111).symm.trans v104
      refine oPre (fun _ => XS.icmpYes X.here hx rfl (pc0 := 111) (pc' := 191) rfl (hb hby d2_111) rfl (((flt h111).2.2.2)) (by decide) (by decide)) ?_
      exact oB2_191 X hx hby hml hret hlk hown hZ hw eT N Z0 hcs hss p1 v111
def oF2_86 (p1 : Int32) : Int32 := (if p1 < (895 : Int32) then (oF2_100 p1) else (if (8191 : Int32) < p1 then (oF2_100 p1) else (oF2_191 p1)))
set_option maxRecDepth 65536 in
set_option maxHeartbeats 4000000 in
theorem oB2_86 {p : Program} {l : Launch} {e : Env} {s : State} {m : MethodId} {args : Array Value} {below : List Frame} {meth : Method} {c : Code} {T : State} {locs : List Loc} {cells slots : Nat} {Z : State} {a0 : Array Value} {h0 : Heap} {n0 : Nat} (X : Stand p l e ({ frames := 0, cells := 0, slots := 0, locals := 0 } : Room) s m args below meth c T locs cells slots) (hx : p.tables.exec = Jvm.exec) (hby : c.code = prog_233_method_8_code) (hml : c.maxLocals = 1) (hret : meth.sig.returnType = some .boolean) (hlk : meth.locks = false) (hown : s.vm.findClass "com/example/wary_query/waryquery/model/QName" = some m.cls) (hZ : Z.Warmed39 s.vm) (hw : ∀ d ∈ tables_1, d.before a0 Z = true) (eT : T.heap = h0) (N : Fr n0 locs) (Z0 : n0 ≤ h0.size) (hcs : cells ≤ ({ frames := 0, cells := 0, slots := 0, locals := 0 } : Room).cells) (hss : slots ≤ ({ frames := 0, cells := 0, slots := 0, locals := 0 } : Room).slots) (p1 : Int32) {w : Int32} (hv : oF2_86 p1 = w) : oEnd p e s below T (mkF m 86 #[.val (.int p1)] []) n0 h0 cells slots (some (.int w)) := by
  show oEnd p e s below T (mkF m 86 #[.val (.int p1)] []) n0 h0 cells slots (some (.int w))
  refine oPre (fun _ => XS.iloadN X.here hx rfl (hb hby d2_86) rfl) ?_
  show oEnd p e s below T (mkF m 87 #[.val (.int p1)] [(.int p1)]) n0 h0 cells slots (some (.int w))
  refine oPre (fun _ => XS.sipush X.here hx rfl (hb hby d2_87)) ?_
  show oEnd p e s below T (mkF m 90 #[.val (.int p1)] [(.int (895 : Int32)), (.int p1)]) n0 h0 cells slots (some (.int w))
  by_cases h90 : p1 < (895 : Int32)
  · have v90 : (oF2_100 p1) = w := (if_pos h90).symm.trans hv
    refine oPre (fun _ => XS.icmpYes X.here hx rfl (pc0 := 90) (pc' := 100) rfl (hb hby d2_90) rfl (((tlt h90).1)) (by decide) (by decide)) ?_
    exact oB2_100 X hx hby hml hret hlk hown hZ hw eT N Z0 hcs hss p1 v90
  · have v90 : (if (8191 : Int32) < p1 then (oF2_100 p1) else (oF2_191 p1)) = w := (if_neg h90).symm.trans hv
    refine oPre (fun _ => XS.icmpNo X.here hx rfl (hb hby d2_90) rfl (((flt h90).1))) ?_
    show oEnd p e s below T (mkF m 93 #[.val (.int p1)] []) n0 h0 cells slots (some (.int w))
    refine oPre (fun _ => XS.iloadN X.here hx rfl (hb hby d2_93) rfl) ?_
    show oEnd p e s below T (mkF m 94 #[.val (.int p1)] [(.int p1)]) n0 h0 cells slots (some (.int w))
    refine oPre (fun _ => XS.sipush X.here hx rfl (hb hby d2_94)) ?_
    show oEnd p e s below T (mkF m 97 #[.val (.int p1)] [(.int (8191 : Int32)), (.int p1)]) n0 h0 cells slots (some (.int w))
    by_cases h97 : (8191 : Int32) < p1
    · have v97 : (oF2_100 p1) = w := (if_pos h97).symm.trans v90
      refine oPre (fun _ => XS.icmpNo X.here hx rfl (hb hby d2_97) rfl (((tlt h97).2.2.2))) ?_
      exact oB2_100 X hx hby hml hret hlk hown hZ hw eT N Z0 hcs hss p1 v97
    · have v97 : (oF2_191 p1) = w := (if_neg h97).symm.trans v90
      refine oPre (fun _ => XS.icmpYes X.here hx rfl (pc0 := 97) (pc' := 191) rfl (hb hby d2_97) rfl (((flt h97).2.2.2)) (by decide) (by decide)) ?_
      exact oB2_191 X hx hby hml hret hlk hown hZ hw eT N Z0 hcs hss p1 v97
def oF2_72 (p1 : Int32) : Int32 := (if p1 < (880 : Int32) then (oF2_86 p1) else (if (893 : Int32) < p1 then (oF2_86 p1) else (oF2_191 p1)))
set_option maxRecDepth 65536 in
set_option maxHeartbeats 4000000 in
theorem oB2_72 {p : Program} {l : Launch} {e : Env} {s : State} {m : MethodId} {args : Array Value} {below : List Frame} {meth : Method} {c : Code} {T : State} {locs : List Loc} {cells slots : Nat} {Z : State} {a0 : Array Value} {h0 : Heap} {n0 : Nat} (X : Stand p l e ({ frames := 0, cells := 0, slots := 0, locals := 0 } : Room) s m args below meth c T locs cells slots) (hx : p.tables.exec = Jvm.exec) (hby : c.code = prog_233_method_8_code) (hml : c.maxLocals = 1) (hret : meth.sig.returnType = some .boolean) (hlk : meth.locks = false) (hown : s.vm.findClass "com/example/wary_query/waryquery/model/QName" = some m.cls) (hZ : Z.Warmed39 s.vm) (hw : ∀ d ∈ tables_1, d.before a0 Z = true) (eT : T.heap = h0) (N : Fr n0 locs) (Z0 : n0 ≤ h0.size) (hcs : cells ≤ ({ frames := 0, cells := 0, slots := 0, locals := 0 } : Room).cells) (hss : slots ≤ ({ frames := 0, cells := 0, slots := 0, locals := 0 } : Room).slots) (p1 : Int32) {w : Int32} (hv : oF2_72 p1 = w) : oEnd p e s below T (mkF m 72 #[.val (.int p1)] []) n0 h0 cells slots (some (.int w)) := by
  show oEnd p e s below T (mkF m 72 #[.val (.int p1)] []) n0 h0 cells slots (some (.int w))
  refine oPre (fun _ => XS.iloadN X.here hx rfl (hb hby d2_72) rfl) ?_
  show oEnd p e s below T (mkF m 73 #[.val (.int p1)] [(.int p1)]) n0 h0 cells slots (some (.int w))
  refine oPre (fun _ => XS.sipush X.here hx rfl (hb hby d2_73)) ?_
  show oEnd p e s below T (mkF m 76 #[.val (.int p1)] [(.int (880 : Int32)), (.int p1)]) n0 h0 cells slots (some (.int w))
  by_cases h76 : p1 < (880 : Int32)
  · have v76 : (oF2_86 p1) = w := (if_pos h76).symm.trans hv
    refine oPre (fun _ => XS.icmpYes X.here hx rfl (pc0 := 76) (pc' := 86) rfl (hb hby d2_76) rfl (((tlt h76).1)) (by decide) (by decide)) ?_
    exact oB2_86 X hx hby hml hret hlk hown hZ hw eT N Z0 hcs hss p1 v76
  · have v76 : (if (893 : Int32) < p1 then (oF2_86 p1) else (oF2_191 p1)) = w := (if_neg h76).symm.trans hv
    refine oPre (fun _ => XS.icmpNo X.here hx rfl (hb hby d2_76) rfl (((flt h76).1))) ?_
    show oEnd p e s below T (mkF m 79 #[.val (.int p1)] []) n0 h0 cells slots (some (.int w))
    refine oPre (fun _ => XS.iloadN X.here hx rfl (hb hby d2_79) rfl) ?_
    show oEnd p e s below T (mkF m 80 #[.val (.int p1)] [(.int p1)]) n0 h0 cells slots (some (.int w))
    refine oPre (fun _ => XS.sipush X.here hx rfl (hb hby d2_80)) ?_
    show oEnd p e s below T (mkF m 83 #[.val (.int p1)] [(.int (893 : Int32)), (.int p1)]) n0 h0 cells slots (some (.int w))
    by_cases h83 : (893 : Int32) < p1
    · have v83 : (oF2_86 p1) = w := (if_pos h83).symm.trans v76
      refine oPre (fun _ => XS.icmpNo X.here hx rfl (hb hby d2_83) rfl (((tlt h83).2.2.2))) ?_
      exact oB2_86 X hx hby hml hret hlk hown hZ hw eT N Z0 hcs hss p1 v83
    · have v83 : (oF2_191 p1) = w := (if_neg h83).symm.trans v76
      refine oPre (fun _ => XS.icmpYes X.here hx rfl (pc0 := 83) (pc' := 191) rfl (hb hby d2_83) rfl (((flt h83).2.2.2)) (by decide) (by decide)) ?_
      exact oB2_191 X hx hby hml hret hlk hown hZ hw eT N Z0 hcs hss p1 v83
def oF2_58 (p1 : Int32) : Int32 := (if p1 < (248 : Int32) then (oF2_72 p1) else (if (767 : Int32) < p1 then (oF2_72 p1) else (oF2_191 p1)))
set_option maxRecDepth 65536 in
set_option maxHeartbeats 4000000 in
theorem oB2_58 {p : Program} {l : Launch} {e : Env} {s : State} {m : MethodId} {args : Array Value} {below : List Frame} {meth : Method} {c : Code} {T : State} {locs : List Loc} {cells slots : Nat} {Z : State} {a0 : Array Value} {h0 : Heap} {n0 : Nat} (X : Stand p l e ({ frames := 0, cells := 0, slots := 0, locals := 0 } : Room) s m args below meth c T locs cells slots) (hx : p.tables.exec = Jvm.exec) (hby : c.code = prog_233_method_8_code) (hml : c.maxLocals = 1) (hret : meth.sig.returnType = some .boolean) (hlk : meth.locks = false) (hown : s.vm.findClass "com/example/wary_query/waryquery/model/QName" = some m.cls) (hZ : Z.Warmed39 s.vm) (hw : ∀ d ∈ tables_1, d.before a0 Z = true) (eT : T.heap = h0) (N : Fr n0 locs) (Z0 : n0 ≤ h0.size) (hcs : cells ≤ ({ frames := 0, cells := 0, slots := 0, locals := 0 } : Room).cells) (hss : slots ≤ ({ frames := 0, cells := 0, slots := 0, locals := 0 } : Room).slots) (p1 : Int32) {w : Int32} (hv : oF2_58 p1 = w) : oEnd p e s below T (mkF m 58 #[.val (.int p1)] []) n0 h0 cells slots (some (.int w)) := by
  show oEnd p e s below T (mkF m 58 #[.val (.int p1)] []) n0 h0 cells slots (some (.int w))
  refine oPre (fun _ => XS.iloadN X.here hx rfl (hb hby d2_58) rfl) ?_
  show oEnd p e s below T (mkF m 59 #[.val (.int p1)] [(.int p1)]) n0 h0 cells slots (some (.int w))
  refine oPre (fun _ => XS.sipush X.here hx rfl (hb hby d2_59)) ?_
  show oEnd p e s below T (mkF m 62 #[.val (.int p1)] [(.int (248 : Int32)), (.int p1)]) n0 h0 cells slots (some (.int w))
  by_cases h62 : p1 < (248 : Int32)
  · have v62 : (oF2_72 p1) = w := (if_pos h62).symm.trans hv
    refine oPre (fun _ => XS.icmpYes X.here hx rfl (pc0 := 62) (pc' := 72) rfl (hb hby d2_62) rfl (((tlt h62).1)) (by decide) (by decide)) ?_
    exact oB2_72 X hx hby hml hret hlk hown hZ hw eT N Z0 hcs hss p1 v62
  · have v62 : (if (767 : Int32) < p1 then (oF2_72 p1) else (oF2_191 p1)) = w := (if_neg h62).symm.trans hv
    refine oPre (fun _ => XS.icmpNo X.here hx rfl (hb hby d2_62) rfl (((flt h62).1))) ?_
    show oEnd p e s below T (mkF m 65 #[.val (.int p1)] []) n0 h0 cells slots (some (.int w))
    refine oPre (fun _ => XS.iloadN X.here hx rfl (hb hby d2_65) rfl) ?_
    show oEnd p e s below T (mkF m 66 #[.val (.int p1)] [(.int p1)]) n0 h0 cells slots (some (.int w))
    refine oPre (fun _ => XS.sipush X.here hx rfl (hb hby d2_66)) ?_
    show oEnd p e s below T (mkF m 69 #[.val (.int p1)] [(.int (767 : Int32)), (.int p1)]) n0 h0 cells slots (some (.int w))
    by_cases h69 : (767 : Int32) < p1
    · have v69 : (oF2_72 p1) = w := (if_pos h69).symm.trans v62
      refine oPre (fun _ => XS.icmpNo X.here hx rfl (hb hby d2_69) rfl (((tlt h69).2.2.2))) ?_
      exact oB2_72 X hx hby hml hret hlk hown hZ hw eT N Z0 hcs hss p1 v69
    · have v69 : (oF2_191 p1) = w := (if_neg h69).symm.trans v62
      refine oPre (fun _ => XS.icmpYes X.here hx rfl (pc0 := 69) (pc' := 191) rfl (hb hby d2_69) rfl (((flt h69).2.2.2)) (by decide) (by decide)) ?_
      exact oB2_191 X hx hby hml hret hlk hown hZ hw eT N Z0 hcs hss p1 v69
def oF2_44 (p1 : Int32) : Int32 := (if p1 < (216 : Int32) then (oF2_58 p1) else (if (246 : Int32) < p1 then (oF2_58 p1) else (oF2_191 p1)))
set_option maxRecDepth 65536 in
set_option maxHeartbeats 4000000 in
theorem oB2_44 {p : Program} {l : Launch} {e : Env} {s : State} {m : MethodId} {args : Array Value} {below : List Frame} {meth : Method} {c : Code} {T : State} {locs : List Loc} {cells slots : Nat} {Z : State} {a0 : Array Value} {h0 : Heap} {n0 : Nat} (X : Stand p l e ({ frames := 0, cells := 0, slots := 0, locals := 0 } : Room) s m args below meth c T locs cells slots) (hx : p.tables.exec = Jvm.exec) (hby : c.code = prog_233_method_8_code) (hml : c.maxLocals = 1) (hret : meth.sig.returnType = some .boolean) (hlk : meth.locks = false) (hown : s.vm.findClass "com/example/wary_query/waryquery/model/QName" = some m.cls) (hZ : Z.Warmed39 s.vm) (hw : ∀ d ∈ tables_1, d.before a0 Z = true) (eT : T.heap = h0) (N : Fr n0 locs) (Z0 : n0 ≤ h0.size) (hcs : cells ≤ ({ frames := 0, cells := 0, slots := 0, locals := 0 } : Room).cells) (hss : slots ≤ ({ frames := 0, cells := 0, slots := 0, locals := 0 } : Room).slots) (p1 : Int32) {w : Int32} (hv : oF2_44 p1 = w) : oEnd p e s below T (mkF m 44 #[.val (.int p1)] []) n0 h0 cells slots (some (.int w)) := by
  show oEnd p e s below T (mkF m 44 #[.val (.int p1)] []) n0 h0 cells slots (some (.int w))
  refine oPre (fun _ => XS.iloadN X.here hx rfl (hb hby d2_44) rfl) ?_
  show oEnd p e s below T (mkF m 45 #[.val (.int p1)] [(.int p1)]) n0 h0 cells slots (some (.int w))
  refine oPre (fun _ => XS.sipush X.here hx rfl (hb hby d2_45)) ?_
  show oEnd p e s below T (mkF m 48 #[.val (.int p1)] [(.int (216 : Int32)), (.int p1)]) n0 h0 cells slots (some (.int w))
  by_cases h48 : p1 < (216 : Int32)
  · have v48 : (oF2_58 p1) = w := (if_pos h48).symm.trans hv
    refine oPre (fun _ => XS.icmpYes X.here hx rfl (pc0 := 48) (pc' := 58) rfl (hb hby d2_48) rfl (((tlt h48).1)) (by decide) (by decide)) ?_
    exact oB2_58 X hx hby hml hret hlk hown hZ hw eT N Z0 hcs hss p1 v48
  · have v48 : (if (246 : Int32) < p1 then (oF2_58 p1) else (oF2_191 p1)) = w := (if_neg h48).symm.trans hv
    refine oPre (fun _ => XS.icmpNo X.here hx rfl (hb hby d2_48) rfl (((flt h48).1))) ?_
    show oEnd p e s below T (mkF m 51 #[.val (.int p1)] []) n0 h0 cells slots (some (.int w))
    refine oPre (fun _ => XS.iloadN X.here hx rfl (hb hby d2_51) rfl) ?_
    show oEnd p e s below T (mkF m 52 #[.val (.int p1)] [(.int p1)]) n0 h0 cells slots (some (.int w))
    refine oPre (fun _ => XS.sipush X.here hx rfl (hb hby d2_52)) ?_
    show oEnd p e s below T (mkF m 55 #[.val (.int p1)] [(.int (246 : Int32)), (.int p1)]) n0 h0 cells slots (some (.int w))
    by_cases h55 : (246 : Int32) < p1
    · have v55 : (oF2_58 p1) = w := (if_pos h55).symm.trans v48
      refine oPre (fun _ => XS.icmpNo X.here hx rfl (hb hby d2_55) rfl (((tlt h55).2.2.2))) ?_
      exact oB2_58 X hx hby hml hret hlk hown hZ hw eT N Z0 hcs hss p1 v55
    · have v55 : (oF2_191 p1) = w := (if_neg h55).symm.trans v48
      refine oPre (fun _ => XS.icmpYes X.here hx rfl (pc0 := 55) (pc' := 191) rfl (hb hby d2_55) rfl (((flt h55).2.2.2)) (by decide) (by decide)) ?_
      exact oB2_191 X hx hby hml hret hlk hown hZ hw eT N Z0 hcs hss p1 v55
def oF2_24 (p1 : Int32) : Int32 := (if p1 = (95 : Int32) then (oF2_191 p1) else (if p1 < (192 : Int32) then (oF2_44 p1) else (if (214 : Int32) < p1 then (oF2_44 p1) else (oF2_191 p1))))
set_option maxRecDepth 65536 in
set_option maxHeartbeats 4000000 in
theorem oB2_24 {p : Program} {l : Launch} {e : Env} {s : State} {m : MethodId} {args : Array Value} {below : List Frame} {meth : Method} {c : Code} {T : State} {locs : List Loc} {cells slots : Nat} {Z : State} {a0 : Array Value} {h0 : Heap} {n0 : Nat} (X : Stand p l e ({ frames := 0, cells := 0, slots := 0, locals := 0 } : Room) s m args below meth c T locs cells slots) (hx : p.tables.exec = Jvm.exec) (hby : c.code = prog_233_method_8_code) (hml : c.maxLocals = 1) (hret : meth.sig.returnType = some .boolean) (hlk : meth.locks = false) (hown : s.vm.findClass "com/example/wary_query/waryquery/model/QName" = some m.cls) (hZ : Z.Warmed39 s.vm) (hw : ∀ d ∈ tables_1, d.before a0 Z = true) (eT : T.heap = h0) (N : Fr n0 locs) (Z0 : n0 ≤ h0.size) (hcs : cells ≤ ({ frames := 0, cells := 0, slots := 0, locals := 0 } : Room).cells) (hss : slots ≤ ({ frames := 0, cells := 0, slots := 0, locals := 0 } : Room).slots) (p1 : Int32) {w : Int32} (hv : oF2_24 p1 = w) : oEnd p e s below T (mkF m 24 #[.val (.int p1)] []) n0 h0 cells slots (some (.int w)) := by
  show oEnd p e s below T (mkF m 24 #[.val (.int p1)] []) n0 h0 cells slots (some (.int w))
  refine oPre (fun _ => XS.iloadN X.here hx rfl (hb hby d2_24) rfl) ?_
  show oEnd p e s below T (mkF m 25 #[.val (.int p1)] [(.int p1)]) n0 h0 cells slots (some (.int w))
  refine oPre (fun _ => XS.bipush X.here hx rfl (hb hby d2_25)) ?_
  show oEnd p e s below T (mkF m 27 #[.val (.int p1)] [(.int (95 : Int32)), (.int p1)]) n0 h0 cells slots (some (.int w))
  by_cases h27 : p1 = (95 : Int32)
  · have v27 : (oF2_191 p1) = w := (if_pos h27).symm.trans hv
    refine oPre (fun _ => XS.icmpYes X.here hx rfl (pc0 := 27) (pc' := 191) rfl (hb hby d2_27) rfl (((teq h27).1)) (by decide) (by decide)) ?_
    exact oB2_191 X hx hby hml hret hlk hown hZ hw eT N Z0 hcs hss p1 v27
  · have v27 : (if p1 < (192 : Int32) then (oF2_44 p1) else (if (214 : Int32) < p1 then (oF2_44 p1) else (oF2_191 p1))) = w := (if_neg h27).symm.trans hv
    refine oPre (fun _ => XS.icmpNo X.here hx rfl (hb hby d2_27) rfl (((feq h27).1))) ?_
    show oEnd p e s below T (mkF m 30 #[.val (.int p1)] []) n0 h0 cells slots (some (.int w))
    refine oPre (fun _ => XS.iloadN X.here hx rfl (hb hby d2_30) rfl) ?_
    show oEnd p e s below T (mkF m 31 #[.val (.int p1)] [(.int p1)]) n0 h0 cells slots (some (.int w))
    refine oPre (fun _ => XS.sipush X.here hx rfl (hb hby d2_31)) ?_
    show oEnd p e s below T (mkF m 34 #[.val (.int p1)] [(.int (192 : Int32)), (.int p1)]) n0 h0 cells slots (some (.int w))
    by_cases h34 : p1 < (192 : Int32)
    · have v34 : (oF2_44 p1) = w := (if_pos h34).symm.trans v27
      refine oPre (fun _ => XS.icmpYes X.here hx rfl (pc0 := 34) (pc' := 44) rfl (hb hby d2_34) rfl (((tlt h34).1)) (by decide) (by decide)) ?_
      exact oB2_44 X hx hby hml hret hlk hown hZ hw eT N Z0 hcs hss p1 v34
    · have v34 : (if (214 : Int32) < p1 then (oF2_44 p1) else (oF2_191 p1)) = w := (if_neg h34).symm.trans v27
      refine oPre (fun _ => XS.icmpNo X.here hx rfl (hb hby d2_34) rfl (((flt h34).1))) ?_
      show oEnd p e s below T (mkF m 37 #[.val (.int p1)] []) n0 h0 cells slots (some (.int w))
      refine oPre (fun _ => XS.iloadN X.here hx rfl (hb hby d2_37) rfl) ?_
      show oEnd p e s below T (mkF m 38 #[.val (.int p1)] [(.int p1)]) n0 h0 cells slots (some (.int w))
      refine oPre (fun _ => XS.sipush X.here hx rfl (hb hby d2_38)) ?_
      show oEnd p e s below T (mkF m 41 #[.val (.int p1)] [(.int (214 : Int32)), (.int p1)]) n0 h0 cells slots (some (.int w))
      by_cases h41 : (214 : Int32) < p1
      · have v41 : (oF2_44 p1) = w := (if_pos h41).symm.trans v34
        refine oPre (fun _ => XS.icmpNo X.here hx rfl (hb hby d2_41) rfl (((tlt h41).2.2.2))) ?_
        exact oB2_44 X hx hby hml hret hlk hown hZ hw eT N Z0 hcs hss p1 v41
      · have v41 : (oF2_191 p1) = w := (if_neg h41).symm.trans v34
        refine oPre (fun _ => XS.icmpYes X.here hx rfl (pc0 := 41) (pc' := 191) rfl (hb hby d2_41) rfl (((flt h41).2.2.2)) (by decide) (by decide)) ?_
        exact oB2_191 X hx hby hml hret hlk hown hZ hw eT N Z0 hcs hss p1 v41
def oF2_12 (p1 : Int32) : Int32 := (if p1 < (65 : Int32) then (oF2_24 p1) else (if (90 : Int32) < p1 then (oF2_24 p1) else (oF2_191 p1)))
set_option maxRecDepth 65536 in
set_option maxHeartbeats 4000000 in
theorem oB2_12 {p : Program} {l : Launch} {e : Env} {s : State} {m : MethodId} {args : Array Value} {below : List Frame} {meth : Method} {c : Code} {T : State} {locs : List Loc} {cells slots : Nat} {Z : State} {a0 : Array Value} {h0 : Heap} {n0 : Nat} (X : Stand p l e ({ frames := 0, cells := 0, slots := 0, locals := 0 } : Room) s m args below meth c T locs cells slots) (hx : p.tables.exec = Jvm.exec) (hby : c.code = prog_233_method_8_code) (hml : c.maxLocals = 1) (hret : meth.sig.returnType = some .boolean) (hlk : meth.locks = false) (hown : s.vm.findClass "com/example/wary_query/waryquery/model/QName" = some m.cls) (hZ : Z.Warmed39 s.vm) (hw : ∀ d ∈ tables_1, d.before a0 Z = true) (eT : T.heap = h0) (N : Fr n0 locs) (Z0 : n0 ≤ h0.size) (hcs : cells ≤ ({ frames := 0, cells := 0, slots := 0, locals := 0 } : Room).cells) (hss : slots ≤ ({ frames := 0, cells := 0, slots := 0, locals := 0 } : Room).slots) (p1 : Int32) {w : Int32} (hv : oF2_12 p1 = w) : oEnd p e s below T (mkF m 12 #[.val (.int p1)] []) n0 h0 cells slots (some (.int w)) := by
  show oEnd p e s below T (mkF m 12 #[.val (.int p1)] []) n0 h0 cells slots (some (.int w))
  refine oPre (fun _ => XS.iloadN X.here hx rfl (hb hby d2_12) rfl) ?_
  show oEnd p e s below T (mkF m 13 #[.val (.int p1)] [(.int p1)]) n0 h0 cells slots (some (.int w))
  refine oPre (fun _ => XS.bipush X.here hx rfl (hb hby d2_13)) ?_
  show oEnd p e s below T (mkF m 15 #[.val (.int p1)] [(.int (65 : Int32)), (.int p1)]) n0 h0 cells slots (some (.int w))
  by_cases h15 : p1 < (65 : Int32)
  · have v15 : (oF2_24 p1) = w := (if_pos h15).symm.trans hv
    refine oPre (fun _ => XS.icmpYes X.here hx rfl (pc0 := 15) (pc' := 24) rfl (hb hby d2_15) rfl (((tlt h15).1)) (by decide) (by decide)) ?_
    exact oB2_24 X hx hby hml hret hlk hown hZ hw eT N Z0 hcs hss p1 v15
  · have v15 : (if (90 : Int32) < p1 then (oF2_24 p1) else (oF2_191 p1)) = w := (if_neg h15).symm.trans hv
    refine oPre (fun _ => XS.icmpNo X.here hx rfl (hb hby d2_15) rfl (((flt h15).1))) ?_
    show oEnd p e s below T (mkF m 18 #[.val (.int p1)] []) n0 h0 cells slots (some (.int w))
    refine oPre (fun _ => XS.iloadN X.here hx rfl (hb hby d2_18) rfl) ?_
    show oEnd p e s below T (mkF m 19 #[.val (.int p1)] [(.int p1)]) n0 h0 cells slots (some (.int w))
    refine oPre (fun _ => XS.bipush X.here hx rfl (hb hby d2_19)) ?_
    show oEnd p e s below T (mkF m 21 #[.val (.int p1)] [(.int (90 : Int32)), (.int p1)]) n0 h0 cells slots (some (.int w))
    by_cases h21 : (90 : Int32) < p1
    · have v21 : (oF2_24 p1) = w := (if_pos h21).symm.trans v15
      refine oPre (fun _ => XS.icmpNo X.here hx rfl (hb hby d2_21) rfl (((tlt h21).2.2.2))) ?_
      exact oB2_24 X hx hby hml hret hlk hown hZ hw eT N Z0 hcs hss p1 v21
    · have v21 : (oF2_191 p1) = w := (if_neg h21).symm.trans v15
      refine oPre (fun _ => XS.icmpYes X.here hx rfl (pc0 := 21) (pc' := 191) rfl (hb hby d2_21) rfl (((flt h21).2.2.2)) (by decide) (by decide)) ?_
      exact oB2_191 X hx hby hml hret hlk hown hZ hw eT N Z0 hcs hss p1 v21
def oF2_0 (p1 : Int32) : Int32 := (if p1 < (97 : Int32) then (oF2_12 p1) else (if (122 : Int32) < p1 then (oF2_12 p1) else (oF2_191 p1)))
set_option maxRecDepth 65536 in
set_option maxHeartbeats 4000000 in
theorem oB2_0 {p : Program} {l : Launch} {e : Env} {s : State} {m : MethodId} {args : Array Value} {below : List Frame} {meth : Method} {c : Code} {T : State} {locs : List Loc} {cells slots : Nat} {Z : State} {a0 : Array Value} {h0 : Heap} {n0 : Nat} (X : Stand p l e ({ frames := 0, cells := 0, slots := 0, locals := 0 } : Room) s m args below meth c T locs cells slots) (hx : p.tables.exec = Jvm.exec) (hby : c.code = prog_233_method_8_code) (hml : c.maxLocals = 1) (hret : meth.sig.returnType = some .boolean) (hlk : meth.locks = false) (hown : s.vm.findClass "com/example/wary_query/waryquery/model/QName" = some m.cls) (hZ : Z.Warmed39 s.vm) (hw : ∀ d ∈ tables_1, d.before a0 Z = true) (eT : T.heap = h0) (N : Fr n0 locs) (Z0 : n0 ≤ h0.size) (hcs : cells ≤ ({ frames := 0, cells := 0, slots := 0, locals := 0 } : Room).cells) (hss : slots ≤ ({ frames := 0, cells := 0, slots := 0, locals := 0 } : Room).slots) (p1 : Int32) {w : Int32} (hv : oF2_0 p1 = w) : oEnd p e s below T (mkF m 0 #[.val (.int p1)] []) n0 h0 cells slots (some (.int w)) := by
  show oEnd p e s below T (mkF m 0 #[.val (.int p1)] []) n0 h0 cells slots (some (.int w))
  refine oPre (fun _ => XS.iloadN X.here hx rfl (hb hby d2_0) rfl) ?_
  show oEnd p e s below T (mkF m 1 #[.val (.int p1)] [(.int p1)]) n0 h0 cells slots (some (.int w))
  refine oPre (fun _ => XS.bipush X.here hx rfl (hb hby d2_1)) ?_
  show oEnd p e s below T (mkF m 3 #[.val (.int p1)] [(.int (97 : Int32)), (.int p1)]) n0 h0 cells slots (some (.int w))
  by_cases h3 : p1 < (97 : Int32)
  · have v3 : (oF2_12 p1) = w := (if_pos h3).symm.trans hv
    refine oPre (fun _ => XS.icmpYes X.here hx rfl (pc0 := 3) (pc' := 12) rfl (hb hby d2_3) rfl (((tlt h3).1)) (by decide) (by decide)) ?_
    exact oB2_12 X hx hby hml hret hlk hown hZ hw eT N Z0 hcs hss p1 v3
  · have v3 : (if (122 : Int32) < p1 then (oF2_12 p1) else (oF2_191 p1)) = w := (if_neg h3).symm.trans hv
    refine oPre (fun _ => XS.icmpNo X.here hx rfl (hb hby d2_3) rfl (((flt h3).1))) ?_
    show oEnd p e s below T (mkF m 6 #[.val (.int p1)] []) n0 h0 cells slots (some (.int w))
    refine oPre (fun _ => XS.iloadN X.here hx rfl (hb hby d2_6) rfl) ?_
    show oEnd p e s below T (mkF m 7 #[.val (.int p1)] [(.int p1)]) n0 h0 cells slots (some (.int w))
    refine oPre (fun _ => XS.bipush X.here hx rfl (hb hby d2_7)) ?_
    show oEnd p e s below T (mkF m 9 #[.val (.int p1)] [(.int (122 : Int32)), (.int p1)]) n0 h0 cells slots (some (.int w))
    by_cases h9 : (122 : Int32) < p1
    · have v9 : (oF2_12 p1) = w := (if_pos h9).symm.trans v3
      refine oPre (fun _ => XS.icmpNo X.here hx rfl (hb hby d2_9) rfl (((tlt h9).2.2.2))) ?_
      exact oB2_12 X hx hby hml hret hlk hown hZ hw eT N Z0 hcs hss p1 v9
    · have v9 : (oF2_191 p1) = w := (if_neg h9).symm.trans v3
      refine oPre (fun _ => XS.icmpYes X.here hx rfl (pc0 := 9) (pc' := 191) rfl (hb hby d2_9) rfl (((flt h9).2.2.2)) (by decide) (by decide)) ?_
      exact oB2_191 X hx hby hml hret hlk hown hZ hw eT N Z0 hcs hss p1 v9
theorem pn_2 : plainName "com/example/wary_query/waryquery/model/QName" = true := by first | (simp [plainName, overriddenIn]; done) | decide +kernel
theorem ef_2 (m : MethodId) (p1 : Int32) : entryFrame m #[(.int p1)] 1 = mkF m 0 #[.val (.int p1)] [] := by first | (simp [entryFrame, mkF, argsToLocals, Value.category]; done) | rfl
def oQ2 (p1 : Int32) (h0 : Heap) (n0 : Nat) (v : Option Value) (h : Heap) (L : List Loc) : Prop := v = some (.int (oF2_0 p1)) ∧ Fr n0 L ∧ h = h0
set_option maxRecDepth 65536 in
set_option maxHeartbeats 4000000 in
theorem oR2 (l : Launch) (Z : State) (a0 : Array Value) (hw : ∀ d ∈ tables_1, d.before a0 Z = true) (ws : List Jvm.Cond) (p1 : Int32) (h0 : Heap) (n0 : Nat) (Z0 : n0 ≤ h0.size) :
    MetFree l (⟨"com/example/wary_query/waryquery/model/QName", "isNameStart", "(I)Z"⟩ : MethodName) (head1 (Jvm.Cond.code (⟨"com/example/wary_query/waryquery/model/QName", "isNameStart", "(I)Z"⟩ : MethodName) prog_233_method_8_code 1 (some .boolean) :: ws) ({ frames := 0, cells := 0, slots := 0, locals := 0 } : Room)) (fun a U => a = #[(.int p1)] ∧ Z.Warmed39 U.vm ∧ U.heap = h0) (fun _ _ _ _ _ => True) (fun _ U o U' => ∃ v L, o = .returned v ∧ oQ2 p1 h0 n0 v U'.heap L ∧ FrameEnd U o U' L ({ frames := 0, cells := 0, slots := 0, locals := 0 } : Room).cells ({ frames := 0, cells := 0, slots := 0, locals := 0 } : Room).slots) := by
  refine MetFree.of_bodySF (plainFor_of_name pn_2) hisR ?_
  intro p e s m args below meth c s₁ Bd hml0 hP hK
  obtain ⟨rfl, hZ, hh⟩ := hP
  have hown : s.vm.findClass "com/example/wary_query/waryquery/model/QName" = some m.cls := findClass_of_methodNamed Bd.named
  have X0 : Stand p l e ({ frames := 0, cells := 0, slots := 0, locals := 0 } : Room) s m #[(.int p1)] below meth c s₁ [] 0 0 := Stand.of_body Bd
  have e0 : s₁.heap = h0 := by rw [← hh, Bd.state]; rfl
  obtain ⟨t, L, hs, hrun, hended, hW, hsame, hN, ht⟩ := oB2_0 X0 Bd.exec Bd.bytes hml0 Bd.returns Bd.notSynchronized hown hZ hw e0 (Fr.nil n0) Z0 (Nat.zero_le _) (Nat.zero_le _) p1 rfl
  exact ⟨t, _, castTop (ef_2 m p1) hs, hrun, hended, _, L, rfl, ⟨rfl, hN, ht⟩, ⟨_, rfl⟩, hW, hsame.mono (Nat.zero_le _) (Nat.zero_le _)⟩
theorem d3_0 : decode method_2_code 0 = .ok (.iload_n 0, 1) := by decide +kernel
theorem d3_1 : decode method_2_code 1 = .ok (.bipush 65, 2) := by decide +kernel
theorem d3_3 : decode method_2_code 3 = .ok (.if_icmp .lt 9, 3) := by decide +kernel
theorem d3_6 : decode method_2_code 6 = .ok (.iload_n 0, 1) := by decide +kernel
theorem d3_7 : decode method_2_code 7 = .ok (.ldc 7, 2) := by decide +kernel
theorem d3_9 : decode method_2_code 9 = .ok (.if_icmp .le 5, 3) := by decide +kernel
theorem d3_12 : decode method_2_code 12 = .ok (.iconst 1, 1) := by decide +kernel
theorem d3_13 : decode method_2_code 13 = .ok (.ireturn, 1) := by decide +kernel
theorem d3_14 : decode method_2_code 14 = .ok (.iload_n 0, 1) := by decide +kernel
theorem d3_15 : decode method_2_code 15 = .ok (.bipush 91, 2) := by decide +kernel
theorem d3_17 : decode method_2_code 17 = .ok (.if_icmp .lt 11, 3) := by decide +kernel
theorem d3_20 : decode method_2_code 20 = .ok (.iload_n 0, 1) := by decide +kernel
theorem d3_21 : decode method_2_code 21 = .ok (.bipush 94, 2) := by decide +kernel
theorem d3_23 : decode method_2_code 23 = .ok (.if_icmp .gt 5, 3) := by decide +kernel
theorem d3_26 : decode method_2_code 26 = .ok (.iconst 1, 1) := by decide +kernel
theorem d3_27 : decode method_2_code 27 = .ok (.ireturn, 1) := by decide +kernel
theorem d3_28 : decode method_2_code 28 = .ok (.iload_n 0, 1) := by decide +kernel
theorem d3_29 : decode method_2_code 29 = .ok (.bipush 96, 2) := by decide +kernel
theorem d3_31 : decode method_2_code 31 = .ok (.if_icmp .ne 5, 3) := by decide +kernel
theorem d3_34 : decode method_2_code 34 = .ok (.iconst 1, 1) := by decide +kernel
theorem d3_35 : decode method_2_code 35 = .ok (.ireturn, 1) := by decide +kernel
theorem d3_36 : decode method_2_code 36 = .ok (.iload_n 0, 1) := by decide +kernel
theorem d3_37 : decode method_2_code 37 = .ok (.bipush 123, 2) := by decide +kernel
theorem d3_39 : decode method_2_code 39 = .ok (.if_icmp .lt 12, 3) := by decide +kernel
theorem d3_42 : decode method_2_code 42 = .ok (.iload_n 0, 1) := by decide +kernel
theorem d3_43 : decode method_2_code 43 = .ok (.sipush 191, 3) := by decide +kernel
theorem d3_46 : decode method_2_code 46 = .ok (.if_icmp .gt 5, 3) := by decide +kernel
theorem d3_49 : decode method_2_code 49 = .ok (.iconst 1, 1) := by decide +kernel
theorem d3_50 : decode method_2_code 50 = .ok (.ireturn, 1) := by decide +kernel
theorem d3_51 : decode method_2_code 51 = .ok (.iload_n 0, 1) := by decide +kernel
theorem d3_52 : decode method_2_code 52 = .ok (.sipush 215, 3) := by decide +kernel
theorem d3_55 : decode method_2_code 55 = .ok (.if_icmp .eq 10, 3) := by decide +kernel
theorem d3_58 : decode method_2_code 58 = .ok (.iload_n 0, 1) := by decide +kernel
theorem d3_59 : decode method_2_code 59 = .ok (.sipush 247, 3) := by decide +kernel
theorem d3_62 : decode method_2_code 62 = .ok (.if_icmp .ne 5, 3) := by decide +kernel
theorem d3_65 : decode method_2_code 65 = .ok (.iconst 1, 1) := by decide +kernel
theorem d3_66 : decode method_2_code 66 = .ok (.ireturn, 1) := by decide +kernel
theorem d3_67 : decode method_2_code 67 = .ok (.iload_n 0, 1) := by decide +kernel
theorem d3_68 : decode method_2_code 68 = .ok (.sipush 768, 3) := by decide +kernel
theorem d3_71 : decode method_2_code 71 = .ok (.if_icmp .lt 12, 3) := by decide +kernel
theorem d3_74 : decode method_2_code 74 = .ok (.iload_n 0, 1) := by decide +kernel
theorem d3_75 : decode method_2_code 75 = .ok (.sipush 879, 3) := by decide +kernel
theorem d3_78 : decode method_2_code 78 = .ok (.if_icmp .gt 5, 3) := by decide +kernel
theorem d3_81 : decode method_2_code 81 = .ok (.iconst 1, 1) := by decide +kernel
theorem d3_82 : decode method_2_code 82 = .ok (.ireturn, 1) := by decide +kernel
theorem d3_83 : decode method_2_code 83 = .ok (.iload_n 0, 1) := by decide +kernel
theorem d3_84 : decode method_2_code 84 = .ok (.sipush 894, 3) := by decide +kernel
theorem d3_87 : decode method_2_code 87 = .ok (.if_icmp .ne 5, 3) := by decide +kernel
theorem d3_90 : decode method_2_code 90 = .ok (.iconst 1, 1) := by decide +kernel
theorem d3_91 : decode method_2_code 91 = .ok (.ireturn, 1) := by decide +kernel
theorem d3_92 : decode method_2_code 92 = .ok (.iload_n 0, 1) := by decide +kernel
theorem d3_93 : decode method_2_code 93 = .ok (.sipush 8192, 3) := by decide +kernel
theorem d3_96 : decode method_2_code 96 = .ok (.if_icmp .lt 12, 3) := by decide +kernel
theorem d3_99 : decode method_2_code 99 = .ok (.iload_n 0, 1) := by decide +kernel
theorem d3_100 : decode method_2_code 100 = .ok (.sipush 8203, 3) := by decide +kernel
theorem d3_103 : decode method_2_code 103 = .ok (.if_icmp .gt 5, 3) := by decide +kernel
theorem d3_106 : decode method_2_code 106 = .ok (.iconst 1, 1) := by decide +kernel
theorem d3_107 : decode method_2_code 107 = .ok (.ireturn, 1) := by decide +kernel
theorem d3_108 : decode method_2_code 108 = .ok (.iload_n 0, 1) := by decide +kernel
theorem d3_109 : decode method_2_code 109 = .ok (.sipush 8206, 3) := by decide +kernel
theorem d3_112 : decode method_2_code 112 = .ok (.if_icmp .lt 12, 3) := by decide +kernel
theorem d3_115 : decode method_2_code 115 = .ok (.iload_n 0, 1) := by decide +kernel
theorem d3_116 : decode method_2_code 116 = .ok (.sipush 8303, 3) := by decide +kernel
theorem d3_119 : decode method_2_code 119 = .ok (.if_icmp .gt 5, 3) := by decide +kernel
theorem d3_122 : decode method_2_code 122 = .ok (.iconst 1, 1) := by decide +kernel
theorem d3_123 : decode method_2_code 123 = .ok (.ireturn, 1) := by decide +kernel
theorem d3_124 : decode method_2_code 124 = .ok (.iload_n 0, 1) := by decide +kernel
theorem d3_125 : decode method_2_code 125 = .ok (.sipush 8592, 3) := by decide +kernel
theorem d3_128 : decode method_2_code 128 = .ok (.if_icmp .lt 12, 3) := by decide +kernel
theorem d3_131 : decode method_2_code 131 = .ok (.iload_n 0, 1) := by decide +kernel
theorem d3_132 : decode method_2_code 132 = .ok (.sipush 11263, 3) := by decide +kernel
theorem d3_135 : decode method_2_code 135 = .ok (.if_icmp .gt 5, 3) := by decide +kernel
theorem d3_138 : decode method_2_code 138 = .ok (.iconst 1, 1) := by decide +kernel
theorem d3_139 : decode method_2_code 139 = .ok (.ireturn, 1) := by decide +kernel
theorem d3_140 : decode method_2_code 140 = .ok (.iload_n 0, 1) := by decide +kernel
theorem d3_141 : decode method_2_code 141 = .ok (.sipush 12272, 3) := by decide +kernel
theorem d3_144 : decode method_2_code 144 = .ok (.if_icmp .lt 12, 3) := by decide +kernel
theorem d3_147 : decode method_2_code 147 = .ok (.iload_n 0, 1) := by decide +kernel
theorem d3_148 : decode method_2_code 148 = .ok (.sipush 12288, 3) := by decide +kernel
theorem d3_151 : decode method_2_code 151 = .ok (.if_icmp .gt 5, 3) := by decide +kernel
theorem d3_154 : decode method_2_code 154 = .ok (.iconst 1, 1) := by decide +kernel
theorem d3_155 : decode method_2_code 155 = .ok (.ireturn, 1) := by decide +kernel
theorem d3_156 : decode method_2_code 156 = .ok (.iload_n 0, 1) := by decide +kernel
theorem d3_157 : decode method_2_code 157 = .ok (.ldc 8, 2) := by decide +kernel
theorem d3_159 : decode method_2_code 159 = .ok (.if_icmp .lt 11, 3) := by decide +kernel
theorem d3_162 : decode method_2_code 162 = .ok (.iload_n 0, 1) := by decide +kernel
theorem d3_163 : decode method_2_code 163 = .ok (.ldc 9, 2) := by decide +kernel
theorem d3_165 : decode method_2_code 165 = .ok (.if_icmp .gt 5, 3) := by decide +kernel
theorem d3_168 : decode method_2_code 168 = .ok (.iconst 1, 1) := by decide +kernel
theorem d3_169 : decode method_2_code 169 = .ok (.ireturn, 1) := by decide +kernel
theorem d3_170 : decode method_2_code 170 = .ok (.iload_n 0, 1) := by decide +kernel
theorem d3_171 : decode method_2_code 171 = .ok (.ldc 10, 2) := by decide +kernel
theorem d3_173 : decode method_2_code 173 = .ok (.if_icmp .lt 11, 3) := by decide +kernel
theorem d3_176 : decode method_2_code 176 = .ok (.iload_n 0, 1) := by decide +kernel
theorem d3_177 : decode method_2_code 177 = .ok (.ldc 11, 2) := by decide +kernel
theorem d3_179 : decode method_2_code 179 = .ok (.if_icmp .gt 5, 3) := by decide +kernel
theorem d3_182 : decode method_2_code 182 = .ok (.iconst 1, 1) := by decide +kernel
theorem d3_183 : decode method_2_code 183 = .ok (.ireturn, 1) := by decide +kernel
theorem d3_184 : decode method_2_code 184 = .ok (.iload_n 0, 1) := by decide +kernel
theorem d3_185 : decode method_2_code 185 = .ok (.ldc 12, 2) := by decide +kernel
theorem d3_187 : decode method_2_code 187 = .ok (.if_icmp .lt 11, 3) := by decide +kernel
theorem d3_190 : decode method_2_code 190 = .ok (.iload_n 0, 1) := by decide +kernel
theorem d3_191 : decode method_2_code 191 = .ok (.ldc 13, 2) := by decide +kernel
theorem d3_193 : decode method_2_code 193 = .ok (.if_icmp .gt 5, 3) := by decide +kernel
theorem d3_196 : decode method_2_code 196 = .ok (.iconst 1, 1) := by decide +kernel
theorem d3_197 : decode method_2_code 197 = .ok (.ireturn, 1) := by decide +kernel
theorem d3_198 : decode method_2_code 198 = .ok (.iconst 0, 1) := by decide +kernel
theorem d3_199 : decode method_2_code 199 = .ok (.ireturn, 1) := by decide +kernel
def oF3_198 (p1 : Int32) : Int32 := (0 : Int32)
set_option maxRecDepth 65536 in
set_option maxHeartbeats 4000000 in
theorem oB3_198 {p : Program} {l : Launch} {e : Env} {s : State} {m : MethodId} {args : Array Value} {below : List Frame} {meth : Method} {c : Code} {T : State} {locs : List Loc} {cells slots : Nat} {Z : State} {a0 : Array Value} {h0 : Heap} {n0 : Nat} (X : Stand p l e ({ frames := 0, cells := 0, slots := 0, locals := 0 } : Room) s m args below meth c T locs cells slots) (hx : p.tables.exec = Jvm.exec) (hby : c.code = method_2_code) (hml : c.maxLocals = 1) (hret : meth.sig.returnType = some .boolean) (hlk : meth.locks = false) (hown : s.vm.findClass "com/example/wary_query/waryquery/model/QNameIsNameStartPinLaw" = some m.cls) (hZ : Z.Warmed39 s.vm) (hw : ∀ d ∈ tables_1, d.before a0 Z = true) (eT : T.heap = h0) (N : Fr n0 locs) (Z0 : n0 ≤ h0.size) (hcs : cells ≤ ({ frames := 0, cells := 0, slots := 0, locals := 0 } : Room).cells) (hss : slots ≤ ({ frames := 0, cells := 0, slots := 0, locals := 0 } : Room).slots) (p1 : Int32) {w : Int32} (hv : oF3_198 p1 = w) : oEnd p e s below T (mkF m 198 #[.val (.int p1)] []) n0 h0 cells slots (some (.int w)) := by
  show oEnd p e s below T (mkF m 198 #[.val (.int p1)] []) n0 h0 cells slots (some (.int w))
  refine oPre (fun _ => XS.iconst X.here hx rfl (hb hby d3_198)) ?_
  show oEnd p e s below T (mkF m 199 #[.val (.int p1)] [(.int (0 : Int32))]) n0 h0 cells slots (some (.int w))
  subst hv
  obtain ⟨fs, hr, hrun, hended, hW, hsame⟩ := X.leave (v := some (.int (0 : Int32))) (fun h => by rw [hret] at h; cases h) hlk
  exact ⟨_, _, retN X hx (t := .boolean) hret (by simp) (hb hby d3_199) hr, hrun, hended, hW, hsame, N, eT⟩
def oF3_184 (p1 : Int32) : Int32 := (if p1 < (65534 : Int32) then (oF3_198 p1) else (if (65535 : Int32) < p1 then (oF3_198 p1) else (1 : Int32)))
set_option maxRecDepth 65536 in
set_option maxHeartbeats 4000000 in
theorem oB3_184 {p : Program} {l : Launch} {e : Env} {s : State} {m : MethodId} {args : Array Value} {below : List Frame} {meth : Method} {c : Code} {T : State} {locs : List Loc} {cells slots : Nat} {Z : State} {a0 : Array Value} {h0 : Heap} {n0 : Nat} (X : Stand p l e ({ frames := 0, cells := 0, slots := 0, locals := 0 } : Room) s m args below meth c T locs cells slots) (hx : p.tables.exec = Jvm.exec) (hby : c.code = method_2_code) (hml : c.maxLocals = 1) (hret : meth.sig.returnType = some .boolean) (hlk : meth.locks = false) (hown : s.vm.findClass "com/example/wary_query/waryquery/model/QNameIsNameStartPinLaw" = some m.cls) (hZ : Z.Warmed39 s.vm) (hw : ∀ d ∈ tables_1, d.before a0 Z = true) (eT : T.heap = h0) (N : Fr n0 locs) (Z0 : n0 ≤ h0.size) (hcs : cells ≤ ({ frames := 0, cells := 0, slots := 0, locals := 0 } : Room).cells) (hss : slots ≤ ({ frames := 0, cells := 0, slots := 0, locals := 0 } : Room).slots) (p1 : Int32) {w : Int32} (hv : oF3_184 p1 = w) : oEnd p e s below T (mkF m 184 #[.val (.int p1)] []) n0 h0 cells slots (some (.int w)) := by
  show oEnd p e s below T (mkF m 184 #[.val (.int p1)] []) n0 h0 cells slots (some (.int w))
  refine oPre (fun _ => XS.iloadN X.here hx rfl (hb hby d3_184) rfl) ?_
  show oEnd p e s below T (mkF m 185 #[.val (.int p1)] [(.int p1)]) n0 h0 cells slots (some (.int w))
  refine oPre (fun _ => X.ldcInt hx hown (mvT hZ (hw _ (List.mem_of_getElem? (i := 18) rfl))) (g := (mkF m 185 #[.val (.int p1)] [(.int p1)])) rfl (hb hby d3_185) _) ?_
  show oEnd p e s below T (mkF m 187 #[.val (.int p1)] [(.int (65534 : Int32)), (.int p1)]) n0 h0 cells slots (some (.int w))
  by_cases h187 : p1 < (65534 : Int32)
  · have v187 : (oF3_198 p1) = w := (if_pos h187).symm.trans hv
    refine oPre (fun _ => XS.icmpYes X.here hx rfl (pc0 := 187) (pc' := 198) rfl (hb hby d3_187) rfl (((tlt h187).1)) (by decide) (by decide)) ?_
    exact oB3_198 X hx hby hml hret hlk hown hZ hw eT N Z0 hcs hss p1 v187
  · have v187 : (if (65535 : Int32) < p1 then (oF3_198 p1) else (1 : Int32)) = w := (if_neg h187).symm.trans hv
    refine oPre (fun _ => XS.icmpNo X.here hx rfl (hb hby d3_187) rfl (((flt h187).1))) ?_
    show oEnd p e s below T (mkF m 190 #[.val (.int p1)] []) n0 h0 cells slots (some (.int w))
    refine oPre (fun _ => XS.iloadN X.here hx rfl (hb hby d3_190) rfl) ?_
    show oEnd p e s below T (mkF m 191 #[.val (.int p1)] [(.int p1)]) n0 h0 cells slots (some (.int w))
    refine oPre (fun _ => X.ldcInt hx hown (mvT hZ (hw _ (List.mem_of_getElem? (i := 25) rfl))) (g := (mkF m 191 #[.val (.int p1)] [(.int p1)])) rfl (hb hby d3_191) _) ?_
    show oEnd p e s below T (mkF m 193 #[.val (.int p1)] [(.int (65535 : Int32)), (.int p1)]) n0 h0 cells slots (some (.int w))
    by_cases h193 : (65535 : Int32) < p1
    · have v193 : (oF3_198 p1) = w := (if_pos h193).symm.trans v187
      refine oPre (fun _ => XS.icmpYes X.here hx rfl (pc0 := 193) (pc' := 198) rfl (hb hby d3_193) rfl (((tlt h193).2.2.1)) (by decide) (by decide)) ?_
      exact oB3_198 X hx hby hml hret hlk hown hZ hw eT N Z0 hcs hss p1 v193
    · have v193 : (1 : Int32) = w := (if_neg h193).symm.trans v187
      refine oPre (fun _ => XS.icmpNo X.here hx rfl (hb hby d3_193) rfl (((flt h193).2.2.1))) ?_
      show oEnd p e s below T (mkF m 196 #[.val (.int p1)] []) n0 h0 cells slots (some (.int w))
      refine oPre (fun _ => XS.iconst X.here hx rfl (hb hby d3_196)) ?_
      show oEnd p e s below T (mkF m 197 #[.val (.int p1)] [(.int (1 : Int32))]) n0 h0 cells slots (some (.int w))
      subst v193
      obtain ⟨fs, hr, hrun, hended, hW, hsame⟩ := X.leave (v := some (.int (1 : Int32))) (fun h => by rw [hret] at h; cases h) hlk
      exact ⟨_, _, retN X hx (t := .boolean) hret (by simp) (hb hby d3_197) hr, hrun, hended, hW, hsame, N, eT⟩
def oF3_170 (p1 : Int32) : Int32 := (if p1 < (64976 : Int32) then (oF3_184 p1) else (if (65007 : Int32) < p1 then (oF3_184 p1) else (1 : Int32)))
set_option maxRecDepth 65536 in
set_option maxHeartbeats 4000000 in
theorem oB3_170 {p : Program} {l : Launch} {e : Env} {s : State} {m : MethodId} {args : Array Value} {below : List Frame} {meth : Method} {c : Code} {T : State} {locs : List Loc} {cells slots : Nat} {Z : State} {a0 : Array Value} {h0 : Heap} {n0 : Nat} (X : Stand p l e ({ frames := 0, cells := 0, slots := 0, locals := 0 } : Room) s m args below meth c T locs cells slots) (hx : p.tables.exec = Jvm.exec) (hby : c.code = method_2_code) (hml : c.maxLocals = 1) (hret : meth.sig.returnType = some .boolean) (hlk : meth.locks = false) (hown : s.vm.findClass "com/example/wary_query/waryquery/model/QNameIsNameStartPinLaw" = some m.cls) (hZ : Z.Warmed39 s.vm) (hw : ∀ d ∈ tables_1, d.before a0 Z = true) (eT : T.heap = h0) (N : Fr n0 locs) (Z0 : n0 ≤ h0.size) (hcs : cells ≤ ({ frames := 0, cells := 0, slots := 0, locals := 0 } : Room).cells) (hss : slots ≤ ({ frames := 0, cells := 0, slots := 0, locals := 0 } : Room).slots) (p1 : Int32) {w : Int32} (hv : oF3_170 p1 = w) : oEnd p e s below T (mkF m 170 #[.val (.int p1)] []) n0 h0 cells slots (some (.int w)) := by
  show oEnd p e s below T (mkF m 170 #[.val (.int p1)] []) n0 h0 cells slots (some (.int w))
  refine oPre (fun _ => XS.iloadN X.here hx rfl (hb hby d3_170) rfl) ?_
  show oEnd p e s below T (mkF m 171 #[.val (.int p1)] [(.int p1)]) n0 h0 cells slots (some (.int w))
  refine oPre (fun _ => X.ldcInt hx hown (mvT hZ (hw _ (List.mem_of_getElem? (i := 17) rfl))) (g := (mkF m 171 #[.val (.int p1)] [(.int p1)])) rfl (hb hby d3_171) _) ?_
  show oEnd p e s below T (mkF m 173 #[.val (.int p1)] [(.int (64976 : Int32)), (.int p1)]) n0 h0 cells slots (some (.int w))
  by_cases h173 : p1 < (64976 : Int32)
  · have v173 : (oF3_184 p1) = w := (if_pos h173).symm.trans hv
    refine oPre (fun _ => XS.icmpYes X.here hx rfl (pc0 := 173) (pc' := 184) rfl (hb hby d3_173) rfl (((tlt h173).1)) (by decide) (by decide)) ?_
    exact oB3_184 X hx hby hml hret hlk hown hZ hw eT N Z0 hcs hss p1 v173
  · have v173 : (if (65007 : Int32) < p1 then (oF3_184 p1) else (1 : Int32)) = w := (if_neg h173).symm.trans hv
    refine oPre (fun _ => XS.icmpNo X.here hx rfl (hb hby d3_173) rfl (((flt h173).1))) ?_
    show oEnd p e s below T (mkF m 176 #[.val (.int p1)] []) n0 h0 cells slots (some (.int w))
    refine oPre (fun _ => XS.iloadN X.here hx rfl (hb hby d3_176) rfl) ?_
    show oEnd p e s below T (mkF m 177 #[.val (.int p1)] [(.int p1)]) n0 h0 cells slots (some (.int w))
    refine oPre (fun _ => X.ldcInt hx hown (mvT hZ (hw _ (List.mem_of_getElem? (i := 24) rfl))) (g := (mkF m 177 #[.val (.int p1)] [(.int p1)])) rfl (hb hby d3_177) _) ?_
    show oEnd p e s below T (mkF m 179 #[.val (.int p1)] [(.int (65007 : Int32)), (.int p1)]) n0 h0 cells slots (some (.int w))
    by_cases h179 : (65007 : Int32) < p1
    · have v179 : (oF3_184 p1) = w := (if_pos h179).symm.trans v173
      refine oPre (fun _ => XS.icmpYes X.here hx rfl (pc0 := 179) (pc' := 184) rfl (hb hby d3_179) rfl (((tlt h179).2.2.1)) (by decide) (by decide)) ?_
      exact oB3_184 X hx hby hml hret hlk hown hZ hw eT N Z0 hcs hss p1 v179
    · have v179 : (1 : Int32) = w := (if_neg h179).symm.trans v173
      refine oPre (fun _ => XS.icmpNo X.here hx rfl (hb hby d3_179) rfl (((flt h179).2.2.1))) ?_
      show oEnd p e s below T (mkF m 182 #[.val (.int p1)] []) n0 h0 cells slots (some (.int w))
      refine oPre (fun _ => XS.iconst X.here hx rfl (hb hby d3_182)) ?_
      show oEnd p e s below T (mkF m 183 #[.val (.int p1)] [(.int (1 : Int32))]) n0 h0 cells slots (some (.int w))
      subst v179
      obtain ⟨fs, hr, hrun, hended, hW, hsame⟩ := X.leave (v := some (.int (1 : Int32))) (fun h => by rw [hret] at h; cases h) hlk
      exact ⟨_, _, retN X hx (t := .boolean) hret (by simp) (hb hby d3_183) hr, hrun, hended, hW, hsame, N, eT⟩
def oF3_156 (p1 : Int32) : Int32 := (if p1 < (55296 : Int32) then (oF3_170 p1) else (if (63743 : Int32) < p1 then (oF3_170 p1) else (1 : Int32)))
set_option maxRecDepth 65536 in
set_option maxHeartbeats 4000000 in
theorem oB3_156 {p : Program} {l : Launch} {e : Env} {s : State} {m : MethodId} {args : Array Value} {below : List Frame} {meth : Method} {c : Code} {T : State} {locs : List Loc} {cells slots : Nat} {Z : State} {a0 : Array Value} {h0 : Heap} {n0 : Nat} (X : Stand p l e ({ frames := 0, cells := 0, slots := 0, locals := 0 } : Room) s m args below meth c T locs cells slots) (hx : p.tables.exec = Jvm.exec) (hby : c.code = method_2_code) (hml : c.maxLocals = 1) (hret : meth.sig.returnType = some .boolean) (hlk : meth.locks = false) (hown : s.vm.findClass "com/example/wary_query/waryquery/model/QNameIsNameStartPinLaw" = some m.cls) (hZ : Z.Warmed39 s.vm) (hw : ∀ d ∈ tables_1, d.before a0 Z = true) (eT : T.heap = h0) (N : Fr n0 locs) (Z0 : n0 ≤ h0.size) (hcs : cells ≤ ({ frames := 0, cells := 0, slots := 0, locals := 0 } : Room).cells) (hss : slots ≤ ({ frames := 0, cells := 0, slots := 0, locals := 0 } : Room).slots) (p1 : Int32) {w : Int32} (hv : oF3_156 p1 = w) : oEnd p e s below T (mkF m 156 #[.val (.int p1)] []) n0 h0 cells slots (some (.int w)) := by
  show oEnd p e s below T (mkF m 156 #[.val (.int p1)] []) n0 h0 cells slots (some (.int w))
  refine oPre (fun _ => XS.iloadN X.here hx rfl (hb hby d3_156) rfl) ?_
  show oEnd p e s below T (mkF m 157 #[.val (.int p1)] [(.int p1)]) n0 h0 cells slots (some (.int w))
  refine oPre (fun _ => X.ldcInt hx hown (mvT hZ (hw _ (List.mem_of_getElem? (i := 16) rfl))) (g := (mkF m 157 #[.val (.int p1)] [(.int p1)])) rfl (hb hby d3_157) _) ?_
  show oEnd p e s below T (mkF m 159 #[.val (.int p1)] [(.int (55296 : Int32)), (.int p1)]) n0 h0 cells slots (some (.int w))
  by_cases h159 : p1 < (55296 : Int32)
  · have v159 : (oF3_170 p1) = w := (if_pos h159).symm.trans hv
    refine oPre (fun _ => XS.icmpYes X.here hx rfl (pc0 := 159) (pc' := 170) rfl (hb hby d3_159) rfl (((tlt h159).1)) (by decide) (by decide)) ?_
    exact oB3_170 X hx hby hml hret hlk hown hZ hw eT N Z0 hcs hss p1 v159
  · have v159 : (if (63743 : Int32) < p1 then (oF3_170 p1) else (1 : Int32)) = w := (if_neg h159).symm.trans hv
    refine oPre (fun _ => XS.icmpNo X.here hx rfl (hb hby d3_159) rfl (((flt h159).1))) ?_
    show oEnd p e s below T (mkF m 162 #[.val (.int p1)] []) n0 h0 cells slots (some (.int w))
    refine oPre (fun _ => XS.iloadN X.here hx rfl (hb hby d3_162) rfl) ?_
    show oEnd p e s below T (mkF m 163 #[.val (.int p1)] [(.int p1)]) n0 h0 cells slots (some (.int w))
    refine oPre (fun _ => X.ldcInt hx hown (mvT hZ (hw _ (List.mem_of_getElem? (i := 23) rfl))) (g := (mkF m 163 #[.val (.int p1)] [(.int p1)])) rfl (hb hby d3_163) _) ?_
    show oEnd p e s below T (mkF m 165 #[.val (.int p1)] [(.int (63743 : Int32)), (.int p1)]) n0 h0 cells slots (some (.int w))
    by_cases h165 : (63743 : Int32) < p1
    · have v165 : (oF3_170 p1) = w := (if_pos h165).symm.trans v159
      refine oPre (fun _ => XS.icmpYes X.here hx rfl (pc0 := 165) (pc' := 170) rfl (hb hby d3_165) rfl (((tlt h165).2.2.1)) (by decide) (by decide)) ?_
      exact oB3_170 X hx hby hml hret hlk hown hZ hw eT N Z0 hcs hss p1 v165
    · have v165 : (1 : Int32) = w := (if_neg h165).symm.trans v159
      refine oPre (fun _ => XS.icmpNo X.here hx rfl (hb hby d3_165) rfl (((flt h165).2.2.1))) ?_
      show oEnd p e s below T (mkF m 168 #[.val (.int p1)] []) n0 h0 cells slots (some (.int w))
      refine oPre (fun _ => XS.iconst X.here hx rfl (hb hby d3_168)) ?_
      show oEnd p e s below T (mkF m 169 #[.val (.int p1)] [(.int (1 : Int32))]) n0 h0 cells slots (some (.int w))
      subst v165
      obtain ⟨fs, hr, hrun, hended, hW, hsame⟩ := X.leave (v := some (.int (1 : Int32))) (fun h => by rw [hret] at h; cases h) hlk
      exact ⟨_, _, retN X hx (t := .boolean) hret (by simp) (hb hby d3_169) hr, hrun, hended, hW, hsame, N, eT⟩
def oF3_140 (p1 : Int32) : Int32 := (if p1 < (12272 : Int32) then (oF3_156 p1) else (if (12288 : Int32) < p1 then (oF3_156 p1) else (1 : Int32)))
set_option maxRecDepth 65536 in
set_option maxHeartbeats 4000000 in
theorem oB3_140 {p : Program} {l : Launch} {e : Env} {s : State} {m : MethodId} {args : Array Value} {below : List Frame} {meth : Method} {c : Code} {T : State} {locs : List Loc} {cells slots : Nat} {Z : State} {a0 : Array Value} {h0 : Heap} {n0 : Nat} (X : Stand p l e ({ frames := 0, cells := 0, slots := 0, locals := 0 } : Room) s m args below meth c T locs cells slots) (hx : p.tables.exec = Jvm.exec) (hby : c.code = method_2_code) (hml : c.maxLocals = 1) (hret : meth.sig.returnType = some .boolean) (hlk : meth.locks = false) (hown : s.vm.findClass "com/example/wary_query/waryquery/model/QNameIsNameStartPinLaw" = some m.cls) (hZ : Z.Warmed39 s.vm) (hw : ∀ d ∈ tables_1, d.before a0 Z = true) (eT : T.heap = h0) (N : Fr n0 locs) (Z0 : n0 ≤ h0.size) (hcs : cells ≤ ({ frames := 0, cells := 0, slots := 0, locals := 0 } : Room).cells) (hss : slots ≤ ({ frames := 0, cells := 0, slots := 0, locals := 0 } : Room).slots) (p1 : Int32) {w : Int32} (hv : oF3_140 p1 = w) : oEnd p e s below T (mkF m 140 #[.val (.int p1)] []) n0 h0 cells slots (some (.int w)) := by
  show oEnd p e s below T (mkF m 140 #[.val (.int p1)] []) n0 h0 cells slots (some (.int w))
  refine oPre (fun _ => XS.iloadN X.here hx rfl (hb hby d3_140) rfl) ?_
  show oEnd p e s below T (mkF m 141 #[.val (.int p1)] [(.int p1)]) n0 h0 cells slots (some (.int w))
  refine oPre (fun _ => XS.sipush X.here hx rfl (hb hby d3_141)) ?_
  show oEnd p e s below T (mkF m 144 #[.val (.int p1)] [(.int (12272 : Int32)), (.int p1)]) n0 h0 cells slots (some (.int w))
  by_cases h144 : p1 < (12272 : Int32)
  · have v144 : (oF3_156 p1) = w := (if_pos h144).symm.trans hv
    refine oPre (fun _ => XS.icmpYes X.here hx rfl (pc0 := 144) (pc' := 156) rfl (hb hby d3_144) rfl (((tlt h144).1)) (by decide) (by decide)) ?_
    exact oB3_156 X hx hby hml hret hlk hown hZ hw eT N Z0 hcs hss p1 v144
  · have v144 : (if (12288 : Int32) < p1 then (oF3_156 p1) else (1 : Int32)) = w := (if_neg h144).symm.trans hv
    refine oPre (fun _ => XS.icmpNo X.here hx rfl (hb hby d3_144) rfl (((flt h144).1))) ?_
    show oEnd p e s below T (mkF m 147 #[.val (.int p1)] []) n0 h0 cells slots (some (.int w))
    refine oPre (fun _ => XS.iloadN X.here hx rfl (hb hby d3_147) rfl) ?_
    show oEnd p e s below T (mkF m 148 #[.val (.int p1)] [(.int p1)]) n0 h0 cells slots (some (.int w))
    refine oPre (fun _ => XS.sipush X.here hx rfl (hb hby d3_148)) ?_
    show oEnd p e s below T (mkF m 151 #[.val (.int p1)] [(.int (12288 : Int32)), (.int p1)]) n0 h0 cells slots (some (.int w))
    by_cases h151 : (12288 : Int32) < p1
    · have v151 : (oF3_156 p1) = w := (if_pos h151).symm.trans v144
      refine oPre (fun _ => XS.icmpYes X.here hx rfl (pc0 := 151) (pc' := 156) rfl (hb hby d3_151) rfl (((tlt h151).2.2.1)) (by decide) (by decide)) ?_
      exact oB3_156 X hx hby hml hret hlk hown hZ hw eT N Z0 hcs hss p1 v151
    · have v151 : (1 : Int32) = w := (if_neg h151).symm.trans v144
      refine oPre (fun _ => XS.icmpNo X.here hx rfl (hb hby d3_151) rfl (((flt h151).2.2.1))) ?_
      show oEnd p e s below T (mkF m 154 #[.val (.int p1)] []) n0 h0 cells slots (some (.int w))
      refine oPre (fun _ => XS.iconst X.here hx rfl (hb hby d3_154)) ?_
      show oEnd p e s below T (mkF m 155 #[.val (.int p1)] [(.int (1 : Int32))]) n0 h0 cells slots (some (.int w))
      subst v151
      obtain ⟨fs, hr, hrun, hended, hW, hsame⟩ := X.leave (v := some (.int (1 : Int32))) (fun h => by rw [hret] at h; cases h) hlk
      exact ⟨_, _, retN X hx (t := .boolean) hret (by simp) (hb hby d3_155) hr, hrun, hended, hW, hsame, N, eT⟩
def oF3_124 (p1 : Int32) : Int32 := (if p1 < (8592 : Int32) then (oF3_140 p1) else (if (11263 : Int32) < p1 then (oF3_140 p1) else (1 : Int32)))
set_option maxRecDepth 65536 in
set_option maxHeartbeats 4000000 in
theorem oB3_124 {p : Program} {l : Launch} {e : Env} {s : State} {m : MethodId} {args : Array Value} {below : List Frame} {meth : Method} {c : Code} {T : State} {locs : List Loc} {cells slots : Nat} {Z : State} {a0 : Array Value} {h0 : Heap} {n0 : Nat} (X : Stand p l e ({ frames := 0, cells := 0, slots := 0, locals := 0 } : Room) s m args below meth c T locs cells slots) (hx : p.tables.exec = Jvm.exec) (hby : c.code = method_2_code) (hml : c.maxLocals = 1) (hret : meth.sig.returnType = some .boolean) (hlk : meth.locks = false) (hown : s.vm.findClass "com/example/wary_query/waryquery/model/QNameIsNameStartPinLaw" = some m.cls) (hZ : Z.Warmed39 s.vm) (hw : ∀ d ∈ tables_1, d.before a0 Z = true) (eT : T.heap = h0) (N : Fr n0 locs) (Z0 : n0 ≤ h0.size) (hcs : cells ≤ ({ frames := 0, cells := 0, slots := 0, locals := 0 } : Room).cells) (hss : slots ≤ ({ frames := 0, cells := 0, slots := 0, locals := 0 } : Room).slots) (p1 : Int32) {w : Int32} (hv : oF3_124 p1 = w) : oEnd p e s below T (mkF m 124 #[.val (.int p1)] []) n0 h0 cells slots (some (.int w)) := by
  show oEnd p e s below T (mkF m 124 #[.val (.int p1)] []) n0 h0 cells slots (some (.int w))
  refine oPre (fun _ => XS.iloadN X.here hx rfl (hb hby d3_124) rfl) ?_
  show oEnd p e s below T (mkF m 125 #[.val (.int p1)] [(.int p1)]) n0 h0 cells slots (some (.int w))
  refine oPre (fun _ => XS.sipush X.here hx rfl (hb hby d3_125)) ?_
  show oEnd p e s below T (mkF m 128 #[.val (.int p1)] [(.int (8592 : Int32)), (.int p1)]) n0 h0 cells slots (some (.int w))
  by_cases h128 : p1 < (8592 : Int32)
  · have v128 : (oF3_140 p1) = w := (if_pos h128).symm.trans hv
    refine oPre (fun _ => XS.icmpYes X.here hx rfl (pc0 := 128) (pc' := 140) rfl (hb hby d3_128) rfl (((tlt h128).1)) (by decide) (by decide)) ?_
    exact oB3_140 X hx hby hml hret hlk hown hZ hw eT N Z0 hcs hss p1 v128
  · have v128 : (if (11263 : Int32) < p1 then (oF3_140 p1) else (1 : Int32)) = w := (if_neg h128).symm.trans hv
    refine oPre (fun _ => XS.icmpNo X.here hx rfl (hb hby d3_128) rfl (((flt h128).1))) ?_
    show oEnd p e s below T (mkF m 131 #[.val (.int p1)] []) n0 h0 cells slots (some (.int w))
    refine oPre (fun _ => XS.iloadN X.here hx rfl (hb hby d3_131) rfl) ?_
    show oEnd p e s below T (mkF m 132 #[.val (.int p1)] [(.int p1)]) n0 h0 cells slots (some (.int w))
    refine oPre (fun _ => XS.sipush X.here hx rfl (hb hby d3_132)) ?_
    show oEnd p e s below T (mkF m 135 #[.val (.int p1)] [(.int (11263 : Int32)), (.int p1)]) n0 h0 cells slots (some (.int w))
    by_cases h135 : (11263 : Int32) < p1
    · have v135 : (oF3_140 p1) = w := (if_pos h135).symm.trans v128
      refine oPre (fun _ => XS.icmpYes X.here hx rfl (pc0 := 135) (pc' := 140) rfl (hb hby d3_135) rfl (((tlt h135).2.2.1)) (by decide) (by decide)) ?_
      exact oB3_140 X hx hby hml hret hlk hown hZ hw eT N Z0 hcs hss p1 v135
    · have v135 : (1 : Int32) = w := (if_neg h135).symm.trans v128
      refine oPre (fun _ => XS.icmpNo X.here hx rfl (hb hby d3_135) rfl (((flt h135).2.2.1))) ?_
      show oEnd p e s below T (mkF m 138 #[.val (.int p1)] []) n0 h0 cells slots (some (.int w))
      refine oPre (fun _ => XS.iconst X.here hx rfl (hb hby d3_138)) ?_
      show oEnd p e s below T (mkF m 139 #[.val (.int p1)] [(.int (1 : Int32))]) n0 h0 cells slots (some (.int w))
      subst v135
      obtain ⟨fs, hr, hrun, hended, hW, hsame⟩ := X.leave (v := some (.int (1 : Int32))) (fun h => by rw [hret] at h; cases h) hlk
      exact ⟨_, _, retN X hx (t := .boolean) hret (by simp) (hb hby d3_139) hr, hrun, hended, hW, hsame, N, eT⟩
def oF3_108 (p1 : Int32) : Int32 := (if p1 < (8206 : Int32) then (oF3_124 p1) else (if (8303 : Int32) < p1 then (oF3_124 p1) else (1 : Int32)))
set_option maxRecDepth 65536 in
set_option maxHeartbeats 4000000 in
theorem oB3_108 {p : Program} {l : Launch} {e : Env} {s : State} {m : MethodId} {args : Array Value} {below : List Frame} {meth : Method} {c : Code} {T : State} {locs : List Loc} {cells slots : Nat} {Z : State} {a0 : Array Value} {h0 : Heap} {n0 : Nat} (X : Stand p l e ({ frames := 0, cells := 0, slots := 0, locals := 0 } : Room) s m args below meth c T locs cells slots) (hx : p.tables.exec = Jvm.exec) (hby : c.code = method_2_code) (hml : c.maxLocals = 1) (hret : meth.sig.returnType = some .boolean) (hlk : meth.locks = false) (hown : s.vm.findClass "com/example/wary_query/waryquery/model/QNameIsNameStartPinLaw" = some m.cls) (hZ : Z.Warmed39 s.vm) (hw : ∀ d ∈ tables_1, d.before a0 Z = true) (eT : T.heap = h0) (N : Fr n0 locs) (Z0 : n0 ≤ h0.size) (hcs : cells ≤ ({ frames := 0, cells := 0, slots := 0, locals := 0 } : Room).cells) (hss : slots ≤ ({ frames := 0, cells := 0, slots := 0, locals := 0 } : Room).slots) (p1 : Int32) {w : Int32} (hv : oF3_108 p1 = w) : oEnd p e s below T (mkF m 108 #[.val (.int p1)] []) n0 h0 cells slots (some (.int w)) := by
  show oEnd p e s below T (mkF m 108 #[.val (.int p1)] []) n0 h0 cells slots (some (.int w))
  refine oPre (fun _ => XS.iloadN X.here hx rfl (hb hby d3_108) rfl) ?_
  show oEnd p e s below T (mkF m 109 #[.val (.int p1)] [(.int p1)]) n0 h0 cells slots (some (.int w))
  refine oPre (fun _ => XS.sipush X.here hx rfl (hb hby d3_109)) ?_
  show oEnd p e s below T (mkF m 112 #[.val (.int p1)] [(.int (8206 : Int32)), (.int p1)]) n0 h0 cells slots (some (.int w))
  by_cases h112 : p1 < (8206 : Int32)
  · have v112 : (oF3_124 p1) = w := (if_pos h112).symm.trans hv
    refine oPre (fun _ => XS.icmpYes X.here hx rfl (pc0 := 112) (pc' := 124) rfl (hb hby d3_112) rfl (((tlt h112).1)) (by decide) (by decide)) ?_
    exact oB3_124 X hx hby hml hret hlk hown hZ hw eT N Z0 hcs hss p1 v112
  · have v112 : (if (8303 : Int32) < p1 then (oF3_124 p1) else (1 : Int32)) = w := (if_neg h112).symm.trans hv
    refine oPre (fun _ => XS.icmpNo X.here hx rfl (hb hby d3_112) rfl (((flt h112).1))) ?_
    show oEnd p e s below T (mkF m 115 #[.val (.int p1)] []) n0 h0 cells slots (some (.int w))
    refine oPre (fun _ => XS.iloadN X.here hx rfl (hb hby d3_115) rfl) ?_
    show oEnd p e s below T (mkF m 116 #[.val (.int p1)] [(.int p1)]) n0 h0 cells slots (some (.int w))
    refine oPre (fun _ => XS.sipush X.here hx rfl (hb hby d3_116)) ?_
    show oEnd p e s below T (mkF m 119 #[.val (.int p1)] [(.int (8303 : Int32)), (.int p1)]) n0 h0 cells slots (some (.int w))
    by_cases h119 : (8303 : Int32) < p1
    · have v119 : (oF3_124 p1) = w := (if_pos h119).symm.trans v112
      refine oPre (fun _ => XS.icmpYes X.here hx rfl (pc0 := 119) (pc' := 124) rfl (hb hby d3_119) rfl (((tlt h119).2.2.1)) (by decide) (by decide)) ?_
      exact oB3_124 X hx hby hml hret hlk hown hZ hw eT N Z0 hcs hss p1 v119
    · have v119 : (1 : Int32) = w := (if_neg h119).symm.trans v112
      refine oPre (fun _ => XS.icmpNo X.here hx rfl (hb hby d3_119) rfl (((flt h119).2.2.1))) ?_
      show oEnd p e s below T (mkF m 122 #[.val (.int p1)] []) n0 h0 cells slots (some (.int w))
      refine oPre (fun _ => XS.iconst X.here hx rfl (hb hby d3_122)) ?_
      show oEnd p e s below T (mkF m 123 #[.val (.int p1)] [(.int (1 : Int32))]) n0 h0 cells slots (some (.int w))
      subst v119
      obtain ⟨fs, hr, hrun, hended, hW, hsame⟩ := X.leave (v := some (.int (1 : Int32))) (fun h => by rw [hret] at h; cases h) hlk
      exact ⟨_, _, retN X hx (t := .boolean) hret (by simp) (hb hby d3_123) hr, hrun, hended, hW, hsame, N, eT⟩
def oF3_83 (p1 : Int32) : Int32 := (if p1 = (894 : Int32) then (1 : Int32) else (if p1 < (8192 : Int32) then (oF3_108 p1) else (if (8203 : Int32) < p1 then (oF3_108 p1) else (1 : Int32))))
set_option maxRecDepth 65536 in
set_option maxHeartbeats 4000000 in
theorem oB3_83 {p : Program} {l : Launch} {e : Env} {s : State} {m : MethodId} {args : Array Value} {below : List Frame} {meth : Method} {c : Code} {T : State} {locs : List Loc} {cells slots : Nat} {Z : State} {a0 : Array Value} {h0 : Heap} {n0 : Nat} (X : Stand p l e ({ frames := 0, cells := 0, slots := 0, locals := 0 } : Room) s m args below meth c T locs cells slots) (hx : p.tables.exec = Jvm.exec) (hby : c.code = method_2_code) (hml : c.maxLocals = 1) (hret : meth.sig.returnType = some .boolean) (hlk : meth.locks = false) (hown : s.vm.findClass "com/example/wary_query/waryquery/model/QNameIsNameStartPinLaw" = some m.cls) (hZ : Z.Warmed39 s.vm) (hw : ∀ d ∈ tables_1, d.before a0 Z = true) (eT : T.heap = h0) (N : Fr n0 locs) (Z0 : n0 ≤ h0.size) (hcs : cells ≤ ({ frames := 0, cells := 0, slots := 0, locals := 0 } : Room).cells) (hss : slots ≤ ({ frames := 0, cells := 0, slots := 0, locals := 0 } : Room).slots) (p1 : Int32) {w : Int32} (hv : oF3_83 p1 = w) : oEnd p e s below T (mkF m 83 #[.val (.int p1)] []) n0 h0 cells slots (some (.int w)) := by
  show oEnd p e s below T (mkF m 83 #[.val (.int p1)] []) n0 h0 cells slots (some (.int w))
  refine oPre (fun _ => XS.iloadN X.here hx rfl (hb hby d3_83) rfl) ?_
  show oEnd p e s below T (mkF m 84 #[.val (.int p1)] [(.int p1)]) n0 h0 cells slots (some (.int w))
  refine oPre (fun _ => XS.sipush X.here hx rfl (hb hby d3_84)) ?_
  show oEnd p e s below T (mkF m 87 #[.val (.int p1)] [(.int (894 : Int32)), (.int p1)]) n0 h0 cells slots (some (.int w))
  by_cases h87 : p1 = (894 : Int32)
  · have v87 : (1 : Int32) = w := (if_pos h87).symm.trans hv
    refine oPre (fun _ => XS.icmpNo X.here hx rfl (hb hby d3_87) rfl (((teq h87).2))) ?_
    show oEnd p e s below T (mkF m 90 #[.val (.int p1)] []) n0 h0 cells slots (some (.int w))
    refine oPre (fun _ => XS.iconst X.here hx rfl (hb hby d3_90)) ?_
    show oEnd p e s below T (mkF m 91 #[.val (.int p1)] [(.int (1 : Int32))]) n0 h0 cells slots (some (.int w))
    subst v87
    obtain ⟨fs, hr, hrun, hended, hW, hsame⟩ := X.leave (v := some (.int (1 : Int32))) (fun h => by rw [hret] at h; cases h) hlk
    exact ⟨_, _, retN X hx (t := .boolean) hret (by simp) (hb hby d3_91) hr, hrun, hended, hW, hsame, N, eT⟩
  · have v87 : (if p1 < (8192 : Int32) then (oF3_108 p1) else (if (8203 : Int32) < p1 then (oF3_108 p1) else (1 : Int32))) = w := (if_neg h87).symm.trans hv
    refine oPre (fun _ => XS.icmpYes X.here hx rfl (pc0 := 87) (pc' := 92) rfl (hb hby d3_87) rfl (((feq h87).2)) (by decide) (by decide)) ?_
    show oEnd p e s below T (mkF m 92 #[.val (.int p1)] []) n0 h0 cells slots (some (.int w))
    refine oPre (fun _ => XS.iloadN X.here hx rfl (hb hby d3_92) rfl) ?_
    show oEnd p e s below T (mkF m 93 #[.val (.int p1)] [(.int p1)]) n0 h0 cells slots (some (.int w))
    refine oPre (fun _ => XS.sipush X.here hx rfl (hb hby d3_93)) ?_
    show oEnd p e s below T (mkF m 96 #[.val (.int p1)] [(.int (8192 : Int32)), (.int p1)]) n0 h0 cells slots (some (.int w))
    by_cases h96 : p1 < (8192 : Int32)
    · have v96 : (oF3_108 p1) = w := (if_pos h96).symm.trans v87
      refine oPre (fun _ => XS.icmpYes X.here hx rfl (pc0 := 96) (pc' := 108) rfl (hb hby d3_96) rfl (((tlt h96).1)) (by decide) (by decide)) ?_
      exact oB3_108 X hx hby hml hret hlk hown hZ hw eT N Z0 hcs hss p1 v96
    · have v96 : (if (8203 : Int32) < p1 then (oF3_108 p1) else (1 : Int32)) = w := (if_neg h96).symm.trans v87
      refine oPre (fun _ => XS.icmpNo X.here hx rfl (hb hby d3_96) rfl (((flt h96).1))) ?_
      show oEnd p e s below T (mkF m 99 #[.val (.int p1)] []) n0 h0 cells slots (some (.int w))
      refine oPre (fun _ => XS.iloadN X.here hx rfl (hb hby d3_99) rfl) ?_
      show oEnd p e s below T (mkF m 100 #[.val (.int p1)] [(.int p1)]) n0 h0 cells slots (some (.int w))
      refine oPre (fun _ => XS.sipush X.here hx rfl (hb hby d3_100)) ?_
      show oEnd p e s below T (mkF m 103 #[.val (.int p1)] [(.int (8203 : Int32)), (.int p1)]) n0 h0 cells slots (some (.int w))
      by_cases h103 : (8203 : Int32) < p1
      · have v103 : (oF3_108 p1) = w := (if_pos h103).symm.trans v96
        refine oPre (fun _ => XS.icmpYes X.here hx rfl (pc0 := 103) (pc' := 108) rfl (hb hby d3_103) rfl (((tlt h103).2.2.1)) (by decide) (by decide)) ?_
        exact oB3_108 X hx hby hml hret hlk hown hZ hw eT N Z0 hcs hss p1 v103
      · have v103 : (1 : Int32) = w := (if_neg h103).symm.trans v96
        refine oPre (fun _ => XS.icmpNo X.here hx rfl (hb hby d3_103) rfl (((flt h103).2.2.1))) ?_
        show oEnd p e s below T (mkF m 106 #[.val (.int p1)] []) n0 h0 cells slots (some (.int w))
        refine oPre (fun _ => XS.iconst X.here hx rfl (hb hby d3_106)) ?_
        show oEnd p e s below T (mkF m 107 #[.val (.int p1)] [(.int (1 : Int32))]) n0 h0 cells slots (some (.int w))
        subst v103
        obtain ⟨fs, hr, hrun, hended, hW, hsame⟩ := X.leave (v := some (.int (1 : Int32))) (fun h => by rw [hret] at h; cases h) hlk
        exact ⟨_, _, retN X hx (t := .boolean) hret (by simp) (hb hby d3_107) hr, hrun, hended, hW, hsame, N, eT⟩
def oF3_65 (p1 : Int32) : Int32 := (1 : Int32)
set_option maxRecDepth 65536 in
set_option maxHeartbeats 4000000 in
theorem oB3_65 {p : Program} {l : Launch} {e : Env} {s : State} {m : MethodId} {args : Array Value} {below : List Frame} {meth : Method} {c : Code} {T : State} {locs : List Loc} {cells slots : Nat} {Z : State} {a0 : Array Value} {h0 : Heap} {n0 : Nat} (X : Stand p l e ({ frames := 0, cells := 0, slots := 0, locals := 0 } : Room) s m args below meth c T locs cells slots) (hx : p.tables.exec = Jvm.exec) (hby : c.code = method_2_code) (hml : c.maxLocals = 1) (hret : meth.sig.returnType = some .boolean) (hlk : meth.locks = false) (hown : s.vm.findClass "com/example/wary_query/waryquery/model/QNameIsNameStartPinLaw" = some m.cls) (hZ : Z.Warmed39 s.vm) (hw : ∀ d ∈ tables_1, d.before a0 Z = true) (eT : T.heap = h0) (N : Fr n0 locs) (Z0 : n0 ≤ h0.size) (hcs : cells ≤ ({ frames := 0, cells := 0, slots := 0, locals := 0 } : Room).cells) (hss : slots ≤ ({ frames := 0, cells := 0, slots := 0, locals := 0 } : Room).slots) (p1 : Int32) {w : Int32} (hv : oF3_65 p1 = w) : oEnd p e s below T (mkF m 65 #[.val (.int p1)] []) n0 h0 cells slots (some (.int w)) := by
  show oEnd p e s below T (mkF m 65 #[.val (.int p1)] []) n0 h0 cells slots (some (.int w))
  refine oPre (fun _ => XS.iconst X.here hx rfl (hb hby d3_65)) ?_
  show oEnd p e s below T (mkF m 66 #[.val (.int p1)] [(.int (1 : Int32))]) n0 h0 cells slots (some (.int w))
  subst hv
  obtain ⟨fs, hr, hrun, hended, hW, hsame⟩ := X.leave (v := some (.int (1 : Int32))) (fun h => by rw [hret] at h; cases h) hlk
  exact ⟨_, _, retN X hx (t := .boolean) hret (by simp) (hb hby d3_66) hr, hrun, hended, hW, hsame, N, eT⟩
def oF3_51 (p1 : Int32) : Int32 := (if p1 = (215 : Int32) then (oF3_65 p1) else (if p1 = (247 : Int32) then (oF3_65 p1) else (if p1 < (768 : Int32) then (oF3_83 p1) else (if (879 : Int32) < p1 then (oF3_83 p1) else (1 : Int32)))))
set_option maxRecDepth 65536 in
set_option maxHeartbeats 4000000 in
theorem oB3_51 {p : Program} {l : Launch} {e : Env} {s : State} {m : MethodId} {args : Array Value} {below : List Frame} {meth : Method} {c : Code} {T : State} {locs : List Loc} {cells slots : Nat} {Z : State} {a0 : Array Value} {h0 : Heap} {n0 : Nat} (X : Stand p l e ({ frames := 0, cells := 0, slots := 0, locals := 0 } : Room) s m args below meth c T locs cells slots) (hx : p.tables.exec = Jvm.exec) (hby : c.code = method_2_code) (hml : c.maxLocals = 1) (hret : meth.sig.returnType = some .boolean) (hlk : meth.locks = false) (hown : s.vm.findClass "com/example/wary_query/waryquery/model/QNameIsNameStartPinLaw" = some m.cls) (hZ : Z.Warmed39 s.vm) (hw : ∀ d ∈ tables_1, d.before a0 Z = true) (eT : T.heap = h0) (N : Fr n0 locs) (Z0 : n0 ≤ h0.size) (hcs : cells ≤ ({ frames := 0, cells := 0, slots := 0, locals := 0 } : Room).cells) (hss : slots ≤ ({ frames := 0, cells := 0, slots := 0, locals := 0 } : Room).slots) (p1 : Int32) {w : Int32} (hv : oF3_51 p1 = w) : oEnd p e s below T (mkF m 51 #[.val (.int p1)] []) n0 h0 cells slots (some (.int w)) := by
  show oEnd p e s below T (mkF m 51 #[.val (.int p1)] []) n0 h0 cells slots (some (.int w))
  refine oPre (fun _ => XS.iloadN X.here hx rfl (hb hby d3_51) rfl) ?_
  show oEnd p e s below T (mkF m 52 #[.val (.int p1)] [(.int p1)]) n0 h0 cells slots (some (.int w))
  refine oPre (fun _ => XS.sipush X.here hx rfl (hb hby d3_52)) ?_
  show oEnd p e s below T (mkF m 55 #[.val (.int p1)] [(.int (215 : Int32)), (.int p1)]) n0 h0 cells slots (some (.int w))
  by_cases h55 : p1 = (215 : Int32)
  · have v55 : (oF3_65 p1) = w := (if_pos h55).symm.trans hv
    refine oPre (fun _ => XS.icmpYes X.here hx rfl (pc0 := 55) (pc' := 65) rfl (hb hby d3_55) rfl (((teq h55).1)) (by decide) (by decide)) ?_
    exact oB3_65 X hx hby hml hret hlk hown hZ hw eT N Z0 hcs hss p1 v55
  · have v55 : (if p1 = (247 : Int32) then (oF3_65 p1) else (if p1 < (768 : Int32) then (oF3_83 p1) else (if (879 : Int32) < p1 then (oF3_83 p1) else (1 : Int32)))) = w := (if_neg h55).symm.trans hv
    refine oPre (fun _ => XS.icmpNo X.here hx rfl (hb hby d3_55) rfl (((feq h55).1))) ?_
    show oEnd p e s below T (mkF m 58 #[.val (.int p1)] []) n0 h0 cells slots (some (.int w))
    refine oPre (fun _ => XS.iloadN X.here hx rfl (hb hby d3_58) rfl) ?_
    show oEnd p e s below T (mkF m 59 #[.val (.int p1)] [(.int p1)]) n0 h0 cells slots (some (.int w))
    refine oPre (fun _ => XS.sipush X.here hx rfl (hb hby d3_59)) ?_
    show oEnd p e s below T (mkF m 62 #[.val (.int p1)] [(.int (247 : Int32)), (.int p1)]) n0 h0 cells slots (some (.int w))
    by_cases h62 : p1 = (247 : Int32)
    · have v62 : (oF3_65 p1) = w := (if_pos h62).symm.trans v55
      refine oPre (fun _ => XS.icmpNo X.here hx rfl (hb hby d3_62) rfl (((teq h62).2))) ?_
      exact oB3_65 X hx hby hml hret hlk hown hZ hw eT N Z0 hcs hss p1 v62
    · have v62 : (if p1 < (768 : Int32) then (oF3_83 p1) else (if (879 : Int32) < p1 then (oF3_83 p1) else (1 : Int32))) = w := (if_neg h62).symm.trans v55
      refine oPre (fun _ => XS.icmpYes X.here hx rfl (pc0 := 62) (pc' := 67) rfl (hb hby d3_62) rfl (((feq h62).2)) (by decide) (by decide)) ?_
      show oEnd p e s below T (mkF m 67 #[.val (.int p1)] []) n0 h0 cells slots (some (.int w))
      refine oPre (fun _ => XS.iloadN X.here hx rfl (hb hby d3_67) rfl) ?_
      show oEnd p e s below T (mkF m 68 #[.val (.int p1)] [(.int p1)]) n0 h0 cells slots (some (.int w))
      refine oPre (fun _ => XS.sipush X.here hx rfl (hb hby d3_68)) ?_
      show oEnd p e s below T (mkF m 71 #[.val (.int p1)] [(.int (768 : Int32)), (.int p1)]) n0 h0 cells slots (some (.int w))
      by_cases h71 : p1 < (768 : Int32)
      · have v71 : (oF3_83 p1) = w := (if_pos h71).symm.trans v62
        refine oPre (fun _ => XS.icmpYes X.here hx rfl (pc0 := 71) (pc' := 83) rfl (hb hby d3_71) rfl (((tlt h71).1)) (by decide) (by decide)) ?_
        exact oB3_83 X hx hby hml hret hlk hown hZ hw eT N Z0 hcs hss p1 v71
      · have v71 : (if (879 : Int32) < p1 then (oF3_83 p1) else (1 : Int32)) = w := (if_neg h71).symm.trans v62
        refine oPre (fun _ => XS.icmpNo X.here hx rfl (hb hby d3_71) rfl (((flt h71).1))) ?_
        show oEnd p e s below T (mkF m 74 #[.val (.int p1)] []) n0 h0 cells slots (some (.int w))
        refine oPre (fun _ => XS.iloadN X.here hx rfl (hb hby d3_74) rfl) ?_
        show oEnd p e s below T (mkF m 75 #[.val (.int p1)] [(.int p1)]) n0 h0 cells slots (some (.int w))
        refine oPre (fun _ => XS.sipush X.here hx rfl (hb hby d3_75)) ?_
        show oEnd p e s below T (mkF m 78 #[.val (.int p1)] [(.int (879 : Int32)), (.int p1)]) n0 h0 cells slots (some (.int w))
        by_cases h78 : (879 : Int32) < p1
        · have v78 : (oF3_83 p1) = w := (if_pos h78).symm.trans v71
          refine oPre (fun _ => XS.icmpYes X.here hx rfl (pc0 := 78) (pc' := 83) rfl (hb hby d3_78) rfl (((tlt h78).2.2.1)) (by decide) (by decide)) ?_
          exact oB3_83 X hx hby hml hret hlk hown hZ hw eT N Z0 hcs hss p1 v78
        · have v78 : (1 : Int32) = w := (if_neg h78).symm.trans v71
          refine oPre (fun _ => XS.icmpNo X.here hx rfl (hb hby d3_78) rfl (((flt h78).2.2.1))) ?_
          show oEnd p e s below T (mkF m 81 #[.val (.int p1)] []) n0 h0 cells slots (some (.int w))
          refine oPre (fun _ => XS.iconst X.here hx rfl (hb hby d3_81)) ?_
          show oEnd p e s below T (mkF m 82 #[.val (.int p1)] [(.int (1 : Int32))]) n0 h0 cells slots (some (.int w))
          subst v78
          obtain ⟨fs, hr, hrun, hended, hW, hsame⟩ := X.leave (v := some (.int (1 : Int32))) (fun h => by rw [hret] at h; cases h) hlk
          exact ⟨_, _, retN X hx (t := .boolean) hret (by simp) (hb hby d3_82) hr, hrun, hended, hW, hsame, N, eT⟩
def oF3_28 (p1 : Int32) : Int32 := (if p1 = (96 : Int32) then (1 : Int32) else (if p1 < (123 : Int32) then (oF3_51 p1) else (if (191 : Int32) < p1 then (oF3_51 p1) else (1 : Int32))))
set_option maxRecDepth 65536 in
set_option maxHeartbeats 4000000 in
theorem oB3_28 {p : Program} {l : Launch} {e : Env} {s : State} {m : MethodId} {args : Array Value} {below : List Frame} {meth : Method} {c : Code} {T : State} {locs : List Loc} {cells slots : Nat} {Z : State} {a0 : Array Value} {h0 : Heap} {n0 : Nat} (X : Stand p l e ({ frames := 0, cells := 0, slots := 0, locals := 0 } : Room) s m args below meth c T locs cells slots) (hx : p.tables.exec = Jvm.exec) (hby : c.code = method_2_code) (hml : c.maxLocals = 1) (hret : meth.sig.returnType = some .boolean) (hlk : meth.locks = false) (hown : s.vm.findClass "com/example/wary_query/waryquery/model/QNameIsNameStartPinLaw" = some m.cls) (hZ : Z.Warmed39 s.vm) (hw : ∀ d ∈ tables_1, d.before a0 Z = true) (eT : T.heap = h0) (N : Fr n0 locs) (Z0 : n0 ≤ h0.size) (hcs : cells ≤ ({ frames := 0, cells := 0, slots := 0, locals := 0 } : Room).cells) (hss : slots ≤ ({ frames := 0, cells := 0, slots := 0, locals := 0 } : Room).slots) (p1 : Int32) {w : Int32} (hv : oF3_28 p1 = w) : oEnd p e s below T (mkF m 28 #[.val (.int p1)] []) n0 h0 cells slots (some (.int w)) := by
  show oEnd p e s below T (mkF m 28 #[.val (.int p1)] []) n0 h0 cells slots (some (.int w))
  refine oPre (fun _ => XS.iloadN X.here hx rfl (hb hby d3_28) rfl) ?_
  show oEnd p e s below T (mkF m 29 #[.val (.int p1)] [(.int p1)]) n0 h0 cells slots (some (.int w))
  refine oPre (fun _ => XS.bipush X.here hx rfl (hb hby d3_29)) ?_
  show oEnd p e s below T (mkF m 31 #[.val (.int p1)] [(.int (96 : Int32)), (.int p1)]) n0 h0 cells slots (some (.int w))
  by_cases h31 : p1 = (96 : Int32)
  · have v31 : (1 : Int32) = w := (if_pos h31).symm.trans hv
    refine oPre (fun _ => XS.icmpNo X.here hx rfl (hb hby d3_31) rfl (((teq h31).2))) ?_
    show oEnd p e s below T (mkF m 34 #[.val (.int p1)] []) n0 h0 cells slots (some (.int w))
    refine oPre (fun _ => XS.iconst X.here hx rfl (hb hby d3_34)) ?_
    show oEnd p e s below T (mkF m 35 #[.val (.int p1)] [(.int (1 : Int32))]) n0 h0 cells slots (some (.int w))
    subst v31
    obtain ⟨fs, hr, hrun, hended, hW, hsame⟩ := X.leave (v := some (.int (1 : Int32))) (fun h => by rw [hret] at h; cases h) hlk
    exact ⟨_, _, retN X hx (t := .boolean) hret (by simp) (hb hby d3_35) hr, hrun, hended, hW, hsame, N, eT⟩
  · have v31 : (if p1 < (123 : Int32) then (oF3_51 p1) else (if (191 : Int32) < p1 then (oF3_51 p1) else (1 : Int32))) = w := (if_neg h31).symm.trans hv
    refine oPre (fun _ => XS.icmpYes X.here hx rfl (pc0 := 31) (pc' := 36) rfl (hb hby d3_31) rfl (((feq h31).2)) (by decide) (by decide)) ?_
    show oEnd p e s below T (mkF m 36 #[.val (.int p1)] []) n0 h0 cells slots (some (.int w))
    refine oPre (fun _ => XS.iloadN X.here hx rfl (hb hby d3_36) rfl) ?_
    show oEnd p e s below T (mkF m 37 #[.val (.int p1)] [(.int p1)]) n0 h0 cells slots (some (.int w))
    refine oPre (fun _ => XS.bipush X.here hx rfl (hb hby d3_37)) ?_
    show oEnd p e s below T (mkF m 39 #[.val (.int p1)] [(.int (123 : Int32)), (.int p1)]) n0 h0 cells slots (some (.int w))
    by_cases h39 : p1 < (123 : Int32)
    · have v39 : (oF3_51 p1) = w := (if_pos h39).symm.trans v31
      refine oPre (fun _ => XS.icmpYes X.here hx rfl (pc0 := 39) (pc' := 51) rfl (hb hby d3_39) rfl (((tlt h39).1)) (by decide) (by decide)) ?_
      exact oB3_51 X hx hby hml hret hlk hown hZ hw eT N Z0 hcs hss p1 v39
    · have v39 : (if (191 : Int32) < p1 then (oF3_51 p1) else (1 : Int32)) = w := (if_neg h39).symm.trans v31
      refine oPre (fun _ => XS.icmpNo X.here hx rfl (hb hby d3_39) rfl (((flt h39).1))) ?_
      show oEnd p e s below T (mkF m 42 #[.val (.int p1)] []) n0 h0 cells slots (some (.int w))
      refine oPre (fun _ => XS.iloadN X.here hx rfl (hb hby d3_42) rfl) ?_
      show oEnd p e s below T (mkF m 43 #[.val (.int p1)] [(.int p1)]) n0 h0 cells slots (some (.int w))
      refine oPre (fun _ => XS.sipush X.here hx rfl (hb hby d3_43)) ?_
      show oEnd p e s below T (mkF m 46 #[.val (.int p1)] [(.int (191 : Int32)), (.int p1)]) n0 h0 cells slots (some (.int w))
      by_cases h46 : (191 : Int32) < p1
      · have v46 : (oF3_51 p1) = w := (if_pos h46).symm.trans v39
        refine oPre (fun _ => XS.icmpYes X.here hx rfl (pc0 := 46) (pc' := 51) rfl (hb hby d3_46) rfl (((tlt h46).2.2.1)) (by decide) (by decide)) ?_
        exact oB3_51 X hx hby hml hret hlk hown hZ hw eT N Z0 hcs hss p1 v46
      · have v46 : (1 : Int32) = w := (if_neg h46).symm.trans v39
        refine oPre (fun _ => XS.icmpNo X.here hx rfl (hb hby d3_46) rfl (((flt h46).2.2.1))) ?_
        show oEnd p e s below T (mkF m 49 #[.val (.int p1)] []) n0 h0 cells slots (some (.int w))
        refine oPre (fun _ => XS.iconst X.here hx rfl (hb hby d3_49)) ?_
        show oEnd p e s below T (mkF m 50 #[.val (.int p1)] [(.int (1 : Int32))]) n0 h0 cells slots (some (.int w))
        subst v46
        obtain ⟨fs, hr, hrun, hended, hW, hsame⟩ := X.leave (v := some (.int (1 : Int32))) (fun h => by rw [hret] at h; cases h) hlk
        exact ⟨_, _, retN X hx (t := .boolean) hret (by simp) (hb hby d3_50) hr, hrun, hended, hW, hsame, N, eT⟩
def oF3_12 (p1 : Int32) : Int32 := (1 : Int32)
set_option maxRecDepth 65536 in
set_option maxHeartbeats 4000000 in
theorem oB3_12 {p : Program} {l : Launch} {e : Env} {s : State} {m : MethodId} {args : Array Value} {below : List Frame} {meth : Method} {c : Code} {T : State} {locs : List Loc} {cells slots : Nat} {Z : State} {a0 : Array Value} {h0 : Heap} {n0 : Nat} (X : Stand p l e ({ frames := 0, cells := 0, slots := 0, locals := 0 } : Room) s m args below meth c T locs cells slots) (hx : p.tables.exec = Jvm.exec) (hby : c.code = method_2_code) (hml : c.maxLocals = 1) (hret : meth.sig.returnType = some .boolean) (hlk : meth.locks = false) (hown : s.vm.findClass "com/example/wary_query/waryquery/model/QNameIsNameStartPinLaw" = some m.cls) (hZ : Z.Warmed39 s.vm) (hw : ∀ d ∈ tables_1, d.before a0 Z = true) (eT : T.heap = h0) (N : Fr n0 locs) (Z0 : n0 ≤ h0.size) (hcs : cells ≤ ({ frames := 0, cells := 0, slots := 0, locals := 0 } : Room).cells) (hss : slots ≤ ({ frames := 0, cells := 0, slots := 0, locals := 0 } : Room).slots) (p1 : Int32) {w : Int32} (hv : oF3_12 p1 = w) : oEnd p e s below T (mkF m 12 #[.val (.int p1)] []) n0 h0 cells slots (some (.int w)) := by
  show oEnd p e s below T (mkF m 12 #[.val (.int p1)] []) n0 h0 cells slots (some (.int w))
  refine oPre (fun _ => XS.iconst X.here hx rfl (hb hby d3_12)) ?_
  show oEnd p e s below T (mkF m 13 #[.val (.int p1)] [(.int (1 : Int32))]) n0 h0 cells slots (some (.int w))
  subst hv
  obtain ⟨fs, hr, hrun, hended, hW, hsame⟩ := X.leave (v := some (.int (1 : Int32))) (fun h => by rw [hret] at h; cases h) hlk
  exact ⟨_, _, retN X hx (t := .boolean) hret (by simp) (hb hby d3_13) hr, hrun, hended, hW, hsame, N, eT⟩
def oF3_0 (p1 : Int32) : Int32 := (if p1 < (65 : Int32) then (oF3_12 p1) else (if (983039 : Int32) < p1 then (oF3_12 p1) else (if p1 < (91 : Int32) then (oF3_28 p1) else (if (94 : Int32) < p1 then (oF3_28 p1) else (1 : Int32)))))
set_option maxRecDepth 65536 in
set_option maxHeartbeats 4000000 in
theorem oB3_0 {p : Program} {l : Launch} {e : Env} {s : State} {m : MethodId} {args : Array Value} {below : List Frame} {meth : Method} {c : Code} {T : State} {locs : List Loc} {cells slots : Nat} {Z : State} {a0 : Array Value} {h0 : Heap} {n0 : Nat} (X : Stand p l e ({ frames := 0, cells := 0, slots := 0, locals := 0 } : Room) s m args below meth c T locs cells slots) (hx : p.tables.exec = Jvm.exec) (hby : c.code = method_2_code) (hml : c.maxLocals = 1) (hret : meth.sig.returnType = some .boolean) (hlk : meth.locks = false) (hown : s.vm.findClass "com/example/wary_query/waryquery/model/QNameIsNameStartPinLaw" = some m.cls) (hZ : Z.Warmed39 s.vm) (hw : ∀ d ∈ tables_1, d.before a0 Z = true) (eT : T.heap = h0) (N : Fr n0 locs) (Z0 : n0 ≤ h0.size) (hcs : cells ≤ ({ frames := 0, cells := 0, slots := 0, locals := 0 } : Room).cells) (hss : slots ≤ ({ frames := 0, cells := 0, slots := 0, locals := 0 } : Room).slots) (p1 : Int32) {w : Int32} (hv : oF3_0 p1 = w) : oEnd p e s below T (mkF m 0 #[.val (.int p1)] []) n0 h0 cells slots (some (.int w)) := by
  show oEnd p e s below T (mkF m 0 #[.val (.int p1)] []) n0 h0 cells slots (some (.int w))
  refine oPre (fun _ => XS.iloadN X.here hx rfl (hb hby d3_0) rfl) ?_
  show oEnd p e s below T (mkF m 1 #[.val (.int p1)] [(.int p1)]) n0 h0 cells slots (some (.int w))
  refine oPre (fun _ => XS.bipush X.here hx rfl (hb hby d3_1)) ?_
  show oEnd p e s below T (mkF m 3 #[.val (.int p1)] [(.int (65 : Int32)), (.int p1)]) n0 h0 cells slots (some (.int w))
  by_cases h3 : p1 < (65 : Int32)
  · have v3 : (oF3_12 p1) = w := (if_pos h3).symm.trans hv
    refine oPre (fun _ => XS.icmpYes X.here hx rfl (pc0 := 3) (pc' := 12) rfl (hb hby d3_3) rfl (((tlt h3).1)) (by decide) (by decide)) ?_
    exact oB3_12 X hx hby hml hret hlk hown hZ hw eT N Z0 hcs hss p1 v3
  · have v3 : (if (983039 : Int32) < p1 then (oF3_12 p1) else (if p1 < (91 : Int32) then (oF3_28 p1) else (if (94 : Int32) < p1 then (oF3_28 p1) else (1 : Int32)))) = w := (if_neg h3).symm.trans hv
    refine oPre (fun _ => XS.icmpNo X.here hx rfl (hb hby d3_3) rfl (((flt h3).1))) ?_
    show oEnd p e s below T (mkF m 6 #[.val (.int p1)] []) n0 h0 cells slots (some (.int w))
    refine oPre (fun _ => XS.iloadN X.here hx rfl (hb hby d3_6) rfl) ?_
    show oEnd p e s below T (mkF m 7 #[.val (.int p1)] [(.int p1)]) n0 h0 cells slots (some (.int w))
    refine oPre (fun _ => X.ldcInt hx hown (mvT hZ (hw _ (List.mem_of_getElem? (i := 15) rfl))) (g := (mkF m 7 #[.val (.int p1)] [(.int p1)])) rfl (hb hby d3_7) _) ?_
    show oEnd p e s below T (mkF m 9 #[.val (.int p1)] [(.int (983039 : Int32)), (.int p1)]) n0 h0 cells slots (some (.int w))
    by_cases h9 : (983039 : Int32) < p1
    · have v9 : (oF3_12 p1) = w := (if_pos h9).symm.trans v3
      refine oPre (fun _ => XS.icmpNo X.here hx rfl (hb hby d3_9) rfl (((tlt h9).2.2.2))) ?_
      exact oB3_12 X hx hby hml hret hlk hown hZ hw eT N Z0 hcs hss p1 v9
    · have v9 : (if p1 < (91 : Int32) then (oF3_28 p1) else (if (94 : Int32) < p1 then (oF3_28 p1) else (1 : Int32))) = w := (if_neg h9).symm.trans v3
      refine oPre (fun _ => XS.icmpYes X.here hx rfl (pc0 := 9) (pc' := 14) rfl (hb hby d3_9) rfl (((flt h9).2.2.2)) (by decide) (by decide)) ?_
      show oEnd p e s below T (mkF m 14 #[.val (.int p1)] []) n0 h0 cells slots (some (.int w))
      refine oPre (fun _ => XS.iloadN X.here hx rfl (hb hby d3_14) rfl) ?_
      show oEnd p e s below T (mkF m 15 #[.val (.int p1)] [(.int p1)]) n0 h0 cells slots (some (.int w))
      refine oPre (fun _ => XS.bipush X.here hx rfl (hb hby d3_15)) ?_
      show oEnd p e s below T (mkF m 17 #[.val (.int p1)] [(.int (91 : Int32)), (.int p1)]) n0 h0 cells slots (some (.int w))
      by_cases h17 : p1 < (91 : Int32)
      · have v17 : (oF3_28 p1) = w := (if_pos h17).symm.trans v9
        refine oPre (fun _ => XS.icmpYes X.here hx rfl (pc0 := 17) (pc' := 28) rfl (hb hby d3_17) rfl (((tlt h17).1)) (by decide) (by decide)) ?_
        exact oB3_28 X hx hby hml hret hlk hown hZ hw eT N Z0 hcs hss p1 v17
      · have v17 : (if (94 : Int32) < p1 then (oF3_28 p1) else (1 : Int32)) = w := (if_neg h17).symm.trans v9
        refine oPre (fun _ => XS.icmpNo X.here hx rfl (hb hby d3_17) rfl (((flt h17).1))) ?_
        show oEnd p e s below T (mkF m 20 #[.val (.int p1)] []) n0 h0 cells slots (some (.int w))
        refine oPre (fun _ => XS.iloadN X.here hx rfl (hb hby d3_20) rfl) ?_
        show oEnd p e s below T (mkF m 21 #[.val (.int p1)] [(.int p1)]) n0 h0 cells slots (some (.int w))
        refine oPre (fun _ => XS.bipush X.here hx rfl (hb hby d3_21)) ?_
        show oEnd p e s below T (mkF m 23 #[.val (.int p1)] [(.int (94 : Int32)), (.int p1)]) n0 h0 cells slots (some (.int w))
        by_cases h23 : (94 : Int32) < p1
        · have v23 : (oF3_28 p1) = w := (if_pos h23).symm.trans v17
          refine oPre (fun _ => XS.icmpYes X.here hx rfl (pc0 := 23) (pc' := 28) rfl (hb hby d3_23) rfl (((tlt h23).2.2.1)) (by decide) (by decide)) ?_
          exact oB3_28 X hx hby hml hret hlk hown hZ hw eT N Z0 hcs hss p1 v23
        · have v23 : (1 : Int32) = w := (if_neg h23).symm.trans v17
          refine oPre (fun _ => XS.icmpNo X.here hx rfl (hb hby d3_23) rfl (((flt h23).2.2.1))) ?_
          show oEnd p e s below T (mkF m 26 #[.val (.int p1)] []) n0 h0 cells slots (some (.int w))
          refine oPre (fun _ => XS.iconst X.here hx rfl (hb hby d3_26)) ?_
          show oEnd p e s below T (mkF m 27 #[.val (.int p1)] [(.int (1 : Int32))]) n0 h0 cells slots (some (.int w))
          subst v23
          obtain ⟨fs, hr, hrun, hended, hW, hsame⟩ := X.leave (v := some (.int (1 : Int32))) (fun h => by rw [hret] at h; cases h) hlk
          exact ⟨_, _, retN X hx (t := .boolean) hret (by simp) (hb hby d3_27) hr, hrun, hended, hW, hsame, N, eT⟩
theorem pn_3 : plainName "com/example/wary_query/waryquery/model/QNameIsNameStartPinLaw" = true := by first | (simp [plainName, overriddenIn]; done) | decide +kernel
theorem ef_3 (m : MethodId) (p1 : Int32) : entryFrame m #[(.int p1)] 1 = mkF m 0 #[.val (.int p1)] [] := by first | (simp [entryFrame, mkF, argsToLocals, Value.category]; done) | rfl
def oQ3 (p1 : Int32) (h0 : Heap) (n0 : Nat) (v : Option Value) (h : Heap) (L : List Loc) : Prop := v = some (.int (oF3_0 p1)) ∧ Fr n0 L ∧ h = h0
set_option maxRecDepth 65536 in
set_option maxHeartbeats 4000000 in
theorem oR3 (l : Launch) (Z : State) (a0 : Array Value) (hw : ∀ d ∈ tables_1, d.before a0 Z = true) (ws : List Jvm.Cond) (p1 : Int32) (h0 : Heap) (n0 : Nat) (Z0 : n0 ≤ h0.size) :
    MetFree l (⟨"com/example/wary_query/waryquery/model/QNameIsNameStartPinLaw", "excluded", "(I)Z"⟩ : MethodName) (head1 (Jvm.Cond.code (⟨"com/example/wary_query/waryquery/model/QNameIsNameStartPinLaw", "excluded", "(I)Z"⟩ : MethodName) method_2_code 1 (some .boolean) :: ws) ({ frames := 0, cells := 0, slots := 0, locals := 0 } : Room)) (fun a U => a = #[(.int p1)] ∧ Z.Warmed39 U.vm ∧ U.heap = h0) (fun _ _ _ _ _ => True) (fun _ U o U' => ∃ v L, o = .returned v ∧ oQ3 p1 h0 n0 v U'.heap L ∧ FrameEnd U o U' L ({ frames := 0, cells := 0, slots := 0, locals := 0 } : Room).cells ({ frames := 0, cells := 0, slots := 0, locals := 0 } : Room).slots) := by
  refine MetFree.of_bodySF (plainFor_of_name pn_3) hisR ?_
  intro p e s m args below meth c s₁ Bd hml0 hP hK
  obtain ⟨rfl, hZ, hh⟩ := hP
  have hown : s.vm.findClass "com/example/wary_query/waryquery/model/QNameIsNameStartPinLaw" = some m.cls := findClass_of_methodNamed Bd.named
  have X0 : Stand p l e ({ frames := 0, cells := 0, slots := 0, locals := 0 } : Room) s m #[(.int p1)] below meth c s₁ [] 0 0 := Stand.of_body Bd
  have e0 : s₁.heap = h0 := by rw [← hh, Bd.state]; rfl
  obtain ⟨t, L, hs, hrun, hended, hW, hsame, hN, ht⟩ := oB3_0 X0 Bd.exec Bd.bytes hml0 Bd.returns Bd.notSynchronized hown hZ hw e0 (Fr.nil n0) Z0 (Nat.zero_le _) (Nat.zero_le _) p1 rfl
  exact ⟨t, _, castTop (ef_3 m p1) hs, hrun, hended, _, L, rfl, ⟨rfl, hN, ht⟩, ⟨_, rfl⟩, hW, hsame.mono (Nat.zero_le _) (Nat.zero_le _)⟩
theorem d1_0 : decode method_3_code 0 = .ok (.iload_n 0, 1) := by decide +kernel
theorem d1_1 : decode method_3_code 1 = .ok (.invokestatic 14, 3) := by decide +kernel
theorem d1_4 : decode method_3_code 4 = .ok (.iload_n 0, 1) := by decide +kernel
theorem d1_5 : decode method_3_code 5 = .ok (.invokestatic 20, 3) := by decide +kernel
theorem d1_8 : decode method_3_code 8 = .ok (.ifCond .ne 7, 3) := by decide +kernel
theorem d1_11 : decode method_3_code 11 = .ok (.iconst 1, 1) := by decide +kernel
theorem d1_12 : decode method_3_code 12 = .ok (.goto 4, 3) := by decide +kernel
theorem d1_15 : decode method_3_code 15 = .ok (.iconst 0, 1) := by decide +kernel
theorem d1_16 : decode method_3_code 16 = .ok (.if_icmp .ne 7, 3) := by decide +kernel
theorem d1_19 : decode method_3_code 19 = .ok (.iconst 1, 1) := by decide +kernel
theorem d1_20 : decode method_3_code 20 = .ok (.goto 4, 3) := by decide +kernel
theorem d1_23 : decode method_3_code 23 = .ok (.iconst 0, 1) := by decide +kernel
theorem d1_24 : decode method_3_code 24 = .ok (.ireturn, 1) := by decide +kernel
theorem pd_0 : parseMethodDescriptor "(I)Z" = some ⟨[.int], some .boolean⟩ := by decide +kernel
def oF1_24 (p1 : Int32) (q1 : Int32) : Int32 := (q1 &&& 1)
set_option maxRecDepth 65536 in
set_option maxHeartbeats 4000000 in
theorem oB1_24 {p : Program} {l : Launch} {e : Env} {s : State} {m : MethodId} {args : Array Value} {below : List Frame} {meth : Method} {c : Code} {T : State} {locs : List Loc} {cells slots : Nat} {Z : State} {a0 : Array Value} {h0 : Heap} {n0 : Nat} (X : Stand p l e ({ frames := 1, cells := 0, slots := 0, locals := 13 } : Room) s m args below meth c T locs cells slots) (hx : p.tables.exec = Jvm.exec) (hby : c.code = method_3_code) (hml : c.maxLocals = 1) (hret : meth.sig.returnType = some .boolean) (hlk : meth.locks = false) (hown : s.vm.findClass "com/example/wary_query/waryquery/model/QNameIsNameStartPinLaw" = some m.cls) (hZ : Z.Warmed39 s.vm) (hw : ∀ d ∈ tables_1, d.before a0 Z = true) (eT : T.heap = h0) (N : Fr n0 locs) (Z0 : n0 ≤ h0.size) (hcs : cells ≤ ({ frames := 1, cells := 0, slots := 0, locals := 13 } : Room).cells) (hss : slots ≤ ({ frames := 1, cells := 0, slots := 0, locals := 13 } : Room).slots) (p1 : Int32) (q1 : Int32) {w : Int32} (hv : oF1_24 p1 q1 = w) : oEnd p e s below T (mkF m 24 #[.val (.int p1)] [(.int q1)]) n0 h0 cells slots (some (.int w)) := by
  show oEnd p e s below T (mkF m 24 #[.val (.int p1)] [(.int q1)]) n0 h0 cells slots (some (.int w))
  subst hv
  obtain ⟨fs, hr, hrun, hended, hW, hsame⟩ := X.leave (v := some (.int (q1 &&& 1))) (fun h => by rw [hret] at h; cases h) hlk
  exact ⟨_, _, retN X hx (t := .boolean) hret (by simp) (hb hby d1_24) hr, hrun, hended, hW, hsame, N, eT⟩
def oF1_16 (p1 : Int32) (q1 : Int32) (q2 : Int32) : Int32 := (if q2 = q1 then (oF1_24 p1 (1 : Int32)) else (oF1_24 p1 (0 : Int32)))
set_option maxRecDepth 65536 in
set_option maxHeartbeats 4000000 in
theorem oB1_16 {p : Program} {l : Launch} {e : Env} {s : State} {m : MethodId} {args : Array Value} {below : List Frame} {meth : Method} {c : Code} {T : State} {locs : List Loc} {cells slots : Nat} {Z : State} {a0 : Array Value} {h0 : Heap} {n0 : Nat} (X : Stand p l e ({ frames := 1, cells := 0, slots := 0, locals := 13 } : Room) s m args below meth c T locs cells slots) (hx : p.tables.exec = Jvm.exec) (hby : c.code = method_3_code) (hml : c.maxLocals = 1) (hret : meth.sig.returnType = some .boolean) (hlk : meth.locks = false) (hown : s.vm.findClass "com/example/wary_query/waryquery/model/QNameIsNameStartPinLaw" = some m.cls) (hZ : Z.Warmed39 s.vm) (hw : ∀ d ∈ tables_1, d.before a0 Z = true) (eT : T.heap = h0) (N : Fr n0 locs) (Z0 : n0 ≤ h0.size) (hcs : cells ≤ ({ frames := 1, cells := 0, slots := 0, locals := 13 } : Room).cells) (hss : slots ≤ ({ frames := 1, cells := 0, slots := 0, locals := 13 } : Room).slots) (p1 : Int32) (q1 : Int32) (q2 : Int32) {w : Int32} (hv : oF1_16 p1 q1 q2 = w) : oEnd p e s below T (mkF m 16 #[.val (.int p1)] [(.int q1), (.int q2)]) n0 h0 cells slots (some (.int w)) := by
  show oEnd p e s below T (mkF m 16 #[.val (.int p1)] [(.int q1), (.int q2)]) n0 h0 cells slots (some (.int w))
  by_cases h16 : q2 = q1
  · have v16 : (oF1_24 p1 (1 : Int32)) = w := (if_pos h16).symm.trans hv
    refine oPre (fun _ => XS.icmpNo X.here hx rfl (hb hby d1_16) rfl (((teq h16).2))) ?_
    show oEnd p e s below T (mkF m 19 #[.val (.int p1)] []) n0 h0 cells slots (some (.int w))
    refine oPre (fun _ => XS.iconst X.here hx rfl (hb hby d1_19)) ?_
    show oEnd p e s below T (mkF m 20 #[.val (.int p1)] [(.int (1 : Int32))]) n0 h0 cells slots (some (.int w))
    refine oPre (fun _ => XS.goto X.here hx rfl (pc0 := 20) (pc' := 24) rfl (hb hby d1_20) (by decide) (by decide)) ?_
    exact oB1_24 X hx hby hml hret hlk hown hZ hw eT N Z0 hcs hss p1 (1 : Int32) v16
  · have v16 : (oF1_24 p1 (0 : Int32)) = w := (if_neg h16).symm.trans hv
    refine oPre (fun _ => XS.icmpYes X.here hx rfl (pc0 := 16) (pc' := 23) rfl (hb hby d1_16) rfl (((feq h16).2)) (by decide) (by decide)) ?_
    show oEnd p e s below T (mkF m 23 #[.val (.int p1)] []) n0 h0 cells slots (some (.int w))
    refine oPre (fun _ => XS.iconst X.here hx rfl (hb hby d1_23)) ?_
    exact oB1_24 X hx hby hml hret hlk hown hZ hw eT N Z0 hcs hss p1 (0 : Int32) v16
def oF1_0 (p1 : Int32) : Int32 := (if (oF3_0 p1) = (0 : Int32) then (oF1_16 p1 (1 : Int32) (oF2_0 p1)) else (oF1_16 p1 (0 : Int32) (oF2_0 p1)))
set_option maxRecDepth 65536 in
set_option maxHeartbeats 4000000 in
theorem oB1_0 {p : Program} {l : Launch} {e : Env} {s : State} {m : MethodId} {args : Array Value} {below : List Frame} {meth : Method} {c : Code} {T : State} {locs : List Loc} {cells slots : Nat} {Z : State} {a0 : Array Value} {h0 : Heap} {n0 : Nat} (X : Stand p l e ({ frames := 1, cells := 0, slots := 0, locals := 13 } : Room) s m args below meth c T locs cells slots) (hx : p.tables.exec = Jvm.exec) (hby : c.code = method_3_code) (hml : c.maxLocals = 1) (hret : meth.sig.returnType = some .boolean) (hlk : meth.locks = false) (hown : s.vm.findClass "com/example/wary_query/waryquery/model/QNameIsNameStartPinLaw" = some m.cls) (hZ : Z.Warmed39 s.vm) (hw : ∀ d ∈ tables_1, d.before a0 Z = true) (eT : T.heap = h0) (N : Fr n0 locs) (Z0 : n0 ≤ h0.size) (hcs : cells ≤ ({ frames := 1, cells := 0, slots := 0, locals := 13 } : Room).cells) (hss : slots ≤ ({ frames := 1, cells := 0, slots := 0, locals := 13 } : Room).slots) (p1 : Int32) {w : Int32} (hv : oF1_0 p1 = w) : oEnd p e s below T (mkF m 0 #[.val (.int p1)] []) n0 h0 cells slots (some (.int w)) := by
  show oEnd p e s below T (mkF m 0 #[.val (.int p1)] []) n0 h0 cells slots (some (.int w))
  refine oPre (fun _ => XS.iloadN X.here hx rfl (hb hby d1_0) rfl) ?_
  show oEnd p e s below T (mkF m 1 #[.val (.int p1)] [(.int p1)]) n0 h0 cells slots (some (.int w))
  obtain ⟨_, _, ⟨T1, L1, k1, n1⟩, -, X1, ⟨Lc1, hQ1, l1, y1, z1⟩, st1⟩ := Jvm.LawKit.callS X hx (y := (⟨"com/example/wary_query/waryquery/model/QName", "isNameStart", "(I)Z"⟩ : MethodName)) hown (mvT hZ (hw _ (List.mem_of_getElem? (i := 5) rfl))) (mvT hZ (hw _ (List.mem_of_getElem? (i := 6) rfl))) (mvT hZ (hw _ (List.mem_of_getElem? (i := 7) rfl))) (mvT hZ (hw _ (List.mem_of_getElem? (i := 8) rfl))) (by decide) (backOf (W := 0) (oR2 l Z a0 hw [] p1 h0 n0 Z0) hZ (hw _ (List.mem_of_getElem? (i := 8) rfl)) (hw _ (List.mem_of_getElem? (i := 7) rfl)) (by decide) (by decide)) (g := (mkF m 1 #[.val (.int p1)] [(.int p1)])) rfl (by rw [hml]; rfl) (argsL := [(.int p1)]) (rest := []) (lenOf pd_0 rfl) rfl (by show 2 * 0 + _ ≤ _; exact Nat.le_of_eq rfl) (hb hby d1_1) (fun _ _ => ⟨rfl, eT, hcs, hss⟩)
  dsimp only [Pt.U, Pt.locs, Pt.cells, Pt.slots] at X1 l1 y1 z1 st1 hQ1
  subst l1
  rw [y1, z1] at X1
  obtain ⟨rfl, N1q, e1⟩ := hQ1
  have N1 := Fr.app N N1q
  refine oPre st1 ?_
  show oEnd p e s below T1 (mkF m 4 #[.val (.int p1)] [(.int (oF2_0 p1))]) n0 h0 cells slots (some (.int w))
  refine oPre (fun _ => XS.iloadN X1.here hx rfl (hb hby d1_4) rfl) ?_
  show oEnd p e s below T1 (mkF m 5 #[.val (.int p1)] [(.int p1), (.int (oF2_0 p1))]) n0 h0 cells slots (some (.int w))
  obtain ⟨_, _, ⟨T5, L5, k5, n5⟩, -, X5, ⟨Lc5, hQ5, l5, y5, z5⟩, st5⟩ := Jvm.LawKit.callS X1 hx (y := (⟨"com/example/wary_query/waryquery/model/QNameIsNameStartPinLaw", "excluded", "(I)Z"⟩ : MethodName)) hown (mvT hZ (hw _ (List.mem_of_getElem? (i := 12) rfl))) (mvT hZ (hw _ (List.mem_of_getElem? (i := 13) rfl))) (mvT hZ (hw _ (List.mem_of_getElem? (i := 3) rfl))) (mvT hZ (hw _ (List.mem_of_getElem? (i := 14) rfl))) (by decide) (backOf (W := 1) (oR3 l Z a0 hw [] p1 h0 n0 Z0) hZ (hw _ (List.mem_of_getElem? (i := 14) rfl)) (hw _ (List.mem_of_getElem? (i := 3) rfl)) (by decide) (by decide)) (g := (mkF m 5 #[.val (.int p1)] [(.int p1), (.int (oF2_0 p1))])) rfl (by rw [hml]; rfl) (argsL := [(.int p1)]) (rest := [(.int (oF2_0 p1))]) (lenOf pd_0 rfl) rfl (by show 2 * 0 + _ ≤ _; exact Nat.le_of_eq rfl) (hb hby d1_5) (fun _ _ => ⟨rfl, e1, hcs, hss⟩)
  dsimp only [Pt.U, Pt.locs, Pt.cells, Pt.slots] at X5 l5 y5 z5 st5 hQ5
  subst l5
  rw [y5, z5] at X5
  obtain ⟨rfl, N5q, e5⟩ := hQ5
  have N5 := Fr.app N1 N5q
  refine oPre st5 ?_
  show oEnd p e s below T5 (mkF m 8 #[.val (.int p1)] [(.int (oF3_0 p1)), (.int (oF2_0 p1))]) n0 h0 cells slots (some (.int w))
  by_cases h8 : (oF3_0 p1) = (0 : Int32)
  · have v8 : (oF1_16 p1 (1 : Int32) (oF2_0 p1)) = w := (if_pos h8).symm.trans hv
    refine oPre (fun _ => XS.ifNo X5.here hx rfl (hb hby d1_8) rfl ((if0 _ _).trans ((teq h8).2))) ?_
    show oEnd p e s below T5 (mkF m 11 #[.val (.int p1)] [(.int (oF2_0 p1))]) n0 h0 cells slots (some (.int w))
    refine oPre (fun _ => XS.iconst X5.here hx rfl (hb hby d1_11)) ?_
    show oEnd p e s below T5 (mkF m 12 #[.val (.int p1)] [(.int (1 : Int32)), (.int (oF2_0 p1))]) n0 h0 cells slots (some (.int w))
    refine oPre (fun _ => XS.goto X5.here hx rfl (pc0 := 12) (pc' := 16) rfl (hb hby d1_12) (by decide) (by decide)) ?_
    exact oB1_16 X5 hx hby hml hret hlk hown hZ hw e5 N5 Z0 hcs hss p1 (1 : Int32) (oF2_0 p1) v8
  · have v8 : (oF1_16 p1 (0 : Int32) (oF2_0 p1)) = w := (if_neg h8).symm.trans hv
    refine oPre (fun _ => XS.ifYes X5.here hx rfl (pc0 := 8) (pc' := 15) rfl (hb hby d1_8) rfl ((if0 _ _).trans ((feq h8).2)) (by decide) (by decide)) ?_
    show oEnd p e s below T5 (mkF m 15 #[.val (.int p1)] [(.int (oF2_0 p1))]) n0 h0 cells slots (some (.int w))
    refine oPre (fun _ => XS.iconst X5.here hx rfl (hb hby d1_15)) ?_
    exact oB1_16 X5 hx hby hml hret hlk hown hZ hw e5 N5 Z0 hcs hss p1 (0 : Int32) (oF2_0 p1) v8
theorem pn_1 : plainName "com/example/wary_query/waryquery/model/QNameIsNameStartPinLaw" = true := by first | (simp [plainName, overriddenIn]; done) | decide +kernel
theorem ef_1 (m : MethodId) (p1 : Int32) : entryFrame m #[(.int p1)] 1 = mkF m 0 #[.val (.int p1)] [] := by first | (simp [entryFrame, mkF, argsToLocals, Value.category]; done) | rfl
def oQ1 (p1 : Int32) (h0 : Heap) (n0 : Nat) (v : Option Value) (h : Heap) (L : List Loc) : Prop := v = some (.int (oF1_0 p1)) ∧ Fr n0 L ∧ h = h0
set_option maxRecDepth 65536 in
set_option maxHeartbeats 4000000 in
theorem oR1 (l : Launch) (Z : State) (a0 : Array Value) (hw : ∀ d ∈ tables_1, d.before a0 Z = true) (ws : List Jvm.Cond) (p1 : Int32) (h0 : Heap) (n0 : Nat) (Z0 : n0 ≤ h0.size) :
    MetFree l (⟨"com/example/wary_query/waryquery/model/QNameIsNameStartPinLaw", "agrees", "(I)Z"⟩ : MethodName) (head1 (Jvm.Cond.code (⟨"com/example/wary_query/waryquery/model/QNameIsNameStartPinLaw", "agrees", "(I)Z"⟩ : MethodName) method_3_code 1 (some .boolean) :: ws) ({ frames := 1, cells := 0, slots := 0, locals := 13 } : Room)) (fun a U => a = #[(.int p1)] ∧ Z.Warmed39 U.vm ∧ U.heap = h0) (fun _ _ _ _ _ => True) (fun _ U o U' => ∃ v L, o = .returned v ∧ oQ1 p1 h0 n0 v U'.heap L ∧ FrameEnd U o U' L ({ frames := 1, cells := 0, slots := 0, locals := 13 } : Room).cells ({ frames := 1, cells := 0, slots := 0, locals := 13 } : Room).slots) := by
  refine MetFree.of_bodySF (plainFor_of_name pn_1) hisR ?_
  intro p e s m args below meth c s₁ Bd hml0 hP hK
  obtain ⟨rfl, hZ, hh⟩ := hP
  have hown : s.vm.findClass "com/example/wary_query/waryquery/model/QNameIsNameStartPinLaw" = some m.cls := findClass_of_methodNamed Bd.named
  have X0 : Stand p l e ({ frames := 1, cells := 0, slots := 0, locals := 13 } : Room) s m #[(.int p1)] below meth c s₁ [] 0 0 := Stand.of_body Bd
  have e0 : s₁.heap = h0 := by rw [← hh, Bd.state]; rfl
  obtain ⟨t, L, hs, hrun, hended, hW, hsame, hN, ht⟩ := oB1_0 X0 Bd.exec Bd.bytes hml0 Bd.returns Bd.notSynchronized hown hZ hw e0 (Fr.nil n0) Z0 (Nat.zero_le _) (Nat.zero_le _) p1 rfl
  exact ⟨t, _, castTop (ef_1 m p1) hs, hrun, hended, _, L, rfl, ⟨rfl, hN, ht⟩, ⟨_, rfl⟩, hW, hsame.mono (Nat.zero_le _) (Nat.zero_le _)⟩
def oF0_39 (p1 : Int32) (p2 : Int32) (p3 : Int32) (p4 : Int32) (p5 : Int32) (q1 : Int32) : Int32 := (q1 &&& 1)
set_option maxRecDepth 65536 in
set_option maxHeartbeats 4000000 in
theorem oB0_39 {p : Program} {l : Launch} {e : Env} {s : State} {m : MethodId} {args : Array Value} {below : List Frame} {meth : Method} {c : Code} {T : State} {locs : List Loc} {cells slots : Nat} {Z : State} {a0 : Array Value} {h0 : Heap} {n0 : Nat} (X : Stand p l e room_1 s m args below meth c T locs cells slots) (hx : p.tables.exec = Jvm.exec) (hby : c.code = code) (hml : c.maxLocals = 5) (hret : meth.sig.returnType = some .boolean) (hlk : meth.locks = false) (hown : s.vm.findClass "com/example/wary_query/waryquery/model/QNameIsNameStartPinLaw" = some m.cls) (hZ : Z.Warmed39 s.vm) (hw : ∀ d ∈ tables_1, d.before a0 Z = true) (eT : T.heap = h0) (N : Fr n0 locs) (Z0 : n0 ≤ h0.size) (hcs : cells ≤ room_1.cells) (hss : slots ≤ room_1.slots) (p1 : Int32) (p2 : Int32) (p3 : Int32) (p4 : Int32) (p5 : Int32) (q1 : Int32) {w : Int32} (hv : oF0_39 p1 p2 p3 p4 p5 q1 = w) : oEnd p e s below T (mkF m 39 #[.val (.int p1), .val (.int p2), .val (.int p3), .val (.int p4), .val (.int p5)] [(.int q1)]) n0 h0 cells slots (some (.int w)) := by
  show oEnd p e s below T (mkF m 39 #[.val (.int p1), .val (.int p2), .val (.int p3), .val (.int p4), .val (.int p5)] [(.int q1)]) n0 h0 cells slots (some (.int w))
  subst hv
  obtain ⟨fs, hr, hrun, hended, hW, hsame⟩ := X.leave (v := some (.int (q1 &&& 1))) (fun h => by rw [hret] at h; cases h) hlk
  exact ⟨_, _, retN X hx (t := .boolean) hret (by simp) (hb hby at_39) hr, hrun, hended, hW, hsame, N, eT⟩
def oF0_38 (p1 : Int32) (p2 : Int32) (p3 : Int32) (p4 : Int32) (p5 : Int32) : Int32 := (oF0_39 p1 p2 p3 p4 p5 (0 : Int32))
set_option maxRecDepth 65536 in
set_option maxHeartbeats 4000000 in
theorem oB0_38 {p : Program} {l : Launch} {e : Env} {s : State} {m : MethodId} {args : Array Value} {below : List Frame} {meth : Method} {c : Code} {T : State} {locs : List Loc} {cells slots : Nat} {Z : State} {a0 : Array Value} {h0 : Heap} {n0 : Nat} (X : Stand p l e room_1 s m args below meth c T locs cells slots) (hx : p.tables.exec = Jvm.exec) (hby : c.code = code) (hml : c.maxLocals = 5) (hret : meth.sig.returnType = some .boolean) (hlk : meth.locks = false) (hown : s.vm.findClass "com/example/wary_query/waryquery/model/QNameIsNameStartPinLaw" = some m.cls) (hZ : Z.Warmed39 s.vm) (hw : ∀ d ∈ tables_1, d.before a0 Z = true) (eT : T.heap = h0) (N : Fr n0 locs) (Z0 : n0 ≤ h0.size) (hcs : cells ≤ room_1.cells) (hss : slots ≤ room_1.slots) (p1 : Int32) (p2 : Int32) (p3 : Int32) (p4 : Int32) (p5 : Int32) {w : Int32} (hv : oF0_38 p1 p2 p3 p4 p5 = w) : oEnd p e s below T (mkF m 38 #[.val (.int p1), .val (.int p2), .val (.int p3), .val (.int p4), .val (.int p5)] []) n0 h0 cells slots (some (.int w)) := by
  show oEnd p e s below T (mkF m 38 #[.val (.int p1), .val (.int p2), .val (.int p3), .val (.int p4), .val (.int p5)] []) n0 h0 cells slots (some (.int w))
  refine oPre (fun _ => XS.iconst X.here hx rfl (hb hby at_38)) ?_
  exact oB0_39 X hx hby hml hret hlk hown hZ hw eT N Z0 hcs hss p1 p2 p3 p4 p5 (0 : Int32) hv
def oF0_0 (p1 : Int32) (p2 : Int32) (p3 : Int32) : Int32 := (if (oF1_0 p1) = (0 : Int32) then (oF0_38 p1 p2 p3 (p2 &&& (1048575 : Int32)) (p3 &&& (16383 : Int32))) else (if (oF1_0 (p2 &&& (1048575 : Int32))) = (0 : Int32) then (oF0_38 p1 p2 p3 (p2 &&& (1048575 : Int32)) (p3 &&& (16383 : Int32))) else (if (oF1_0 (p3 &&& (16383 : Int32))) = (0 : Int32) then (oF0_38 p1 p2 p3 (p2 &&& (1048575 : Int32)) (p3 &&& (16383 : Int32))) else (oF0_39 p1 p2 p3 (p2 &&& (1048575 : Int32)) (p3 &&& (16383 : Int32)) (1 : Int32)))))
set_option maxRecDepth 65536 in
set_option maxHeartbeats 4000000 in
theorem oB0_0 {p : Program} {l : Launch} {e : Env} {s : State} {m : MethodId} {args : Array Value} {below : List Frame} {meth : Method} {c : Code} {T : State} {locs : List Loc} {cells slots : Nat} {Z : State} {a0 : Array Value} {h0 : Heap} {n0 : Nat} (X : Stand p l e room_1 s m args below meth c T locs cells slots) (hx : p.tables.exec = Jvm.exec) (hby : c.code = code) (hml : c.maxLocals = 5) (hret : meth.sig.returnType = some .boolean) (hlk : meth.locks = false) (hown : s.vm.findClass "com/example/wary_query/waryquery/model/QNameIsNameStartPinLaw" = some m.cls) (hZ : Z.Warmed39 s.vm) (hw : ∀ d ∈ tables_1, d.before a0 Z = true) (eT : T.heap = h0) (N : Fr n0 locs) (Z0 : n0 ≤ h0.size) (hcs : cells ≤ room_1.cells) (hss : slots ≤ room_1.slots) (p1 : Int32) (p2 : Int32) (p3 : Int32) {w : Int32} (hv : oF0_0 p1 p2 p3 = w) : oEnd p e s below T (mkF m 0 #[.val (.int p1), .val (.int p2), .val (.int p3), .unset, .unset] []) n0 h0 cells slots (some (.int w)) := by
  show oEnd p e s below T (mkF m 0 #[.val (.int p1), .val (.int p2), .val (.int p3), .unset, .unset] []) n0 h0 cells slots (some (.int w))
  refine oPre (fun _ => XS.iloadN X.here hx rfl (hb hby at_0) rfl) ?_
  show oEnd p e s below T (mkF m 1 #[.val (.int p1), .val (.int p2), .val (.int p3), .unset, .unset] [(.int p2)]) n0 h0 cells slots (some (.int w))
  refine oPre (fun _ => X.ldcInt hx hown (mvT hZ (hw _ (List.mem_of_getElem? (i := 0) rfl))) (g := (mkF m 1 #[.val (.int p1), .val (.int p2), .val (.int p3), .unset, .unset] [(.int p2)])) rfl (hb hby at_1) _) ?_
  show oEnd p e s below T (mkF m 3 #[.val (.int p1), .val (.int p2), .val (.int p3), .unset, .unset] [(.int (1048575 : Int32)), (.int p2)]) n0 h0 cells slots (some (.int w))
  refine oPre (fun _ => XS.iand X.here hx rfl (hb hby at_3) rfl) ?_
  show oEnd p e s below T (mkF m 4 #[.val (.int p1), .val (.int p2), .val (.int p3), .unset, .unset] [(.int (p2 &&& (1048575 : Int32)))]) n0 h0 cells slots (some (.int w))
  refine oPre (fun _ => XS.istoreN X.here hx rfl (hb hby at_4) rfl (l' := #[.val (.int p1), .val (.int p2), .val (.int p3), .val (.int (p2 &&& (1048575 : Int32))), .unset]) rfl) ?_
  show oEnd p e s below T (mkF m 5 #[.val (.int p1), .val (.int p2), .val (.int p3), .val (.int (p2 &&& (1048575 : Int32))), .unset] []) n0 h0 cells slots (some (.int w))
  refine oPre (fun _ => XS.iloadN X.here hx rfl (hb hby at_5) rfl) ?_
  show oEnd p e s below T (mkF m 6 #[.val (.int p1), .val (.int p2), .val (.int p3), .val (.int (p2 &&& (1048575 : Int32))), .unset] [(.int p3)]) n0 h0 cells slots (some (.int w))
  refine oPre (fun _ => XS.sipush X.here hx rfl (hb hby at_6)) ?_
  show oEnd p e s below T (mkF m 9 #[.val (.int p1), .val (.int p2), .val (.int p3), .val (.int (p2 &&& (1048575 : Int32))), .unset] [(.int (16383 : Int32)), (.int p3)]) n0 h0 cells slots (some (.int w))
  refine oPre (fun _ => XS.iand X.here hx rfl (hb hby at_9) rfl) ?_
  show oEnd p e s below T (mkF m 10 #[.val (.int p1), .val (.int p2), .val (.int p3), .val (.int (p2 &&& (1048575 : Int32))), .unset] [(.int (p3 &&& (16383 : Int32)))]) n0 h0 cells slots (some (.int w))
  refine oPre (fun _ => XS.istore X.here hx rfl (hb hby at_10) rfl (l' := #[.val (.int p1), .val (.int p2), .val (.int p3), .val (.int (p2 &&& (1048575 : Int32))), .val (.int (p3 &&& (16383 : Int32)))]) rfl) ?_
  show oEnd p e s below T (mkF m 12 #[.val (.int p1), .val (.int p2), .val (.int p3), .val (.int (p2 &&& (1048575 : Int32))), .val (.int (p3 &&& (16383 : Int32)))] []) n0 h0 cells slots (some (.int w))
  refine oPre (fun _ => XS.iloadN X.here hx rfl (hb hby at_12) rfl) ?_
  show oEnd p e s below T (mkF m 13 #[.val (.int p1), .val (.int p2), .val (.int p3), .val (.int (p2 &&& (1048575 : Int32))), .val (.int (p3 &&& (16383 : Int32)))] [(.int p1)]) n0 h0 cells slots (some (.int w))
  obtain ⟨_, _, ⟨T13, L13, k13, n13⟩, -, X13, ⟨Lc13, hQ13, l13, y13, z13⟩, st13⟩ := Jvm.LawKit.callS X hx (y := (⟨"com/example/wary_query/waryquery/model/QNameIsNameStartPinLaw", "agrees", "(I)Z"⟩ : MethodName)) hown (mvT hZ (hw _ (List.mem_of_getElem? (i := 1) rfl))) (mvT hZ (hw _ (List.mem_of_getElem? (i := 2) rfl))) (mvT hZ (hw _ (List.mem_of_getElem? (i := 3) rfl))) (mvT hZ (hw _ (List.mem_of_getElem? (i := 4) rfl))) (by decide) (backOf (W := 0) (oR1 l Z a0 hw [] p1 h0 n0 Z0) hZ (hw _ (List.mem_of_getElem? (i := 4) rfl)) (hw _ (List.mem_of_getElem? (i := 3) rfl)) (by decide) (by decide)) (g := (mkF m 13 #[.val (.int p1), .val (.int p2), .val (.int p3), .val (.int (p2 &&& (1048575 : Int32))), .val (.int (p3 &&& (16383 : Int32)))] [(.int p1)])) rfl (by rw [hml]; rfl) (argsL := [(.int p1)]) (rest := []) (lenOf pd_0 rfl) rfl (by show 2 * 0 + _ ≤ _; exact Nat.le_of_eq rfl) (hb hby at_13) (fun _ _ => ⟨rfl, eT, hcs, hss⟩)
  dsimp only [Pt.U, Pt.locs, Pt.cells, Pt.slots] at X13 l13 y13 z13 st13 hQ13
  subst l13
  rw [y13, z13] at X13
  obtain ⟨rfl, N13q, e13⟩ := hQ13
  have N13 := Fr.app N N13q
  refine oPre st13 ?_
  show oEnd p e s below T13 (mkF m 16 #[.val (.int p1), .val (.int p2), .val (.int p3), .val (.int (p2 &&& (1048575 : Int32))), .val (.int (p3 &&& (16383 : Int32)))] [(.int (oF1_0 p1))]) n0 h0 cells slots (some (.int w))
  by_cases h16 : (oF1_0 p1) = (0 : Int32)
  · have v16 : (oF0_38 p1 p2 p3 (p2 &&& (1048575 : Int32)) (p3 &&& (16383 : Int32))) = w := (if_pos h16).symm.trans hv
    refine oPre (fun _ => XS.ifYes X13.here hx rfl (pc0 := 16) (pc' := 38) rfl (hb hby at_16) rfl ((if0 _ _).trans ((teq h16).1)) (by decide) (by decide)) ?_
    exact oB0_38 X13 hx hby hml hret hlk hown hZ hw e13 N13 Z0 hcs hss p1 p2 p3 (p2 &&& (1048575 : Int32)) (p3 &&& (16383 : Int32)) v16
  · have v16 : (if (oF1_0 (p2 &&& (1048575 : Int32))) = (0 : Int32) then (oF0_38 p1 p2 p3 (p2 &&& (1048575 : Int32)) (p3 &&& (16383 : Int32))) else (if (oF1_0 (p3 &&& (16383 : Int32))) = (0 : Int32) then (oF0_38 p1 p2 p3 (p2 &&& (1048575 : Int32)) (p3 &&& (16383 : Int32))) else (oF0_39 p1 p2 p3 (p2 &&& (1048575 : Int32)) (p3 &&& (16383 : Int32)) (1 : Int32)))) = w := (if_neg h16).symm.trans hv
    refine oPre (fun _ => XS.ifNo X13.here hx rfl (hb hby at_16) rfl ((if0 _ _).trans ((feq h16).1))) ?_
    show oEnd p e s below T13 (mkF m 19 #[.val (.int p1), .val (.int p2), .val (.int p3), .val (.int (p2 &&& (1048575 : Int32))), .val (.int (p3 &&& (16383 : Int32)))] []) n0 h0 cells slots (some (.int w))
    refine oPre (fun _ => XS.iloadN X13.here hx rfl (hb hby at_19) rfl) ?_
    show oEnd p e s below T13 (mkF m 20 #[.val (.int p1), .val (.int p2), .val (.int p3), .val (.int (p2 &&& (1048575 : Int32))), .val (.int (p3 &&& (16383 : Int32)))] [(.int (p2 &&& (1048575 : Int32)))]) n0 h0 cells slots (some (.int w))
    obtain ⟨_, _, ⟨T20, L20, k20, n20⟩, -, X20, ⟨Lc20, hQ20, l20, y20, z20⟩, st20⟩ := Jvm.LawKit.callS X13 hx (y := (⟨"com/example/wary_query/waryquery/model/QNameIsNameStartPinLaw", "agrees", "(I)Z"⟩ : MethodName)) hown (mvT hZ (hw _ (List.mem_of_getElem? (i := 1) rfl))) (mvT hZ (hw _ (List.mem_of_getElem? (i := 2) rfl))) (mvT hZ (hw _ (List.mem_of_getElem? (i := 3) rfl))) (mvT hZ (hw _ (List.mem_of_getElem? (i := 4) rfl))) (by decide) (backOf (W := 0) (oR1 l Z a0 hw [] (p2 &&& (1048575 : Int32)) h0 n0 Z0) hZ (hw _ (List.mem_of_getElem? (i := 4) rfl)) (hw _ (List.mem_of_getElem? (i := 3) rfl)) (by decide) (by decide)) (g := (mkF m 20 #[.val (.int p1), .val (.int p2), .val (.int p3), .val (.int (p2 &&& (1048575 : Int32))), .val (.int (p3 &&& (16383 : Int32)))] [(.int (p2 &&& (1048575 : Int32)))])) rfl (by rw [hml]; rfl) (argsL := [(.int (p2 &&& (1048575 : Int32)))]) (rest := []) (lenOf pd_0 rfl) rfl (by show 2 * 0 + _ ≤ _; exact Nat.le_of_eq rfl) (hb hby at_20) (fun _ _ => ⟨rfl, e13, hcs, hss⟩)
    dsimp only [Pt.U, Pt.locs, Pt.cells, Pt.slots] at X20 l20 y20 z20 st20 hQ20
    subst l20
    rw [y20, z20] at X20
    obtain ⟨rfl, N20q, e20⟩ := hQ20
    have N20 := Fr.app N13 N20q
    refine oPre st20 ?_
    show oEnd p e s below T20 (mkF m 23 #[.val (.int p1), .val (.int p2), .val (.int p3), .val (.int (p2 &&& (1048575 : Int32))), .val (.int (p3 &&& (16383 : Int32)))] [(.int (oF1_0 (p2 &&& (1048575 : Int32))))]) n0 h0 cells slots (some (.int w))
    by_cases h23 : (oF1_0 (p2 &&& (1048575 : Int32))) = (0 : Int32)
    · have v23 : (oF0_38 p1 p2 p3 (p2 &&& (1048575 : Int32)) (p3 &&& (16383 : Int32))) = w := (if_pos h23).symm.trans v16
      refine oPre (fun _ => XS.ifYes X20.here hx rfl (pc0 := 23) (pc' := 38) rfl (hb hby at_23) rfl ((if0 _ _).trans ((teq h23).1)) (by decide) (by decide)) ?_
      exact oB0_38 X20 hx hby hml hret hlk hown hZ hw e20 N20 Z0 hcs hss p1 p2 p3 (p2 &&& (1048575 : Int32)) (p3 &&& (16383 : Int32)) v23
    · have v23 : (if (oF1_0 (p3 &&& (16383 : Int32))) = (0 : Int32) then (oF0_38 p1 p2 p3 (p2 &&& (1048575 : Int32)) (p3 &&& (16383 : Int32))) else (oF0_39 p1 p2 p3 (p2 &&& (1048575 : Int32)) (p3 &&& (16383 : Int32)) (1 : Int32))) = w := (if_neg h23).symm.trans v16
      refine oPre (fun _ => XS.ifNo X20.here hx rfl (hb hby at_23) rfl ((if0 _ _).trans ((feq h23).1))) ?_
      show oEnd p e s below T20 (mkF m 26 #[.val (.int p1), .val (.int p2), .val (.int p3), .val (.int (p2 &&& (1048575 : Int32))), .val (.int (p3 &&& (16383 : Int32)))] []) n0 h0 cells slots (some (.int w))
      refine oPre (fun _ => XS.iload X20.here hx rfl (hb hby at_26) rfl) ?_
      show oEnd p e s below T20 (mkF m 28 #[.val (.int p1), .val (.int p2), .val (.int p3), .val (.int (p2 &&& (1048575 : Int32))), .val (.int (p3 &&& (16383 : Int32)))] [(.int (p3 &&& (16383 : Int32)))]) n0 h0 cells slots (some (.int w))
      obtain ⟨_, _, ⟨T28, L28, k28, n28⟩, -, X28, ⟨Lc28, hQ28, l28, y28, z28⟩, st28⟩ := Jvm.LawKit.callS X20 hx (y := (⟨"com/example/wary_query/waryquery/model/QNameIsNameStartPinLaw", "agrees", "(I)Z"⟩ : MethodName)) hown (mvT hZ (hw _ (List.mem_of_getElem? (i := 1) rfl))) (mvT hZ (hw _ (List.mem_of_getElem? (i := 2) rfl))) (mvT hZ (hw _ (List.mem_of_getElem? (i := 3) rfl))) (mvT hZ (hw _ (List.mem_of_getElem? (i := 4) rfl))) (by decide) (backOf (W := 0) (oR1 l Z a0 hw [] (p3 &&& (16383 : Int32)) h0 n0 Z0) hZ (hw _ (List.mem_of_getElem? (i := 4) rfl)) (hw _ (List.mem_of_getElem? (i := 3) rfl)) (by decide) (by decide)) (g := (mkF m 28 #[.val (.int p1), .val (.int p2), .val (.int p3), .val (.int (p2 &&& (1048575 : Int32))), .val (.int (p3 &&& (16383 : Int32)))] [(.int (p3 &&& (16383 : Int32)))])) rfl (by rw [hml]; rfl) (argsL := [(.int (p3 &&& (16383 : Int32)))]) (rest := []) (lenOf pd_0 rfl) rfl (by show 2 * 0 + _ ≤ _; exact Nat.le_of_eq rfl) (hb hby at_28) (fun _ _ => ⟨rfl, e20, hcs, hss⟩)
      dsimp only [Pt.U, Pt.locs, Pt.cells, Pt.slots] at X28 l28 y28 z28 st28 hQ28
      subst l28
      rw [y28, z28] at X28
      obtain ⟨rfl, N28q, e28⟩ := hQ28
      have N28 := Fr.app N20 N28q
      refine oPre st28 ?_
      show oEnd p e s below T28 (mkF m 31 #[.val (.int p1), .val (.int p2), .val (.int p3), .val (.int (p2 &&& (1048575 : Int32))), .val (.int (p3 &&& (16383 : Int32)))] [(.int (oF1_0 (p3 &&& (16383 : Int32))))]) n0 h0 cells slots (some (.int w))
      by_cases h31 : (oF1_0 (p3 &&& (16383 : Int32))) = (0 : Int32)
      · have v31 : (oF0_38 p1 p2 p3 (p2 &&& (1048575 : Int32)) (p3 &&& (16383 : Int32))) = w := (if_pos h31).symm.trans v23
        refine oPre (fun _ => XS.ifYes X28.here hx rfl (pc0 := 31) (pc' := 38) rfl (hb hby at_31) rfl ((if0 _ _).trans ((teq h31).1)) (by decide) (by decide)) ?_
        exact oB0_38 X28 hx hby hml hret hlk hown hZ hw e28 N28 Z0 hcs hss p1 p2 p3 (p2 &&& (1048575 : Int32)) (p3 &&& (16383 : Int32)) v31
      · have v31 : (oF0_39 p1 p2 p3 (p2 &&& (1048575 : Int32)) (p3 &&& (16383 : Int32)) (1 : Int32)) = w := (if_neg h31).symm.trans v23
        refine oPre (fun _ => XS.ifNo X28.here hx rfl (hb hby at_31) rfl ((if0 _ _).trans ((feq h31).1))) ?_
        show oEnd p e s below T28 (mkF m 34 #[.val (.int p1), .val (.int p2), .val (.int p3), .val (.int (p2 &&& (1048575 : Int32))), .val (.int (p3 &&& (16383 : Int32)))] []) n0 h0 cells slots (some (.int w))
        refine oPre (fun _ => XS.iconst X28.here hx rfl (hb hby at_34)) ?_
        show oEnd p e s below T28 (mkF m 35 #[.val (.int p1), .val (.int p2), .val (.int p3), .val (.int (p2 &&& (1048575 : Int32))), .val (.int (p3 &&& (16383 : Int32)))] [(.int (1 : Int32))]) n0 h0 cells slots (some (.int w))
        refine oPre (fun _ => XS.goto X28.here hx rfl (pc0 := 35) (pc' := 39) rfl (hb hby at_35) (by decide) (by decide)) ?_
        exact oB0_39 X28 hx hby hml hret hlk hown hZ hw e28 N28 Z0 hcs hss p1 p2 p3 (p2 &&& (1048575 : Int32)) (p3 &&& (16383 : Int32)) (1 : Int32) v31
theorem oLt {c k : Int32} {n : Int} (hk : k.toInt = n) (h : c.toInt < n) : c < k := by rw [Int32.lt_iff_toInt_lt, hk]; exact h
theorem oNlt {c k : Int32} {n : Int} (hk : k.toInt = n) (h : n ≤ c.toInt) : ¬ c < k := by rw [Int32.lt_iff_toInt_lt, hk]; omega
theorem oGt {c k : Int32} {n : Int} (hk : k.toInt = n) (h : n < c.toInt) : k < c := by rw [Int32.lt_iff_toInt_lt, hk]; exact h
theorem oNgt {c k : Int32} {n : Int} (hk : k.toInt = n) (h : c.toInt ≤ n) : ¬ k < c := by rw [Int32.lt_iff_toInt_lt, hk]; omega
theorem oEq {c k : Int32} {n : Int} (hk : k.toInt = n) (h : c.toInt = n) : c = k := Int32.toInt_inj.mp (h.trans hk.symm)
theorem oNe {c k : Int32} {n : Int} (hk : k.toInt = n) (h : c.toInt ≠ n) : ¬ c = k := fun q => h (by rw [q, hk])
theorem oI_0 (c : Int32) (h1 : -2147483648 ≤ c.toInt) (h2 : c.toInt ≤ 64) : oF1_0 c = 1 := by
  have e_oF2_0 : oF2_0 c = 0 := by
    rw [oF2_0, if_pos (oLt (c := c) (k := (97 : Int32)) (n := 97) (by decide) (by omega)), oF2_12, if_pos (oLt (c := c) (k := (65 : Int32)) (n := 65) (by decide) (by omega)), oF2_24, if_neg (oNe (c := c) (k := (95 : Int32)) (n := 95) (by decide) (by omega)), if_pos (oLt (c := c) (k := (192 : Int32)) (n := 192) (by decide) (by omega)), oF2_44, if_pos (oLt (c := c) (k := (216 : Int32)) (n := 216) (by decide) (by omega)), oF2_58, if_pos (oLt (c := c) (k := (248 : Int32)) (n := 248) (by decide) (by omega)), oF2_72, if_pos (oLt (c := c) (k := (880 : Int32)) (n := 880) (by decide) (by omega)), oF2_86, if_pos (oLt (c := c) (k := (895 : Int32)) (n := 895) (by decide) (by omega)), oF2_100, if_pos (oLt (c := c) (k := (8204 : Int32)) (n := 8204) (by decide) (by omega)), oF2_114, if_pos (oLt (c := c) (k := (8304 : Int32)) (n := 8304) (by decide) (by omega)), oF2_128, if_pos (oLt (c := c) (k := (11264 : Int32)) (n := 11264) (by decide) (by omega)), oF2_142, if_pos (oLt (c := c) (k := (12289 : Int32)) (n := 12289) (by decide) (by omega)), oF2_155, if_pos (oLt (c := c) (k := (63744 : Int32)) (n := 63744) (by decide) (by omega)), oF2_167, if_pos (oLt (c := c) (k := (65008 : Int32)) (n := 65008) (by decide) (by omega)), oF2_179, if_pos (oLt (c := c) (k := (65536 : Int32)) (n := 65536) (by decide) (by omega)), oF2_195, oF2_196]
    try decide
  have e_oF3_0 : oF3_0 c = 1 := by
    rw [oF3_0, if_pos (oLt (c := c) (k := (65 : Int32)) (n := 65) (by decide) (by omega)), oF3_12]
    try decide
  rw [oF1_0, e_oF3_0, e_oF2_0]; rfl
theorem oI_1 (c : Int32) (h1 : 65 ≤ c.toInt) (h2 : c.toInt ≤ 90) : oF1_0 c = 1 := by
  have e_oF2_0 : oF2_0 c = 1 := by
    rw [oF2_0, if_pos (oLt (c := c) (k := (97 : Int32)) (n := 97) (by decide) (by omega)), oF2_12, if_neg (oNlt (c := c) (k := (65 : Int32)) (n := 65) (by decide) (by omega)), if_neg (oNgt (c := c) (k := (90 : Int32)) (n := 90) (by decide) (by omega)), oF2_191, oF2_196]
    try decide
  have e_oF3_0 : oF3_0 c = 0 := by
    rw [oF3_0, if_neg (oNlt (c := c) (k := (65 : Int32)) (n := 65) (by decide) (by omega)), if_neg (oNgt (c := c) (k := (983039 : Int32)) (n := 983039) (by decide) (by omega)), if_pos (oLt (c := c) (k := (91 : Int32)) (n := 91) (by decide) (by omega)), oF3_28, if_neg (oNe (c := c) (k := (96 : Int32)) (n := 96) (by decide) (by omega)), if_pos (oLt (c := c) (k := (123 : Int32)) (n := 123) (by decide) (by omega)), oF3_51, if_neg (oNe (c := c) (k := (215 : Int32)) (n := 215) (by decide) (by omega)), if_neg (oNe (c := c) (k := (247 : Int32)) (n := 247) (by decide) (by omega)), if_pos (oLt (c := c) (k := (768 : Int32)) (n := 768) (by decide) (by omega)), oF3_83, if_neg (oNe (c := c) (k := (894 : Int32)) (n := 894) (by decide) (by omega)), if_pos (oLt (c := c) (k := (8192 : Int32)) (n := 8192) (by decide) (by omega)), oF3_108, if_pos (oLt (c := c) (k := (8206 : Int32)) (n := 8206) (by decide) (by omega)), oF3_124, if_pos (oLt (c := c) (k := (8592 : Int32)) (n := 8592) (by decide) (by omega)), oF3_140, if_pos (oLt (c := c) (k := (12272 : Int32)) (n := 12272) (by decide) (by omega)), oF3_156, if_pos (oLt (c := c) (k := (55296 : Int32)) (n := 55296) (by decide) (by omega)), oF3_170, if_pos (oLt (c := c) (k := (64976 : Int32)) (n := 64976) (by decide) (by omega)), oF3_184, if_pos (oLt (c := c) (k := (65534 : Int32)) (n := 65534) (by decide) (by omega)), oF3_198]
    try decide
  rw [oF1_0, e_oF3_0, e_oF2_0]; rfl
theorem oI_2 (c : Int32) (h1 : 91 ≤ c.toInt) (h2 : c.toInt ≤ 94) : oF1_0 c = 1 := by
  have e_oF2_0 : oF2_0 c = 0 := by
    rw [oF2_0, if_pos (oLt (c := c) (k := (97 : Int32)) (n := 97) (by decide) (by omega)), oF2_12, if_neg (oNlt (c := c) (k := (65 : Int32)) (n := 65) (by decide) (by omega)), if_pos (oGt (c := c) (k := (90 : Int32)) (n := 90) (by decide) (by omega)), oF2_24, if_neg (oNe (c := c) (k := (95 : Int32)) (n := 95) (by decide) (by omega)), if_pos (oLt (c := c) (k := (192 : Int32)) (n := 192) (by decide) (by omega)), oF2_44, if_pos (oLt (c := c) (k := (216 : Int32)) (n := 216) (by decide) (by omega)), oF2_58, if_pos (oLt (c := c) (k := (248 : Int32)) (n := 248) (by decide) (by omega)), oF2_72, if_pos (oLt (c := c) (k := (880 : Int32)) (n := 880) (by decide) (by omega)), oF2_86, if_pos (oLt (c := c) (k := (895 : Int32)) (n := 895) (by decide) (by omega)), oF2_100, if_pos (oLt (c := c) (k := (8204 : Int32)) (n := 8204) (by decide) (by omega)), oF2_114, if_pos (oLt (c := c) (k := (8304 : Int32)) (n := 8304) (by decide) (by omega)), oF2_128, if_pos (oLt (c := c) (k := (11264 : Int32)) (n := 11264) (by decide) (by omega)), oF2_142, if_pos (oLt (c := c) (k := (12289 : Int32)) (n := 12289) (by decide) (by omega)), oF2_155, if_pos (oLt (c := c) (k := (63744 : Int32)) (n := 63744) (by decide) (by omega)), oF2_167, if_pos (oLt (c := c) (k := (65008 : Int32)) (n := 65008) (by decide) (by omega)), oF2_179, if_pos (oLt (c := c) (k := (65536 : Int32)) (n := 65536) (by decide) (by omega)), oF2_195, oF2_196]
    try decide
  have e_oF3_0 : oF3_0 c = 1 := by
    rw [oF3_0, if_neg (oNlt (c := c) (k := (65 : Int32)) (n := 65) (by decide) (by omega)), if_neg (oNgt (c := c) (k := (983039 : Int32)) (n := 983039) (by decide) (by omega)), if_neg (oNlt (c := c) (k := (91 : Int32)) (n := 91) (by decide) (by omega)), if_neg (oNgt (c := c) (k := (94 : Int32)) (n := 94) (by decide) (by omega))]
    try decide
  rw [oF1_0, e_oF3_0, e_oF2_0]; rfl
theorem oI_3 (c : Int32) (h1 : 95 ≤ c.toInt) (h2 : c.toInt ≤ 95) : oF1_0 c = 1 := by
  have e_oF2_0 : oF2_0 c = 1 := by
    rw [oF2_0, if_pos (oLt (c := c) (k := (97 : Int32)) (n := 97) (by decide) (by omega)), oF2_12, if_neg (oNlt (c := c) (k := (65 : Int32)) (n := 65) (by decide) (by omega)), if_pos (oGt (c := c) (k := (90 : Int32)) (n := 90) (by decide) (by omega)), oF2_24, if_pos (oEq (c := c) (k := (95 : Int32)) (n := 95) (by decide) (by omega)), oF2_191, oF2_196]
    try decide
  have e_oF3_0 : oF3_0 c = 0 := by
    rw [oF3_0, if_neg (oNlt (c := c) (k := (65 : Int32)) (n := 65) (by decide) (by omega)), if_neg (oNgt (c := c) (k := (983039 : Int32)) (n := 983039) (by decide) (by omega)), if_neg (oNlt (c := c) (k := (91 : Int32)) (n := 91) (by decide) (by omega)), if_pos (oGt (c := c) (k := (94 : Int32)) (n := 94) (by decide) (by omega)), oF3_28, if_neg (oNe (c := c) (k := (96 : Int32)) (n := 96) (by decide) (by omega)), if_pos (oLt (c := c) (k := (123 : Int32)) (n := 123) (by decide) (by omega)), oF3_51, if_neg (oNe (c := c) (k := (215 : Int32)) (n := 215) (by decide) (by omega)), if_neg (oNe (c := c) (k := (247 : Int32)) (n := 247) (by decide) (by omega)), if_pos (oLt (c := c) (k := (768 : Int32)) (n := 768) (by decide) (by omega)), oF3_83, if_neg (oNe (c := c) (k := (894 : Int32)) (n := 894) (by decide) (by omega)), if_pos (oLt (c := c) (k := (8192 : Int32)) (n := 8192) (by decide) (by omega)), oF3_108, if_pos (oLt (c := c) (k := (8206 : Int32)) (n := 8206) (by decide) (by omega)), oF3_124, if_pos (oLt (c := c) (k := (8592 : Int32)) (n := 8592) (by decide) (by omega)), oF3_140, if_pos (oLt (c := c) (k := (12272 : Int32)) (n := 12272) (by decide) (by omega)), oF3_156, if_pos (oLt (c := c) (k := (55296 : Int32)) (n := 55296) (by decide) (by omega)), oF3_170, if_pos (oLt (c := c) (k := (64976 : Int32)) (n := 64976) (by decide) (by omega)), oF3_184, if_pos (oLt (c := c) (k := (65534 : Int32)) (n := 65534) (by decide) (by omega)), oF3_198]
    try decide
  rw [oF1_0, e_oF3_0, e_oF2_0]; rfl
theorem oI_4 (c : Int32) (h1 : 96 ≤ c.toInt) (h2 : c.toInt ≤ 96) : oF1_0 c = 1 := by
  have e_oF2_0 : oF2_0 c = 0 := by
    rw [oF2_0, if_pos (oLt (c := c) (k := (97 : Int32)) (n := 97) (by decide) (by omega)), oF2_12, if_neg (oNlt (c := c) (k := (65 : Int32)) (n := 65) (by decide) (by omega)), if_pos (oGt (c := c) (k := (90 : Int32)) (n := 90) (by decide) (by omega)), oF2_24, if_neg (oNe (c := c) (k := (95 : Int32)) (n := 95) (by decide) (by omega)), if_pos (oLt (c := c) (k := (192 : Int32)) (n := 192) (by decide) (by omega)), oF2_44, if_pos (oLt (c := c) (k := (216 : Int32)) (n := 216) (by decide) (by omega)), oF2_58, if_pos (oLt (c := c) (k := (248 : Int32)) (n := 248) (by decide) (by omega)), oF2_72, if_pos (oLt (c := c) (k := (880 : Int32)) (n := 880) (by decide) (by omega)), oF2_86, if_pos (oLt (c := c) (k := (895 : Int32)) (n := 895) (by decide) (by omega)), oF2_100, if_pos (oLt (c := c) (k := (8204 : Int32)) (n := 8204) (by decide) (by omega)), oF2_114, if_pos (oLt (c := c) (k := (8304 : Int32)) (n := 8304) (by decide) (by omega)), oF2_128, if_pos (oLt (c := c) (k := (11264 : Int32)) (n := 11264) (by decide) (by omega)), oF2_142, if_pos (oLt (c := c) (k := (12289 : Int32)) (n := 12289) (by decide) (by omega)), oF2_155, if_pos (oLt (c := c) (k := (63744 : Int32)) (n := 63744) (by decide) (by omega)), oF2_167, if_pos (oLt (c := c) (k := (65008 : Int32)) (n := 65008) (by decide) (by omega)), oF2_179, if_pos (oLt (c := c) (k := (65536 : Int32)) (n := 65536) (by decide) (by omega)), oF2_195, oF2_196]
    try decide
  have e_oF3_0 : oF3_0 c = 1 := by
    rw [oF3_0, if_neg (oNlt (c := c) (k := (65 : Int32)) (n := 65) (by decide) (by omega)), if_neg (oNgt (c := c) (k := (983039 : Int32)) (n := 983039) (by decide) (by omega)), if_neg (oNlt (c := c) (k := (91 : Int32)) (n := 91) (by decide) (by omega)), if_pos (oGt (c := c) (k := (94 : Int32)) (n := 94) (by decide) (by omega)), oF3_28, if_pos (oEq (c := c) (k := (96 : Int32)) (n := 96) (by decide) (by omega))]
    try decide
  rw [oF1_0, e_oF3_0, e_oF2_0]; rfl
theorem oI_5 (c : Int32) (h1 : 97 ≤ c.toInt) (h2 : c.toInt ≤ 122) : oF1_0 c = 1 := by
  have e_oF2_0 : oF2_0 c = 1 := by
    rw [oF2_0, if_neg (oNlt (c := c) (k := (97 : Int32)) (n := 97) (by decide) (by omega)), if_neg (oNgt (c := c) (k := (122 : Int32)) (n := 122) (by decide) (by omega)), oF2_191, oF2_196]
    try decide
  have e_oF3_0 : oF3_0 c = 0 := by
    rw [oF3_0, if_neg (oNlt (c := c) (k := (65 : Int32)) (n := 65) (by decide) (by omega)), if_neg (oNgt (c := c) (k := (983039 : Int32)) (n := 983039) (by decide) (by omega)), if_neg (oNlt (c := c) (k := (91 : Int32)) (n := 91) (by decide) (by omega)), if_pos (oGt (c := c) (k := (94 : Int32)) (n := 94) (by decide) (by omega)), oF3_28, if_neg (oNe (c := c) (k := (96 : Int32)) (n := 96) (by decide) (by omega)), if_pos (oLt (c := c) (k := (123 : Int32)) (n := 123) (by decide) (by omega)), oF3_51, if_neg (oNe (c := c) (k := (215 : Int32)) (n := 215) (by decide) (by omega)), if_neg (oNe (c := c) (k := (247 : Int32)) (n := 247) (by decide) (by omega)), if_pos (oLt (c := c) (k := (768 : Int32)) (n := 768) (by decide) (by omega)), oF3_83, if_neg (oNe (c := c) (k := (894 : Int32)) (n := 894) (by decide) (by omega)), if_pos (oLt (c := c) (k := (8192 : Int32)) (n := 8192) (by decide) (by omega)), oF3_108, if_pos (oLt (c := c) (k := (8206 : Int32)) (n := 8206) (by decide) (by omega)), oF3_124, if_pos (oLt (c := c) (k := (8592 : Int32)) (n := 8592) (by decide) (by omega)), oF3_140, if_pos (oLt (c := c) (k := (12272 : Int32)) (n := 12272) (by decide) (by omega)), oF3_156, if_pos (oLt (c := c) (k := (55296 : Int32)) (n := 55296) (by decide) (by omega)), oF3_170, if_pos (oLt (c := c) (k := (64976 : Int32)) (n := 64976) (by decide) (by omega)), oF3_184, if_pos (oLt (c := c) (k := (65534 : Int32)) (n := 65534) (by decide) (by omega)), oF3_198]
    try decide
  rw [oF1_0, e_oF3_0, e_oF2_0]; rfl
theorem oI_6 (c : Int32) (h1 : 123 ≤ c.toInt) (h2 : c.toInt ≤ 191) : oF1_0 c = 1 := by
  have e_oF2_0 : oF2_0 c = 0 := by
    rw [oF2_0, if_neg (oNlt (c := c) (k := (97 : Int32)) (n := 97) (by decide) (by omega)), if_pos (oGt (c := c) (k := (122 : Int32)) (n := 122) (by decide) (by omega)), oF2_12, if_neg (oNlt (c := c) (k := (65 : Int32)) (n := 65) (by decide) (by omega)), if_pos (oGt (c := c) (k := (90 : Int32)) (n := 90) (by decide) (by omega)), oF2_24, if_neg (oNe (c := c) (k := (95 : Int32)) (n := 95) (by decide) (by omega)), if_pos (oLt (c := c) (k := (192 : Int32)) (n := 192) (by decide) (by omega)), oF2_44, if_pos (oLt (c := c) (k := (216 : Int32)) (n := 216) (by decide) (by omega)), oF2_58, if_pos (oLt (c := c) (k := (248 : Int32)) (n := 248) (by decide) (by omega)), oF2_72, if_pos (oLt (c := c) (k := (880 : Int32)) (n := 880) (by decide) (by omega)), oF2_86, if_pos (oLt (c := c) (k := (895 : Int32)) (n := 895) (by decide) (by omega)), oF2_100, if_pos (oLt (c := c) (k := (8204 : Int32)) (n := 8204) (by decide) (by omega)), oF2_114, if_pos (oLt (c := c) (k := (8304 : Int32)) (n := 8304) (by decide) (by omega)), oF2_128, if_pos (oLt (c := c) (k := (11264 : Int32)) (n := 11264) (by decide) (by omega)), oF2_142, if_pos (oLt (c := c) (k := (12289 : Int32)) (n := 12289) (by decide) (by omega)), oF2_155, if_pos (oLt (c := c) (k := (63744 : Int32)) (n := 63744) (by decide) (by omega)), oF2_167, if_pos (oLt (c := c) (k := (65008 : Int32)) (n := 65008) (by decide) (by omega)), oF2_179, if_pos (oLt (c := c) (k := (65536 : Int32)) (n := 65536) (by decide) (by omega)), oF2_195, oF2_196]
    try decide
  have e_oF3_0 : oF3_0 c = 1 := by
    rw [oF3_0, if_neg (oNlt (c := c) (k := (65 : Int32)) (n := 65) (by decide) (by omega)), if_neg (oNgt (c := c) (k := (983039 : Int32)) (n := 983039) (by decide) (by omega)), if_neg (oNlt (c := c) (k := (91 : Int32)) (n := 91) (by decide) (by omega)), if_pos (oGt (c := c) (k := (94 : Int32)) (n := 94) (by decide) (by omega)), oF3_28, if_neg (oNe (c := c) (k := (96 : Int32)) (n := 96) (by decide) (by omega)), if_neg (oNlt (c := c) (k := (123 : Int32)) (n := 123) (by decide) (by omega)), if_neg (oNgt (c := c) (k := (191 : Int32)) (n := 191) (by decide) (by omega))]
    try decide
  rw [oF1_0, e_oF3_0, e_oF2_0]; rfl
theorem oI_7 (c : Int32) (h1 : 192 ≤ c.toInt) (h2 : c.toInt ≤ 214) : oF1_0 c = 1 := by
  have e_oF2_0 : oF2_0 c = 1 := by
    rw [oF2_0, if_neg (oNlt (c := c) (k := (97 : Int32)) (n := 97) (by decide) (by omega)), if_pos (oGt (c := c) (k := (122 : Int32)) (n := 122) (by decide) (by omega)), oF2_12, if_neg (oNlt (c := c) (k := (65 : Int32)) (n := 65) (by decide) (by omega)), if_pos (oGt (c := c) (k := (90 : Int32)) (n := 90) (by decide) (by omega)), oF2_24, if_neg (oNe (c := c) (k := (95 : Int32)) (n := 95) (by decide) (by omega)), if_neg (oNlt (c := c) (k := (192 : Int32)) (n := 192) (by decide) (by omega)), if_neg (oNgt (c := c) (k := (214 : Int32)) (n := 214) (by decide) (by omega)), oF2_191, oF2_196]
    try decide
  have e_oF3_0 : oF3_0 c = 0 := by
    rw [oF3_0, if_neg (oNlt (c := c) (k := (65 : Int32)) (n := 65) (by decide) (by omega)), if_neg (oNgt (c := c) (k := (983039 : Int32)) (n := 983039) (by decide) (by omega)), if_neg (oNlt (c := c) (k := (91 : Int32)) (n := 91) (by decide) (by omega)), if_pos (oGt (c := c) (k := (94 : Int32)) (n := 94) (by decide) (by omega)), oF3_28, if_neg (oNe (c := c) (k := (96 : Int32)) (n := 96) (by decide) (by omega)), if_neg (oNlt (c := c) (k := (123 : Int32)) (n := 123) (by decide) (by omega)), if_pos (oGt (c := c) (k := (191 : Int32)) (n := 191) (by decide) (by omega)), oF3_51, if_neg (oNe (c := c) (k := (215 : Int32)) (n := 215) (by decide) (by omega)), if_neg (oNe (c := c) (k := (247 : Int32)) (n := 247) (by decide) (by omega)), if_pos (oLt (c := c) (k := (768 : Int32)) (n := 768) (by decide) (by omega)), oF3_83, if_neg (oNe (c := c) (k := (894 : Int32)) (n := 894) (by decide) (by omega)), if_pos (oLt (c := c) (k := (8192 : Int32)) (n := 8192) (by decide) (by omega)), oF3_108, if_pos (oLt (c := c) (k := (8206 : Int32)) (n := 8206) (by decide) (by omega)), oF3_124, if_pos (oLt (c := c) (k := (8592 : Int32)) (n := 8592) (by decide) (by omega)), oF3_140, if_pos (oLt (c := c) (k := (12272 : Int32)) (n := 12272) (by decide) (by omega)), oF3_156, if_pos (oLt (c := c) (k := (55296 : Int32)) (n := 55296) (by decide) (by omega)), oF3_170, if_pos (oLt (c := c) (k := (64976 : Int32)) (n := 64976) (by decide) (by omega)), oF3_184, if_pos (oLt (c := c) (k := (65534 : Int32)) (n := 65534) (by decide) (by omega)), oF3_198]
    try decide
  rw [oF1_0, e_oF3_0, e_oF2_0]; rfl
theorem oI_8 (c : Int32) (h1 : 215 ≤ c.toInt) (h2 : c.toInt ≤ 215) : oF1_0 c = 1 := by
  have e_oF2_0 : oF2_0 c = 0 := by
    rw [oF2_0, if_neg (oNlt (c := c) (k := (97 : Int32)) (n := 97) (by decide) (by omega)), if_pos (oGt (c := c) (k := (122 : Int32)) (n := 122) (by decide) (by omega)), oF2_12, if_neg (oNlt (c := c) (k := (65 : Int32)) (n := 65) (by decide) (by omega)), if_pos (oGt (c := c) (k := (90 : Int32)) (n := 90) (by decide) (by omega)), oF2_24, if_neg (oNe (c := c) (k := (95 : Int32)) (n := 95) (by decide) (by omega)), if_neg (oNlt (c := c) (k := (192 : Int32)) (n := 192) (by decide) (by omega)), if_pos (oGt (c := c) (k := (214 : Int32)) (n := 214) (by decide) (by omega)), oF2_44, if_pos (oLt (c := c) (k := (216 : Int32)) (n := 216) (by decide) (by omega)), oF2_58, if_pos (oLt (c := c) (k := (248 : Int32)) (n := 248) (by decide) (by omega)), oF2_72, if_pos (oLt (c := c) (k := (880 : Int32)) (n := 880) (by decide) (by omega)), oF2_86, if_pos (oLt (c := c) (k := (895 : Int32)) (n := 895) (by decide) (by omega)), oF2_100, if_pos (oLt (c := c) (k := (8204 : Int32)) (n := 8204) (by decide) (by omega)), oF2_114, if_pos (oLt (c := c) (k := (8304 : Int32)) (n := 8304) (by decide) (by omega)), oF2_128, if_pos (oLt (c := c) (k := (11264 : Int32)) (n := 11264) (by decide) (by omega)), oF2_142, if_pos (oLt (c := c) (k := (12289 : Int32)) (n := 12289) (by decide) (by omega)), oF2_155, if_pos (oLt (c := c) (k := (63744 : Int32)) (n := 63744) (by decide) (by omega)), oF2_167, if_pos (oLt (c := c) (k := (65008 : Int32)) (n := 65008) (by decide) (by omega)), oF2_179, if_pos (oLt (c := c) (k := (65536 : Int32)) (n := 65536) (by decide) (by omega)), oF2_195, oF2_196]
    try decide
  have e_oF3_0 : oF3_0 c = 1 := by
    rw [oF3_0, if_neg (oNlt (c := c) (k := (65 : Int32)) (n := 65) (by decide) (by omega)), if_neg (oNgt (c := c) (k := (983039 : Int32)) (n := 983039) (by decide) (by omega)), if_neg (oNlt (c := c) (k := (91 : Int32)) (n := 91) (by decide) (by omega)), if_pos (oGt (c := c) (k := (94 : Int32)) (n := 94) (by decide) (by omega)), oF3_28, if_neg (oNe (c := c) (k := (96 : Int32)) (n := 96) (by decide) (by omega)), if_neg (oNlt (c := c) (k := (123 : Int32)) (n := 123) (by decide) (by omega)), if_pos (oGt (c := c) (k := (191 : Int32)) (n := 191) (by decide) (by omega)), oF3_51, if_pos (oEq (c := c) (k := (215 : Int32)) (n := 215) (by decide) (by omega)), oF3_65]
    try decide
  rw [oF1_0, e_oF3_0, e_oF2_0]; rfl
theorem oI_9 (c : Int32) (h1 : 216 ≤ c.toInt) (h2 : c.toInt ≤ 246) : oF1_0 c = 1 := by
  have e_oF2_0 : oF2_0 c = 1 := by
    rw [oF2_0, if_neg (oNlt (c := c) (k := (97 : Int32)) (n := 97) (by decide) (by omega)), if_pos (oGt (c := c) (k := (122 : Int32)) (n := 122) (by decide) (by omega)), oF2_12, if_neg (oNlt (c := c) (k := (65 : Int32)) (n := 65) (by decide) (by omega)), if_pos (oGt (c := c) (k := (90 : Int32)) (n := 90) (by decide) (by omega)), oF2_24, if_neg (oNe (c := c) (k := (95 : Int32)) (n := 95) (by decide) (by omega)), if_neg (oNlt (c := c) (k := (192 : Int32)) (n := 192) (by decide) (by omega)), if_pos (oGt (c := c) (k := (214 : Int32)) (n := 214) (by decide) (by omega)), oF2_44, if_neg (oNlt (c := c) (k := (216 : Int32)) (n := 216) (by decide) (by omega)), if_neg (oNgt (c := c) (k := (246 : Int32)) (n := 246) (by decide) (by omega)), oF2_191, oF2_196]
    try decide
  have e_oF3_0 : oF3_0 c = 0 := by
    rw [oF3_0, if_neg (oNlt (c := c) (k := (65 : Int32)) (n := 65) (by decide) (by omega)), if_neg (oNgt (c := c) (k := (983039 : Int32)) (n := 983039) (by decide) (by omega)), if_neg (oNlt (c := c) (k := (91 : Int32)) (n := 91) (by decide) (by omega)), if_pos (oGt (c := c) (k := (94 : Int32)) (n := 94) (by decide) (by omega)), oF3_28, if_neg (oNe (c := c) (k := (96 : Int32)) (n := 96) (by decide) (by omega)), if_neg (oNlt (c := c) (k := (123 : Int32)) (n := 123) (by decide) (by omega)), if_pos (oGt (c := c) (k := (191 : Int32)) (n := 191) (by decide) (by omega)), oF3_51, if_neg (oNe (c := c) (k := (215 : Int32)) (n := 215) (by decide) (by omega)), if_neg (oNe (c := c) (k := (247 : Int32)) (n := 247) (by decide) (by omega)), if_pos (oLt (c := c) (k := (768 : Int32)) (n := 768) (by decide) (by omega)), oF3_83, if_neg (oNe (c := c) (k := (894 : Int32)) (n := 894) (by decide) (by omega)), if_pos (oLt (c := c) (k := (8192 : Int32)) (n := 8192) (by decide) (by omega)), oF3_108, if_pos (oLt (c := c) (k := (8206 : Int32)) (n := 8206) (by decide) (by omega)), oF3_124, if_pos (oLt (c := c) (k := (8592 : Int32)) (n := 8592) (by decide) (by omega)), oF3_140, if_pos (oLt (c := c) (k := (12272 : Int32)) (n := 12272) (by decide) (by omega)), oF3_156, if_pos (oLt (c := c) (k := (55296 : Int32)) (n := 55296) (by decide) (by omega)), oF3_170, if_pos (oLt (c := c) (k := (64976 : Int32)) (n := 64976) (by decide) (by omega)), oF3_184, if_pos (oLt (c := c) (k := (65534 : Int32)) (n := 65534) (by decide) (by omega)), oF3_198]
    try decide
  rw [oF1_0, e_oF3_0, e_oF2_0]; rfl
theorem oI_10 (c : Int32) (h1 : 247 ≤ c.toInt) (h2 : c.toInt ≤ 247) : oF1_0 c = 1 := by
  have e_oF2_0 : oF2_0 c = 0 := by
    rw [oF2_0, if_neg (oNlt (c := c) (k := (97 : Int32)) (n := 97) (by decide) (by omega)), if_pos (oGt (c := c) (k := (122 : Int32)) (n := 122) (by decide) (by omega)), oF2_12, if_neg (oNlt (c := c) (k := (65 : Int32)) (n := 65) (by decide) (by omega)), if_pos (oGt (c := c) (k := (90 : Int32)) (n := 90) (by decide) (by omega)), oF2_24, if_neg (oNe (c := c) (k := (95 : Int32)) (n := 95) (by decide) (by omega)), if_neg (oNlt (c := c) (k := (192 : Int32)) (n := 192) (by decide) (by omega)), if_pos (oGt (c := c) (k := (214 : Int32)) (n := 214) (by decide) (by omega)), oF2_44, if_neg (oNlt (c := c) (k := (216 : Int32)) (n := 216) (by decide) (by omega)), if_pos (oGt (c := c) (k := (246 : Int32)) (n := 246) (by decide) (by omega)), oF2_58, if_pos (oLt (c := c) (k := (248 : Int32)) (n := 248) (by decide) (by omega)), oF2_72, if_pos (oLt (c := c) (k := (880 : Int32)) (n := 880) (by decide) (by omega)), oF2_86, if_pos (oLt (c := c) (k := (895 : Int32)) (n := 895) (by decide) (by omega)), oF2_100, if_pos (oLt (c := c) (k := (8204 : Int32)) (n := 8204) (by decide) (by omega)), oF2_114, if_pos (oLt (c := c) (k := (8304 : Int32)) (n := 8304) (by decide) (by omega)), oF2_128, if_pos (oLt (c := c) (k := (11264 : Int32)) (n := 11264) (by decide) (by omega)), oF2_142, if_pos (oLt (c := c) (k := (12289 : Int32)) (n := 12289) (by decide) (by omega)), oF2_155, if_pos (oLt (c := c) (k := (63744 : Int32)) (n := 63744) (by decide) (by omega)), oF2_167, if_pos (oLt (c := c) (k := (65008 : Int32)) (n := 65008) (by decide) (by omega)), oF2_179, if_pos (oLt (c := c) (k := (65536 : Int32)) (n := 65536) (by decide) (by omega)), oF2_195, oF2_196]
    try decide
  have e_oF3_0 : oF3_0 c = 1 := by
    rw [oF3_0, if_neg (oNlt (c := c) (k := (65 : Int32)) (n := 65) (by decide) (by omega)), if_neg (oNgt (c := c) (k := (983039 : Int32)) (n := 983039) (by decide) (by omega)), if_neg (oNlt (c := c) (k := (91 : Int32)) (n := 91) (by decide) (by omega)), if_pos (oGt (c := c) (k := (94 : Int32)) (n := 94) (by decide) (by omega)), oF3_28, if_neg (oNe (c := c) (k := (96 : Int32)) (n := 96) (by decide) (by omega)), if_neg (oNlt (c := c) (k := (123 : Int32)) (n := 123) (by decide) (by omega)), if_pos (oGt (c := c) (k := (191 : Int32)) (n := 191) (by decide) (by omega)), oF3_51, if_neg (oNe (c := c) (k := (215 : Int32)) (n := 215) (by decide) (by omega)), if_pos (oEq (c := c) (k := (247 : Int32)) (n := 247) (by decide) (by omega)), oF3_65]
    try decide
  rw [oF1_0, e_oF3_0, e_oF2_0]; rfl
theorem oI_11 (c : Int32) (h1 : 248 ≤ c.toInt) (h2 : c.toInt ≤ 767) : oF1_0 c = 1 := by
  have e_oF2_0 : oF2_0 c = 1 := by
    rw [oF2_0, if_neg (oNlt (c := c) (k := (97 : Int32)) (n := 97) (by decide) (by omega)), if_pos (oGt (c := c) (k := (122 : Int32)) (n := 122) (by decide) (by omega)), oF2_12, if_neg (oNlt (c := c) (k := (65 : Int32)) (n := 65) (by decide) (by omega)), if_pos (oGt (c := c) (k := (90 : Int32)) (n := 90) (by decide) (by omega)), oF2_24, if_neg (oNe (c := c) (k := (95 : Int32)) (n := 95) (by decide) (by omega)), if_neg (oNlt (c := c) (k := (192 : Int32)) (n := 192) (by decide) (by omega)), if_pos (oGt (c := c) (k := (214 : Int32)) (n := 214) (by decide) (by omega)), oF2_44, if_neg (oNlt (c := c) (k := (216 : Int32)) (n := 216) (by decide) (by omega)), if_pos (oGt (c := c) (k := (246 : Int32)) (n := 246) (by decide) (by omega)), oF2_58, if_neg (oNlt (c := c) (k := (248 : Int32)) (n := 248) (by decide) (by omega)), if_neg (oNgt (c := c) (k := (767 : Int32)) (n := 767) (by decide) (by omega)), oF2_191, oF2_196]
    try decide
  have e_oF3_0 : oF3_0 c = 0 := by
    rw [oF3_0, if_neg (oNlt (c := c) (k := (65 : Int32)) (n := 65) (by decide) (by omega)), if_neg (oNgt (c := c) (k := (983039 : Int32)) (n := 983039) (by decide) (by omega)), if_neg (oNlt (c := c) (k := (91 : Int32)) (n := 91) (by decide) (by omega)), if_pos (oGt (c := c) (k := (94 : Int32)) (n := 94) (by decide) (by omega)), oF3_28, if_neg (oNe (c := c) (k := (96 : Int32)) (n := 96) (by decide) (by omega)), if_neg (oNlt (c := c) (k := (123 : Int32)) (n := 123) (by decide) (by omega)), if_pos (oGt (c := c) (k := (191 : Int32)) (n := 191) (by decide) (by omega)), oF3_51, if_neg (oNe (c := c) (k := (215 : Int32)) (n := 215) (by decide) (by omega)), if_neg (oNe (c := c) (k := (247 : Int32)) (n := 247) (by decide) (by omega)), if_pos (oLt (c := c) (k := (768 : Int32)) (n := 768) (by decide) (by omega)), oF3_83, if_neg (oNe (c := c) (k := (894 : Int32)) (n := 894) (by decide) (by omega)), if_pos (oLt (c := c) (k := (8192 : Int32)) (n := 8192) (by decide) (by omega)), oF3_108, if_pos (oLt (c := c) (k := (8206 : Int32)) (n := 8206) (by decide) (by omega)), oF3_124, if_pos (oLt (c := c) (k := (8592 : Int32)) (n := 8592) (by decide) (by omega)), oF3_140, if_pos (oLt (c := c) (k := (12272 : Int32)) (n := 12272) (by decide) (by omega)), oF3_156, if_pos (oLt (c := c) (k := (55296 : Int32)) (n := 55296) (by decide) (by omega)), oF3_170, if_pos (oLt (c := c) (k := (64976 : Int32)) (n := 64976) (by decide) (by omega)), oF3_184, if_pos (oLt (c := c) (k := (65534 : Int32)) (n := 65534) (by decide) (by omega)), oF3_198]
    try decide
  rw [oF1_0, e_oF3_0, e_oF2_0]; rfl
theorem oI_12 (c : Int32) (h1 : 768 ≤ c.toInt) (h2 : c.toInt ≤ 879) : oF1_0 c = 1 := by
  have e_oF2_0 : oF2_0 c = 0 := by
    rw [oF2_0, if_neg (oNlt (c := c) (k := (97 : Int32)) (n := 97) (by decide) (by omega)), if_pos (oGt (c := c) (k := (122 : Int32)) (n := 122) (by decide) (by omega)), oF2_12, if_neg (oNlt (c := c) (k := (65 : Int32)) (n := 65) (by decide) (by omega)), if_pos (oGt (c := c) (k := (90 : Int32)) (n := 90) (by decide) (by omega)), oF2_24, if_neg (oNe (c := c) (k := (95 : Int32)) (n := 95) (by decide) (by omega)), if_neg (oNlt (c := c) (k := (192 : Int32)) (n := 192) (by decide) (by omega)), if_pos (oGt (c := c) (k := (214 : Int32)) (n := 214) (by decide) (by omega)), oF2_44, if_neg (oNlt (c := c) (k := (216 : Int32)) (n := 216) (by decide) (by omega)), if_pos (oGt (c := c) (k := (246 : Int32)) (n := 246) (by decide) (by omega)), oF2_58, if_neg (oNlt (c := c) (k := (248 : Int32)) (n := 248) (by decide) (by omega)), if_pos (oGt (c := c) (k := (767 : Int32)) (n := 767) (by decide) (by omega)), oF2_72, if_pos (oLt (c := c) (k := (880 : Int32)) (n := 880) (by decide) (by omega)), oF2_86, if_pos (oLt (c := c) (k := (895 : Int32)) (n := 895) (by decide) (by omega)), oF2_100, if_pos (oLt (c := c) (k := (8204 : Int32)) (n := 8204) (by decide) (by omega)), oF2_114, if_pos (oLt (c := c) (k := (8304 : Int32)) (n := 8304) (by decide) (by omega)), oF2_128, if_pos (oLt (c := c) (k := (11264 : Int32)) (n := 11264) (by decide) (by omega)), oF2_142, if_pos (oLt (c := c) (k := (12289 : Int32)) (n := 12289) (by decide) (by omega)), oF2_155, if_pos (oLt (c := c) (k := (63744 : Int32)) (n := 63744) (by decide) (by omega)), oF2_167, if_pos (oLt (c := c) (k := (65008 : Int32)) (n := 65008) (by decide) (by omega)), oF2_179, if_pos (oLt (c := c) (k := (65536 : Int32)) (n := 65536) (by decide) (by omega)), oF2_195, oF2_196]
    try decide
  have e_oF3_0 : oF3_0 c = 1 := by
    rw [oF3_0, if_neg (oNlt (c := c) (k := (65 : Int32)) (n := 65) (by decide) (by omega)), if_neg (oNgt (c := c) (k := (983039 : Int32)) (n := 983039) (by decide) (by omega)), if_neg (oNlt (c := c) (k := (91 : Int32)) (n := 91) (by decide) (by omega)), if_pos (oGt (c := c) (k := (94 : Int32)) (n := 94) (by decide) (by omega)), oF3_28, if_neg (oNe (c := c) (k := (96 : Int32)) (n := 96) (by decide) (by omega)), if_neg (oNlt (c := c) (k := (123 : Int32)) (n := 123) (by decide) (by omega)), if_pos (oGt (c := c) (k := (191 : Int32)) (n := 191) (by decide) (by omega)), oF3_51, if_neg (oNe (c := c) (k := (215 : Int32)) (n := 215) (by decide) (by omega)), if_neg (oNe (c := c) (k := (247 : Int32)) (n := 247) (by decide) (by omega)), if_neg (oNlt (c := c) (k := (768 : Int32)) (n := 768) (by decide) (by omega)), if_neg (oNgt (c := c) (k := (879 : Int32)) (n := 879) (by decide) (by omega))]
    try decide
  rw [oF1_0, e_oF3_0, e_oF2_0]; rfl
theorem oI_13 (c : Int32) (h1 : 880 ≤ c.toInt) (h2 : c.toInt ≤ 893) : oF1_0 c = 1 := by
  have e_oF2_0 : oF2_0 c = 1 := by
    rw [oF2_0, if_neg (oNlt (c := c) (k := (97 : Int32)) (n := 97) (by decide) (by omega)), if_pos (oGt (c := c) (k := (122 : Int32)) (n := 122) (by decide) (by omega)), oF2_12, if_neg (oNlt (c := c) (k := (65 : Int32)) (n := 65) (by decide) (by omega)), if_pos (oGt (c := c) (k := (90 : Int32)) (n := 90) (by decide) (by omega)), oF2_24, if_neg (oNe (c := c) (k := (95 : Int32)) (n := 95) (by decide) (by omega)), if_neg (oNlt (c := c) (k := (192 : Int32)) (n := 192) (by decide) (by omega)), if_pos (oGt (c := c) (k := (214 : Int32)) (n := 214) (by decide) (by omega)), oF2_44, if_neg (oNlt (c := c) (k := (216 : Int32)) (n := 216) (by decide) (by omega)), if_pos (oGt (c := c) (k := (246 : Int32)) (n := 246) (by decide) (by omega)), oF2_58, if_neg (oNlt (c := c) (k := (248 : Int32)) (n := 248) (by decide) (by omega)), if_pos (oGt (c := c) (k := (767 : Int32)) (n := 767) (by decide) (by omega)), oF2_72, if_neg (oNlt (c := c) (k := (880 : Int32)) (n := 880) (by decide) (by omega)), if_neg (oNgt (c := c) (k := (893 : Int32)) (n := 893) (by decide) (by omega)), oF2_191, oF2_196]
    try decide
  have e_oF3_0 : oF3_0 c = 0 := by
    rw [oF3_0, if_neg (oNlt (c := c) (k := (65 : Int32)) (n := 65) (by decide) (by omega)), if_neg (oNgt (c := c) (k := (983039 : Int32)) (n := 983039) (by decide) (by omega)), if_neg (oNlt (c := c) (k := (91 : Int32)) (n := 91) (by decide) (by omega)), if_pos (oGt (c := c) (k := (94 : Int32)) (n := 94) (by decide) (by omega)), oF3_28, if_neg (oNe (c := c) (k := (96 : Int32)) (n := 96) (by decide) (by omega)), if_neg (oNlt (c := c) (k := (123 : Int32)) (n := 123) (by decide) (by omega)), if_pos (oGt (c := c) (k := (191 : Int32)) (n := 191) (by decide) (by omega)), oF3_51, if_neg (oNe (c := c) (k := (215 : Int32)) (n := 215) (by decide) (by omega)), if_neg (oNe (c := c) (k := (247 : Int32)) (n := 247) (by decide) (by omega)), if_neg (oNlt (c := c) (k := (768 : Int32)) (n := 768) (by decide) (by omega)), if_pos (oGt (c := c) (k := (879 : Int32)) (n := 879) (by decide) (by omega)), oF3_83, if_neg (oNe (c := c) (k := (894 : Int32)) (n := 894) (by decide) (by omega)), if_pos (oLt (c := c) (k := (8192 : Int32)) (n := 8192) (by decide) (by omega)), oF3_108, if_pos (oLt (c := c) (k := (8206 : Int32)) (n := 8206) (by decide) (by omega)), oF3_124, if_pos (oLt (c := c) (k := (8592 : Int32)) (n := 8592) (by decide) (by omega)), oF3_140, if_pos (oLt (c := c) (k := (12272 : Int32)) (n := 12272) (by decide) (by omega)), oF3_156, if_pos (oLt (c := c) (k := (55296 : Int32)) (n := 55296) (by decide) (by omega)), oF3_170, if_pos (oLt (c := c) (k := (64976 : Int32)) (n := 64976) (by decide) (by omega)), oF3_184, if_pos (oLt (c := c) (k := (65534 : Int32)) (n := 65534) (by decide) (by omega)), oF3_198]
    try decide
  rw [oF1_0, e_oF3_0, e_oF2_0]; rfl
theorem oI_14 (c : Int32) (h1 : 894 ≤ c.toInt) (h2 : c.toInt ≤ 894) : oF1_0 c = 1 := by
  have e_oF2_0 : oF2_0 c = 0 := by
    rw [oF2_0, if_neg (oNlt (c := c) (k := (97 : Int32)) (n := 97) (by decide) (by omega)), if_pos (oGt (c := c) (k := (122 : Int32)) (n := 122) (by decide) (by omega)), oF2_12, if_neg (oNlt (c := c) (k := (65 : Int32)) (n := 65) (by decide) (by omega)), if_pos (oGt (c := c) (k := (90 : Int32)) (n := 90) (by decide) (by omega)), oF2_24, if_neg (oNe (c := c) (k := (95 : Int32)) (n := 95) (by decide) (by omega)), if_neg (oNlt (c := c) (k := (192 : Int32)) (n := 192) (by decide) (by omega)), if_pos (oGt (c := c) (k := (214 : Int32)) (n := 214) (by decide) (by omega)), oF2_44, if_neg (oNlt (c := c) (k := (216 : Int32)) (n := 216) (by decide) (by omega)), if_pos (oGt (c := c) (k := (246 : Int32)) (n := 246) (by decide) (by omega)), oF2_58, if_neg (oNlt (c := c) (k := (248 : Int32)) (n := 248) (by decide) (by omega)), if_pos (oGt (c := c) (k := (767 : Int32)) (n := 767) (by decide) (by omega)), oF2_72, if_neg (oNlt (c := c) (k := (880 : Int32)) (n := 880) (by decide) (by omega)), if_pos (oGt (c := c) (k := (893 : Int32)) (n := 893) (by decide) (by omega)), oF2_86, if_pos (oLt (c := c) (k := (895 : Int32)) (n := 895) (by decide) (by omega)), oF2_100, if_pos (oLt (c := c) (k := (8204 : Int32)) (n := 8204) (by decide) (by omega)), oF2_114, if_pos (oLt (c := c) (k := (8304 : Int32)) (n := 8304) (by decide) (by omega)), oF2_128, if_pos (oLt (c := c) (k := (11264 : Int32)) (n := 11264) (by decide) (by omega)), oF2_142, if_pos (oLt (c := c) (k := (12289 : Int32)) (n := 12289) (by decide) (by omega)), oF2_155, if_pos (oLt (c := c) (k := (63744 : Int32)) (n := 63744) (by decide) (by omega)), oF2_167, if_pos (oLt (c := c) (k := (65008 : Int32)) (n := 65008) (by decide) (by omega)), oF2_179, if_pos (oLt (c := c) (k := (65536 : Int32)) (n := 65536) (by decide) (by omega)), oF2_195, oF2_196]
    try decide
  have e_oF3_0 : oF3_0 c = 1 := by
    rw [oF3_0, if_neg (oNlt (c := c) (k := (65 : Int32)) (n := 65) (by decide) (by omega)), if_neg (oNgt (c := c) (k := (983039 : Int32)) (n := 983039) (by decide) (by omega)), if_neg (oNlt (c := c) (k := (91 : Int32)) (n := 91) (by decide) (by omega)), if_pos (oGt (c := c) (k := (94 : Int32)) (n := 94) (by decide) (by omega)), oF3_28, if_neg (oNe (c := c) (k := (96 : Int32)) (n := 96) (by decide) (by omega)), if_neg (oNlt (c := c) (k := (123 : Int32)) (n := 123) (by decide) (by omega)), if_pos (oGt (c := c) (k := (191 : Int32)) (n := 191) (by decide) (by omega)), oF3_51, if_neg (oNe (c := c) (k := (215 : Int32)) (n := 215) (by decide) (by omega)), if_neg (oNe (c := c) (k := (247 : Int32)) (n := 247) (by decide) (by omega)), if_neg (oNlt (c := c) (k := (768 : Int32)) (n := 768) (by decide) (by omega)), if_pos (oGt (c := c) (k := (879 : Int32)) (n := 879) (by decide) (by omega)), oF3_83, if_pos (oEq (c := c) (k := (894 : Int32)) (n := 894) (by decide) (by omega))]
    try decide
  rw [oF1_0, e_oF3_0, e_oF2_0]; rfl
theorem oI_15 (c : Int32) (h1 : 895 ≤ c.toInt) (h2 : c.toInt ≤ 8191) : oF1_0 c = 1 := by
  have e_oF2_0 : oF2_0 c = 1 := by
    rw [oF2_0, if_neg (oNlt (c := c) (k := (97 : Int32)) (n := 97) (by decide) (by omega)), if_pos (oGt (c := c) (k := (122 : Int32)) (n := 122) (by decide) (by omega)), oF2_12, if_neg (oNlt (c := c) (k := (65 : Int32)) (n := 65) (by decide) (by omega)), if_pos (oGt (c := c) (k := (90 : Int32)) (n := 90) (by decide) (by omega)), oF2_24, if_neg (oNe (c := c) (k := (95 : Int32)) (n := 95) (by decide) (by omega)), if_neg (oNlt (c := c) (k := (192 : Int32)) (n := 192) (by decide) (by omega)), if_pos (oGt (c := c) (k := (214 : Int32)) (n := 214) (by decide) (by omega)), oF2_44, if_neg (oNlt (c := c) (k := (216 : Int32)) (n := 216) (by decide) (by omega)), if_pos (oGt (c := c) (k := (246 : Int32)) (n := 246) (by decide) (by omega)), oF2_58, if_neg (oNlt (c := c) (k := (248 : Int32)) (n := 248) (by decide) (by omega)), if_pos (oGt (c := c) (k := (767 : Int32)) (n := 767) (by decide) (by omega)), oF2_72, if_neg (oNlt (c := c) (k := (880 : Int32)) (n := 880) (by decide) (by omega)), if_pos (oGt (c := c) (k := (893 : Int32)) (n := 893) (by decide) (by omega)), oF2_86, if_neg (oNlt (c := c) (k := (895 : Int32)) (n := 895) (by decide) (by omega)), if_neg (oNgt (c := c) (k := (8191 : Int32)) (n := 8191) (by decide) (by omega)), oF2_191, oF2_196]
    try decide
  have e_oF3_0 : oF3_0 c = 0 := by
    rw [oF3_0, if_neg (oNlt (c := c) (k := (65 : Int32)) (n := 65) (by decide) (by omega)), if_neg (oNgt (c := c) (k := (983039 : Int32)) (n := 983039) (by decide) (by omega)), if_neg (oNlt (c := c) (k := (91 : Int32)) (n := 91) (by decide) (by omega)), if_pos (oGt (c := c) (k := (94 : Int32)) (n := 94) (by decide) (by omega)), oF3_28, if_neg (oNe (c := c) (k := (96 : Int32)) (n := 96) (by decide) (by omega)), if_neg (oNlt (c := c) (k := (123 : Int32)) (n := 123) (by decide) (by omega)), if_pos (oGt (c := c) (k := (191 : Int32)) (n := 191) (by decide) (by omega)), oF3_51, if_neg (oNe (c := c) (k := (215 : Int32)) (n := 215) (by decide) (by omega)), if_neg (oNe (c := c) (k := (247 : Int32)) (n := 247) (by decide) (by omega)), if_neg (oNlt (c := c) (k := (768 : Int32)) (n := 768) (by decide) (by omega)), if_pos (oGt (c := c) (k := (879 : Int32)) (n := 879) (by decide) (by omega)), oF3_83, if_neg (oNe (c := c) (k := (894 : Int32)) (n := 894) (by decide) (by omega)), if_pos (oLt (c := c) (k := (8192 : Int32)) (n := 8192) (by decide) (by omega)), oF3_108, if_pos (oLt (c := c) (k := (8206 : Int32)) (n := 8206) (by decide) (by omega)), oF3_124, if_pos (oLt (c := c) (k := (8592 : Int32)) (n := 8592) (by decide) (by omega)), oF3_140, if_pos (oLt (c := c) (k := (12272 : Int32)) (n := 12272) (by decide) (by omega)), oF3_156, if_pos (oLt (c := c) (k := (55296 : Int32)) (n := 55296) (by decide) (by omega)), oF3_170, if_pos (oLt (c := c) (k := (64976 : Int32)) (n := 64976) (by decide) (by omega)), oF3_184, if_pos (oLt (c := c) (k := (65534 : Int32)) (n := 65534) (by decide) (by omega)), oF3_198]
    try decide
  rw [oF1_0, e_oF3_0, e_oF2_0]; rfl
theorem oI_16 (c : Int32) (h1 : 8192 ≤ c.toInt) (h2 : c.toInt ≤ 8203) : oF1_0 c = 1 := by
  have e_oF2_0 : oF2_0 c = 0 := by
    rw [oF2_0, if_neg (oNlt (c := c) (k := (97 : Int32)) (n := 97) (by decide) (by omega)), if_pos (oGt (c := c) (k := (122 : Int32)) (n := 122) (by decide) (by omega)), oF2_12, if_neg (oNlt (c := c) (k := (65 : Int32)) (n := 65) (by decide) (by omega)), if_pos (oGt (c := c) (k := (90 : Int32)) (n := 90) (by decide) (by omega)), oF2_24, if_neg (oNe (c := c) (k := (95 : Int32)) (n := 95) (by decide) (by omega)), if_neg (oNlt (c := c) (k := (192 : Int32)) (n := 192) (by decide) (by omega)), if_pos (oGt (c := c) (k := (214 : Int32)) (n := 214) (by decide) (by omega)), oF2_44, if_neg (oNlt (c := c) (k := (216 : Int32)) (n := 216) (by decide) (by omega)), if_pos (oGt (c := c) (k := (246 : Int32)) (n := 246) (by decide) (by omega)), oF2_58, if_neg (oNlt (c := c) (k := (248 : Int32)) (n := 248) (by decide) (by omega)), if_pos (oGt (c := c) (k := (767 : Int32)) (n := 767) (by decide) (by omega)), oF2_72, if_neg (oNlt (c := c) (k := (880 : Int32)) (n := 880) (by decide) (by omega)), if_pos (oGt (c := c) (k := (893 : Int32)) (n := 893) (by decide) (by omega)), oF2_86, if_neg (oNlt (c := c) (k := (895 : Int32)) (n := 895) (by decide) (by omega)), if_pos (oGt (c := c) (k := (8191 : Int32)) (n := 8191) (by decide) (by omega)), oF2_100, if_pos (oLt (c := c) (k := (8204 : Int32)) (n := 8204) (by decide) (by omega)), oF2_114, if_pos (oLt (c := c) (k := (8304 : Int32)) (n := 8304) (by decide) (by omega)), oF2_128, if_pos (oLt (c := c) (k := (11264 : Int32)) (n := 11264) (by decide) (by omega)), oF2_142, if_pos (oLt (c := c) (k := (12289 : Int32)) (n := 12289) (by decide) (by omega)), oF2_155, if_pos (oLt (c := c) (k := (63744 : Int32)) (n := 63744) (by decide) (by omega)), oF2_167, if_pos (oLt (c := c) (k := (65008 : Int32)) (n := 65008) (by decide) (by omega)), oF2_179, if_pos (oLt (c := c) (k := (65536 : Int32)) (n := 65536) (by decide) (by omega)), oF2_195, oF2_196]
    try decide
  have e_oF3_0 : oF3_0 c = 1 := by
    rw [oF3_0, if_neg (oNlt (c := c) (k := (65 : Int32)) (n := 65) (by decide) (by omega)), if_neg (oNgt (c := c) (k := (983039 : Int32)) (n := 983039) (by decide) (by omega)), if_neg (oNlt (c := c) (k := (91 : Int32)) (n := 91) (by decide) (by omega)), if_pos (oGt (c := c) (k := (94 : Int32)) (n := 94) (by decide) (by omega)), oF3_28, if_neg (oNe (c := c) (k := (96 : Int32)) (n := 96) (by decide) (by omega)), if_neg (oNlt (c := c) (k := (123 : Int32)) (n := 123) (by decide) (by omega)), if_pos (oGt (c := c) (k := (191 : Int32)) (n := 191) (by decide) (by omega)), oF3_51, if_neg (oNe (c := c) (k := (215 : Int32)) (n := 215) (by decide) (by omega)), if_neg (oNe (c := c) (k := (247 : Int32)) (n := 247) (by decide) (by omega)), if_neg (oNlt (c := c) (k := (768 : Int32)) (n := 768) (by decide) (by omega)), if_pos (oGt (c := c) (k := (879 : Int32)) (n := 879) (by decide) (by omega)), oF3_83, if_neg (oNe (c := c) (k := (894 : Int32)) (n := 894) (by decide) (by omega)), if_neg (oNlt (c := c) (k := (8192 : Int32)) (n := 8192) (by decide) (by omega)), if_neg (oNgt (c := c) (k := (8203 : Int32)) (n := 8203) (by decide) (by omega))]
    try decide
  rw [oF1_0, e_oF3_0, e_oF2_0]; rfl
theorem oI_17 (c : Int32) (h1 : 8204 ≤ c.toInt) (h2 : c.toInt ≤ 8205) : oF1_0 c = 1 := by
  have e_oF2_0 : oF2_0 c = 1 := by
    rw [oF2_0, if_neg (oNlt (c := c) (k := (97 : Int32)) (n := 97) (by decide) (by omega)), if_pos (oGt (c := c) (k := (122 : Int32)) (n := 122) (by decide) (by omega)), oF2_12, if_neg (oNlt (c := c) (k := (65 : Int32)) (n := 65) (by decide) (by omega)), if_pos (oGt (c := c) (k := (90 : Int32)) (n := 90) (by decide) (by omega)), oF2_24, if_neg (oNe (c := c) (k := (95 : Int32)) (n := 95) (by decide) (by omega)), if_neg (oNlt (c := c) (k := (192 : Int32)) (n := 192) (by decide) (by omega)), if_pos (oGt (c := c) (k := (214 : Int32)) (n := 214) (by decide) (by omega)), oF2_44, if_neg (oNlt (c := c) (k := (216 : Int32)) (n := 216) (by decide) (by omega)), if_pos (oGt (c := c) (k := (246 : Int32)) (n := 246) (by decide) (by omega)), oF2_58, if_neg (oNlt (c := c) (k := (248 : Int32)) (n := 248) (by decide) (by omega)), if_pos (oGt (c := c) (k := (767 : Int32)) (n := 767) (by decide) (by omega)), oF2_72, if_neg (oNlt (c := c) (k := (880 : Int32)) (n := 880) (by decide) (by omega)), if_pos (oGt (c := c) (k := (893 : Int32)) (n := 893) (by decide) (by omega)), oF2_86, if_neg (oNlt (c := c) (k := (895 : Int32)) (n := 895) (by decide) (by omega)), if_pos (oGt (c := c) (k := (8191 : Int32)) (n := 8191) (by decide) (by omega)), oF2_100, if_neg (oNlt (c := c) (k := (8204 : Int32)) (n := 8204) (by decide) (by omega)), if_neg (oNgt (c := c) (k := (8205 : Int32)) (n := 8205) (by decide) (by omega)), oF2_191, oF2_196]
    try decide
  have e_oF3_0 : oF3_0 c = 0 := by
    rw [oF3_0, if_neg (oNlt (c := c) (k := (65 : Int32)) (n := 65) (by decide) (by omega)), if_neg (oNgt (c := c) (k := (983039 : Int32)) (n := 983039) (by decide) (by omega)), if_neg (oNlt (c := c) (k := (91 : Int32)) (n := 91) (by decide) (by omega)), if_pos (oGt (c := c) (k := (94 : Int32)) (n := 94) (by decide) (by omega)), oF3_28, if_neg (oNe (c := c) (k := (96 : Int32)) (n := 96) (by decide) (by omega)), if_neg (oNlt (c := c) (k := (123 : Int32)) (n := 123) (by decide) (by omega)), if_pos (oGt (c := c) (k := (191 : Int32)) (n := 191) (by decide) (by omega)), oF3_51, if_neg (oNe (c := c) (k := (215 : Int32)) (n := 215) (by decide) (by omega)), if_neg (oNe (c := c) (k := (247 : Int32)) (n := 247) (by decide) (by omega)), if_neg (oNlt (c := c) (k := (768 : Int32)) (n := 768) (by decide) (by omega)), if_pos (oGt (c := c) (k := (879 : Int32)) (n := 879) (by decide) (by omega)), oF3_83, if_neg (oNe (c := c) (k := (894 : Int32)) (n := 894) (by decide) (by omega)), if_neg (oNlt (c := c) (k := (8192 : Int32)) (n := 8192) (by decide) (by omega)), if_pos (oGt (c := c) (k := (8203 : Int32)) (n := 8203) (by decide) (by omega)), oF3_108, if_pos (oLt (c := c) (k := (8206 : Int32)) (n := 8206) (by decide) (by omega)), oF3_124, if_pos (oLt (c := c) (k := (8592 : Int32)) (n := 8592) (by decide) (by omega)), oF3_140, if_pos (oLt (c := c) (k := (12272 : Int32)) (n := 12272) (by decide) (by omega)), oF3_156, if_pos (oLt (c := c) (k := (55296 : Int32)) (n := 55296) (by decide) (by omega)), oF3_170, if_pos (oLt (c := c) (k := (64976 : Int32)) (n := 64976) (by decide) (by omega)), oF3_184, if_pos (oLt (c := c) (k := (65534 : Int32)) (n := 65534) (by decide) (by omega)), oF3_198]
    try decide
  rw [oF1_0, e_oF3_0, e_oF2_0]; rfl
theorem oI_18 (c : Int32) (h1 : 8206 ≤ c.toInt) (h2 : c.toInt ≤ 8303) : oF1_0 c = 1 := by
  have e_oF2_0 : oF2_0 c = 0 := by
    rw [oF2_0, if_neg (oNlt (c := c) (k := (97 : Int32)) (n := 97) (by decide) (by omega)), if_pos (oGt (c := c) (k := (122 : Int32)) (n := 122) (by decide) (by omega)), oF2_12, if_neg (oNlt (c := c) (k := (65 : Int32)) (n := 65) (by decide) (by omega)), if_pos (oGt (c := c) (k := (90 : Int32)) (n := 90) (by decide) (by omega)), oF2_24, if_neg (oNe (c := c) (k := (95 : Int32)) (n := 95) (by decide) (by omega)), if_neg (oNlt (c := c) (k := (192 : Int32)) (n := 192) (by decide) (by omega)), if_pos (oGt (c := c) (k := (214 : Int32)) (n := 214) (by decide) (by omega)), oF2_44, if_neg (oNlt (c := c) (k := (216 : Int32)) (n := 216) (by decide) (by omega)), if_pos (oGt (c := c) (k := (246 : Int32)) (n := 246) (by decide) (by omega)), oF2_58, if_neg (oNlt (c := c) (k := (248 : Int32)) (n := 248) (by decide) (by omega)), if_pos (oGt (c := c) (k := (767 : Int32)) (n := 767) (by decide) (by omega)), oF2_72, if_neg (oNlt (c := c) (k := (880 : Int32)) (n := 880) (by decide) (by omega)), if_pos (oGt (c := c) (k := (893 : Int32)) (n := 893) (by decide) (by omega)), oF2_86, if_neg (oNlt (c := c) (k := (895 : Int32)) (n := 895) (by decide) (by omega)), if_pos (oGt (c := c) (k := (8191 : Int32)) (n := 8191) (by decide) (by omega)), oF2_100, if_neg (oNlt (c := c) (k := (8204 : Int32)) (n := 8204) (by decide) (by omega)), if_pos (oGt (c := c) (k := (8205 : Int32)) (n := 8205) (by decide) (by omega)), oF2_114, if_pos (oLt (c := c) (k := (8304 : Int32)) (n := 8304) (by decide) (by omega)), oF2_128, if_pos (oLt (c := c) (k := (11264 : Int32)) (n := 11264) (by decide) (by omega)), oF2_142, if_pos (oLt (c := c) (k := (12289 : Int32)) (n := 12289) (by decide) (by omega)), oF2_155, if_pos (oLt (c := c) (k := (63744 : Int32)) (n := 63744) (by decide) (by omega)), oF2_167, if_pos (oLt (c := c) (k := (65008 : Int32)) (n := 65008) (by decide) (by omega)), oF2_179, if_pos (oLt (c := c) (k := (65536 : Int32)) (n := 65536) (by decide) (by omega)), oF2_195, oF2_196]
    try decide
  have e_oF3_0 : oF3_0 c = 1 := by
    rw [oF3_0, if_neg (oNlt (c := c) (k := (65 : Int32)) (n := 65) (by decide) (by omega)), if_neg (oNgt (c := c) (k := (983039 : Int32)) (n := 983039) (by decide) (by omega)), if_neg (oNlt (c := c) (k := (91 : Int32)) (n := 91) (by decide) (by omega)), if_pos (oGt (c := c) (k := (94 : Int32)) (n := 94) (by decide) (by omega)), oF3_28, if_neg (oNe (c := c) (k := (96 : Int32)) (n := 96) (by decide) (by omega)), if_neg (oNlt (c := c) (k := (123 : Int32)) (n := 123) (by decide) (by omega)), if_pos (oGt (c := c) (k := (191 : Int32)) (n := 191) (by decide) (by omega)), oF3_51, if_neg (oNe (c := c) (k := (215 : Int32)) (n := 215) (by decide) (by omega)), if_neg (oNe (c := c) (k := (247 : Int32)) (n := 247) (by decide) (by omega)), if_neg (oNlt (c := c) (k := (768 : Int32)) (n := 768) (by decide) (by omega)), if_pos (oGt (c := c) (k := (879 : Int32)) (n := 879) (by decide) (by omega)), oF3_83, if_neg (oNe (c := c) (k := (894 : Int32)) (n := 894) (by decide) (by omega)), if_neg (oNlt (c := c) (k := (8192 : Int32)) (n := 8192) (by decide) (by omega)), if_pos (oGt (c := c) (k := (8203 : Int32)) (n := 8203) (by decide) (by omega)), oF3_108, if_neg (oNlt (c := c) (k := (8206 : Int32)) (n := 8206) (by decide) (by omega)), if_neg (oNgt (c := c) (k := (8303 : Int32)) (n := 8303) (by decide) (by omega))]
    try decide
  rw [oF1_0, e_oF3_0, e_oF2_0]; rfl
theorem oI_19 (c : Int32) (h1 : 8304 ≤ c.toInt) (h2 : c.toInt ≤ 8591) : oF1_0 c = 1 := by
  have e_oF2_0 : oF2_0 c = 1 := by
    rw [oF2_0, if_neg (oNlt (c := c) (k := (97 : Int32)) (n := 97) (by decide) (by omega)), if_pos (oGt (c := c) (k := (122 : Int32)) (n := 122) (by decide) (by omega)), oF2_12, if_neg (oNlt (c := c) (k := (65 : Int32)) (n := 65) (by decide) (by omega)), if_pos (oGt (c := c) (k := (90 : Int32)) (n := 90) (by decide) (by omega)), oF2_24, if_neg (oNe (c := c) (k := (95 : Int32)) (n := 95) (by decide) (by omega)), if_neg (oNlt (c := c) (k := (192 : Int32)) (n := 192) (by decide) (by omega)), if_pos (oGt (c := c) (k := (214 : Int32)) (n := 214) (by decide) (by omega)), oF2_44, if_neg (oNlt (c := c) (k := (216 : Int32)) (n := 216) (by decide) (by omega)), if_pos (oGt (c := c) (k := (246 : Int32)) (n := 246) (by decide) (by omega)), oF2_58, if_neg (oNlt (c := c) (k := (248 : Int32)) (n := 248) (by decide) (by omega)), if_pos (oGt (c := c) (k := (767 : Int32)) (n := 767) (by decide) (by omega)), oF2_72, if_neg (oNlt (c := c) (k := (880 : Int32)) (n := 880) (by decide) (by omega)), if_pos (oGt (c := c) (k := (893 : Int32)) (n := 893) (by decide) (by omega)), oF2_86, if_neg (oNlt (c := c) (k := (895 : Int32)) (n := 895) (by decide) (by omega)), if_pos (oGt (c := c) (k := (8191 : Int32)) (n := 8191) (by decide) (by omega)), oF2_100, if_neg (oNlt (c := c) (k := (8204 : Int32)) (n := 8204) (by decide) (by omega)), if_pos (oGt (c := c) (k := (8205 : Int32)) (n := 8205) (by decide) (by omega)), oF2_114, if_neg (oNlt (c := c) (k := (8304 : Int32)) (n := 8304) (by decide) (by omega)), if_neg (oNgt (c := c) (k := (8591 : Int32)) (n := 8591) (by decide) (by omega)), oF2_191, oF2_196]
    try decide
  have e_oF3_0 : oF3_0 c = 0 := by
    rw [oF3_0, if_neg (oNlt (c := c) (k := (65 : Int32)) (n := 65) (by decide) (by omega)), if_neg (oNgt (c := c) (k := (983039 : Int32)) (n := 983039) (by decide) (by omega)), if_neg (oNlt (c := c) (k := (91 : Int32)) (n := 91) (by decide) (by omega)), if_pos (oGt (c := c) (k := (94 : Int32)) (n := 94) (by decide) (by omega)), oF3_28, if_neg (oNe (c := c) (k := (96 : Int32)) (n := 96) (by decide) (by omega)), if_neg (oNlt (c := c) (k := (123 : Int32)) (n := 123) (by decide) (by omega)), if_pos (oGt (c := c) (k := (191 : Int32)) (n := 191) (by decide) (by omega)), oF3_51, if_neg (oNe (c := c) (k := (215 : Int32)) (n := 215) (by decide) (by omega)), if_neg (oNe (c := c) (k := (247 : Int32)) (n := 247) (by decide) (by omega)), if_neg (oNlt (c := c) (k := (768 : Int32)) (n := 768) (by decide) (by omega)), if_pos (oGt (c := c) (k := (879 : Int32)) (n := 879) (by decide) (by omega)), oF3_83, if_neg (oNe (c := c) (k := (894 : Int32)) (n := 894) (by decide) (by omega)), if_neg (oNlt (c := c) (k := (8192 : Int32)) (n := 8192) (by decide) (by omega)), if_pos (oGt (c := c) (k := (8203 : Int32)) (n := 8203) (by decide) (by omega)), oF3_108, if_neg (oNlt (c := c) (k := (8206 : Int32)) (n := 8206) (by decide) (by omega)), if_pos (oGt (c := c) (k := (8303 : Int32)) (n := 8303) (by decide) (by omega)), oF3_124, if_pos (oLt (c := c) (k := (8592 : Int32)) (n := 8592) (by decide) (by omega)), oF3_140, if_pos (oLt (c := c) (k := (12272 : Int32)) (n := 12272) (by decide) (by omega)), oF3_156, if_pos (oLt (c := c) (k := (55296 : Int32)) (n := 55296) (by decide) (by omega)), oF3_170, if_pos (oLt (c := c) (k := (64976 : Int32)) (n := 64976) (by decide) (by omega)), oF3_184, if_pos (oLt (c := c) (k := (65534 : Int32)) (n := 65534) (by decide) (by omega)), oF3_198]
    try decide
  rw [oF1_0, e_oF3_0, e_oF2_0]; rfl
theorem oI_20 (c : Int32) (h1 : 8592 ≤ c.toInt) (h2 : c.toInt ≤ 11263) : oF1_0 c = 1 := by
  have e_oF2_0 : oF2_0 c = 0 := by
    rw [oF2_0, if_neg (oNlt (c := c) (k := (97 : Int32)) (n := 97) (by decide) (by omega)), if_pos (oGt (c := c) (k := (122 : Int32)) (n := 122) (by decide) (by omega)), oF2_12, if_neg (oNlt (c := c) (k := (65 : Int32)) (n := 65) (by decide) (by omega)), if_pos (oGt (c := c) (k := (90 : Int32)) (n := 90) (by decide) (by omega)), oF2_24, if_neg (oNe (c := c) (k := (95 : Int32)) (n := 95) (by decide) (by omega)), if_neg (oNlt (c := c) (k := (192 : Int32)) (n := 192) (by decide) (by omega)), if_pos (oGt (c := c) (k := (214 : Int32)) (n := 214) (by decide) (by omega)), oF2_44, if_neg (oNlt (c := c) (k := (216 : Int32)) (n := 216) (by decide) (by omega)), if_pos (oGt (c := c) (k := (246 : Int32)) (n := 246) (by decide) (by omega)), oF2_58, if_neg (oNlt (c := c) (k := (248 : Int32)) (n := 248) (by decide) (by omega)), if_pos (oGt (c := c) (k := (767 : Int32)) (n := 767) (by decide) (by omega)), oF2_72, if_neg (oNlt (c := c) (k := (880 : Int32)) (n := 880) (by decide) (by omega)), if_pos (oGt (c := c) (k := (893 : Int32)) (n := 893) (by decide) (by omega)), oF2_86, if_neg (oNlt (c := c) (k := (895 : Int32)) (n := 895) (by decide) (by omega)), if_pos (oGt (c := c) (k := (8191 : Int32)) (n := 8191) (by decide) (by omega)), oF2_100, if_neg (oNlt (c := c) (k := (8204 : Int32)) (n := 8204) (by decide) (by omega)), if_pos (oGt (c := c) (k := (8205 : Int32)) (n := 8205) (by decide) (by omega)), oF2_114, if_neg (oNlt (c := c) (k := (8304 : Int32)) (n := 8304) (by decide) (by omega)), if_pos (oGt (c := c) (k := (8591 : Int32)) (n := 8591) (by decide) (by omega)), oF2_128, if_pos (oLt (c := c) (k := (11264 : Int32)) (n := 11264) (by decide) (by omega)), oF2_142, if_pos (oLt (c := c) (k := (12289 : Int32)) (n := 12289) (by decide) (by omega)), oF2_155, if_pos (oLt (c := c) (k := (63744 : Int32)) (n := 63744) (by decide) (by omega)), oF2_167, if_pos (oLt (c := c) (k := (65008 : Int32)) (n := 65008) (by decide) (by omega)), oF2_179, if_pos (oLt (c := c) (k := (65536 : Int32)) (n := 65536) (by decide) (by omega)), oF2_195, oF2_196]
    try decide
  have e_oF3_0 : oF3_0 c = 1 := by
    rw [oF3_0, if_neg (oNlt (c := c) (k := (65 : Int32)) (n := 65) (by decide) (by omega)), if_neg (oNgt (c := c) (k := (983039 : Int32)) (n := 983039) (by decide) (by omega)), if_neg (oNlt (c := c) (k := (91 : Int32)) (n := 91) (by decide) (by omega)), if_pos (oGt (c := c) (k := (94 : Int32)) (n := 94) (by decide) (by omega)), oF3_28, if_neg (oNe (c := c) (k := (96 : Int32)) (n := 96) (by decide) (by omega)), if_neg (oNlt (c := c) (k := (123 : Int32)) (n := 123) (by decide) (by omega)), if_pos (oGt (c := c) (k := (191 : Int32)) (n := 191) (by decide) (by omega)), oF3_51, if_neg (oNe (c := c) (k := (215 : Int32)) (n := 215) (by decide) (by omega)), if_neg (oNe (c := c) (k := (247 : Int32)) (n := 247) (by decide) (by omega)), if_neg (oNlt (c := c) (k := (768 : Int32)) (n := 768) (by decide) (by omega)), if_pos (oGt (c := c) (k := (879 : Int32)) (n := 879) (by decide) (by omega)), oF3_83, if_neg (oNe (c := c) (k := (894 : Int32)) (n := 894) (by decide) (by omega)), if_neg (oNlt (c := c) (k := (8192 : Int32)) (n := 8192) (by decide) (by omega)), if_pos (oGt (c := c) (k := (8203 : Int32)) (n := 8203) (by decide) (by omega)), oF3_108, if_neg (oNlt (c := c) (k := (8206 : Int32)) (n := 8206) (by decide) (by omega)), if_pos (oGt (c := c) (k := (8303 : Int32)) (n := 8303) (by decide) (by omega)), oF3_124, if_neg (oNlt (c := c) (k := (8592 : Int32)) (n := 8592) (by decide) (by omega)), if_neg (oNgt (c := c) (k := (11263 : Int32)) (n := 11263) (by decide) (by omega))]
    try decide
  rw [oF1_0, e_oF3_0, e_oF2_0]; rfl
theorem oI_21 (c : Int32) (h1 : 11264 ≤ c.toInt) (h2 : c.toInt ≤ 12271) : oF1_0 c = 1 := by
  have e_oF2_0 : oF2_0 c = 1 := by
    rw [oF2_0, if_neg (oNlt (c := c) (k := (97 : Int32)) (n := 97) (by decide) (by omega)), if_pos (oGt (c := c) (k := (122 : Int32)) (n := 122) (by decide) (by omega)), oF2_12, if_neg (oNlt (c := c) (k := (65 : Int32)) (n := 65) (by decide) (by omega)), if_pos (oGt (c := c) (k := (90 : Int32)) (n := 90) (by decide) (by omega)), oF2_24, if_neg (oNe (c := c) (k := (95 : Int32)) (n := 95) (by decide) (by omega)), if_neg (oNlt (c := c) (k := (192 : Int32)) (n := 192) (by decide) (by omega)), if_pos (oGt (c := c) (k := (214 : Int32)) (n := 214) (by decide) (by omega)), oF2_44, if_neg (oNlt (c := c) (k := (216 : Int32)) (n := 216) (by decide) (by omega)), if_pos (oGt (c := c) (k := (246 : Int32)) (n := 246) (by decide) (by omega)), oF2_58, if_neg (oNlt (c := c) (k := (248 : Int32)) (n := 248) (by decide) (by omega)), if_pos (oGt (c := c) (k := (767 : Int32)) (n := 767) (by decide) (by omega)), oF2_72, if_neg (oNlt (c := c) (k := (880 : Int32)) (n := 880) (by decide) (by omega)), if_pos (oGt (c := c) (k := (893 : Int32)) (n := 893) (by decide) (by omega)), oF2_86, if_neg (oNlt (c := c) (k := (895 : Int32)) (n := 895) (by decide) (by omega)), if_pos (oGt (c := c) (k := (8191 : Int32)) (n := 8191) (by decide) (by omega)), oF2_100, if_neg (oNlt (c := c) (k := (8204 : Int32)) (n := 8204) (by decide) (by omega)), if_pos (oGt (c := c) (k := (8205 : Int32)) (n := 8205) (by decide) (by omega)), oF2_114, if_neg (oNlt (c := c) (k := (8304 : Int32)) (n := 8304) (by decide) (by omega)), if_pos (oGt (c := c) (k := (8591 : Int32)) (n := 8591) (by decide) (by omega)), oF2_128, if_neg (oNlt (c := c) (k := (11264 : Int32)) (n := 11264) (by decide) (by omega)), if_neg (oNgt (c := c) (k := (12271 : Int32)) (n := 12271) (by decide) (by omega)), oF2_191, oF2_196]
    try decide
  have e_oF3_0 : oF3_0 c = 0 := by
    rw [oF3_0, if_neg (oNlt (c := c) (k := (65 : Int32)) (n := 65) (by decide) (by omega)), if_neg (oNgt (c := c) (k := (983039 : Int32)) (n := 983039) (by decide) (by omega)), if_neg (oNlt (c := c) (k := (91 : Int32)) (n := 91) (by decide) (by omega)), if_pos (oGt (c := c) (k := (94 : Int32)) (n := 94) (by decide) (by omega)), oF3_28, if_neg (oNe (c := c) (k := (96 : Int32)) (n := 96) (by decide) (by omega)), if_neg (oNlt (c := c) (k := (123 : Int32)) (n := 123) (by decide) (by omega)), if_pos (oGt (c := c) (k := (191 : Int32)) (n := 191) (by decide) (by omega)), oF3_51, if_neg (oNe (c := c) (k := (215 : Int32)) (n := 215) (by decide) (by omega)), if_neg (oNe (c := c) (k := (247 : Int32)) (n := 247) (by decide) (by omega)), if_neg (oNlt (c := c) (k := (768 : Int32)) (n := 768) (by decide) (by omega)), if_pos (oGt (c := c) (k := (879 : Int32)) (n := 879) (by decide) (by omega)), oF3_83, if_neg (oNe (c := c) (k := (894 : Int32)) (n := 894) (by decide) (by omega)), if_neg (oNlt (c := c) (k := (8192 : Int32)) (n := 8192) (by decide) (by omega)), if_pos (oGt (c := c) (k := (8203 : Int32)) (n := 8203) (by decide) (by omega)), oF3_108, if_neg (oNlt (c := c) (k := (8206 : Int32)) (n := 8206) (by decide) (by omega)), if_pos (oGt (c := c) (k := (8303 : Int32)) (n := 8303) (by decide) (by omega)), oF3_124, if_neg (oNlt (c := c) (k := (8592 : Int32)) (n := 8592) (by decide) (by omega)), if_pos (oGt (c := c) (k := (11263 : Int32)) (n := 11263) (by decide) (by omega)), oF3_140, if_pos (oLt (c := c) (k := (12272 : Int32)) (n := 12272) (by decide) (by omega)), oF3_156, if_pos (oLt (c := c) (k := (55296 : Int32)) (n := 55296) (by decide) (by omega)), oF3_170, if_pos (oLt (c := c) (k := (64976 : Int32)) (n := 64976) (by decide) (by omega)), oF3_184, if_pos (oLt (c := c) (k := (65534 : Int32)) (n := 65534) (by decide) (by omega)), oF3_198]
    try decide
  rw [oF1_0, e_oF3_0, e_oF2_0]; rfl
theorem oI_22 (c : Int32) (h1 : 12272 ≤ c.toInt) (h2 : c.toInt ≤ 12288) : oF1_0 c = 1 := by
  have e_oF2_0 : oF2_0 c = 0 := by
    rw [oF2_0, if_neg (oNlt (c := c) (k := (97 : Int32)) (n := 97) (by decide) (by omega)), if_pos (oGt (c := c) (k := (122 : Int32)) (n := 122) (by decide) (by omega)), oF2_12, if_neg (oNlt (c := c) (k := (65 : Int32)) (n := 65) (by decide) (by omega)), if_pos (oGt (c := c) (k := (90 : Int32)) (n := 90) (by decide) (by omega)), oF2_24, if_neg (oNe (c := c) (k := (95 : Int32)) (n := 95) (by decide) (by omega)), if_neg (oNlt (c := c) (k := (192 : Int32)) (n := 192) (by decide) (by omega)), if_pos (oGt (c := c) (k := (214 : Int32)) (n := 214) (by decide) (by omega)), oF2_44, if_neg (oNlt (c := c) (k := (216 : Int32)) (n := 216) (by decide) (by omega)), if_pos (oGt (c := c) (k := (246 : Int32)) (n := 246) (by decide) (by omega)), oF2_58, if_neg (oNlt (c := c) (k := (248 : Int32)) (n := 248) (by decide) (by omega)), if_pos (oGt (c := c) (k := (767 : Int32)) (n := 767) (by decide) (by omega)), oF2_72, if_neg (oNlt (c := c) (k := (880 : Int32)) (n := 880) (by decide) (by omega)), if_pos (oGt (c := c) (k := (893 : Int32)) (n := 893) (by decide) (by omega)), oF2_86, if_neg (oNlt (c := c) (k := (895 : Int32)) (n := 895) (by decide) (by omega)), if_pos (oGt (c := c) (k := (8191 : Int32)) (n := 8191) (by decide) (by omega)), oF2_100, if_neg (oNlt (c := c) (k := (8204 : Int32)) (n := 8204) (by decide) (by omega)), if_pos (oGt (c := c) (k := (8205 : Int32)) (n := 8205) (by decide) (by omega)), oF2_114, if_neg (oNlt (c := c) (k := (8304 : Int32)) (n := 8304) (by decide) (by omega)), if_pos (oGt (c := c) (k := (8591 : Int32)) (n := 8591) (by decide) (by omega)), oF2_128, if_neg (oNlt (c := c) (k := (11264 : Int32)) (n := 11264) (by decide) (by omega)), if_pos (oGt (c := c) (k := (12271 : Int32)) (n := 12271) (by decide) (by omega)), oF2_142, if_pos (oLt (c := c) (k := (12289 : Int32)) (n := 12289) (by decide) (by omega)), oF2_155, if_pos (oLt (c := c) (k := (63744 : Int32)) (n := 63744) (by decide) (by omega)), oF2_167, if_pos (oLt (c := c) (k := (65008 : Int32)) (n := 65008) (by decide) (by omega)), oF2_179, if_pos (oLt (c := c) (k := (65536 : Int32)) (n := 65536) (by decide) (by omega)), oF2_195, oF2_196]
    try decide
  have e_oF3_0 : oF3_0 c = 1 := by
    rw [oF3_0, if_neg (oNlt (c := c) (k := (65 : Int32)) (n := 65) (by decide) (by omega)), if_neg (oNgt (c := c) (k := (983039 : Int32)) (n := 983039) (by decide) (by omega)), if_neg (oNlt (c := c) (k := (91 : Int32)) (n := 91) (by decide) (by omega)), if_pos (oGt (c := c) (k := (94 : Int32)) (n := 94) (by decide) (by omega)), oF3_28, if_neg (oNe (c := c) (k := (96 : Int32)) (n := 96) (by decide) (by omega)), if_neg (oNlt (c := c) (k := (123 : Int32)) (n := 123) (by decide) (by omega)), if_pos (oGt (c := c) (k := (191 : Int32)) (n := 191) (by decide) (by omega)), oF3_51, if_neg (oNe (c := c) (k := (215 : Int32)) (n := 215) (by decide) (by omega)), if_neg (oNe (c := c) (k := (247 : Int32)) (n := 247) (by decide) (by omega)), if_neg (oNlt (c := c) (k := (768 : Int32)) (n := 768) (by decide) (by omega)), if_pos (oGt (c := c) (k := (879 : Int32)) (n := 879) (by decide) (by omega)), oF3_83, if_neg (oNe (c := c) (k := (894 : Int32)) (n := 894) (by decide) (by omega)), if_neg (oNlt (c := c) (k := (8192 : Int32)) (n := 8192) (by decide) (by omega)), if_pos (oGt (c := c) (k := (8203 : Int32)) (n := 8203) (by decide) (by omega)), oF3_108, if_neg (oNlt (c := c) (k := (8206 : Int32)) (n := 8206) (by decide) (by omega)), if_pos (oGt (c := c) (k := (8303 : Int32)) (n := 8303) (by decide) (by omega)), oF3_124, if_neg (oNlt (c := c) (k := (8592 : Int32)) (n := 8592) (by decide) (by omega)), if_pos (oGt (c := c) (k := (11263 : Int32)) (n := 11263) (by decide) (by omega)), oF3_140, if_neg (oNlt (c := c) (k := (12272 : Int32)) (n := 12272) (by decide) (by omega)), if_neg (oNgt (c := c) (k := (12288 : Int32)) (n := 12288) (by decide) (by omega))]
    try decide
  rw [oF1_0, e_oF3_0, e_oF2_0]; rfl
theorem oI_23 (c : Int32) (h1 : 12289 ≤ c.toInt) (h2 : c.toInt ≤ 55295) : oF1_0 c = 1 := by
  have e_oF2_0 : oF2_0 c = 1 := by
    rw [oF2_0, if_neg (oNlt (c := c) (k := (97 : Int32)) (n := 97) (by decide) (by omega)), if_pos (oGt (c := c) (k := (122 : Int32)) (n := 122) (by decide) (by omega)), oF2_12, if_neg (oNlt (c := c) (k := (65 : Int32)) (n := 65) (by decide) (by omega)), if_pos (oGt (c := c) (k := (90 : Int32)) (n := 90) (by decide) (by omega)), oF2_24, if_neg (oNe (c := c) (k := (95 : Int32)) (n := 95) (by decide) (by omega)), if_neg (oNlt (c := c) (k := (192 : Int32)) (n := 192) (by decide) (by omega)), if_pos (oGt (c := c) (k := (214 : Int32)) (n := 214) (by decide) (by omega)), oF2_44, if_neg (oNlt (c := c) (k := (216 : Int32)) (n := 216) (by decide) (by omega)), if_pos (oGt (c := c) (k := (246 : Int32)) (n := 246) (by decide) (by omega)), oF2_58, if_neg (oNlt (c := c) (k := (248 : Int32)) (n := 248) (by decide) (by omega)), if_pos (oGt (c := c) (k := (767 : Int32)) (n := 767) (by decide) (by omega)), oF2_72, if_neg (oNlt (c := c) (k := (880 : Int32)) (n := 880) (by decide) (by omega)), if_pos (oGt (c := c) (k := (893 : Int32)) (n := 893) (by decide) (by omega)), oF2_86, if_neg (oNlt (c := c) (k := (895 : Int32)) (n := 895) (by decide) (by omega)), if_pos (oGt (c := c) (k := (8191 : Int32)) (n := 8191) (by decide) (by omega)), oF2_100, if_neg (oNlt (c := c) (k := (8204 : Int32)) (n := 8204) (by decide) (by omega)), if_pos (oGt (c := c) (k := (8205 : Int32)) (n := 8205) (by decide) (by omega)), oF2_114, if_neg (oNlt (c := c) (k := (8304 : Int32)) (n := 8304) (by decide) (by omega)), if_pos (oGt (c := c) (k := (8591 : Int32)) (n := 8591) (by decide) (by omega)), oF2_128, if_neg (oNlt (c := c) (k := (11264 : Int32)) (n := 11264) (by decide) (by omega)), if_pos (oGt (c := c) (k := (12271 : Int32)) (n := 12271) (by decide) (by omega)), oF2_142, if_neg (oNlt (c := c) (k := (12289 : Int32)) (n := 12289) (by decide) (by omega)), if_neg (oNgt (c := c) (k := (55295 : Int32)) (n := 55295) (by decide) (by omega)), oF2_191, oF2_196]
    try decide
  have e_oF3_0 : oF3_0 c = 0 := by
    rw [oF3_0, if_neg (oNlt (c := c) (k := (65 : Int32)) (n := 65) (by decide) (by omega)), if_neg (oNgt (c := c) (k := (983039 : Int32)) (n := 983039) (by decide) (by omega)), if_neg (oNlt (c := c) (k := (91 : Int32)) (n := 91) (by decide) (by omega)), if_pos (oGt (c := c) (k := (94 : Int32)) (n := 94) (by decide) (by omega)), oF3_28, if_neg (oNe (c := c) (k := (96 : Int32)) (n := 96) (by decide) (by omega)), if_neg (oNlt (c := c) (k := (123 : Int32)) (n := 123) (by decide) (by omega)), if_pos (oGt (c := c) (k := (191 : Int32)) (n := 191) (by decide) (by omega)), oF3_51, if_neg (oNe (c := c) (k := (215 : Int32)) (n := 215) (by decide) (by omega)), if_neg (oNe (c := c) (k := (247 : Int32)) (n := 247) (by decide) (by omega)), if_neg (oNlt (c := c) (k := (768 : Int32)) (n := 768) (by decide) (by omega)), if_pos (oGt (c := c) (k := (879 : Int32)) (n := 879) (by decide) (by omega)), oF3_83, if_neg (oNe (c := c) (k := (894 : Int32)) (n := 894) (by decide) (by omega)), if_neg (oNlt (c := c) (k := (8192 : Int32)) (n := 8192) (by decide) (by omega)), if_pos (oGt (c := c) (k := (8203 : Int32)) (n := 8203) (by decide) (by omega)), oF3_108, if_neg (oNlt (c := c) (k := (8206 : Int32)) (n := 8206) (by decide) (by omega)), if_pos (oGt (c := c) (k := (8303 : Int32)) (n := 8303) (by decide) (by omega)), oF3_124, if_neg (oNlt (c := c) (k := (8592 : Int32)) (n := 8592) (by decide) (by omega)), if_pos (oGt (c := c) (k := (11263 : Int32)) (n := 11263) (by decide) (by omega)), oF3_140, if_neg (oNlt (c := c) (k := (12272 : Int32)) (n := 12272) (by decide) (by omega)), if_pos (oGt (c := c) (k := (12288 : Int32)) (n := 12288) (by decide) (by omega)), oF3_156, if_pos (oLt (c := c) (k := (55296 : Int32)) (n := 55296) (by decide) (by omega)), oF3_170, if_pos (oLt (c := c) (k := (64976 : Int32)) (n := 64976) (by decide) (by omega)), oF3_184, if_pos (oLt (c := c) (k := (65534 : Int32)) (n := 65534) (by decide) (by omega)), oF3_198]
    try decide
  rw [oF1_0, e_oF3_0, e_oF2_0]; rfl
theorem oI_24 (c : Int32) (h1 : 55296 ≤ c.toInt) (h2 : c.toInt ≤ 63743) : oF1_0 c = 1 := by
  have e_oF2_0 : oF2_0 c = 0 := by
    rw [oF2_0, if_neg (oNlt (c := c) (k := (97 : Int32)) (n := 97) (by decide) (by omega)), if_pos (oGt (c := c) (k := (122 : Int32)) (n := 122) (by decide) (by omega)), oF2_12, if_neg (oNlt (c := c) (k := (65 : Int32)) (n := 65) (by decide) (by omega)), if_pos (oGt (c := c) (k := (90 : Int32)) (n := 90) (by decide) (by omega)), oF2_24, if_neg (oNe (c := c) (k := (95 : Int32)) (n := 95) (by decide) (by omega)), if_neg (oNlt (c := c) (k := (192 : Int32)) (n := 192) (by decide) (by omega)), if_pos (oGt (c := c) (k := (214 : Int32)) (n := 214) (by decide) (by omega)), oF2_44, if_neg (oNlt (c := c) (k := (216 : Int32)) (n := 216) (by decide) (by omega)), if_pos (oGt (c := c) (k := (246 : Int32)) (n := 246) (by decide) (by omega)), oF2_58, if_neg (oNlt (c := c) (k := (248 : Int32)) (n := 248) (by decide) (by omega)), if_pos (oGt (c := c) (k := (767 : Int32)) (n := 767) (by decide) (by omega)), oF2_72, if_neg (oNlt (c := c) (k := (880 : Int32)) (n := 880) (by decide) (by omega)), if_pos (oGt (c := c) (k := (893 : Int32)) (n := 893) (by decide) (by omega)), oF2_86, if_neg (oNlt (c := c) (k := (895 : Int32)) (n := 895) (by decide) (by omega)), if_pos (oGt (c := c) (k := (8191 : Int32)) (n := 8191) (by decide) (by omega)), oF2_100, if_neg (oNlt (c := c) (k := (8204 : Int32)) (n := 8204) (by decide) (by omega)), if_pos (oGt (c := c) (k := (8205 : Int32)) (n := 8205) (by decide) (by omega)), oF2_114, if_neg (oNlt (c := c) (k := (8304 : Int32)) (n := 8304) (by decide) (by omega)), if_pos (oGt (c := c) (k := (8591 : Int32)) (n := 8591) (by decide) (by omega)), oF2_128, if_neg (oNlt (c := c) (k := (11264 : Int32)) (n := 11264) (by decide) (by omega)), if_pos (oGt (c := c) (k := (12271 : Int32)) (n := 12271) (by decide) (by omega)), oF2_142, if_neg (oNlt (c := c) (k := (12289 : Int32)) (n := 12289) (by decide) (by omega)), if_pos (oGt (c := c) (k := (55295 : Int32)) (n := 55295) (by decide) (by omega)), oF2_155, if_pos (oLt (c := c) (k := (63744 : Int32)) (n := 63744) (by decide) (by omega)), oF2_167, if_pos (oLt (c := c) (k := (65008 : Int32)) (n := 65008) (by decide) (by omega)), oF2_179, if_pos (oLt (c := c) (k := (65536 : Int32)) (n := 65536) (by decide) (by omega)), oF2_195, oF2_196]
    try decide
  have e_oF3_0 : oF3_0 c = 1 := by
    rw [oF3_0, if_neg (oNlt (c := c) (k := (65 : Int32)) (n := 65) (by decide) (by omega)), if_neg (oNgt (c := c) (k := (983039 : Int32)) (n := 983039) (by decide) (by omega)), if_neg (oNlt (c := c) (k := (91 : Int32)) (n := 91) (by decide) (by omega)), if_pos (oGt (c := c) (k := (94 : Int32)) (n := 94) (by decide) (by omega)), oF3_28, if_neg (oNe (c := c) (k := (96 : Int32)) (n := 96) (by decide) (by omega)), if_neg (oNlt (c := c) (k := (123 : Int32)) (n := 123) (by decide) (by omega)), if_pos (oGt (c := c) (k := (191 : Int32)) (n := 191) (by decide) (by omega)), oF3_51, if_neg (oNe (c := c) (k := (215 : Int32)) (n := 215) (by decide) (by omega)), if_neg (oNe (c := c) (k := (247 : Int32)) (n := 247) (by decide) (by omega)), if_neg (oNlt (c := c) (k := (768 : Int32)) (n := 768) (by decide) (by omega)), if_pos (oGt (c := c) (k := (879 : Int32)) (n := 879) (by decide) (by omega)), oF3_83, if_neg (oNe (c := c) (k := (894 : Int32)) (n := 894) (by decide) (by omega)), if_neg (oNlt (c := c) (k := (8192 : Int32)) (n := 8192) (by decide) (by omega)), if_pos (oGt (c := c) (k := (8203 : Int32)) (n := 8203) (by decide) (by omega)), oF3_108, if_neg (oNlt (c := c) (k := (8206 : Int32)) (n := 8206) (by decide) (by omega)), if_pos (oGt (c := c) (k := (8303 : Int32)) (n := 8303) (by decide) (by omega)), oF3_124, if_neg (oNlt (c := c) (k := (8592 : Int32)) (n := 8592) (by decide) (by omega)), if_pos (oGt (c := c) (k := (11263 : Int32)) (n := 11263) (by decide) (by omega)), oF3_140, if_neg (oNlt (c := c) (k := (12272 : Int32)) (n := 12272) (by decide) (by omega)), if_pos (oGt (c := c) (k := (12288 : Int32)) (n := 12288) (by decide) (by omega)), oF3_156, if_neg (oNlt (c := c) (k := (55296 : Int32)) (n := 55296) (by decide) (by omega)), if_neg (oNgt (c := c) (k := (63743 : Int32)) (n := 63743) (by decide) (by omega))]
    try decide
  rw [oF1_0, e_oF3_0, e_oF2_0]; rfl
theorem oI_25 (c : Int32) (h1 : 63744 ≤ c.toInt) (h2 : c.toInt ≤ 64975) : oF1_0 c = 1 := by
  have e_oF2_0 : oF2_0 c = 1 := by
    rw [oF2_0, if_neg (oNlt (c := c) (k := (97 : Int32)) (n := 97) (by decide) (by omega)), if_pos (oGt (c := c) (k := (122 : Int32)) (n := 122) (by decide) (by omega)), oF2_12, if_neg (oNlt (c := c) (k := (65 : Int32)) (n := 65) (by decide) (by omega)), if_pos (oGt (c := c) (k := (90 : Int32)) (n := 90) (by decide) (by omega)), oF2_24, if_neg (oNe (c := c) (k := (95 : Int32)) (n := 95) (by decide) (by omega)), if_neg (oNlt (c := c) (k := (192 : Int32)) (n := 192) (by decide) (by omega)), if_pos (oGt (c := c) (k := (214 : Int32)) (n := 214) (by decide) (by omega)), oF2_44, if_neg (oNlt (c := c) (k := (216 : Int32)) (n := 216) (by decide) (by omega)), if_pos (oGt (c := c) (k := (246 : Int32)) (n := 246) (by decide) (by omega)), oF2_58, if_neg (oNlt (c := c) (k := (248 : Int32)) (n := 248) (by decide) (by omega)), if_pos (oGt (c := c) (k := (767 : Int32)) (n := 767) (by decide) (by omega)), oF2_72, if_neg (oNlt (c := c) (k := (880 : Int32)) (n := 880) (by decide) (by omega)), if_pos (oGt (c := c) (k := (893 : Int32)) (n := 893) (by decide) (by omega)), oF2_86, if_neg (oNlt (c := c) (k := (895 : Int32)) (n := 895) (by decide) (by omega)), if_pos (oGt (c := c) (k := (8191 : Int32)) (n := 8191) (by decide) (by omega)), oF2_100, if_neg (oNlt (c := c) (k := (8204 : Int32)) (n := 8204) (by decide) (by omega)), if_pos (oGt (c := c) (k := (8205 : Int32)) (n := 8205) (by decide) (by omega)), oF2_114, if_neg (oNlt (c := c) (k := (8304 : Int32)) (n := 8304) (by decide) (by omega)), if_pos (oGt (c := c) (k := (8591 : Int32)) (n := 8591) (by decide) (by omega)), oF2_128, if_neg (oNlt (c := c) (k := (11264 : Int32)) (n := 11264) (by decide) (by omega)), if_pos (oGt (c := c) (k := (12271 : Int32)) (n := 12271) (by decide) (by omega)), oF2_142, if_neg (oNlt (c := c) (k := (12289 : Int32)) (n := 12289) (by decide) (by omega)), if_pos (oGt (c := c) (k := (55295 : Int32)) (n := 55295) (by decide) (by omega)), oF2_155, if_neg (oNlt (c := c) (k := (63744 : Int32)) (n := 63744) (by decide) (by omega)), if_neg (oNgt (c := c) (k := (64975 : Int32)) (n := 64975) (by decide) (by omega)), oF2_191, oF2_196]
    try decide
  have e_oF3_0 : oF3_0 c = 0 := by
    rw [oF3_0, if_neg (oNlt (c := c) (k := (65 : Int32)) (n := 65) (by decide) (by omega)), if_neg (oNgt (c := c) (k := (983039 : Int32)) (n := 983039) (by decide) (by omega)), if_neg (oNlt (c := c) (k := (91 : Int32)) (n := 91) (by decide) (by omega)), if_pos (oGt (c := c) (k := (94 : Int32)) (n := 94) (by decide) (by omega)), oF3_28, if_neg (oNe (c := c) (k := (96 : Int32)) (n := 96) (by decide) (by omega)), if_neg (oNlt (c := c) (k := (123 : Int32)) (n := 123) (by decide) (by omega)), if_pos (oGt (c := c) (k := (191 : Int32)) (n := 191) (by decide) (by omega)), oF3_51, if_neg (oNe (c := c) (k := (215 : Int32)) (n := 215) (by decide) (by omega)), if_neg (oNe (c := c) (k := (247 : Int32)) (n := 247) (by decide) (by omega)), if_neg (oNlt (c := c) (k := (768 : Int32)) (n := 768) (by decide) (by omega)), if_pos (oGt (c := c) (k := (879 : Int32)) (n := 879) (by decide) (by omega)), oF3_83, if_neg (oNe (c := c) (k := (894 : Int32)) (n := 894) (by decide) (by omega)), if_neg (oNlt (c := c) (k := (8192 : Int32)) (n := 8192) (by decide) (by omega)), if_pos (oGt (c := c) (k := (8203 : Int32)) (n := 8203) (by decide) (by omega)), oF3_108, if_neg (oNlt (c := c) (k := (8206 : Int32)) (n := 8206) (by decide) (by omega)), if_pos (oGt (c := c) (k := (8303 : Int32)) (n := 8303) (by decide) (by omega)), oF3_124, if_neg (oNlt (c := c) (k := (8592 : Int32)) (n := 8592) (by decide) (by omega)), if_pos (oGt (c := c) (k := (11263 : Int32)) (n := 11263) (by decide) (by omega)), oF3_140, if_neg (oNlt (c := c) (k := (12272 : Int32)) (n := 12272) (by decide) (by omega)), if_pos (oGt (c := c) (k := (12288 : Int32)) (n := 12288) (by decide) (by omega)), oF3_156, if_neg (oNlt (c := c) (k := (55296 : Int32)) (n := 55296) (by decide) (by omega)), if_pos (oGt (c := c) (k := (63743 : Int32)) (n := 63743) (by decide) (by omega)), oF3_170, if_pos (oLt (c := c) (k := (64976 : Int32)) (n := 64976) (by decide) (by omega)), oF3_184, if_pos (oLt (c := c) (k := (65534 : Int32)) (n := 65534) (by decide) (by omega)), oF3_198]
    try decide
  rw [oF1_0, e_oF3_0, e_oF2_0]; rfl
theorem oI_26 (c : Int32) (h1 : 64976 ≤ c.toInt) (h2 : c.toInt ≤ 65007) : oF1_0 c = 1 := by
  have e_oF2_0 : oF2_0 c = 0 := by
    rw [oF2_0, if_neg (oNlt (c := c) (k := (97 : Int32)) (n := 97) (by decide) (by omega)), if_pos (oGt (c := c) (k := (122 : Int32)) (n := 122) (by decide) (by omega)), oF2_12, if_neg (oNlt (c := c) (k := (65 : Int32)) (n := 65) (by decide) (by omega)), if_pos (oGt (c := c) (k := (90 : Int32)) (n := 90) (by decide) (by omega)), oF2_24, if_neg (oNe (c := c) (k := (95 : Int32)) (n := 95) (by decide) (by omega)), if_neg (oNlt (c := c) (k := (192 : Int32)) (n := 192) (by decide) (by omega)), if_pos (oGt (c := c) (k := (214 : Int32)) (n := 214) (by decide) (by omega)), oF2_44, if_neg (oNlt (c := c) (k := (216 : Int32)) (n := 216) (by decide) (by omega)), if_pos (oGt (c := c) (k := (246 : Int32)) (n := 246) (by decide) (by omega)), oF2_58, if_neg (oNlt (c := c) (k := (248 : Int32)) (n := 248) (by decide) (by omega)), if_pos (oGt (c := c) (k := (767 : Int32)) (n := 767) (by decide) (by omega)), oF2_72, if_neg (oNlt (c := c) (k := (880 : Int32)) (n := 880) (by decide) (by omega)), if_pos (oGt (c := c) (k := (893 : Int32)) (n := 893) (by decide) (by omega)), oF2_86, if_neg (oNlt (c := c) (k := (895 : Int32)) (n := 895) (by decide) (by omega)), if_pos (oGt (c := c) (k := (8191 : Int32)) (n := 8191) (by decide) (by omega)), oF2_100, if_neg (oNlt (c := c) (k := (8204 : Int32)) (n := 8204) (by decide) (by omega)), if_pos (oGt (c := c) (k := (8205 : Int32)) (n := 8205) (by decide) (by omega)), oF2_114, if_neg (oNlt (c := c) (k := (8304 : Int32)) (n := 8304) (by decide) (by omega)), if_pos (oGt (c := c) (k := (8591 : Int32)) (n := 8591) (by decide) (by omega)), oF2_128, if_neg (oNlt (c := c) (k := (11264 : Int32)) (n := 11264) (by decide) (by omega)), if_pos (oGt (c := c) (k := (12271 : Int32)) (n := 12271) (by decide) (by omega)), oF2_142, if_neg (oNlt (c := c) (k := (12289 : Int32)) (n := 12289) (by decide) (by omega)), if_pos (oGt (c := c) (k := (55295 : Int32)) (n := 55295) (by decide) (by omega)), oF2_155, if_neg (oNlt (c := c) (k := (63744 : Int32)) (n := 63744) (by decide) (by omega)), if_pos (oGt (c := c) (k := (64975 : Int32)) (n := 64975) (by decide) (by omega)), oF2_167, if_pos (oLt (c := c) (k := (65008 : Int32)) (n := 65008) (by decide) (by omega)), oF2_179, if_pos (oLt (c := c) (k := (65536 : Int32)) (n := 65536) (by decide) (by omega)), oF2_195, oF2_196]
    try decide
  have e_oF3_0 : oF3_0 c = 1 := by
    rw [oF3_0, if_neg (oNlt (c := c) (k := (65 : Int32)) (n := 65) (by decide) (by omega)), if_neg (oNgt (c := c) (k := (983039 : Int32)) (n := 983039) (by decide) (by omega)), if_neg (oNlt (c := c) (k := (91 : Int32)) (n := 91) (by decide) (by omega)), if_pos (oGt (c := c) (k := (94 : Int32)) (n := 94) (by decide) (by omega)), oF3_28, if_neg (oNe (c := c) (k := (96 : Int32)) (n := 96) (by decide) (by omega)), if_neg (oNlt (c := c) (k := (123 : Int32)) (n := 123) (by decide) (by omega)), if_pos (oGt (c := c) (k := (191 : Int32)) (n := 191) (by decide) (by omega)), oF3_51, if_neg (oNe (c := c) (k := (215 : Int32)) (n := 215) (by decide) (by omega)), if_neg (oNe (c := c) (k := (247 : Int32)) (n := 247) (by decide) (by omega)), if_neg (oNlt (c := c) (k := (768 : Int32)) (n := 768) (by decide) (by omega)), if_pos (oGt (c := c) (k := (879 : Int32)) (n := 879) (by decide) (by omega)), oF3_83, if_neg (oNe (c := c) (k := (894 : Int32)) (n := 894) (by decide) (by omega)), if_neg (oNlt (c := c) (k := (8192 : Int32)) (n := 8192) (by decide) (by omega)), if_pos (oGt (c := c) (k := (8203 : Int32)) (n := 8203) (by decide) (by omega)), oF3_108, if_neg (oNlt (c := c) (k := (8206 : Int32)) (n := 8206) (by decide) (by omega)), if_pos (oGt (c := c) (k := (8303 : Int32)) (n := 8303) (by decide) (by omega)), oF3_124, if_neg (oNlt (c := c) (k := (8592 : Int32)) (n := 8592) (by decide) (by omega)), if_pos (oGt (c := c) (k := (11263 : Int32)) (n := 11263) (by decide) (by omega)), oF3_140, if_neg (oNlt (c := c) (k := (12272 : Int32)) (n := 12272) (by decide) (by omega)), if_pos (oGt (c := c) (k := (12288 : Int32)) (n := 12288) (by decide) (by omega)), oF3_156, if_neg (oNlt (c := c) (k := (55296 : Int32)) (n := 55296) (by decide) (by omega)), if_pos (oGt (c := c) (k := (63743 : Int32)) (n := 63743) (by decide) (by omega)), oF3_170, if_neg (oNlt (c := c) (k := (64976 : Int32)) (n := 64976) (by decide) (by omega)), if_neg (oNgt (c := c) (k := (65007 : Int32)) (n := 65007) (by decide) (by omega))]
    try decide
  rw [oF1_0, e_oF3_0, e_oF2_0]; rfl
theorem oI_27 (c : Int32) (h1 : 65008 ≤ c.toInt) (h2 : c.toInt ≤ 65533) : oF1_0 c = 1 := by
  have e_oF2_0 : oF2_0 c = 1 := by
    rw [oF2_0, if_neg (oNlt (c := c) (k := (97 : Int32)) (n := 97) (by decide) (by omega)), if_pos (oGt (c := c) (k := (122 : Int32)) (n := 122) (by decide) (by omega)), oF2_12, if_neg (oNlt (c := c) (k := (65 : Int32)) (n := 65) (by decide) (by omega)), if_pos (oGt (c := c) (k := (90 : Int32)) (n := 90) (by decide) (by omega)), oF2_24, if_neg (oNe (c := c) (k := (95 : Int32)) (n := 95) (by decide) (by omega)), if_neg (oNlt (c := c) (k := (192 : Int32)) (n := 192) (by decide) (by omega)), if_pos (oGt (c := c) (k := (214 : Int32)) (n := 214) (by decide) (by omega)), oF2_44, if_neg (oNlt (c := c) (k := (216 : Int32)) (n := 216) (by decide) (by omega)), if_pos (oGt (c := c) (k := (246 : Int32)) (n := 246) (by decide) (by omega)), oF2_58, if_neg (oNlt (c := c) (k := (248 : Int32)) (n := 248) (by decide) (by omega)), if_pos (oGt (c := c) (k := (767 : Int32)) (n := 767) (by decide) (by omega)), oF2_72, if_neg (oNlt (c := c) (k := (880 : Int32)) (n := 880) (by decide) (by omega)), if_pos (oGt (c := c) (k := (893 : Int32)) (n := 893) (by decide) (by omega)), oF2_86, if_neg (oNlt (c := c) (k := (895 : Int32)) (n := 895) (by decide) (by omega)), if_pos (oGt (c := c) (k := (8191 : Int32)) (n := 8191) (by decide) (by omega)), oF2_100, if_neg (oNlt (c := c) (k := (8204 : Int32)) (n := 8204) (by decide) (by omega)), if_pos (oGt (c := c) (k := (8205 : Int32)) (n := 8205) (by decide) (by omega)), oF2_114, if_neg (oNlt (c := c) (k := (8304 : Int32)) (n := 8304) (by decide) (by omega)), if_pos (oGt (c := c) (k := (8591 : Int32)) (n := 8591) (by decide) (by omega)), oF2_128, if_neg (oNlt (c := c) (k := (11264 : Int32)) (n := 11264) (by decide) (by omega)), if_pos (oGt (c := c) (k := (12271 : Int32)) (n := 12271) (by decide) (by omega)), oF2_142, if_neg (oNlt (c := c) (k := (12289 : Int32)) (n := 12289) (by decide) (by omega)), if_pos (oGt (c := c) (k := (55295 : Int32)) (n := 55295) (by decide) (by omega)), oF2_155, if_neg (oNlt (c := c) (k := (63744 : Int32)) (n := 63744) (by decide) (by omega)), if_pos (oGt (c := c) (k := (64975 : Int32)) (n := 64975) (by decide) (by omega)), oF2_167, if_neg (oNlt (c := c) (k := (65008 : Int32)) (n := 65008) (by decide) (by omega)), if_neg (oNgt (c := c) (k := (65533 : Int32)) (n := 65533) (by decide) (by omega)), oF2_191, oF2_196]
    try decide
  have e_oF3_0 : oF3_0 c = 0 := by
    rw [oF3_0, if_neg (oNlt (c := c) (k := (65 : Int32)) (n := 65) (by decide) (by omega)), if_neg (oNgt (c := c) (k := (983039 : Int32)) (n := 983039) (by decide) (by omega)), if_neg (oNlt (c := c) (k := (91 : Int32)) (n := 91) (by decide) (by omega)), if_pos (oGt (c := c) (k := (94 : Int32)) (n := 94) (by decide) (by omega)), oF3_28, if_neg (oNe (c := c) (k := (96 : Int32)) (n := 96) (by decide) (by omega)), if_neg (oNlt (c := c) (k := (123 : Int32)) (n := 123) (by decide) (by omega)), if_pos (oGt (c := c) (k := (191 : Int32)) (n := 191) (by decide) (by omega)), oF3_51, if_neg (oNe (c := c) (k := (215 : Int32)) (n := 215) (by decide) (by omega)), if_neg (oNe (c := c) (k := (247 : Int32)) (n := 247) (by decide) (by omega)), if_neg (oNlt (c := c) (k := (768 : Int32)) (n := 768) (by decide) (by omega)), if_pos (oGt (c := c) (k := (879 : Int32)) (n := 879) (by decide) (by omega)), oF3_83, if_neg (oNe (c := c) (k := (894 : Int32)) (n := 894) (by decide) (by omega)), if_neg (oNlt (c := c) (k := (8192 : Int32)) (n := 8192) (by decide) (by omega)), if_pos (oGt (c := c) (k := (8203 : Int32)) (n := 8203) (by decide) (by omega)), oF3_108, if_neg (oNlt (c := c) (k := (8206 : Int32)) (n := 8206) (by decide) (by omega)), if_pos (oGt (c := c) (k := (8303 : Int32)) (n := 8303) (by decide) (by omega)), oF3_124, if_neg (oNlt (c := c) (k := (8592 : Int32)) (n := 8592) (by decide) (by omega)), if_pos (oGt (c := c) (k := (11263 : Int32)) (n := 11263) (by decide) (by omega)), oF3_140, if_neg (oNlt (c := c) (k := (12272 : Int32)) (n := 12272) (by decide) (by omega)), if_pos (oGt (c := c) (k := (12288 : Int32)) (n := 12288) (by decide) (by omega)), oF3_156, if_neg (oNlt (c := c) (k := (55296 : Int32)) (n := 55296) (by decide) (by omega)), if_pos (oGt (c := c) (k := (63743 : Int32)) (n := 63743) (by decide) (by omega)), oF3_170, if_neg (oNlt (c := c) (k := (64976 : Int32)) (n := 64976) (by decide) (by omega)), if_pos (oGt (c := c) (k := (65007 : Int32)) (n := 65007) (by decide) (by omega)), oF3_184, if_pos (oLt (c := c) (k := (65534 : Int32)) (n := 65534) (by decide) (by omega)), oF3_198]
    try decide
  rw [oF1_0, e_oF3_0, e_oF2_0]; rfl
theorem oI_28 (c : Int32) (h1 : 65534 ≤ c.toInt) (h2 : c.toInt ≤ 65535) : oF1_0 c = 1 := by
  have e_oF2_0 : oF2_0 c = 0 := by
    rw [oF2_0, if_neg (oNlt (c := c) (k := (97 : Int32)) (n := 97) (by decide) (by omega)), if_pos (oGt (c := c) (k := (122 : Int32)) (n := 122) (by decide) (by omega)), oF2_12, if_neg (oNlt (c := c) (k := (65 : Int32)) (n := 65) (by decide) (by omega)), if_pos (oGt (c := c) (k := (90 : Int32)) (n := 90) (by decide) (by omega)), oF2_24, if_neg (oNe (c := c) (k := (95 : Int32)) (n := 95) (by decide) (by omega)), if_neg (oNlt (c := c) (k := (192 : Int32)) (n := 192) (by decide) (by omega)), if_pos (oGt (c := c) (k := (214 : Int32)) (n := 214) (by decide) (by omega)), oF2_44, if_neg (oNlt (c := c) (k := (216 : Int32)) (n := 216) (by decide) (by omega)), if_pos (oGt (c := c) (k := (246 : Int32)) (n := 246) (by decide) (by omega)), oF2_58, if_neg (oNlt (c := c) (k := (248 : Int32)) (n := 248) (by decide) (by omega)), if_pos (oGt (c := c) (k := (767 : Int32)) (n := 767) (by decide) (by omega)), oF2_72, if_neg (oNlt (c := c) (k := (880 : Int32)) (n := 880) (by decide) (by omega)), if_pos (oGt (c := c) (k := (893 : Int32)) (n := 893) (by decide) (by omega)), oF2_86, if_neg (oNlt (c := c) (k := (895 : Int32)) (n := 895) (by decide) (by omega)), if_pos (oGt (c := c) (k := (8191 : Int32)) (n := 8191) (by decide) (by omega)), oF2_100, if_neg (oNlt (c := c) (k := (8204 : Int32)) (n := 8204) (by decide) (by omega)), if_pos (oGt (c := c) (k := (8205 : Int32)) (n := 8205) (by decide) (by omega)), oF2_114, if_neg (oNlt (c := c) (k := (8304 : Int32)) (n := 8304) (by decide) (by omega)), if_pos (oGt (c := c) (k := (8591 : Int32)) (n := 8591) (by decide) (by omega)), oF2_128, if_neg (oNlt (c := c) (k := (11264 : Int32)) (n := 11264) (by decide) (by omega)), if_pos (oGt (c := c) (k := (12271 : Int32)) (n := 12271) (by decide) (by omega)), oF2_142, if_neg (oNlt (c := c) (k := (12289 : Int32)) (n := 12289) (by decide) (by omega)), if_pos (oGt (c := c) (k := (55295 : Int32)) (n := 55295) (by decide) (by omega)), oF2_155, if_neg (oNlt (c := c) (k := (63744 : Int32)) (n := 63744) (by decide) (by omega)), if_pos (oGt (c := c) (k := (64975 : Int32)) (n := 64975) (by decide) (by omega)), oF2_167, if_neg (oNlt (c := c) (k := (65008 : Int32)) (n := 65008) (by decide) (by omega)), if_pos (oGt (c := c) (k := (65533 : Int32)) (n := 65533) (by decide) (by omega)), oF2_179, if_pos (oLt (c := c) (k := (65536 : Int32)) (n := 65536) (by decide) (by omega)), oF2_195, oF2_196]
    try decide
  have e_oF3_0 : oF3_0 c = 1 := by
    rw [oF3_0, if_neg (oNlt (c := c) (k := (65 : Int32)) (n := 65) (by decide) (by omega)), if_neg (oNgt (c := c) (k := (983039 : Int32)) (n := 983039) (by decide) (by omega)), if_neg (oNlt (c := c) (k := (91 : Int32)) (n := 91) (by decide) (by omega)), if_pos (oGt (c := c) (k := (94 : Int32)) (n := 94) (by decide) (by omega)), oF3_28, if_neg (oNe (c := c) (k := (96 : Int32)) (n := 96) (by decide) (by omega)), if_neg (oNlt (c := c) (k := (123 : Int32)) (n := 123) (by decide) (by omega)), if_pos (oGt (c := c) (k := (191 : Int32)) (n := 191) (by decide) (by omega)), oF3_51, if_neg (oNe (c := c) (k := (215 : Int32)) (n := 215) (by decide) (by omega)), if_neg (oNe (c := c) (k := (247 : Int32)) (n := 247) (by decide) (by omega)), if_neg (oNlt (c := c) (k := (768 : Int32)) (n := 768) (by decide) (by omega)), if_pos (oGt (c := c) (k := (879 : Int32)) (n := 879) (by decide) (by omega)), oF3_83, if_neg (oNe (c := c) (k := (894 : Int32)) (n := 894) (by decide) (by omega)), if_neg (oNlt (c := c) (k := (8192 : Int32)) (n := 8192) (by decide) (by omega)), if_pos (oGt (c := c) (k := (8203 : Int32)) (n := 8203) (by decide) (by omega)), oF3_108, if_neg (oNlt (c := c) (k := (8206 : Int32)) (n := 8206) (by decide) (by omega)), if_pos (oGt (c := c) (k := (8303 : Int32)) (n := 8303) (by decide) (by omega)), oF3_124, if_neg (oNlt (c := c) (k := (8592 : Int32)) (n := 8592) (by decide) (by omega)), if_pos (oGt (c := c) (k := (11263 : Int32)) (n := 11263) (by decide) (by omega)), oF3_140, if_neg (oNlt (c := c) (k := (12272 : Int32)) (n := 12272) (by decide) (by omega)), if_pos (oGt (c := c) (k := (12288 : Int32)) (n := 12288) (by decide) (by omega)), oF3_156, if_neg (oNlt (c := c) (k := (55296 : Int32)) (n := 55296) (by decide) (by omega)), if_pos (oGt (c := c) (k := (63743 : Int32)) (n := 63743) (by decide) (by omega)), oF3_170, if_neg (oNlt (c := c) (k := (64976 : Int32)) (n := 64976) (by decide) (by omega)), if_pos (oGt (c := c) (k := (65007 : Int32)) (n := 65007) (by decide) (by omega)), oF3_184, if_neg (oNlt (c := c) (k := (65534 : Int32)) (n := 65534) (by decide) (by omega)), if_neg (oNgt (c := c) (k := (65535 : Int32)) (n := 65535) (by decide) (by omega))]
    try decide
  rw [oF1_0, e_oF3_0, e_oF2_0]; rfl
theorem oI_29 (c : Int32) (h1 : 65536 ≤ c.toInt) (h2 : c.toInt ≤ 983039) : oF1_0 c = 1 := by
  have e_oF2_0 : oF2_0 c = 1 := by
    rw [oF2_0, if_neg (oNlt (c := c) (k := (97 : Int32)) (n := 97) (by decide) (by omega)), if_pos (oGt (c := c) (k := (122 : Int32)) (n := 122) (by decide) (by omega)), oF2_12, if_neg (oNlt (c := c) (k := (65 : Int32)) (n := 65) (by decide) (by omega)), if_pos (oGt (c := c) (k := (90 : Int32)) (n := 90) (by decide) (by omega)), oF2_24, if_neg (oNe (c := c) (k := (95 : Int32)) (n := 95) (by decide) (by omega)), if_neg (oNlt (c := c) (k := (192 : Int32)) (n := 192) (by decide) (by omega)), if_pos (oGt (c := c) (k := (214 : Int32)) (n := 214) (by decide) (by omega)), oF2_44, if_neg (oNlt (c := c) (k := (216 : Int32)) (n := 216) (by decide) (by omega)), if_pos (oGt (c := c) (k := (246 : Int32)) (n := 246) (by decide) (by omega)), oF2_58, if_neg (oNlt (c := c) (k := (248 : Int32)) (n := 248) (by decide) (by omega)), if_pos (oGt (c := c) (k := (767 : Int32)) (n := 767) (by decide) (by omega)), oF2_72, if_neg (oNlt (c := c) (k := (880 : Int32)) (n := 880) (by decide) (by omega)), if_pos (oGt (c := c) (k := (893 : Int32)) (n := 893) (by decide) (by omega)), oF2_86, if_neg (oNlt (c := c) (k := (895 : Int32)) (n := 895) (by decide) (by omega)), if_pos (oGt (c := c) (k := (8191 : Int32)) (n := 8191) (by decide) (by omega)), oF2_100, if_neg (oNlt (c := c) (k := (8204 : Int32)) (n := 8204) (by decide) (by omega)), if_pos (oGt (c := c) (k := (8205 : Int32)) (n := 8205) (by decide) (by omega)), oF2_114, if_neg (oNlt (c := c) (k := (8304 : Int32)) (n := 8304) (by decide) (by omega)), if_pos (oGt (c := c) (k := (8591 : Int32)) (n := 8591) (by decide) (by omega)), oF2_128, if_neg (oNlt (c := c) (k := (11264 : Int32)) (n := 11264) (by decide) (by omega)), if_pos (oGt (c := c) (k := (12271 : Int32)) (n := 12271) (by decide) (by omega)), oF2_142, if_neg (oNlt (c := c) (k := (12289 : Int32)) (n := 12289) (by decide) (by omega)), if_pos (oGt (c := c) (k := (55295 : Int32)) (n := 55295) (by decide) (by omega)), oF2_155, if_neg (oNlt (c := c) (k := (63744 : Int32)) (n := 63744) (by decide) (by omega)), if_pos (oGt (c := c) (k := (64975 : Int32)) (n := 64975) (by decide) (by omega)), oF2_167, if_neg (oNlt (c := c) (k := (65008 : Int32)) (n := 65008) (by decide) (by omega)), if_pos (oGt (c := c) (k := (65533 : Int32)) (n := 65533) (by decide) (by omega)), oF2_179, if_neg (oNlt (c := c) (k := (65536 : Int32)) (n := 65536) (by decide) (by omega)), if_neg (oNgt (c := c) (k := (983039 : Int32)) (n := 983039) (by decide) (by omega)), oF2_191, oF2_196]
    try decide
  have e_oF3_0 : oF3_0 c = 0 := by
    rw [oF3_0, if_neg (oNlt (c := c) (k := (65 : Int32)) (n := 65) (by decide) (by omega)), if_neg (oNgt (c := c) (k := (983039 : Int32)) (n := 983039) (by decide) (by omega)), if_neg (oNlt (c := c) (k := (91 : Int32)) (n := 91) (by decide) (by omega)), if_pos (oGt (c := c) (k := (94 : Int32)) (n := 94) (by decide) (by omega)), oF3_28, if_neg (oNe (c := c) (k := (96 : Int32)) (n := 96) (by decide) (by omega)), if_neg (oNlt (c := c) (k := (123 : Int32)) (n := 123) (by decide) (by omega)), if_pos (oGt (c := c) (k := (191 : Int32)) (n := 191) (by decide) (by omega)), oF3_51, if_neg (oNe (c := c) (k := (215 : Int32)) (n := 215) (by decide) (by omega)), if_neg (oNe (c := c) (k := (247 : Int32)) (n := 247) (by decide) (by omega)), if_neg (oNlt (c := c) (k := (768 : Int32)) (n := 768) (by decide) (by omega)), if_pos (oGt (c := c) (k := (879 : Int32)) (n := 879) (by decide) (by omega)), oF3_83, if_neg (oNe (c := c) (k := (894 : Int32)) (n := 894) (by decide) (by omega)), if_neg (oNlt (c := c) (k := (8192 : Int32)) (n := 8192) (by decide) (by omega)), if_pos (oGt (c := c) (k := (8203 : Int32)) (n := 8203) (by decide) (by omega)), oF3_108, if_neg (oNlt (c := c) (k := (8206 : Int32)) (n := 8206) (by decide) (by omega)), if_pos (oGt (c := c) (k := (8303 : Int32)) (n := 8303) (by decide) (by omega)), oF3_124, if_neg (oNlt (c := c) (k := (8592 : Int32)) (n := 8592) (by decide) (by omega)), if_pos (oGt (c := c) (k := (11263 : Int32)) (n := 11263) (by decide) (by omega)), oF3_140, if_neg (oNlt (c := c) (k := (12272 : Int32)) (n := 12272) (by decide) (by omega)), if_pos (oGt (c := c) (k := (12288 : Int32)) (n := 12288) (by decide) (by omega)), oF3_156, if_neg (oNlt (c := c) (k := (55296 : Int32)) (n := 55296) (by decide) (by omega)), if_pos (oGt (c := c) (k := (63743 : Int32)) (n := 63743) (by decide) (by omega)), oF3_170, if_neg (oNlt (c := c) (k := (64976 : Int32)) (n := 64976) (by decide) (by omega)), if_pos (oGt (c := c) (k := (65007 : Int32)) (n := 65007) (by decide) (by omega)), oF3_184, if_neg (oNlt (c := c) (k := (65534 : Int32)) (n := 65534) (by decide) (by omega)), if_pos (oGt (c := c) (k := (65535 : Int32)) (n := 65535) (by decide) (by omega)), oF3_198]
    try decide
  rw [oF1_0, e_oF3_0, e_oF2_0]; rfl
theorem oI_30 (c : Int32) (h1 : 983040 ≤ c.toInt) (h2 : c.toInt ≤ 2147483647) : oF1_0 c = 1 := by
  have e_oF2_0 : oF2_0 c = 0 := by
    rw [oF2_0, if_neg (oNlt (c := c) (k := (97 : Int32)) (n := 97) (by decide) (by omega)), if_pos (oGt (c := c) (k := (122 : Int32)) (n := 122) (by decide) (by omega)), oF2_12, if_neg (oNlt (c := c) (k := (65 : Int32)) (n := 65) (by decide) (by omega)), if_pos (oGt (c := c) (k := (90 : Int32)) (n := 90) (by decide) (by omega)), oF2_24, if_neg (oNe (c := c) (k := (95 : Int32)) (n := 95) (by decide) (by omega)), if_neg (oNlt (c := c) (k := (192 : Int32)) (n := 192) (by decide) (by omega)), if_pos (oGt (c := c) (k := (214 : Int32)) (n := 214) (by decide) (by omega)), oF2_44, if_neg (oNlt (c := c) (k := (216 : Int32)) (n := 216) (by decide) (by omega)), if_pos (oGt (c := c) (k := (246 : Int32)) (n := 246) (by decide) (by omega)), oF2_58, if_neg (oNlt (c := c) (k := (248 : Int32)) (n := 248) (by decide) (by omega)), if_pos (oGt (c := c) (k := (767 : Int32)) (n := 767) (by decide) (by omega)), oF2_72, if_neg (oNlt (c := c) (k := (880 : Int32)) (n := 880) (by decide) (by omega)), if_pos (oGt (c := c) (k := (893 : Int32)) (n := 893) (by decide) (by omega)), oF2_86, if_neg (oNlt (c := c) (k := (895 : Int32)) (n := 895) (by decide) (by omega)), if_pos (oGt (c := c) (k := (8191 : Int32)) (n := 8191) (by decide) (by omega)), oF2_100, if_neg (oNlt (c := c) (k := (8204 : Int32)) (n := 8204) (by decide) (by omega)), if_pos (oGt (c := c) (k := (8205 : Int32)) (n := 8205) (by decide) (by omega)), oF2_114, if_neg (oNlt (c := c) (k := (8304 : Int32)) (n := 8304) (by decide) (by omega)), if_pos (oGt (c := c) (k := (8591 : Int32)) (n := 8591) (by decide) (by omega)), oF2_128, if_neg (oNlt (c := c) (k := (11264 : Int32)) (n := 11264) (by decide) (by omega)), if_pos (oGt (c := c) (k := (12271 : Int32)) (n := 12271) (by decide) (by omega)), oF2_142, if_neg (oNlt (c := c) (k := (12289 : Int32)) (n := 12289) (by decide) (by omega)), if_pos (oGt (c := c) (k := (55295 : Int32)) (n := 55295) (by decide) (by omega)), oF2_155, if_neg (oNlt (c := c) (k := (63744 : Int32)) (n := 63744) (by decide) (by omega)), if_pos (oGt (c := c) (k := (64975 : Int32)) (n := 64975) (by decide) (by omega)), oF2_167, if_neg (oNlt (c := c) (k := (65008 : Int32)) (n := 65008) (by decide) (by omega)), if_pos (oGt (c := c) (k := (65533 : Int32)) (n := 65533) (by decide) (by omega)), oF2_179, if_neg (oNlt (c := c) (k := (65536 : Int32)) (n := 65536) (by decide) (by omega)), if_pos (oGt (c := c) (k := (983039 : Int32)) (n := 983039) (by decide) (by omega)), oF2_195, oF2_196]
    try decide
  have e_oF3_0 : oF3_0 c = 1 := by
    rw [oF3_0, if_neg (oNlt (c := c) (k := (65 : Int32)) (n := 65) (by decide) (by omega)), if_pos (oGt (c := c) (k := (983039 : Int32)) (n := 983039) (by decide) (by omega)), oF3_12]
    try decide
  rw [oF1_0, e_oF3_0, e_oF2_0]; rfl
theorem oAgree (c : Int32) : oF1_0 c = 1 := by
  have hlo := c.le_toInt
  have hhi := c.toInt_lt
  by_cases g0 : c.toInt ≤ 64
  · exact oI_0 c (by omega) g0
  by_cases g1 : c.toInt ≤ 90
  · exact oI_1 c (by omega) g1
  by_cases g2 : c.toInt ≤ 94
  · exact oI_2 c (by omega) g2
  by_cases g3 : c.toInt ≤ 95
  · exact oI_3 c (by omega) g3
  by_cases g4 : c.toInt ≤ 96
  · exact oI_4 c (by omega) g4
  by_cases g5 : c.toInt ≤ 122
  · exact oI_5 c (by omega) g5
  by_cases g6 : c.toInt ≤ 191
  · exact oI_6 c (by omega) g6
  by_cases g7 : c.toInt ≤ 214
  · exact oI_7 c (by omega) g7
  by_cases g8 : c.toInt ≤ 215
  · exact oI_8 c (by omega) g8
  by_cases g9 : c.toInt ≤ 246
  · exact oI_9 c (by omega) g9
  by_cases g10 : c.toInt ≤ 247
  · exact oI_10 c (by omega) g10
  by_cases g11 : c.toInt ≤ 767
  · exact oI_11 c (by omega) g11
  by_cases g12 : c.toInt ≤ 879
  · exact oI_12 c (by omega) g12
  by_cases g13 : c.toInt ≤ 893
  · exact oI_13 c (by omega) g13
  by_cases g14 : c.toInt ≤ 894
  · exact oI_14 c (by omega) g14
  by_cases g15 : c.toInt ≤ 8191
  · exact oI_15 c (by omega) g15
  by_cases g16 : c.toInt ≤ 8203
  · exact oI_16 c (by omega) g16
  by_cases g17 : c.toInt ≤ 8205
  · exact oI_17 c (by omega) g17
  by_cases g18 : c.toInt ≤ 8303
  · exact oI_18 c (by omega) g18
  by_cases g19 : c.toInt ≤ 8591
  · exact oI_19 c (by omega) g19
  by_cases g20 : c.toInt ≤ 11263
  · exact oI_20 c (by omega) g20
  by_cases g21 : c.toInt ≤ 12271
  · exact oI_21 c (by omega) g21
  by_cases g22 : c.toInt ≤ 12288
  · exact oI_22 c (by omega) g22
  by_cases g23 : c.toInt ≤ 55295
  · exact oI_23 c (by omega) g23
  by_cases g24 : c.toInt ≤ 63743
  · exact oI_24 c (by omega) g24
  by_cases g25 : c.toInt ≤ 64975
  · exact oI_25 c (by omega) g25
  by_cases g26 : c.toInt ≤ 65007
  · exact oI_26 c (by omega) g26
  by_cases g27 : c.toInt ≤ 65533
  · exact oI_27 c (by omega) g27
  by_cases g28 : c.toInt ≤ 65535
  · exact oI_28 c (by omega) g28
  by_cases g29 : c.toInt ≤ 983039
  · exact oI_29 c (by omega) g29
  by_cases g30 : c.toInt ≤ 2147483647
  · exact oI_30 c (by omega) g30
  exfalso; omega
theorem oLaw (p1 p2 p3 : Int32) : oF0_0 p1 p2 p3 = 1 := by
  rw [oF0_0, oAgree, oAgree, oAgree]
  rfl
theorem pn_0 : plainName "com/example/wary_query/waryquery/model/QNameIsNameStartPinLaw" = true := by first | (simp [plainName, overriddenIn]; done) | decide +kernel
theorem ef_0 (m : MethodId) (p1 : Int32) (p2 : Int32) (p3 : Int32) : entryFrame m #[(.int p1), (.int p2), (.int p3)] maxLocals = mkF m 0 #[.val (.int p1), .val (.int p2), .val (.int p3), .unset, .unset] [] := by first | (simp [entryFrame, mkF, argsToLocals, Value.category, maxLocals]; done) | rfl
def oQ0 (p1 : Int32) (p2 : Int32) (p3 : Int32) (h0 : Heap) (n0 : Nat) (v : Option Value) (h : Heap) (L : List Loc) : Prop := v = some (.int (1)) ∧ Fr n0 L ∧ h = h0
set_option maxRecDepth 65536 in
set_option maxHeartbeats 4000000 in
theorem oR0 (l : Launch) (Z : State) (a0 : Array Value) (hw : ∀ d ∈ tables_1, d.before a0 Z = true) (ws : List Jvm.Cond) (p1 : Int32) (p2 : Int32) (p3 : Int32) (h0 : Heap) (n0 : Nat) (Z0 : n0 ≤ h0.size) :
    MetFree l x (head1 (Jvm.Cond.code x code maxLocals ret :: ws) room_1) (fun a U => a = #[(.int p1), (.int p2), (.int p3)] ∧ Z.Warmed39 U.vm ∧ U.heap = h0) (fun _ _ _ _ _ => True) (fun _ U o U' => ∃ v L, o = .returned v ∧ oQ0 p1 p2 p3 h0 n0 v U'.heap L ∧ FrameEnd U o U' L room_1.cells room_1.slots) := by
  refine MetFree.of_bodySF (plainFor_of_name pn_0) hisR ?_
  intro p e s m args below meth c s₁ Bd hml0 hP hK
  obtain ⟨rfl, hZ, hh⟩ := hP
  have hown : s.vm.findClass "com/example/wary_query/waryquery/model/QNameIsNameStartPinLaw" = some m.cls := findClass_of_methodNamed Bd.named
  have X0 : Stand p l e room_1 s m #[(.int p1), (.int p2), (.int p3)] below meth c s₁ [] 0 0 := Stand.of_body Bd
  have e0 : s₁.heap = h0 := by rw [← hh, Bd.state]; rfl
  obtain ⟨t, L, hs, hrun, hended, hW, hsame, hN, ht⟩ := oB0_0 X0 Bd.exec Bd.bytes hml0 Bd.returns Bd.notSynchronized hown hZ hw e0 (Fr.nil n0) Z0 (Nat.zero_le _) (Nat.zero_le _) p1 p2 p3 (oLaw p1 p2 p3)
  exact ⟨t, _, castTop (ef_0 m p1 p2 p3) hs, hrun, hended, _, L, rfl, ⟨rfl, hN, ht⟩, ⟨_, rfl⟩, hW, hsame.mono (Nat.zero_le _) (Nat.zero_le _)⟩
set_option maxRecDepth 65536 in
set_option maxHeartbeats 4000000 in
theorem comes_1 {Post : Tables → Env → Array Value → State → Outcome → State → Prop} (hpost : ∀ tb e args s v u, (limb_1_1.after args s (.returned v) u = true ∧ limb_1_2.after args s (.returned v) u = true ∧ True) → FrameEnd s (.returned v) u (Jvm.fieldLocs frame_1_writes args s ++ Jvm.arrayLocs frame_1_arrays args s ++ Jvm.staticLocs frame_1_statics s) 0 0 → Post tb e args s (.returned v) u) :
    ArmFor flags0 classFile x code maxLocals ret World_1 tables_1 room_1 Calls_1 rest_1 Pre_1 Post := by
  intro l hfl _ _ p e ha hc hk s m args below hf hA hF happ hP
  obtain ⟨hcalls, hrest, hpre⟩ := hP
  obtain ⟨-, -, -, hnamed, -, -, -, hat⟩ := (Spec.applies_iff hf).mp happ
  obtain ⟨hg, hn⟩ := and_e (Cond.before_iff.mp (show (Jvm.Cond.and given_1 narrow_1).before args s = true from hpre))
  obtain ⟨gc, gr0⟩ := and_e hg
  obtain ⟨g0, gr1⟩ := and_e gr0
  obtain ⟨g1, gr2⟩ := and_e gr1
  have g2 := gr2
  obtain ⟨w0, w1, w2, rfl⟩ : ∃ w0 w1 w2 : Value, args = #[w0, w1, w2] := by
    have hs : args.size = 3 := by simpa [Cond.value, given_1] using gc
    obtain ⟨L⟩ := args
    match L, hs with
    | [w0, w1, w2], _ => exact ⟨w0, w1, w2, rfl⟩
  have hw := fun d (hd : d ∈ tables_1) => atoms_spec (ws := Jvm.Cond.code x code maxLocals ret :: tables_1) hat d (List.mem_cons_of_mem _ hd)
  obtain ⟨i0, ei0⟩ := is_v g0
  obtain rfl : w0 = (.int i0) := Option.some.inj ei0
  obtain ⟨i1, ei1⟩ := is_v g1
  obtain rfl : w1 = (.int i1) := Option.some.inj ei1
  obtain ⟨i2, ei2⟩ := is_v g2
  obtain rfl : w2 = (.int i2) := Option.some.inj ei2
  obtain ⟨n, o, h1, h2, h3, _, L, rfl, ⟨rfl, N, -⟩, hq⟩ := oR0 l s _ hw tables_1 i0 i1 i2 s.heap s.heap.size (Nat.le_refl _) p e ha hc hk s m _ below hf ((Spec.applies_iff_loose hf).mp happ).1 ⟨rfl, State.Warmed39.refl s, rfl⟩ trivial
  refine ⟨n, _, h1, h2, h3, hpost _ _ _ _ _ _ ⟨Cond.after_iff.mpr rfl, Cond.after_iff.mpr (eq_i res_at (Term.int_eval (1)) rfl), trivial⟩ ⟨hq.1, hq.2.1, (hq.2.2.sift fun y hy => Or.inr (N y hy)).mono (by decide) (by decide)⟩⟩
theorem main_1_1 : Claimed_1_1 := comes_1 fun _ _ _ _ _ _ h hF => ⟨h.1, hF⟩
theorem main_1_2 : Claimed_1_2 := comes_1 fun _ _ _ _ _ _ h hF => ⟨h.2.1, hF⟩
end Jvm.Pilot.@@N@@
namespace Jvm.Pilot.@@N@@
open Jvm Jvm.ClassFile Sem Op Lib Jvm.Free Jvm.Stand Jvm.Pilot.@@N@@.Jvm.D
/-! MADE BY PROGRAM (witnessworld.py) out of the Statement's table words and the real class files: 9 classes; the members and pool entries that the words name. The judged class is class 1, her method 3. -/
namespace start1
open Jvm.ClassFile
def u (s : String) : CpInfo := .utf8 (stringToUtf16 s)
/-- a pool by its gaps: so many unusable entries, then the entry; so many at the end -/
def gap : Nat → List CpInfo → List CpInfo
  | 0, r => r
  | n + 1, r => .unusable :: gap n r
def poolList (es : List (Nat × CpInfo)) (last : Nat) : List CpInfo := es.foldr (fun e r => gap e.1 (e.2 :: r)) (gap last [])
def pool (es : List (Nat × CpInfo)) (last : Nat) : Array CpInfo := ⟨poolList es last⟩
def fileOf (pool : Array CpInfo) (this : Nat) (attrs : Array Attribute := #[]) (ms : Array MethodInfo := #[]) (fl : Nat := 33) (sup : Nat := 0) (ifs : Array Nat := #[]) (fds : Array FieldInfo := #[]) : ClassFile where
  minorVersion := 0
  majorVersion := 65
  constantPool := pool
  accessFlags := fl
  thisClass := this
  superClass := sup
  interfaces := ifs
  fields := fds
  methods := ms
  attributes := attrs
def plain (name : String) (sup : Option ClassId) : Class where
  name := name
  kind := .ordinary
  loader := none
  accessFlags := 33
  super := sup
  interfaces := #[]
  cf := none
  fields := #[]
  methods := #[]
  instanceTypes := #[]
  staticTypes := #[]
  resolved := #[]
  callSites := []
  init := .initialized
  statics := none
  mirror := none

def pool0 : Array CpInfo := pool [(5, u "<init>"), (0, u "()V"), (1, .class_ 10), (1, u "java/lang/Object")] 113

def k0m0 : Method := { name := "<init>", desc := "()V", sig := { parameters := [], returnType := none }, accessFlags := 1, code := none }
/-- java/lang/Object -/
def k0 : Class := { plain "java/lang/Object" none with
  accessFlags := 33
  interfaces := #[]
  cf := some (fileOf pool0 8 #[] #[{ accessFlags := 1, nameIndex := 5, descriptorIndex := 6, attributes := #[] }] 33 0 #[] #[])
  fields := #[]
  methods := #[k0m0]
  instanceTypes := #[]
  staticTypes := #[]
  resolved := Array.replicate 124 none
  statics := none }

def pool1 : Array CpInfo := pool [(2, .class_ 4), (1, u "java/lang/Object"), (0, u "<init>"), (0, u "()V"), (0, .integer 983039), (0, .integer 55296), (0, .integer 63743), (0, .integer 64976), (0, .integer 65007), (0, .integer 65534), (0, .integer 65535), (0, .methodref 15 16), (0, .class_ 17), (0, .nameAndType 18 19), (0, u "com/example/wary_query/waryquery/model/QName"), (0, u "isNameStart"), (0, u "(I)Z"), (0, .methodref 21 22), (0, .class_ 23), (0, .nameAndType 24 19), (0, u "com/example/wary_query/waryquery/model/QNameIsNameStartPinLaw"), (0, u "excluded"), (0, .integer 1048575), (0, .methodref 21 27), (0, .nameAndType 28 19), (0, u "agrees"), (3, u "law"), (0, u "(III)Z")] 2

def k1m0 : Method := { name := "<init>", desc := "()V", sig := { parameters := [], returnType := none }, accessFlags := 2, code := none }
def k1c1 : Code := { maxStack := 2, maxLocals := 1, code := method_2_code, exceptionTable := #[], attributes := #[] }
def k1m1 : Method := { name := "excluded", desc := "(I)Z", sig := { parameters := [.int], returnType := some .boolean }, accessFlags := 10, code := some k1c1 }
def k1c2 : Code := { maxStack := 2, maxLocals := 1, code := method_3_code, exceptionTable := #[], attributes := #[] }
def k1m2 : Method := { name := "agrees", desc := "(I)Z", sig := { parameters := [.int], returnType := some .boolean }, accessFlags := 10, code := some k1c2 }
def k1c3 : Code := { maxStack := 2, maxLocals := 5, code := code, exceptionTable := #[], attributes := #[] }
def k1m3 : Method := { name := "law", desc := "(III)Z", sig := { parameters := [.int, .int, .int], returnType := some .boolean }, accessFlags := 9, code := some k1c3 }
/-- com/example/wary_query/waryquery/model/QNameIsNameStartPinLaw -/
def k1 : Class := { plain "com/example/wary_query/waryquery/model/QNameIsNameStartPinLaw" (some 0) with
  accessFlags := 49
  interfaces := #[]
  cf := some (fileOf pool1 21 #[] #[{ accessFlags := 2, nameIndex := 5, descriptorIndex := 6, attributes := #[] }, { accessFlags := 10, nameIndex := 24, descriptorIndex := 19, attributes := #[] }, { accessFlags := 10, nameIndex := 28, descriptorIndex := 19, attributes := #[] }, { accessFlags := 9, nameIndex := 32, descriptorIndex := 33, attributes := #[] }] 49 2 #[] #[])
  fields := #[]
  methods := #[k1m0, k1m1, k1m2, k1m3]
  instanceTypes := #[]
  staticTypes := #[]
  resolved := Array.replicate 36 none
  statics := none }

def pool2 : Array CpInfo := pool [(1, .class_ 2), (0, u "java/io/Serializable"), (0, .class_ 4), (0, u "java/lang/Object")] 2

/-- java/io/Serializable -/
def k2 : Class := { plain "java/io/Serializable" (some 0) with
  accessFlags := 1537
  interfaces := #[]
  cf := some (fileOf pool2 1 #[] #[] 1537 3 #[] #[])
  fields := #[]
  methods := #[]
  instanceTypes := #[]
  staticTypes := #[]
  resolved := Array.replicate 7 none
  statics := none }

def pool3 : Array CpInfo := pool [(2, .class_ 4), (1, u "java/lang/Object"), (11, .class_ 18), (1, u "com/example/wary_query/waryquery/model/QName"), (0, u "namespaceUri"), (0, u "Ljava/lang/String;"), (2, u "localName"), (2, u "prefix"), (42, .integer 55295), (0, .integer 63744), (0, .integer 64975), (0, .integer 65008), (0, .integer 65533), (0, .integer 65536), (0, .integer 983039), (5, u "isNameStart"), (0, u "(I)Z"), (23, .class_ 107), (0, u "java/io/Serializable"), (0, u "serialVersionUID"), (0, u "J")] 34

def k3c0 : Code := { maxStack := 2, maxLocals := 1, code := prog_233_method_8_code, exceptionTable := #[], attributes := #[] }
def k3m0 : Method := { name := "isNameStart", desc := "(I)Z", sig := { parameters := [.int], returnType := some .boolean }, accessFlags := 9, code := some k3c0 }
/-- com/example/wary_query/waryquery/model/QName -/
def k3 : Class := { plain "com/example/wary_query/waryquery/model/QName" (some 0) with
  accessFlags := 49
  interfaces := #[2]
  cf := some (fileOf pool3 16 #[] #[{ accessFlags := 9, nameIndex := 81, descriptorIndex := 82, attributes := #[] }] 49 2 #[106] #[{ accessFlags := 26, nameIndex := 108, descriptorIndex := 109, attributes := #[] }, { accessFlags := 18, nameIndex := 19, descriptorIndex := 20, attributes := #[] }, { accessFlags := 18, nameIndex := 23, descriptorIndex := 20, attributes := #[] }, { accessFlags := 18, nameIndex := 26, descriptorIndex := 20, attributes := #[] }])
  fields := #[{ name := "serialVersionUID", type := .long, accessFlags := 26, slot := 0, constantValue := 0 }, { name := "namespaceUri", type := (.object "java/lang/String"), accessFlags := 18, slot := 0, constantValue := 0 }, { name := "localName", type := (.object "java/lang/String"), accessFlags := 18, slot := 1, constantValue := 0 }, { name := "prefix", type := (.object "java/lang/String"), accessFlags := 18, slot := 2, constantValue := 0 }]
  methods := #[k3m0]
  instanceTypes := #[(.object "java/lang/String"), (.object "java/lang/String"), (.object "java/lang/String")]
  staticTypes := #[.long]
  resolved := Array.replicate 144 none
  statics := none }

def pool4 : Array CpInfo := pool [(1, u "java/lang/Cloneable"), (0, .class_ 1), (0, u "java/lang/Object"), (0, .class_ 3)] 3

/-- java/lang/Cloneable -/
def k4 : Class := { plain "java/lang/Cloneable" (some 0) with
  accessFlags := 1537
  interfaces := #[]
  cf := some (fileOf pool4 2 #[] #[] 1537 4 #[] #[])
  fields := #[]
  methods := #[]
  instanceTypes := #[]
  staticTypes := #[]
  resolved := Array.replicate 8 none
  statics := none }

/-- the primitive byte -/
def k5 : Class := { plain "byte" none with kind := .primitive 'B', accessFlags := 0x411 }
/-- [B -/
def k6 : Class := { plain "[B" (some 0) with kind := .array 5 .byte, interfaces := #[4, 2], accessFlags := 1041 }

/-- the primitive int -/
def k7 : Class := { plain "int" none with kind := .primitive 'I', accessFlags := 0x411 }
/-- [I -/
def k8 : Class := { plain "[I" (some 0) with kind := .array 7 .int, interfaces := #[4, 2], accessFlags := 1041 }

def heap : Heap := #[]
def classes : Array Class := #[k0, k1, k2, k3, k4, k5, k6, k7, k8]
def interned : List (Array UInt16 × Addr) := []
def slotsUsed : Nat := 0
def theMethod : MethodId := ⟨1, 3⟩
def args0 : Array Value := #[.int 5, .int 1, .int 2]
def aboutOver (below : List Frame) : State where
  vm := { classes := classes, interned := interned.toArray }
  heap := heap
  slotsUsed := slotsUsed
  threads := #[{ frames := .invoking theMethod args0 :: below }]
def below0 : List Frame := [.native { method := ⟨0, 0⟩, args := #[] }]
def about1 : State := aboutOver below0
def p0 : Program := .bare "" "" ""
def e0 : Env := launch0.env 0 0 0
theorem w_frames : about1.frames = Frame.invoking theMethod args0 :: below0 := rfl
set_option maxRecDepth 65536 in
theorem w_args : argsFit about1.vm theMethod args0 = true := by decide +kernel
set_option maxRecDepth 65536 in
theorem w_heap : heapFits about1 = true := by decide +kernel
set_option maxRecDepth 65536 in
theorem w_runnable : about1.curStatus? = some .runnable := by decide +kernel
set_option maxRecDepth 65536 in
theorem w_alone : about1.alone = true := by decide +kernel
set_option maxRecDepth 65536 in
theorem w_named : about1.methodNamed? x = some theMethod := by decide +kernel
set_option maxRecDepth 65536 in
theorem w_hears : about1.hears theMethod below0 = true := by decide +kernel
set_option maxRecDepth 65536 in
theorem w_ripe : about1.ripe theMethod args0 below0 = true := by decide +kernel
theorem w_running : about1.status = .running := rfl
set_option maxRecDepth 65536 in
theorem w_room : about1.hasRoom e0.platform room_1 = true :=
  launch0.hasRoom_least _ room_1 (by decide +kernel) (by decide +kernel) (by decide +kernel) (by decide +kernel) (by decide +kernel) (by decide +kernel)
theorem allAtoms_all (ts : List Jvm.Cond) (a : Array Jvm.Value) (st : Jvm.State) : (allAtoms ts).before a st = ts.all (fun c => c.before a st) := by
  induction ts with
  | nil => rfl
  | cons c t ih =>
    show (Jvm.Cond.and c (allAtoms t)).before a st = _
    rw [Jvm.Cond.before_and, ih, List.all_cons]
def words1 : List Jvm.Cond := Jvm.Cond.code x code maxLocals ret :: tables_1
/-- a 'code' word, met by the world's own term for the bytes: nothing is compared byte by byte -/
theorem code_word {y : MethodName} {bytes : ByteArray} {mx : Nat} {rt : Option FieldType} {a : Array Value} {s : State} {m : MethodId} {meth : Method} {c : Code} (h1 : s.methodNamed? y = some m) (h2 : s.vm.method? m = some meth) (h3 : meth.code = some c) (h4 : c.code = bytes)
    (h5 : (c.maxLocals == mx && c.exceptionTable.isEmpty && decide (c.maxStack ≤ mostOperands) && decide (meth.sig.returnType = rt) && !meth.locks && decide (parseMethodDescriptor y.desc = some meth.sig)) = true) : (Jvm.Cond.code y bytes mx rt).before a s = true := by
  simp only [Bool.and_eq_true, beq_iff_eq, Bool.not_eq_true', decide_eq_true_eq] at h5
  obtain ⟨⟨⟨⟨⟨g1, g2⟩, g3⟩, g4⟩, g5⟩, g6⟩ := h5
  simp [Cond.before, Cond.holds, Cond.value, h1, h2, h3, h4, g1, g2, g3, g4, g5, g6]
def isCode : Jvm.Cond → Bool
  | .code _ _ _ _ => true
  | _ => false
theorem all_split {L : List Jvm.Cond} {P : Jvm.Cond → Bool} (h1 : L.all (fun c => isCode c || P c) = true) (h2 : ∀ c ∈ L.filter isCode, P c = true) : L.all P = true := by
  refine List.all_eq_true.mpr fun c hc => ?_
  have h := List.all_eq_true.mp h1 c hc
  rcases Bool.eq_false_or_eq_true (isCode c) with hi | hi
  · exact h2 c (List.mem_filter.mpr ⟨hc, hi⟩)
  · simpa [hi] using h
set_option maxRecDepth 65536 in
theorem w_c0 : (Jvm.Cond.code x code maxLocals ret).before args0 about1 = true := code_word (m := ⟨1, 3⟩) (meth := k1m3) (c := k1c3) (by decide +kernel) rfl rfl rfl (by decide +kernel)
set_option maxRecDepth 65536 in
theorem w_c1 : (Jvm.Cond.code ({ cls := "com/example/wary_query/waryquery/model/QNameIsNameStartPinLaw", name := "agrees", desc := "(I)Z" } : Jvm.MethodName) method_3_code (1 : Nat) (Option.some Jvm.ClassFile.FieldType.boolean)).before args0 about1 = true := code_word (m := ⟨1, 2⟩) (meth := k1m2) (c := k1c2) (by decide +kernel) rfl rfl rfl (by decide +kernel)
set_option maxRecDepth 65536 in
theorem w_c2 : (Jvm.Cond.code ({ cls := "com/example/wary_query/waryquery/model/QName", name := "isNameStart", desc := "(I)Z" } : Jvm.MethodName) prog_233_method_8_code (1 : Nat) (Option.some Jvm.ClassFile.FieldType.boolean)).before args0 about1 = true := code_word (m := ⟨3, 0⟩) (meth := k3m0) (c := k3c0) (by decide +kernel) rfl rfl rfl (by decide +kernel)
set_option maxRecDepth 65536 in
theorem w_c3 : (Jvm.Cond.code ({ cls := "com/example/wary_query/waryquery/model/QNameIsNameStartPinLaw", name := "excluded", desc := "(I)Z" } : Jvm.MethodName) method_2_code (1 : Nat) (Option.some Jvm.ClassFile.FieldType.boolean)).before args0 about1 = true := code_word (m := ⟨1, 1⟩) (meth := k1m1) (c := k1c1) (by decide +kernel) rfl rfl rfl (by decide +kernel)
def codes1 : List Jvm.Cond := [Jvm.Cond.code x code maxLocals ret, Jvm.Cond.code ({ cls := "com/example/wary_query/waryquery/model/QNameIsNameStartPinLaw", name := "agrees", desc := "(I)Z" } : Jvm.MethodName) method_3_code (1 : Nat) (Option.some Jvm.ClassFile.FieldType.boolean), Jvm.Cond.code ({ cls := "com/example/wary_query/waryquery/model/QName", name := "isNameStart", desc := "(I)Z" } : Jvm.MethodName) prog_233_method_8_code (1 : Nat) (Option.some Jvm.ClassFile.FieldType.boolean), Jvm.Cond.code ({ cls := "com/example/wary_query/waryquery/model/QNameIsNameStartPinLaw", name := "excluded", desc := "(I)Z" } : Jvm.MethodName) method_2_code (1 : Nat) (Option.some Jvm.ClassFile.FieldType.boolean)]
set_option maxRecDepth 65536 in
theorem codes_eq : words1.filter isCode = codes1 := rfl
theorem w_codes : ∀ c ∈ words1.filter isCode, c.before args0 about1 = true := by
  rw [codes_eq]
  intro c hc
  simp only [codes1, List.mem_cons, List.not_mem_nil, or_false] at hc
  rcases hc with rfl | rfl | rfl | rfl
  · exact w_c0
  · exact w_c1
  · exact w_c2
  · exact w_c3
set_option maxRecDepth 65536 in
theorem w_t1 : (words1.take 24).all (fun c => isCode c || c.before args0 about1) = true := by decide +kernel
set_option maxRecDepth 65536 in
theorem w_t2 : (words1.drop 24).all (fun c => isCode c || c.before args0 about1) = true := by decide +kernel
theorem w_tables : (allAtoms (Jvm.Cond.code x code maxLocals ret :: tables_1)).before args0 about1 = true := by
  rw [allAtoms_all]
  show words1.all (fun c => c.before args0 about1) = true
  refine all_split ?_ w_codes
  rw [← List.take_append_drop 24 words1, List.all_append, w_t1, w_t2]
  rfl
set_option maxRecDepth 65536 in
theorem w_case : (Jvm.Cond.and given_1 narrow_1).before args0 about1 = true := by decide +kernel
theorem w_applies : (headSpec (Jvm.Cond.code x code maxLocals ret :: tables_1) room_1).applies x e0.platform about1 = true :=
  (Spec.applies_iff w_frames).mpr ⟨w_running, w_runnable, w_alone, w_named, w_hears, w_ripe, w_room, w_tables⟩
theorem atStart : AtStart classFile x code maxLocals ret World_1 tables_1 room_1 Calls_1 rest_1 Pre_1 launch0 p0 e0 about1 theMethod args0 below0 :=
  ⟨lists_1, trivial, launch0.admits_env _ _ _, launch0.least_env, fairChoices_fair.cas, fairChoices_fair.clock, w_frames, w_args, w_heap, w_applies, trivial, trivial, w_case⟩
end start1
theorem witness_1 : WitnessClaimed_1 := ⟨start1.p0, start1.e0, start1.about1, start1.theMethod, start1.args0, start1.below0, start1.atStart⟩
end Jvm.Pilot.@@N@@
