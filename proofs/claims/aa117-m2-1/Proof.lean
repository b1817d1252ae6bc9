import JvmDerived
import JvmDerived.Pilot.@@N@@Statement
import JvmDerived.Pilot.@@N@@Code
set_option linter.unusedVariables false
set_option linter.unusedSimpArgs false
namespace Jvm.Pilot.@@N@@
open Jvm Jvm.ClassFile Sem Op Lib Jvm.Free Jvm.Stand Jvm.LawKit Jvm.RoadKit Bundle Jvm.Pilot.@@N@@.Jvm.D
/-- the run from frame g of state T ends, returns w, leaves heap h and writes new cells alone -/
def oEnd (p : Program) (e : Env) (s : State) (below : List Frame) (T : State) (g : JFrame) (n0 : Nat) (h : Heap) (cells slots : Nat) (w : Option Value) : Prop :=
  ∃ t L, Steps p.tables e below (T.setTop g) t ∧ t.status = .running ∧ Ended t below (.returned w) ∧ s.WarmedH t.vm ∧ s.sameButNew ({ t with vm := s.vm } : State) L cells slots ∧ Fr n0 L ∧ t.heap = h
theorem oPre {p : Program} {e : Env} {s : State} {below : List Frame} {T T' : State} {g g' : JFrame} {n0 : Nat} {h : Heap} {cells slots : Nat} {w : Option Value}
    (k : ∀ target, Steps p.tables e below (T'.setTop g') target → Steps p.tables e below (T.setTop g) target) (q : oEnd p e s below T' g' n0 h cells slots w) : oEnd p e s below T g n0 h cells slots w := by
  obtain ⟨t, L, hs, r⟩ := q
  exact ⟨t, L, k t hs, r⟩
def oI2c (x : Int32) : Int32 := x.toUInt32.toUInt16.toUInt32.toInt32

theorem d1_0 : decode prog_98_method_2_code 0 = .ok (.iload_n 0, 1) := by decide +kernel
theorem d1_1 : decode prog_98_method_2_code 1 = .ok (.bipush 32, 2) := by decide +kernel
theorem d1_3 : decode prog_98_method_2_code 3 = .ok (.if_icmp .eq 21, 3) := by decide +kernel
theorem d1_6 : decode prog_98_method_2_code 6 = .ok (.iload_n 0, 1) := by decide +kernel
theorem d1_7 : decode prog_98_method_2_code 7 = .ok (.bipush 9, 2) := by decide +kernel
theorem d1_9 : decode prog_98_method_2_code 9 = .ok (.if_icmp .eq 15, 3) := by decide +kernel
theorem d1_12 : decode prog_98_method_2_code 12 = .ok (.iload_n 0, 1) := by decide +kernel
theorem d1_13 : decode prog_98_method_2_code 13 = .ok (.bipush 10, 2) := by decide +kernel
theorem d1_15 : decode prog_98_method_2_code 15 = .ok (.if_icmp .eq 9, 3) := by decide +kernel
theorem d1_18 : decode prog_98_method_2_code 18 = .ok (.iload_n 0, 1) := by decide +kernel
theorem d1_19 : decode prog_98_method_2_code 19 = .ok (.bipush 13, 2) := by decide +kernel
theorem d1_21 : decode prog_98_method_2_code 21 = .ok (.if_icmp .ne 7, 3) := by decide +kernel
theorem d1_24 : decode prog_98_method_2_code 24 = .ok (.iconst 1, 1) := by decide +kernel
theorem d1_25 : decode prog_98_method_2_code 25 = .ok (.goto 4, 3) := by decide +kernel
theorem d1_28 : decode prog_98_method_2_code 28 = .ok (.iconst 0, 1) := by decide +kernel
theorem d1_29 : decode prog_98_method_2_code 29 = .ok (.ireturn, 1) := by decide +kernel
def oF1_29 (p1 : Int32) (q1 : Int32) : Int32 := (q1 &&& 1)
set_option maxRecDepth 65536 in
set_option maxHeartbeats 4000000 in
theorem oB1_29 {p : Program} {l : Launch} {e : Env} {s : State} {m : MethodId} {args : Array Value} {below : List Frame} {meth : Method} {c : Code} {T : State} {locs : List Loc} {cells slots : Nat} {Z : State} {a0 : Array Value} {h0 : Heap} {n0 : Nat} (X : Stand p l e ({ frames := 0, cells := 0, slots := 0, locals := 0 } : Room) s m args below meth c T locs cells slots) (hx : p.tables.exec = Jvm.exec) (hby : c.code = prog_98_method_2_code) (hml : c.maxLocals = 1) (hret : meth.sig.returnType = some .boolean) (hlk : meth.locks = false) (hown : s.vm.findClass "org/provenote/core/xml/XmlCharacters" = some m.cls) (hZ : Z.Warmed39 s.vm) (hw : ∀ d ∈ tables_1, d.before a0 Z = true) (eT : T.heap = h0) (N : Fr n0 locs) (Z0 : n0 ≤ h0.size) (hcs : cells ≤ ({ frames := 0, cells := 0, slots := 0, locals := 0 } : Room).cells) (hss : slots ≤ ({ frames := 0, cells := 0, slots := 0, locals := 0 } : Room).slots) (p1 : Int32) (q1 : Int32) {w : Int32} (hv : oF1_29 p1 q1 = w) : oEnd p e s below T (mkF m 29 #[.val (.int p1)] [(.int q1)]) n0 h0 cells slots (some (.int w)) := by
  show oEnd p e s below T (mkF m 29 #[.val (.int p1)] [(.int q1)]) n0 h0 cells slots (some (.int w))
  subst hv
  obtain ⟨fs, hr, hrun, hended, hW, hsame⟩ := X.leave (v := some (.int (q1 &&& 1))) (fun h => by rw [hret] at h; cases h) hlk
  exact ⟨_, _, retN X hx (t := .boolean) hret (by simp) (hb hby d1_29) hr, hrun, hended, hW, hsame, N, eT⟩
def oF1_24 (p1 : Int32) : Int32 := (oF1_29 p1 (1 : Int32))
set_option maxRecDepth 65536 in
set_option maxHeartbeats 4000000 in
theorem oB1_24 {p : Program} {l : Launch} {e : Env} {s : State} {m : MethodId} {args : Array Value} {below : List Frame} {meth : Method} {c : Code} {T : State} {locs : List Loc} {cells slots : Nat} {Z : State} {a0 : Array Value} {h0 : Heap} {n0 : Nat} (X : Stand p l e ({ frames := 0, cells := 0, slots := 0, locals := 0 } : Room) s m args below meth c T locs cells slots) (hx : p.tables.exec = Jvm.exec) (hby : c.code = prog_98_method_2_code) (hml : c.maxLocals = 1) (hret : meth.sig.returnType = some .boolean) (hlk : meth.locks = false) (hown : s.vm.findClass "org/provenote/core/xml/XmlCharacters" = some m.cls) (hZ : Z.Warmed39 s.vm) (hw : ∀ d ∈ tables_1, d.before a0 Z = true) (eT : T.heap = h0) (N : Fr n0 locs) (Z0 : n0 ≤ h0.size) (hcs : cells ≤ ({ frames := 0, cells := 0, slots := 0, locals := 0 } : Room).cells) (hss : slots ≤ ({ frames := 0, cells := 0, slots := 0, locals := 0 } : Room).slots) (p1 : Int32) {w : Int32} (hv : oF1_24 p1 = w) : oEnd p e s below T (mkF m 24 #[.val (.int p1)] []) n0 h0 cells slots (some (.int w)) := by
  show oEnd p e s below T (mkF m 24 #[.val (.int p1)] []) n0 h0 cells slots (some (.int w))
  refine oPre (fun _ => XS.iconst X.here hx rfl (hb hby d1_24)) ?_
  show oEnd p e s below T (mkF m 25 #[.val (.int p1)] [(.int (1 : Int32))]) n0 h0 cells slots (some (.int w))
  refine oPre (fun _ => XS.goto X.here hx rfl (pc0 := 25) (pc' := 29) rfl (hb hby d1_25) (by decide) (by decide)) ?_
  exact oB1_29 X hx hby hml hret hlk hown hZ hw eT N Z0 hcs hss p1 (1 : Int32) hv
def oF1_0 (p1 : Int32) : Int32 := (if p1 = (32 : Int32) then (oF1_24 p1) else (if p1 = (9 : Int32) then (oF1_24 p1) else (if p1 = (10 : Int32) then (oF1_24 p1) else (if p1 = (13 : Int32) then (oF1_24 p1) else (oF1_29 p1 (0 : Int32))))))
set_option maxRecDepth 65536 in
set_option maxHeartbeats 4000000 in
theorem oB1_0 {p : Program} {l : Launch} {e : Env} {s : State} {m : MethodId} {args : Array Value} {below : List Frame} {meth : Method} {c : Code} {T : State} {locs : List Loc} {cells slots : Nat} {Z : State} {a0 : Array Value} {h0 : Heap} {n0 : Nat} (X : Stand p l e ({ frames := 0, cells := 0, slots := 0, locals := 0 } : Room) s m args below meth c T locs cells slots) (hx : p.tables.exec = Jvm.exec) (hby : c.code = prog_98_method_2_code) (hml : c.maxLocals = 1) (hret : meth.sig.returnType = some .boolean) (hlk : meth.locks = false) (hown : s.vm.findClass "org/provenote/core/xml/XmlCharacters" = some m.cls) (hZ : Z.Warmed39 s.vm) (hw : ∀ d ∈ tables_1, d.before a0 Z = true) (eT : T.heap = h0) (N : Fr n0 locs) (Z0 : n0 ≤ h0.size) (hcs : cells ≤ ({ frames := 0, cells := 0, slots := 0, locals := 0 } : Room).cells) (hss : slots ≤ ({ frames := 0, cells := 0, slots := 0, locals := 0 } : Room).slots) (p1 : Int32) {w : Int32} (hv : oF1_0 p1 = w) : oEnd p e s below T (mkF m 0 #[.val (.int p1)] []) n0 h0 cells slots (some (.int w)) := by
  show oEnd p e s below T (mkF m 0 #[.val (.int p1)] []) n0 h0 cells slots (some (.int w))
  refine oPre (fun _ => XS.iloadN X.here hx rfl (hb hby d1_0) rfl) ?_
  show oEnd p e s below T (mkF m 1 #[.val (.int p1)] [(.int p1)]) n0 h0 cells slots (some (.int w))
  refine oPre (fun _ => XS.bipush X.here hx rfl (hb hby d1_1)) ?_
  show oEnd p e s below T (mkF m 3 #[.val (.int p1)] [(.int (32 : Int32)), (.int p1)]) n0 h0 cells slots (some (.int w))
  by_cases h3 : p1 = (32 : Int32)
  · have v3 : (oF1_24 p1) = w := (if_pos h3).symm.trans hv
    refine oPre (fun _ => XS.icmpYes X.here hx rfl (pc0 := 3) (pc' := 24) rfl (hb hby d1_3) rfl (((teq h3).1)) (by decide) (by decide)) ?_
    exact oB1_24 X hx hby hml hret hlk hown hZ hw eT N Z0 hcs hss p1 v3
  · have v3 : (if p1 = (9 : Int32) then (oF1_24 p1) else (if p1 = (10 : Int32) then (oF1_24 p1) else (if p1 = (13 : Int32) then (oF1_24 p1) else (oF1_29 p1 (0 : Int32))))) = w := (if_neg h3).symm.trans hv
    refine oPre (fun _ => XS.icmpNo X.here hx rfl (hb hby d1_3) rfl (((feq h3).1))) ?_
    show oEnd p e s below T (mkF m 6 #[.val (.int p1)] []) n0 h0 cells slots (some (.int w))
    refine oPre (fun _ => XS.iloadN X.here hx rfl (hb hby d1_6) rfl) ?_
    show oEnd p e s below T (mkF m 7 #[.val (.int p1)] [(.int p1)]) n0 h0 cells slots (some (.int w))
    refine oPre (fun _ => XS.bipush X.here hx rfl (hb hby d1_7)) ?_
    show oEnd p e s below T (mkF m 9 #[.val (.int p1)] [(.int (9 : Int32)), (.int p1)]) n0 h0 cells slots (some (.int w))
    by_cases h9 : p1 = (9 : Int32)
    · have v9 : (oF1_24 p1) = w := (if_pos h9).symm.trans v3
      refine oPre (fun _ => XS.icmpYes X.here hx rfl (pc0 := 9) (pc' := 24) rfl (hb hby d1_9) rfl (((teq h9).1)) (by decide) (by decide)) ?_
      exact oB1_24 X hx hby hml hret hlk hown hZ hw eT N Z0 hcs hss p1 v9
    · have v9 : (if p1 = (10 : Int32) then (oF1_24 p1) else (if p1 = (13 : Int32) then (oF1_24 p1) else (oF1_29 p1 (0 : Int32)))) = w := (if_neg h9).symm.trans v3
      refine oPre (fun _ => XS.icmpNo X.here hx rfl (hb hby d1_9) rfl (((feq h9).1))) ?_
      show oEnd p e s below T (mkF m 12 #[.val (.int p1)] []) n0 h0 cells slots (some (.int w))
      refine oPre (fun _ => XS.iloadN X.here hx rfl (hb hby d1_12) rfl) ?_
      show oEnd p e s below T (mkF m 13 #[.val (.int p1)] [(.int p1)]) n0 h0 cells slots (some (.int w))
      refine oPre (fun _ => XS.bipush X.here hx rfl (hb hby d1_13)) ?_
      show oEnd p e s below T (mkF m 15 #[.val (.int p1)] [(.int (10 : Int32)), (.int p1)]) n0 h0 cells slots (some (.int w))
      by_cases h15 : p1 = (10 : Int32)
      · have v15 : (oF1_24 p1) = w := (if_pos h15).symm.trans v9
        refine oPre (fun _ => XS.icmpYes X.here hx rfl (pc0 := 15) (pc' := 24) rfl (hb hby d1_15) rfl (((teq h15).1)) (by decide) (by decide)) ?_
        exact oB1_24 X hx hby hml hret hlk hown hZ hw eT N Z0 hcs hss p1 v15
      · have v15 : (if p1 = (13 : Int32) then (oF1_24 p1) else (oF1_29 p1 (0 : Int32))) = w := (if_neg h15).symm.trans v9
        refine oPre (fun _ => XS.icmpNo X.here hx rfl (hb hby d1_15) rfl (((feq h15).1))) ?_
        show oEnd p e s below T (mkF m 18 #[.val (.int p1)] []) n0 h0 cells slots (some (.int w))
        refine oPre (fun _ => XS.iloadN X.here hx rfl (hb hby d1_18) rfl) ?_
        show oEnd p e s below T (mkF m 19 #[.val (.int p1)] [(.int p1)]) n0 h0 cells slots (some (.int w))
        refine oPre (fun _ => XS.bipush X.here hx rfl (hb hby d1_19)) ?_
        show oEnd p e s below T (mkF m 21 #[.val (.int p1)] [(.int (13 : Int32)), (.int p1)]) n0 h0 cells slots (some (.int w))
        by_cases h21 : p1 = (13 : Int32)
        · have v21 : (oF1_24 p1) = w := (if_pos h21).symm.trans v15
          refine oPre (fun _ => XS.icmpNo X.here hx rfl (hb hby d1_21) rfl (((teq h21).2))) ?_
          exact oB1_24 X hx hby hml hret hlk hown hZ hw eT N Z0 hcs hss p1 v21
        · have v21 : (oF1_29 p1 (0 : Int32)) = w := (if_neg h21).symm.trans v15
          refine oPre (fun _ => XS.icmpYes X.here hx rfl (pc0 := 21) (pc' := 28) rfl (hb hby d1_21) rfl (((feq h21).2)) (by decide) (by decide)) ?_
          show oEnd p e s below T (mkF m 28 #[.val (.int p1)] []) n0 h0 cells slots (some (.int w))
          refine oPre (fun _ => XS.iconst X.here hx rfl (hb hby d1_28)) ?_
          exact oB1_29 X hx hby hml hret hlk hown hZ hw eT N Z0 hcs hss p1 (0 : Int32) v21
theorem pn_1 : plainName "org/provenote/core/xml/XmlCharacters" = true := by first | (simp [plainName, overriddenIn]; done) | decide +kernel
theorem ef_1 (m : MethodId) (p1 : Int32) : entryFrame m #[(.int p1)] 1 = mkF m 0 #[.val (.int p1)] [] := by first | (simp [entryFrame, mkF, argsToLocals, Value.category]; done) | rfl
def oQ1 (p1 : Int32) (h0 : Heap) (n0 : Nat) (v : Option Value) (h : Heap) (L : List Loc) : Prop := v = some (.int (oF1_0 p1)) ∧ Fr n0 L ∧ h = h0
set_option maxRecDepth 65536 in
set_option maxHeartbeats 4000000 in
theorem oR1 (l : Launch) (Z : State) (a0 : Array Value) (hw : ∀ d ∈ tables_1, d.before a0 Z = true) (ws : List Jvm.Cond) (p1 : Int32) (h0 : Heap) (n0 : Nat) (Z0 : n0 ≤ h0.size) :
    MetFree l (⟨"org/provenote/core/xml/XmlCharacters", "isSpace", "(I)Z"⟩ : MethodName) (head1 (Jvm.Cond.code (⟨"org/provenote/core/xml/XmlCharacters", "isSpace", "(I)Z"⟩ : MethodName) prog_98_method_2_code 1 (some .boolean) :: ws) ({ frames := 0, cells := 0, slots := 0, locals := 0 } : Room)) (fun a U => a = #[(.int p1)] ∧ Z.Warmed39 U.vm ∧ U.heap = h0) (fun _ _ _ _ _ => True) (fun _ U o U' => ∃ v L, o = .returned v ∧ oQ1 p1 h0 n0 v U'.heap L ∧ FrameEnd U o U' L ({ frames := 0, cells := 0, slots := 0, locals := 0 } : Room).cells ({ frames := 0, cells := 0, slots := 0, locals := 0 } : Room).slots) := by
  refine MetFree.of_bodySF (plainFor_of_name pn_1) hisR ?_
  intro p e s m args below meth c s₁ Bd hml0 hP hK
  obtain ⟨rfl, hZ, hh⟩ := hP
  have hown : s.vm.findClass "org/provenote/core/xml/XmlCharacters" = some m.cls := findClass_of_methodNamed Bd.named
  have X0 : Stand p l e ({ frames := 0, cells := 0, slots := 0, locals := 0 } : Room) s m #[(.int p1)] below meth c s₁ [] 0 0 := Stand.of_body Bd
  have e0 : s₁.heap = h0 := by rw [← hh, Bd.state]; rfl
  obtain ⟨t, L, hs, hrun, hended, hW, hsame, hN, ht⟩ := oB1_0 X0 Bd.exec Bd.bytes hml0 Bd.returns Bd.notSynchronized hown hZ hw e0 (Fr.nil n0) Z0 (Nat.zero_le _) (Nat.zero_le _) p1 rfl
  exact ⟨t, _, castTop (ef_1 m p1) hs, hrun, hended, _, L, rfl, ⟨rfl, hN, ht⟩, ⟨_, rfl⟩, hW, hsame.mono (Nat.zero_le _) (Nat.zero_le _)⟩
theorem pd_0 : parseMethodDescriptor "(I)Z" = some ⟨[.int], some .boolean⟩ := by decide +kernel
def oF0_60 (p1 : Int32) (p2 : Int32) (p3 : Int32) (p4 : Int64) (p6 : Int32) (q1 : Int32) : Int32 := (q1 &&& 1)
set_option maxRecDepth 65536 in
set_option maxHeartbeats 4000000 in
theorem oB0_60 {p : Program} {l : Launch} {e : Env} {s : State} {m : MethodId} {args : Array Value} {below : List Frame} {meth : Method} {c : Code} {T : State} {locs : List Loc} {cells slots : Nat} {Z : State} {a0 : Array Value} {h0 : Heap} {n0 : Nat} (X : Stand p l e room_1 s m args below meth c T locs cells slots) (hx : p.tables.exec = Jvm.exec) (hby : c.code = code) (hml : c.maxLocals = 6) (hret : meth.sig.returnType = some .boolean) (hlk : meth.locks = false) (hown : s.vm.findClass "org/provenote/core/xml/XmlCharactersIsSpacePinLaw" = some m.cls) (hZ : Z.Warmed39 s.vm) (hw : ∀ d ∈ tables_1, d.before a0 Z = true) (eT : T.heap = h0) (N : Fr n0 locs) (Z0 : n0 ≤ h0.size) (hcs : cells ≤ room_1.cells) (hss : slots ≤ room_1.slots) (p1 : Int32) (p2 : Int32) (p3 : Int32) (p4 : Int64) (p6 : Int32) (q1 : Int32) {w : Int32} (hv : oF0_60 p1 p2 p3 p4 p6 q1 = w) : oEnd p e s below T (mkF m 60 #[.val (.int p1), .val (.int p2), .val (.int p3), .val (.long p4), .second, .val (.int p6)] [(.int q1)]) n0 h0 cells slots (some (.int w)) := by
  show oEnd p e s below T (mkF m 60 #[.val (.int p1), .val (.int p2), .val (.int p3), .val (.long p4), .second, .val (.int p6)] [(.int q1)]) n0 h0 cells slots (some (.int w))
  subst hv
  obtain ⟨fs, hr, hrun, hended, hW, hsame⟩ := X.leave (v := some (.int (q1 &&& 1))) (fun h => by rw [hret] at h; cases h) hlk
  exact ⟨_, _, retN X hx (t := .boolean) hret (by simp) (hb hby at_60) hr, hrun, hended, hW, hsame, N, eT⟩
def oF0_44 (p1 : Int32) (p2 : Int32) (p3 : Int32) (p4 : Int64) (q1 : Int32) : Int32 := (if (oF1_0 p3) = q1 then (oF0_60 p1 p2 p3 p4 q1 (1 : Int32)) else (oF0_60 p1 p2 p3 p4 q1 (0 : Int32)))
set_option maxRecDepth 65536 in
set_option maxHeartbeats 4000000 in
theorem oB0_44 {p : Program} {l : Launch} {e : Env} {s : State} {m : MethodId} {args : Array Value} {below : List Frame} {meth : Method} {c : Code} {T : State} {locs : List Loc} {cells slots : Nat} {Z : State} {a0 : Array Value} {h0 : Heap} {n0 : Nat} (X : Stand p l e room_1 s m args below meth c T locs cells slots) (hx : p.tables.exec = Jvm.exec) (hby : c.code = code) (hml : c.maxLocals = 6) (hret : meth.sig.returnType = some .boolean) (hlk : meth.locks = false) (hown : s.vm.findClass "org/provenote/core/xml/XmlCharactersIsSpacePinLaw" = some m.cls) (hZ : Z.Warmed39 s.vm) (hw : ∀ d ∈ tables_1, d.before a0 Z = true) (eT : T.heap = h0) (N : Fr n0 locs) (Z0 : n0 ≤ h0.size) (hcs : cells ≤ room_1.cells) (hss : slots ≤ room_1.slots) (p1 : Int32) (p2 : Int32) (p3 : Int32) (p4 : Int64) (q1 : Int32) {w : Int32} (hv : oF0_44 p1 p2 p3 p4 q1 = w) : oEnd p e s below T (mkF m 44 #[.val (.int p1), .val (.int p2), .val (.int p3), .val (.long p4), .second, .unset] [(.int q1)]) n0 h0 cells slots (some (.int w)) := by
  show oEnd p e s below T (mkF m 44 #[.val (.int p1), .val (.int p2), .val (.int p3), .val (.long p4), .second, .unset] [(.int q1)]) n0 h0 cells slots (some (.int w))
  refine oPre (fun _ => XS.istore X.here hx rfl (hb hby at_44) rfl (l' := #[.val (.int p1), .val (.int p2), .val (.int p3), .val (.long p4), .second, .val (.int q1)]) rfl) ?_
  show oEnd p e s below T (mkF m 46 #[.val (.int p1), .val (.int p2), .val (.int p3), .val (.long p4), .second, .val (.int q1)] []) n0 h0 cells slots (some (.int w))
  refine oPre (fun _ => XS.iloadN X.here hx rfl (hb hby at_46) rfl) ?_
  show oEnd p e s below T (mkF m 47 #[.val (.int p1), .val (.int p2), .val (.int p3), .val (.long p4), .second, .val (.int q1)] [(.int p3)]) n0 h0 cells slots (some (.int w))
  obtain ⟨_, _, ⟨T47, L47, k47, n47⟩, -, X47, ⟨Lc47, hQ47, l47, y47, z47⟩, st47⟩ := Jvm.LawKit.callS X hx (y := (⟨"org/provenote/core/xml/XmlCharacters", "isSpace", "(I)Z"⟩ : MethodName)) hown (mvT hZ (hw _ (List.mem_of_getElem? (i := 1) rfl))) (mvT hZ (hw _ (List.mem_of_getElem? (i := 2) rfl))) (mvT hZ (hw _ (List.mem_of_getElem? (i := 3) rfl))) (mvT hZ (hw _ (List.mem_of_getElem? (i := 4) rfl))) (by decide) (backOf (W := 0) (oR1 l Z a0 hw [] p3 h0 n0 Z0) hZ (hw _ (List.mem_of_getElem? (i := 4) rfl)) (hw _ (List.mem_of_getElem? (i := 3) rfl)) (by decide) (by decide)) (g := (mkF m 47 #[.val (.int p1), .val (.int p2), .val (.int p3), .val (.long p4), .second, .val (.int q1)] [(.int p3)])) rfl (by rw [hml]; rfl) (argsL := [(.int p3)]) (rest := []) (lenOf pd_0 rfl) rfl (by show 2 * 0 + _ ≤ _; exact Nat.le_of_eq rfl) (hb hby at_47) (fun _ _ => ⟨rfl, eT, hcs, hss⟩)
  dsimp only [Pt.U, Pt.locs, Pt.cells, Pt.slots] at X47 l47 y47 z47 st47 hQ47
  subst l47
  rw [y47, z47] at X47
  obtain ⟨rfl, N47q, e47⟩ := hQ47
  have N47 := Fr.app N N47q
  refine oPre st47 ?_
  show oEnd p e s below T47 (mkF m 50 #[.val (.int p1), .val (.int p2), .val (.int p3), .val (.long p4), .second, .val (.int q1)] [(.int (oF1_0 p3))]) n0 h0 cells slots (some (.int w))
  refine oPre (fun _ => XS.iload X47.here hx rfl (hb hby at_50) rfl) ?_
  show oEnd p e s below T47 (mkF m 52 #[.val (.int p1), .val (.int p2), .val (.int p3), .val (.long p4), .second, .val (.int q1)] [(.int q1), (.int (oF1_0 p3))]) n0 h0 cells slots (some (.int w))
  by_cases h52 : (oF1_0 p3) = q1
  · have v52 : (oF0_60 p1 p2 p3 p4 q1 (1 : Int32)) = w := (if_pos h52).symm.trans hv
    refine oPre (fun _ => XS.icmpNo X47.here hx rfl (hb hby at_52) rfl (((teq h52).2))) ?_
    show oEnd p e s below T47 (mkF m 55 #[.val (.int p1), .val (.int p2), .val (.int p3), .val (.long p4), .second, .val (.int q1)] []) n0 h0 cells slots (some (.int w))
    refine oPre (fun _ => XS.iconst X47.here hx rfl (hb hby at_55)) ?_
    show oEnd p e s below T47 (mkF m 56 #[.val (.int p1), .val (.int p2), .val (.int p3), .val (.long p4), .second, .val (.int q1)] [(.int (1 : Int32))]) n0 h0 cells slots (some (.int w))
    refine oPre (fun _ => XS.goto X47.here hx rfl (pc0 := 56) (pc' := 60) rfl (hb hby at_56) (by decide) (by decide)) ?_
    exact oB0_60 X47 hx hby hml hret hlk hown hZ hw e47 N47 Z0 hcs hss p1 p2 p3 p4 q1 (1 : Int32) v52
  · have v52 : (oF0_60 p1 p2 p3 p4 q1 (0 : Int32)) = w := (if_neg h52).symm.trans hv
    refine oPre (fun _ => XS.icmpYes X47.here hx rfl (pc0 := 52) (pc' := 59) rfl (hb hby at_52) rfl (((feq h52).2)) (by decide) (by decide)) ?_
    show oEnd p e s below T47 (mkF m 59 #[.val (.int p1), .val (.int p2), .val (.int p3), .val (.long p4), .second, .val (.int q1)] []) n0 h0 cells slots (some (.int w))
    refine oPre (fun _ => XS.iconst X47.here hx rfl (hb hby at_59)) ?_
    exact oB0_60 X47 hx hby hml hret hlk hown hZ hw e47 N47 Z0 hcs hss p1 p2 p3 p4 q1 (0 : Int32) v52
def oF0_43 (p1 : Int32) (p2 : Int32) (p3 : Int32) (p4 : Int64) : Int32 := (oF0_44 p1 p2 p3 p4 (0 : Int32))
set_option maxRecDepth 65536 in
set_option maxHeartbeats 4000000 in
theorem oB0_43 {p : Program} {l : Launch} {e : Env} {s : State} {m : MethodId} {args : Array Value} {below : List Frame} {meth : Method} {c : Code} {T : State} {locs : List Loc} {cells slots : Nat} {Z : State} {a0 : Array Value} {h0 : Heap} {n0 : Nat} (X : Stand p l e room_1 s m args below meth c T locs cells slots) (hx : p.tables.exec = Jvm.exec) (hby : c.code = code) (hml : c.maxLocals = 6) (hret : meth.sig.returnType = some .boolean) (hlk : meth.locks = false) (hown : s.vm.findClass "org/provenote/core/xml/XmlCharactersIsSpacePinLaw" = some m.cls) (hZ : Z.Warmed39 s.vm) (hw : ∀ d ∈ tables_1, d.before a0 Z = true) (eT : T.heap = h0) (N : Fr n0 locs) (Z0 : n0 ≤ h0.size) (hcs : cells ≤ room_1.cells) (hss : slots ≤ room_1.slots) (p1 : Int32) (p2 : Int32) (p3 : Int32) (p4 : Int64) {w : Int32} (hv : oF0_43 p1 p2 p3 p4 = w) : oEnd p e s below T (mkF m 43 #[.val (.int p1), .val (.int p2), .val (.int p3), .val (.long p4), .second, .unset] []) n0 h0 cells slots (some (.int w)) := by
  show oEnd p e s below T (mkF m 43 #[.val (.int p1), .val (.int p2), .val (.int p3), .val (.long p4), .second, .unset] []) n0 h0 cells slots (some (.int w))
  refine oPre (fun _ => XS.iconst X.here hx rfl (hb hby at_43)) ?_
  exact oB0_44 X hx hby hml hret hlk hown hZ hw eT N Z0 hcs hss p1 p2 p3 p4 (0 : Int32) hv
def oF0_14 (p1 : Int32) (p2 : Int32) (q1 : Int32) : Int32 := (if q1 < (0 : Int32) then (oF0_43 p1 p2 q1 (4294977024 : Int64)) else (if q1 < (64 : Int32) then (if (lcmpW ((((4294977024 : Int64).toUInt64 >>> (q1 &&& 0x3f).toInt64.toUInt64).toInt64) &&& (1 : Int64)) (1 : Int64)) = (0 : Int32) then (oF0_44 p1 p2 q1 (4294977024 : Int64) (1 : Int32)) else (oF0_43 p1 p2 q1 (4294977024 : Int64))) else (oF0_43 p1 p2 q1 (4294977024 : Int64))))
set_option maxRecDepth 65536 in
set_option maxHeartbeats 4000000 in
theorem oB0_14 {p : Program} {l : Launch} {e : Env} {s : State} {m : MethodId} {args : Array Value} {below : List Frame} {meth : Method} {c : Code} {T : State} {locs : List Loc} {cells slots : Nat} {Z : State} {a0 : Array Value} {h0 : Heap} {n0 : Nat} (X : Stand p l e room_1 s m args below meth c T locs cells slots) (hx : p.tables.exec = Jvm.exec) (hby : c.code = code) (hml : c.maxLocals = 6) (hret : meth.sig.returnType = some .boolean) (hlk : meth.locks = false) (hown : s.vm.findClass "org/provenote/core/xml/XmlCharactersIsSpacePinLaw" = some m.cls) (hZ : Z.Warmed39 s.vm) (hw : ∀ d ∈ tables_1, d.before a0 Z = true) (eT : T.heap = h0) (N : Fr n0 locs) (Z0 : n0 ≤ h0.size) (hcs : cells ≤ room_1.cells) (hss : slots ≤ room_1.slots) (p1 : Int32) (p2 : Int32) (q1 : Int32) {w : Int32} (hv : oF0_14 p1 p2 q1 = w) : oEnd p e s below T (mkF m 14 #[.val (.int p1), .val (.int p2), .unset, .unset, .unset, .unset] [(.int q1)]) n0 h0 cells slots (some (.int w)) := by
  show oEnd p e s below T (mkF m 14 #[.val (.int p1), .val (.int p2), .unset, .unset, .unset, .unset] [(.int q1)]) n0 h0 cells slots (some (.int w))
  refine oPre (fun _ => XS.istoreN X.here hx rfl (hb hby at_14) rfl (l' := #[.val (.int p1), .val (.int p2), .val (.int q1), .unset, .unset, .unset]) rfl) ?_
  show oEnd p e s below T (mkF m 15 #[.val (.int p1), .val (.int p2), .val (.int q1), .unset, .unset, .unset] []) n0 h0 cells slots (some (.int w))
  refine oPre (fun _ => X.ldc2Long hx hown (mvT hZ (hw _ (List.mem_of_getElem? (i := 0) rfl))) (g := (mkF m 15 #[.val (.int p1), .val (.int p2), .val (.int q1), .unset, .unset, .unset] [])) rfl (hb hby at_15) _) ?_
  show oEnd p e s below T (mkF m 18 #[.val (.int p1), .val (.int p2), .val (.int q1), .unset, .unset, .unset] [(.long (4294977024 : Int64))]) n0 h0 cells slots (some (.int w))
  refine oPre (fun _ => XS.lstoreN X.here hx rfl (hb hby at_18) rfl (l' := #[.val (.int p1), .val (.int p2), .val (.int q1), .val (.long (4294977024 : Int64)), .second, .unset]) rfl) ?_
  show oEnd p e s below T (mkF m 19 #[.val (.int p1), .val (.int p2), .val (.int q1), .val (.long (4294977024 : Int64)), .second, .unset] []) n0 h0 cells slots (some (.int w))
  refine oPre (fun _ => XS.iloadN X.here hx rfl (hb hby at_19) rfl) ?_
  show oEnd p e s below T (mkF m 20 #[.val (.int p1), .val (.int p2), .val (.int q1), .val (.long (4294977024 : Int64)), .second, .unset] [(.int q1)]) n0 h0 cells slots (some (.int w))
  by_cases h20 : q1 < (0 : Int32)
  · have v20 : (oF0_43 p1 p2 q1 (4294977024 : Int64)) = w := (if_pos h20).symm.trans hv
    refine oPre (fun _ => XS.ifYes X.here hx rfl (pc0 := 20) (pc' := 43) rfl (hb hby at_20) rfl ((if0 _ _).trans ((tlt h20).1)) (by decide) (by decide)) ?_
    exact oB0_43 X hx hby hml hret hlk hown hZ hw eT N Z0 hcs hss p1 p2 q1 (4294977024 : Int64) v20
  · have v20 : (if q1 < (64 : Int32) then (if (lcmpW ((((4294977024 : Int64).toUInt64 >>> (q1 &&& 0x3f).toInt64.toUInt64).toInt64) &&& (1 : Int64)) (1 : Int64)) = (0 : Int32) then (oF0_44 p1 p2 q1 (4294977024 : Int64) (1 : Int32)) else (oF0_43 p1 p2 q1 (4294977024 : Int64))) else (oF0_43 p1 p2 q1 (4294977024 : Int64))) = w := (if_neg h20).symm.trans hv
    refine oPre (fun _ => XS.ifNo X.here hx rfl (hb hby at_20) rfl ((if0 _ _).trans ((flt h20).1))) ?_
    show oEnd p e s below T (mkF m 23 #[.val (.int p1), .val (.int p2), .val (.int q1), .val (.long (4294977024 : Int64)), .second, .unset] []) n0 h0 cells slots (some (.int w))
    refine oPre (fun _ => XS.iloadN X.here hx rfl (hb hby at_23) rfl) ?_
    show oEnd p e s below T (mkF m 24 #[.val (.int p1), .val (.int p2), .val (.int q1), .val (.long (4294977024 : Int64)), .second, .unset] [(.int q1)]) n0 h0 cells slots (some (.int w))
    refine oPre (fun _ => XS.bipush X.here hx rfl (hb hby at_24)) ?_
    show oEnd p e s below T (mkF m 26 #[.val (.int p1), .val (.int p2), .val (.int q1), .val (.long (4294977024 : Int64)), .second, .unset] [(.int (64 : Int32)), (.int q1)]) n0 h0 cells slots (some (.int w))
    by_cases h26 : q1 < (64 : Int32)
    · have v26 : (if (lcmpW ((((4294977024 : Int64).toUInt64 >>> (q1 &&& 0x3f).toInt64.toUInt64).toInt64) &&& (1 : Int64)) (1 : Int64)) = (0 : Int32) then (oF0_44 p1 p2 q1 (4294977024 : Int64) (1 : Int32)) else (oF0_43 p1 p2 q1 (4294977024 : Int64))) = w := (if_pos h26).symm.trans v20
      refine oPre (fun _ => XS.icmpNo X.here hx rfl (hb hby at_26) rfl (((tlt h26).2.1))) ?_
      show oEnd p e s below T (mkF m 29 #[.val (.int p1), .val (.int p2), .val (.int q1), .val (.long (4294977024 : Int64)), .second, .unset] []) n0 h0 cells slots (some (.int w))
      refine oPre (fun _ => XS.lloadN X.here hx rfl (hb hby at_29) rfl) ?_
      show oEnd p e s below T (mkF m 30 #[.val (.int p1), .val (.int p2), .val (.int q1), .val (.long (4294977024 : Int64)), .second, .unset] [(.long (4294977024 : Int64))]) n0 h0 cells slots (some (.int w))
      refine oPre (fun _ => XS.iloadN X.here hx rfl (hb hby at_30) rfl) ?_
      show oEnd p e s below T (mkF m 31 #[.val (.int p1), .val (.int p2), .val (.int q1), .val (.long (4294977024 : Int64)), .second, .unset] [(.int q1), (.long (4294977024 : Int64))]) n0 h0 cells slots (some (.int w))
      refine oPre (fun _ => XS.lushr X.here hx rfl (hb hby at_31) rfl) ?_
      show oEnd p e s below T (mkF m 32 #[.val (.int p1), .val (.int p2), .val (.int q1), .val (.long (4294977024 : Int64)), .second, .unset] [(.long (((4294977024 : Int64).toUInt64 >>> (q1 &&& 0x3f).toInt64.toUInt64).toInt64))]) n0 h0 cells slots (some (.int w))
      refine oPre (fun _ => XS.lconst X.here hx rfl (hb hby at_32)) ?_
      show oEnd p e s below T (mkF m 33 #[.val (.int p1), .val (.int p2), .val (.int q1), .val (.long (4294977024 : Int64)), .second, .unset] [(.long (1 : Int64)), (.long (((4294977024 : Int64).toUInt64 >>> (q1 &&& 0x3f).toInt64.toUInt64).toInt64))]) n0 h0 cells slots (some (.int w))
      refine oPre (fun _ => XS.land X.here hx rfl (hb hby at_33) rfl) ?_
      show oEnd p e s below T (mkF m 34 #[.val (.int p1), .val (.int p2), .val (.int q1), .val (.long (4294977024 : Int64)), .second, .unset] [(.long ((((4294977024 : Int64).toUInt64 >>> (q1 &&& 0x3f).toInt64.toUInt64).toInt64) &&& (1 : Int64)))]) n0 h0 cells slots (some (.int w))
      refine oPre (fun _ => XS.lconst X.here hx rfl (hb hby at_34)) ?_
      show oEnd p e s below T (mkF m 35 #[.val (.int p1), .val (.int p2), .val (.int q1), .val (.long (4294977024 : Int64)), .second, .unset] [(.long (1 : Int64)), (.long ((((4294977024 : Int64).toUInt64 >>> (q1 &&& 0x3f).toInt64.toUInt64).toInt64) &&& (1 : Int64)))]) n0 h0 cells slots (some (.int w))
      refine oPre (fun _ => XS.lcmp X.here hx rfl (hb hby at_35) rfl) ?_
      show oEnd p e s below T (mkF m 36 #[.val (.int p1), .val (.int p2), .val (.int q1), .val (.long (4294977024 : Int64)), .second, .unset] [(.int (lcmpW ((((4294977024 : Int64).toUInt64 >>> (q1 &&& 0x3f).toInt64.toUInt64).toInt64) &&& (1 : Int64)) (1 : Int64)))]) n0 h0 cells slots (some (.int w))
      by_cases h36 : (lcmpW ((((4294977024 : Int64).toUInt64 >>> (q1 &&& 0x3f).toInt64.toUInt64).toInt64) &&& (1 : Int64)) (1 : Int64)) = (0 : Int32)
      · have v36 : (oF0_44 p1 p2 q1 (4294977024 : Int64) (1 : Int32)) = w := (if_pos h36).symm.trans v26
        refine oPre (fun _ => XS.ifNo X.here hx rfl (hb hby at_36) rfl ((if0 _ _).trans ((teq h36).2))) ?_
        show oEnd p e s below T (mkF m 39 #[.val (.int p1), .val (.int p2), .val (.int q1), .val (.long (4294977024 : Int64)), .second, .unset] []) n0 h0 cells slots (some (.int w))
        refine oPre (fun _ => XS.iconst X.here hx rfl (hb hby at_39)) ?_
        show oEnd p e s below T (mkF m 40 #[.val (.int p1), .val (.int p2), .val (.int q1), .val (.long (4294977024 : Int64)), .second, .unset] [(.int (1 : Int32))]) n0 h0 cells slots (some (.int w))
        refine oPre (fun _ => XS.goto X.here hx rfl (pc0 := 40) (pc' := 44) rfl (hb hby at_40) (by decide) (by decide)) ?_
        exact oB0_44 X hx hby hml hret hlk hown hZ hw eT N Z0 hcs hss p1 p2 q1 (4294977024 : Int64) (1 : Int32) v36
      · have v36 : (oF0_43 p1 p2 q1 (4294977024 : Int64)) = w := (if_neg h36).symm.trans v26
        refine oPre (fun _ => XS.ifYes X.here hx rfl (pc0 := 36) (pc' := 43) rfl (hb hby at_36) rfl ((if0 _ _).trans ((feq h36).2)) (by decide) (by decide)) ?_
        exact oB0_43 X hx hby hml hret hlk hown hZ hw eT N Z0 hcs hss p1 p2 q1 (4294977024 : Int64) v36
    · have v26 : (oF0_43 p1 p2 q1 (4294977024 : Int64)) = w := (if_neg h26).symm.trans v20
      refine oPre (fun _ => XS.icmpYes X.here hx rfl (pc0 := 26) (pc' := 43) rfl (hb hby at_26) rfl (((flt h26).2.1)) (by decide) (by decide)) ?_
      exact oB0_43 X hx hby hml hret hlk hown hZ hw eT N Z0 hcs hss p1 p2 q1 (4294977024 : Int64) v26
def oF0_0 (p1 : Int32) (p2 : Int32) : Int32 := (if (p2 &&& (1 : Int32)) = (0 : Int32) then (oF0_14 p1 p2 (p1 &&& (63 : Int32))) else (oF0_14 p1 p2 p1))
set_option maxRecDepth 65536 in
set_option maxHeartbeats 4000000 in
theorem oB0_0 {p : Program} {l : Launch} {e : Env} {s : State} {m : MethodId} {args : Array Value} {below : List Frame} {meth : Method} {c : Code} {T : State} {locs : List Loc} {cells slots : Nat} {Z : State} {a0 : Array Value} {h0 : Heap} {n0 : Nat} (X : Stand p l e room_1 s m args below meth c T locs cells slots) (hx : p.tables.exec = Jvm.exec) (hby : c.code = code) (hml : c.maxLocals = 6) (hret : meth.sig.returnType = some .boolean) (hlk : meth.locks = false) (hown : s.vm.findClass "org/provenote/core/xml/XmlCharactersIsSpacePinLaw" = some m.cls) (hZ : Z.Warmed39 s.vm) (hw : ∀ d ∈ tables_1, d.before a0 Z = true) (eT : T.heap = h0) (N : Fr n0 locs) (Z0 : n0 ≤ h0.size) (hcs : cells ≤ room_1.cells) (hss : slots ≤ room_1.slots) (p1 : Int32) (p2 : Int32) {w : Int32} (hv : oF0_0 p1 p2 = w) : oEnd p e s below T (mkF m 0 #[.val (.int p1), .val (.int p2), .unset, .unset, .unset, .unset] []) n0 h0 cells slots (some (.int w)) := by
  show oEnd p e s below T (mkF m 0 #[.val (.int p1), .val (.int p2), .unset, .unset, .unset, .unset] []) n0 h0 cells slots (some (.int w))
  refine oPre (fun _ => XS.iloadN X.here hx rfl (hb hby at_0) rfl) ?_
  show oEnd p e s below T (mkF m 1 #[.val (.int p1), .val (.int p2), .unset, .unset, .unset, .unset] [(.int p2)]) n0 h0 cells slots (some (.int w))
  refine oPre (fun _ => XS.iconst X.here hx rfl (hb hby at_1)) ?_
  show oEnd p e s below T (mkF m 2 #[.val (.int p1), .val (.int p2), .unset, .unset, .unset, .unset] [(.int (1 : Int32)), (.int p2)]) n0 h0 cells slots (some (.int w))
  refine oPre (fun _ => XS.iand X.here hx rfl (hb hby at_2) rfl) ?_
  show oEnd p e s below T (mkF m 3 #[.val (.int p1), .val (.int p2), .unset, .unset, .unset, .unset] [(.int (p2 &&& (1 : Int32)))]) n0 h0 cells slots (some (.int w))
  by_cases h3 : (p2 &&& (1 : Int32)) = (0 : Int32)
  · have v3 : (oF0_14 p1 p2 (p1 &&& (63 : Int32))) = w := (if_pos h3).symm.trans hv
    refine oPre (fun _ => XS.ifYes X.here hx rfl (pc0 := 3) (pc' := 10) rfl (hb hby at_3) rfl ((if0 _ _).trans ((teq h3).1)) (by decide) (by decide)) ?_
    show oEnd p e s below T (mkF m 10 #[.val (.int p1), .val (.int p2), .unset, .unset, .unset, .unset] []) n0 h0 cells slots (some (.int w))
    refine oPre (fun _ => XS.iloadN X.here hx rfl (hb hby at_10) rfl) ?_
    show oEnd p e s below T (mkF m 11 #[.val (.int p1), .val (.int p2), .unset, .unset, .unset, .unset] [(.int p1)]) n0 h0 cells slots (some (.int w))
    refine oPre (fun _ => XS.bipush X.here hx rfl (hb hby at_11)) ?_
    show oEnd p e s below T (mkF m 13 #[.val (.int p1), .val (.int p2), .unset, .unset, .unset, .unset] [(.int (63 : Int32)), (.int p1)]) n0 h0 cells slots (some (.int w))
    refine oPre (fun _ => XS.iand X.here hx rfl (hb hby at_13) rfl) ?_
    exact oB0_14 X hx hby hml hret hlk hown hZ hw eT N Z0 hcs hss p1 p2 (p1 &&& (63 : Int32)) v3
  · have v3 : (oF0_14 p1 p2 p1) = w := (if_neg h3).symm.trans hv
    refine oPre (fun _ => XS.ifNo X.here hx rfl (hb hby at_3) rfl ((if0 _ _).trans ((feq h3).1))) ?_
    show oEnd p e s below T (mkF m 6 #[.val (.int p1), .val (.int p2), .unset, .unset, .unset, .unset] []) n0 h0 cells slots (some (.int w))
    refine oPre (fun _ => XS.iloadN X.here hx rfl (hb hby at_6) rfl) ?_
    show oEnd p e s below T (mkF m 7 #[.val (.int p1), .val (.int p2), .unset, .unset, .unset, .unset] [(.int p1)]) n0 h0 cells slots (some (.int w))
    refine oPre (fun _ => XS.goto X.here hx rfl (pc0 := 7) (pc' := 14) rfl (hb hby at_7) (by decide) (by decide)) ?_
    exact oB0_14 X hx hby hml hret hlk hown hZ hw eT N Z0 hcs hss p1 p2 p1 v3
theorem oLt {c k : Int32} {n : Int} (hk : k.toInt = n) (h : c.toInt < n) : c < k := by rw [Int32.lt_iff_toInt_lt, hk]; exact h
theorem oNlt {c k : Int32} {n : Int} (hk : k.toInt = n) (h : n ≤ c.toInt) : ¬ c < k := by rw [Int32.lt_iff_toInt_lt, hk]; omega
theorem oGt {c k : Int32} {n : Int} (hk : k.toInt = n) (h : n < c.toInt) : k < c := by rw [Int32.lt_iff_toInt_lt, hk]; exact h
theorem oNgt {c k : Int32} {n : Int} (hk : k.toInt = n) (h : c.toInt ≤ n) : ¬ k < c := by rw [Int32.lt_iff_toInt_lt, hk]; omega
theorem oEq {c k : Int32} {n : Int} (hk : k.toInt = n) (h : c.toInt = n) : c = k := Int32.toInt_inj.mp (h.trans hk.symm)
theorem oNe {c k : Int32} {n : Int} (hk : k.toInt = n) (h : c.toInt ≠ n) : ¬ c = k := fun q => h (by rw [q, hk])
theorem oI_0 (c : Int32) (h1 : -2147483648 ≤ c.toInt) (h2 : c.toInt ≤ -1) : oF0_14 0 0 c = 1 := by
  have e_oF1_0 : oF1_0 c = 0 := by
    rw [oF1_0, if_neg (oNe (c := c) (k := (32 : Int32)) (n := 32) (by decide) (by omega)), if_neg (oNe (c := c) (k := (9 : Int32)) (n := 9) (by decide) (by omega)), if_neg (oNe (c := c) (k := (10 : Int32)) (n := 10) (by decide) (by omega)), if_neg (oNe (c := c) (k := (13 : Int32)) (n := 13) (by decide) (by omega)), oF1_29]
    try decide
  by_cases k1 : c < (0 : Int32)
  · rw [oF0_14, if_pos k1, oF0_43, oF0_44, e_oF1_0]; rfl
  · have k2 : ¬ c < (64 : Int32) := by
      rw [Int32.lt_iff_toInt_lt] at k1 ⊢
      have z0 : (0 : Int32).toInt = 0 := by decide
      have z1 : (64 : Int32).toInt = 64 := by decide
      omega
    rw [oF0_14, if_neg k1, if_neg k2, oF0_43, oF0_44, e_oF1_0]; rfl
theorem oI_9 (c : Int32) (h1 : 64 ≤ c.toInt) (h2 : c.toInt ≤ 2147483647) : oF0_14 0 0 c = 1 := by
  have e_oF1_0 : oF1_0 c = 0 := by
    rw [oF1_0, if_neg (oNe (c := c) (k := (32 : Int32)) (n := 32) (by decide) (by omega)), if_neg (oNe (c := c) (k := (9 : Int32)) (n := 9) (by decide) (by omega)), if_neg (oNe (c := c) (k := (10 : Int32)) (n := 10) (by decide) (by omega)), if_neg (oNe (c := c) (k := (13 : Int32)) (n := 13) (by decide) (by omega)), oF1_29]
    try decide
  by_cases k1 : c < (0 : Int32)
  · rw [oF0_14, if_pos k1, oF0_43, oF0_44, e_oF1_0]; rfl
  · have k2 : ¬ c < (64 : Int32) := by
      rw [Int32.lt_iff_toInt_lt] at k1 ⊢
      have z0 : (0 : Int32).toInt = 0 := by decide
      have z1 : (64 : Int32).toInt = 64 := by decide
      omega
    rw [oF0_14, if_neg k1, if_neg k2, oF0_43, oF0_44, e_oF1_0]; rfl
theorem oSmall : ∀ n : Fin 64, oF0_14 0 0 (Int32.ofInt (n.val : Int)) = 1 := by decide +kernel
theorem oAgree (c : Int32) : oF0_14 0 0 c = 1 := by
  have hlo := c.le_toInt
  have hhi := c.toInt_lt
  by_cases g0 : c.toInt ≤ -1
  · exact oI_0 c (by omega) g0
  by_cases gs : c.toInt < 64
  · have q := oSmall ⟨c.toInt.toNat, by omega⟩
    have e : ((c.toInt.toNat : Nat) : Int) = c.toInt := Int.toNat_of_nonneg (by omega)
    simp only [e, Int32.ofInt_toInt] at q
    exact q
  by_cases g9 : c.toInt ≤ 2147483647
  · exact oI_9 c (by omega) g9
  exfalso; omega
theorem oAt (a b c : Int32) : oF0_14 a b c = 1 := oAgree c
theorem oLaw (p1 p2 : Int32) : oF0_0 p1 p2 = 1 := by
  rw [oF0_0]
  by_cases h1 : (p2 &&& (1 : Int32)) = (0 : Int32)
  · rw [if_pos h1, oAt]
  · rw [if_neg h1, oAt]
theorem pn_0 : plainName "org/provenote/core/xml/XmlCharactersIsSpacePinLaw" = true := by first | (simp [plainName, overriddenIn]; done) | decide +kernel
theorem ef_0 (m : MethodId) (p1 : Int32) (p2 : Int32) : entryFrame m #[(.int p1), (.int p2)] maxLocals = mkF m 0 #[.val (.int p1), .val (.int p2), .unset, .unset, .unset, .unset] [] := by first | (simp [entryFrame, mkF, argsToLocals, Value.category, maxLocals]; done) | rfl
def oQ0 (p1 : Int32) (p2 : Int32) (h0 : Heap) (n0 : Nat) (v : Option Value) (h : Heap) (L : List Loc) : Prop := v = some (.int (1)) ∧ Fr n0 L ∧ h = h0
set_option maxRecDepth 65536 in
set_option maxHeartbeats 4000000 in
theorem oR0 (l : Launch) (Z : State) (a0 : Array Value) (hw : ∀ d ∈ tables_1, d.before a0 Z = true) (ws : List Jvm.Cond) (p1 : Int32) (p2 : Int32) (h0 : Heap) (n0 : Nat) (Z0 : n0 ≤ h0.size) :
    MetFree l x (head1 (Jvm.Cond.code x code maxLocals ret :: ws) room_1) (fun a U => a = #[(.int p1), (.int p2)] ∧ Z.Warmed39 U.vm ∧ U.heap = h0) (fun _ _ _ _ _ => True) (fun _ U o U' => ∃ v L, o = .returned v ∧ oQ0 p1 p2 h0 n0 v U'.heap L ∧ FrameEnd U o U' L room_1.cells room_1.slots) := by
  refine MetFree.of_bodySF (plainFor_of_name pn_0) hisR ?_
  intro p e s m args below meth c s₁ Bd hml0 hP hK
  obtain ⟨rfl, hZ, hh⟩ := hP
  have hown : s.vm.findClass "org/provenote/core/xml/XmlCharactersIsSpacePinLaw" = some m.cls := findClass_of_methodNamed Bd.named
  have X0 : Stand p l e room_1 s m #[(.int p1), (.int p2)] below meth c s₁ [] 0 0 := Stand.of_body Bd
  have e0 : s₁.heap = h0 := by rw [← hh, Bd.state]; rfl
  obtain ⟨t, L, hs, hrun, hended, hW, hsame, hN, ht⟩ := oB0_0 X0 Bd.exec Bd.bytes hml0 Bd.returns Bd.notSynchronized hown hZ hw e0 (Fr.nil n0) Z0 (Nat.zero_le _) (Nat.zero_le _) p1 p2 (oLaw p1 p2)
  exact ⟨t, _, castTop (ef_0 m p1 p2) hs, hrun, hended, _, L, rfl, ⟨rfl, hN, ht⟩, ⟨_, rfl⟩, hW, hsame.mono (Nat.zero_le _) (Nat.zero_le _)⟩
set_option maxRecDepth 65536 in
set_option maxHeartbeats 4000000 in
theorem comes_1 {Post : Tables → Env → Array Value → State → Outcome → State → Prop} (hpost : ∀ tb e args s v u, (limb_1_1.after args s (.returned v) u = true ∧ limb_1_2.after args s (.returned v) u = true ∧ True) → FrameEnd s (.returned v) u (Jvm.fieldLocs frame_1_writes args s ++ Jvm.arrayLocs frame_1_arrays args s ++ Jvm.staticLocs frame_1_statics s) 0 0 → Post tb e args s (.returned v) u) :
    ArmFor flags0 classFile x code maxLocals ret World_1 tables_1 room_1 Calls_1 rest_1 Pre_1 Post := by
  intro l hfl _ _ p e ha hc hk s m args below hf hA hF happ hP
  obtain ⟨hcalls, hrest, hpre⟩ := hP
  obtain ⟨-, -, -, hnamed, -, -, -, hat⟩ := (Spec.applies_iff hf).mp happ
  obtain ⟨hg, hn⟩ := and_e (Cond.before_iff.mp (show (Jvm.Cond.and given_1 narrow_1).before args s = true from hpre))
  obtain ⟨gc, gr0⟩ := and_e hg
  obtain ⟨g0, gr1⟩ := and_e gr0
  have g1 := gr1
  obtain ⟨w0, w1, rfl⟩ : ∃ w0 w1 : Value, args = #[w0, w1] := by
    have hs : args.size = 2 := by simpa [Cond.value, given_1] using gc
    obtain ⟨L⟩ := args
    match L, hs with
    | [w0, w1], _ => exact ⟨w0, w1, rfl⟩
  have hw := fun d (hd : d ∈ tables_1) => atoms_spec (ws := Jvm.Cond.code x code maxLocals ret :: tables_1) hat d (List.mem_cons_of_mem _ hd)
  obtain ⟨i0, ei0⟩ := is_v g0
  obtain rfl : w0 = (.int i0) := Option.some.inj ei0
  obtain ⟨i1, ei1⟩ := is_v g1
  obtain rfl : w1 = (.int i1) := Option.some.inj ei1
  obtain ⟨n, o, h1, h2, h3, _, L, rfl, ⟨rfl, N, -⟩, hq⟩ := oR0 l s _ hw tables_1 i0 i1 s.heap s.heap.size (Nat.le_refl _) p e ha hc hk s m _ below hf ((Spec.applies_iff_loose hf).mp happ).1 ⟨rfl, State.Warmed39.refl s, rfl⟩ trivial
  refine ⟨n, _, h1, h2, h3, hpost _ _ _ _ _ _ ⟨Cond.after_iff.mpr rfl, Cond.after_iff.mpr (eq_i res_at (Term.int_eval (1)) rfl), trivial⟩ ⟨hq.1, hq.2.1, (hq.2.2.sift fun y hy => Or.inr (N y hy)).mono (by decide) (by decide)⟩⟩
theorem main_1_1 : Claimed_1_1 := comes_1 fun _ _ _ _ _ _ h hF => ⟨h.1, hF⟩
theorem main_1_2 : Claimed_1_2 := comes_1 fun _ _ _ _ _ _ h hF => ⟨h.2.1, hF⟩
end Jvm.Pilot.@@N@@
namespace Jvm.Pilot.@@N@@
open Jvm Jvm.ClassFile Sem Op Lib Jvm.Free Jvm.Stand Jvm.Pilot.@@N@@.Jvm.D
/-! MADE BY PROGRAM (witnessworld.py) out of the Statement's table words and the real class files: 9 classes; the members and pool entries that the words name. The judged class is class 1, her method 1. -/
namespace start1
open Jvm.ClassFile
def u (s : String) : CpInfo := .utf8 (stringToUtf16 s)
/-- a pool by its gaps: so many unusable entries, then the entry; so many at the end -/
def gap : Nat → List CpInfo → List CpInfo
  | 0, r => r
  | n + 1, r => .unusable :: gap n r
def poolList (es : List (Nat × CpInfo)) (last : Nat) : List CpInfo := es.foldr (fun e r => gap e.1 (e.2 :: r)) (gap last [])
def pool (es : List (Nat × CpInfo)) (last : Nat) : Array CpInfo := ⟨poolList es last⟩
def fileOf (pool : Array CpInfo) (this : Nat) (attrs : Array Attribute := #[]) (ms : Array MethodInfo := #[]) (fl : Nat := 33) (sup : Nat := 0) (ifs : Array Nat := #[]) (fds : Array FieldInfo := #[]) : ClassFile where
  minorVersion := 0
  majorVersion := 65
  constantPool := pool
  accessFlags := fl
  thisClass := this
  superClass := sup
  interfaces := ifs
  fields := fds
  methods := ms
  attributes := attrs
def plain (name : String) (sup : Option ClassId) : Class where
  name := name
  kind := .ordinary
  loader := none
  accessFlags := 33
  super := sup
  interfaces := #[]
  cf := none
  fields := #[]
  methods := #[]
  instanceTypes := #[]
  staticTypes := #[]
  resolved := #[]
  callSites := []
  init := .initialized
  statics := none
  mirror := none

def pool0 : Array CpInfo := pool [(5, u "<init>"), (0, u "()V"), (1, .class_ 10), (1, u "java/lang/Object")] 113

def k0m0 : Method := { name := "<init>", desc := "()V", sig := { parameters := [], returnType := none }, accessFlags := 1, code := none }
/-- java/lang/Object -/
def k0 : Class := { plain "java/lang/Object" none with
  accessFlags := 33
  interfaces := #[]
  cf := some (fileOf pool0 8 #[] #[{ accessFlags := 1, nameIndex := 5, descriptorIndex := 6, attributes := #[] }] 33 0 #[] #[])
  fields := #[]
  methods := #[k0m0]
  instanceTypes := #[]
  staticTypes := #[]
  resolved := Array.replicate 124 none
  statics := none }

def pool1 : Array CpInfo := pool [(2, .class_ 4), (1, u "java/lang/Object"), (0, u "<init>"), (0, u "()V"), (0, .long 4294977024), (1, .methodref 10 11), (0, .class_ 12), (0, .nameAndType 13 14), (0, u "org/provenote/core/xml/XmlCharacters"), (0, u "isSpace"), (0, u "(I)Z"), (0, .class_ 16), (0, u "org/provenote/core/xml/XmlCharactersIsSpacePinLaw"), (2, u "law"), (0, u "(II)Z")] 3

def k1m0 : Method := { name := "<init>", desc := "()V", sig := { parameters := [], returnType := none }, accessFlags := 1, code := none }
def k1c1 : Code := { maxStack := 4, maxLocals := 6, code := code, exceptionTable := #[], attributes := #[] }
def k1m1 : Method := { name := "law", desc := "(II)Z", sig := { parameters := [.int, .int], returnType := some .boolean }, accessFlags := 9, code := some k1c1 }
/-- org/provenote/core/xml/XmlCharactersIsSpacePinLaw -/
def k1 : Class := { plain "org/provenote/core/xml/XmlCharactersIsSpacePinLaw" (some 0) with
  accessFlags := 49
  interfaces := #[]
  cf := some (fileOf pool1 15 #[] #[{ accessFlags := 1, nameIndex := 5, descriptorIndex := 6, attributes := #[] }, { accessFlags := 9, nameIndex := 19, descriptorIndex := 20, attributes := #[] }] 49 2 #[] #[])
  fields := #[]
  methods := #[k1m0, k1m1]
  instanceTypes := #[]
  staticTypes := #[]
  resolved := Array.replicate 24 none
  statics := none }

def pool2 : Array CpInfo := pool [(2, .class_ 4), (1, u "java/lang/Object"), (0, u "<init>"), (0, u "()V"), (8, .class_ 17), (1, u "org/provenote/core/xml/XmlCharacters"), (1, u "(I)Z"), (6, u "NEXT_LINE"), (0, u "I"), (4, u "isSpace")] 4

def k2m0 : Method := { name := "<init>", desc := "()V", sig := { parameters := [], returnType := none }, accessFlags := 2, code := none }
def k2c1 : Code := { maxStack := 2, maxLocals := 1, code := prog_98_method_2_code, exceptionTable := #[], attributes := #[] }
def k2m1 : Method := { name := "isSpace", desc := "(I)Z", sig := { parameters := [.int], returnType := some .boolean }, accessFlags := 9, code := some k2c1 }
/-- org/provenote/core/xml/XmlCharacters -/
def k2 : Class := { plain "org/provenote/core/xml/XmlCharacters" (some 0) with
  accessFlags := 49
  interfaces := #[]
  cf := some (fileOf pool2 15 #[] #[{ accessFlags := 2, nameIndex := 5, descriptorIndex := 6, attributes := #[] }, { accessFlags := 9, nameIndex := 32, descriptorIndex := 19, attributes := #[] }] 49 2 #[] #[{ accessFlags := 24, nameIndex := 26, descriptorIndex := 27, attributes := #[] }])
  fields := #[{ name := "NEXT_LINE", type := .int, accessFlags := 24, slot := 0, constantValue := 0 }]
  methods := #[k2m0, k2m1]
  instanceTypes := #[]
  staticTypes := #[.int]
  resolved := Array.replicate 37 none
  statics := none }

def pool3 : Array CpInfo := pool [(1, u "java/lang/Cloneable"), (0, .class_ 1), (0, u "java/lang/Object"), (0, .class_ 3)] 3

/-- java/lang/Cloneable -/
def k3 : Class := { plain "java/lang/Cloneable" (some 0) with
  accessFlags := 1537
  interfaces := #[]
  cf := some (fileOf pool3 2 #[] #[] 1537 4 #[] #[])
  fields := #[]
  methods := #[]
  instanceTypes := #[]
  staticTypes := #[]
  resolved := Array.replicate 8 none
  statics := none }

def pool4 : Array CpInfo := pool [(1, u "java/io/Serializable"), (0, .class_ 1), (0, u "java/lang/Object"), (0, .class_ 3)] 3

/-- java/io/Serializable -/
def k4 : Class := { plain "java/io/Serializable" (some 0) with
  accessFlags := 1537
  interfaces := #[]
  cf := some (fileOf pool4 2 #[] #[] 1537 4 #[] #[])
  fields := #[]
  methods := #[]
  instanceTypes := #[]
  staticTypes := #[]
  resolved := Array.replicate 8 none
  statics := none }

/-- the primitive byte -/
def k5 : Class := { plain "byte" none with kind := .primitive 'B', accessFlags := 0x411 }
/-- [B -/
def k6 : Class := { plain "[B" (some 0) with kind := .array 5 .byte, interfaces := #[3, 4], accessFlags := 1041 }

/-- the primitive int -/
def k7 : Class := { plain "int" none with kind := .primitive 'I', accessFlags := 0x411 }
/-- [I -/
def k8 : Class := { plain "[I" (some 0) with kind := .array 7 .int, interfaces := #[3, 4], accessFlags := 1041 }

def heap : Heap := #[]
def classes : Array Class := #[k0, k1, k2, k3, k4, k5, k6, k7, k8]
def interned : List (Array UInt16 × Addr) := []
def slotsUsed : Nat := 0
def theMethod : MethodId := ⟨1, 1⟩
def args0 : Array Value := #[.int 5, .int 1]
def aboutOver (below : List Frame) : State where
  vm := { classes := classes, interned := interned.toArray }
  heap := heap
  slotsUsed := slotsUsed
  threads := #[{ frames := .invoking theMethod args0 :: below }]
def below0 : List Frame := [.native { method := ⟨0, 0⟩, args := #[] }]
def about1 : State := aboutOver below0
def p0 : Program := .bare "" "" ""
def e0 : Env := launch0.env 0 0 0
theorem w_frames : about1.frames = Frame.invoking theMethod args0 :: below0 := rfl
set_option maxRecDepth 65536 in
theorem w_args : argsFit about1.vm theMethod args0 = true := by decide +kernel
set_option maxRecDepth 65536 in
theorem w_heap : heapFits about1 = true := by decide +kernel
set_option maxRecDepth 65536 in
theorem w_runnable : about1.curStatus? = some .runnable := by decide +kernel
set_option maxRecDepth 65536 in
theorem w_alone : about1.alone = true := by decide +kernel
set_option maxRecDepth 65536 in
theorem w_named : about1.methodNamed? x = some theMethod := by decide +kernel
set_option maxRecDepth 65536 in
theorem w_hears : about1.hears theMethod below0 = true := by decide +kernel
set_option maxRecDepth 65536 in
theorem w_ripe : about1.ripe theMethod args0 below0 = true := by decide +kernel
theorem w_running : about1.status = .running := rfl
set_option maxRecDepth 65536 in
theorem w_room : about1.hasRoom e0.platform room_1 = true :=
  launch0.hasRoom_least _ room_1 (by decide +kernel) (by decide +kernel) (by decide +kernel) (by decide +kernel) (by decide +kernel) (by decide +kernel)
theorem allAtoms_all (ts : List Jvm.Cond) (a : Array Jvm.Value) (st : Jvm.State) : (allAtoms ts).before a st = ts.all (fun c => c.before a st) := by
  induction ts with
  | nil => rfl
  | cons c t ih =>
    show (Jvm.Cond.and c (allAtoms t)).before a st = _
    rw [Jvm.Cond.before_and, ih, List.all_cons]
def words1 : List Jvm.Cond := Jvm.Cond.code x code maxLocals ret :: tables_1
/-- a 'code' word, met by the world's own term for the bytes: nothing is compared byte by byte -/
theorem code_word {y : MethodName} {bytes : ByteArray} {mx : Nat} {rt : Option FieldType} {a : Array Value} {s : State} {m : MethodId} {meth : Method} {c : Code} (h1 : s.methodNamed? y = some m) (h2 : s.vm.method? m = some meth) (h3 : meth.code = some c) (h4 : c.code = bytes)
    (h5 : (c.maxLocals == mx && c.exceptionTable.isEmpty && decide (c.maxStack ≤ mostOperands) && decide (meth.sig.returnType = rt) && !meth.locks && decide (parseMethodDescriptor y.desc = some meth.sig)) = true) : (Jvm.Cond.code y bytes mx rt).before a s = true := by
  simp only [Bool.and_eq_true, beq_iff_eq, Bool.not_eq_true', decide_eq_true_eq] at h5
  obtain ⟨⟨⟨⟨⟨g1, g2⟩, g3⟩, g4⟩, g5⟩, g6⟩ := h5
  simp [Cond.before, Cond.holds, Cond.value, h1, h2, h3, h4, g1, g2, g3, g4, g5, g6]
def isCode : Jvm.Cond → Bool
  | .code _ _ _ _ => true
  | _ => false
theorem all_split {L : List Jvm.Cond} {P : Jvm.Cond → Bool} (h1 : L.all (fun c => isCode c || P c) = true) (h2 : ∀ c ∈ L.filter isCode, P c = true) : L.all P = true := by
  refine List.all_eq_true.mpr fun c hc => ?_
  have h := List.all_eq_true.mp h1 c hc
  rcases Bool.eq_false_or_eq_true (isCode c) with hi | hi
  · exact h2 c (List.mem_filter.mpr ⟨hc, hi⟩)
  · simpa [hi] using h
set_option maxRecDepth 65536 in
theorem w_c0 : (Jvm.Cond.code x code maxLocals ret).before args0 about1 = true := code_word (m := ⟨1, 1⟩) (meth := k1m1) (c := k1c1) (by decide +kernel) rfl rfl rfl (by decide +kernel)
set_option maxRecDepth 65536 in
theorem w_c1 : (Jvm.Cond.code ({ cls := "org/provenote/core/xml/XmlCharacters", name := "isSpace", desc := "(I)Z" } : Jvm.MethodName) prog_98_method_2_code (1 : Nat) (Option.some Jvm.ClassFile.FieldType.boolean)).before args0 about1 = true := code_word (m := ⟨2, 1⟩) (meth := k2m1) (c := k2c1) (by decide +kernel) rfl rfl rfl (by decide +kernel)
def codes1 : List Jvm.Cond := [Jvm.Cond.code x code maxLocals ret, Jvm.Cond.code ({ cls := "org/provenote/core/xml/XmlCharacters", name := "isSpace", desc := "(I)Z" } : Jvm.MethodName) prog_98_method_2_code (1 : Nat) (Option.some Jvm.ClassFile.FieldType.boolean)]
set_option maxRecDepth 65536 in
theorem codes_eq : words1.filter isCode = codes1 := rfl
theorem w_codes : ∀ c ∈ words1.filter isCode, c.before args0 about1 = true := by
  rw [codes_eq]
  intro c hc
  simp only [codes1, List.mem_cons, List.not_mem_nil, or_false] at hc
  rcases hc with rfl | rfl
  · exact w_c0
  · exact w_c1
set_option maxRecDepth 65536 in
theorem w_t1 : words1.all (fun c => isCode c || c.before args0 about1) = true := by decide +kernel
theorem w_tables : (allAtoms (Jvm.Cond.code x code maxLocals ret :: tables_1)).before args0 about1 = true := by
  rw [allAtoms_all]
  show words1.all (fun c => c.before args0 about1) = true
  refine all_split ?_ w_codes
  rw [w_t1]
set_option maxRecDepth 65536 in
theorem w_case : (Jvm.Cond.and given_1 narrow_1).before args0 about1 = true := by decide +kernel
theorem w_applies : (headSpec (Jvm.Cond.code x code maxLocals ret :: tables_1) room_1).applies x e0.platform about1 = true :=
  (Spec.applies_iff w_frames).mpr ⟨w_running, w_runnable, w_alone, w_named, w_hears, w_ripe, w_room, w_tables⟩
theorem atStart : AtStart classFile x code maxLocals ret World_1 tables_1 room_1 Calls_1 rest_1 Pre_1 launch0 p0 e0 about1 theMethod args0 below0 :=
  ⟨lists_1, trivial, launch0.admits_env _ _ _, launch0.least_env, fairChoices_fair.cas, fairChoices_fair.clock, w_frames, w_args, w_heap, w_applies, trivial, trivial, w_case⟩
end start1
theorem witness_1 : WitnessClaimed_1 := ⟨start1.p0, start1.e0, start1.about1, start1.theMethod, start1.args0, start1.below0, start1.atStart⟩
end Jvm.Pilot.@@N@@
