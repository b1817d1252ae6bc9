import JvmDerived
import JvmDerived.Pilot.@@N@@Statement
import JvmDerived.Pilot.@@N@@Code
set_option linter.unusedVariables false
set_option linter.unusedSimpArgs false
namespace Jvm.Pilot.@@N@@
open Jvm Jvm.ClassFile Sem Op Lib Jvm.Free Jvm.Stand Jvm.LawKit Jvm.RoadKit Bundle Jvm.Pilot.@@N@@.Jvm.D
/-- the run from frame g of state T ends, returns w, leaves heap h and writes new cells alone -/
def oEnd (p : Program) (e : Env) (s : State) (below : List Frame) (T : State) (g : JFrame) (n0 : Nat) (h : Heap) (cells slots : Nat) (w : Option Value) : Prop :=
  ∃ t L, Steps p.tables e below (T.setTop g) t ∧ t.status = .running ∧ Ended t below (.returned w) ∧ s.WarmedH t.vm ∧ s.sameButNew ({ t with vm := s.vm } : State) L cells slots ∧ Fr n0 L ∧ t.heap = h
theorem oPre {p : Program} {e : Env} {s : State} {below : List Frame} {T T' : State} {g g' : JFrame} {n0 : Nat} {h : Heap} {cells slots : Nat} {w : Option Value}
    (k : ∀ target, Steps p.tables e below (T'.setTop g') target → Steps p.tables e below (T.setTop g) target) (q : oEnd p e s below T' g' n0 h cells slots w) : oEnd p e s below T g n0 h cells slots w := by
  obtain ⟨t, L, hs, r⟩ := q
  exact ⟨t, L, k t hs, r⟩
/-- what a pure body leaves -/
def oQp (r : Option Value) (h0 : Heap) (n0 : Nat) (v : Option Value) (h : Heap) (L : List Loc) : Prop := v = r ∧ Fr n0 L ∧ h = h0
def oI2c (x : Int32) : Int32 := x.toUInt32.toUInt16.toUInt32.toInt32
def oC : String := "com/example/wary_query/waryquery/model/AtomicType"
def oD : String := "Lcom/example/wary_query/waryquery/model/AtomicType;"
def oNm (i : Nat) : String := (["ANY_ATOMIC", "UNTYPED_ATOMIC", "STRING", "NORMALIZED_STRING", "TOKEN", "LANGUAGE", "NMTOKEN", "NAME", "NCNAME", "ID", "IDREF", "ENTITY", "BOOLEAN", "DECIMAL", "INTEGER", "NON_POSITIVE_INTEGER", "NEGATIVE_INTEGER", "LONG", "INT", "SHORT", "BYTE", "NON_NEGATIVE_INTEGER", "UNSIGNED_LONG", "UNSIGNED_INT", "UNSIGNED_SHORT", "UNSIGNED_BYTE", "POSITIVE_INTEGER", "FLOAT", "DOUBLE", "DURATION", "YEAR_MONTH_DURATION", "DAY_TIME_DURATION", "DATE_TIME", "DATE", "TIME", "G_YEAR_MONTH", "G_YEAR", "G_MONTH_DAY", "G_DAY", "G_MONTH", "HEX_BINARY", "BASE64_BINARY", "ANY_URI", "QNAME", "NOTATION"] : List String).getD i ""
/-- the i-th constant of the enum is an object of that class, its ordinal is i -/
def oFacts (Z : State) (h : Heap) (ad : Nat → Addr) : Prop := ∀ i, i < 45 → Sta Z h "com/example/wary_query/waryquery/model/AtomicType" (oNm i) "Lcom/example/wary_query/waryquery/model/AtomicType;" (.ref (ad i)) ∧ Exa Z h (ad i) "com/example/wary_query/waryquery/model/AtomicType" ∧ Fld Z h (ad i) "java/lang/Enum" "ordinal" "I" (.int (Int32.ofNat i))
theorem oSta_keep {Z : State} {h h' : Heap} {C n d : String} {w : Value} (K : Keep h h' []) (F : Sta Z h C n d w) : Sta Z h' C n d w := by
  obtain ⟨cf, i, k, f, st, cell, h1, h2, h3, h4, h5, r⟩ := F
  exact ⟨cf, i, k, f, st, cell, h1, h2, h3, h4, K.2.1 _ _ h5 (by simp), r⟩
theorem oInj {Z : State} {h : Heap} {ad : Nat → Addr} (F : oFacts Z h ad) {i j : Nat} (hi : i < 45) (hj : j < 45) (e : ad i = ad j) : i = j := by
  apply Classical.byContradiction
  intro q
  refine Fld.ne (F i hi).2.2 (F j hj).2.2 ?_ e
  intro r
  have r1 : Int32.ofNat i = Int32.ofNat j := Value.int.inj r
  have r2 := congrArg Int32.toInt r1
  rw [Int32.toInt_ofNat_small (by omega), Int32.toInt_ofNat_small (by omega)] at r2
  omega
/-- what isTemporal returns of the object at a -/
def oT (ad : Nat → Addr) (a : Addr) : Int32 := (if a = ad 32 then 1 else (if a = ad 33 then 1 else (if a = ad 34 then 1 else (if a = ad 35 then 1 else (if a = ad 36 then 1 else (if a = ad 37 then 1 else (if a = ad 38 then 1 else (if a = ad 39 then 1 else 0))))))))
theorem oT_in {Z : State} {h : Heap} {ad : Nat → Addr} (F : oFacts Z h ad) {i : Nat} (h1 : 32 ≤ i) (h2 : i ≤ 39) : oT ad (ad i) = 1 := by
  have : i = 32 ∨ i = 33 ∨ i = 34 ∨ i = 35 ∨ i = 36 ∨ i = 37 ∨ i = 38 ∨ i = 39 := by omega
  rcases this with rfl | rfl | rfl | rfl | rfl | rfl | rfl | rfl <;> simp [oT]
theorem oT_out {Z : State} {h : Heap} {ad : Nat → Addr} (F : oFacts Z h ad) {i : Nat} (hi : i < 45) (h : i < 32 ∨ 39 < i) : oT ad (ad i) = 0 := by
  have q : ∀ j, 32 ≤ j → j ≤ 39 → ¬ ad i = ad j := fun j g1 g2 e => by
    have := oInj F hi (by omega) e
    omega
  rw [oT, if_neg (q 32 (by decide) (by decide)), if_neg (q 33 (by decide) (by decide)), if_neg (q 34 (by decide) (by decide)), if_neg (q 35 (by decide) (by decide)), if_neg (q 36 (by decide) (by decide)), if_neg (q 37 (by decide) (by decide)), if_neg (q 38 (by decide) (by decide)), if_neg (q 39 (by decide) (by decide))]
theorem d1_0 : decode prog_185_method_12_code 0 = .ok (.aload_n 0, 1) := by decide +kernel
theorem d1_1 : decode prog_185_method_12_code 1 = .ok (.getstatic 100, 3) := by decide +kernel
theorem d1_4 : decode prog_185_method_12_code 4 = .ok (.if_acmp .eq 52, 3) := by decide +kernel
theorem d1_7 : decode prog_185_method_12_code 7 = .ok (.aload_n 0, 1) := by decide +kernel
theorem d1_8 : decode prog_185_method_12_code 8 = .ok (.getstatic 103, 3) := by decide +kernel
theorem d1_11 : decode prog_185_method_12_code 11 = .ok (.if_acmp .eq 45, 3) := by decide +kernel
theorem d1_14 : decode prog_185_method_12_code 14 = .ok (.aload_n 0, 1) := by decide +kernel
theorem d1_15 : decode prog_185_method_12_code 15 = .ok (.getstatic 106, 3) := by decide +kernel
theorem d1_18 : decode prog_185_method_12_code 18 = .ok (.if_acmp .eq 38, 3) := by decide +kernel
theorem d1_21 : decode prog_185_method_12_code 21 = .ok (.aload_n 0, 1) := by decide +kernel
theorem d1_22 : decode prog_185_method_12_code 22 = .ok (.getstatic 109, 3) := by decide +kernel
theorem d1_25 : decode prog_185_method_12_code 25 = .ok (.if_acmp .eq 31, 3) := by decide +kernel
theorem d1_28 : decode prog_185_method_12_code 28 = .ok (.aload_n 0, 1) := by decide +kernel
theorem d1_29 : decode prog_185_method_12_code 29 = .ok (.getstatic 112, 3) := by decide +kernel
theorem d1_32 : decode prog_185_method_12_code 32 = .ok (.if_acmp .eq 24, 3) := by decide +kernel
theorem d1_35 : decode prog_185_method_12_code 35 = .ok (.aload_n 0, 1) := by decide +kernel
theorem d1_36 : decode prog_185_method_12_code 36 = .ok (.getstatic 115, 3) := by decide +kernel
theorem d1_39 : decode prog_185_method_12_code 39 = .ok (.if_acmp .eq 17, 3) := by decide +kernel
theorem d1_42 : decode prog_185_method_12_code 42 = .ok (.aload_n 0, 1) := by decide +kernel
theorem d1_43 : decode prog_185_method_12_code 43 = .ok (.getstatic 118, 3) := by decide +kernel
theorem d1_46 : decode prog_185_method_12_code 46 = .ok (.if_acmp .eq 10, 3) := by decide +kernel
theorem d1_49 : decode prog_185_method_12_code 49 = .ok (.aload_n 0, 1) := by decide +kernel
theorem d1_50 : decode prog_185_method_12_code 50 = .ok (.getstatic 121, 3) := by decide +kernel
theorem d1_53 : decode prog_185_method_12_code 53 = .ok (.if_acmp .ne 7, 3) := by decide +kernel
theorem d1_56 : decode prog_185_method_12_code 56 = .ok (.iconst 1, 1) := by decide +kernel
theorem d1_57 : decode prog_185_method_12_code 57 = .ok (.goto 4, 3) := by decide +kernel
theorem d1_60 : decode prog_185_method_12_code 60 = .ok (.iconst 0, 1) := by decide +kernel
theorem d1_61 : decode prog_185_method_12_code 61 = .ok (.ireturn, 1) := by decide +kernel
def oF1_56 (p1 : Addr) : Int32 := (1 : Int32)
set_option maxRecDepth 65536 in
set_option maxHeartbeats 4000000 in
theorem oB1_56 {p : Program} {l : Launch} {e : Env} {s : State} {m : MethodId} {args : Array Value} {below : List Frame} {meth : Method} {c : Code} {T : State} {locs : List Loc} {cells slots : Nat} {Z : State} {a0 : Array Value} {h0 : Heap} {n0 : Nat} (X : Stand p l e ({ frames := 0, cells := 0, slots := 0, locals := 0 } : Room) s m args below meth c T locs cells slots) (hx : p.tables.exec = Jvm.exec) (hby : c.code = prog_185_method_12_code) (hml : c.maxLocals = 1) (hret : meth.sig.returnType = some .boolean) (hlk : meth.locks = false) (hown : s.vm.findClass "com/example/wary_query/waryquery/model/AtomicType" = some m.cls) (hZ : Z.Warmed39 s.vm) (hw : ∀ d ∈ tables_1, d.before a0 Z = true) (eT : T.heap = h0) (N : Fr n0 locs) (Z0 : n0 ≤ h0.size) (hcs : cells ≤ ({ frames := 0, cells := 0, slots := 0, locals := 0 } : Room).cells) (hss : slots ≤ ({ frames := 0, cells := 0, slots := 0, locals := 0 } : Room).slots) (p1 : Addr) {w : Int32} (hv : oF1_56 p1 = w) : oEnd p e s below T (mkF m 56 #[.val (.ref p1)] []) n0 h0 cells slots (some (.int w)) := by
  show oEnd p e s below T (mkF m 56 #[.val (.ref p1)] []) n0 h0 cells slots (some (.int w))
  refine oPre (fun _ => XS.iconst X.here hx rfl (hb hby d1_56)) ?_
  show oEnd p e s below T (mkF m 57 #[.val (.ref p1)] [(.int (1 : Int32))]) n0 h0 cells slots (some (.int w))
  refine oPre (fun _ => XS.goto X.here hx rfl (pc0 := 57) (pc' := 61) rfl (hb hby d1_57) (by decide) (by decide)) ?_
  show oEnd p e s below T (mkF m 61 #[.val (.ref p1)] [(.int (1 : Int32))]) n0 h0 cells slots (some (.int w))
  subst hv
  obtain ⟨fs, hr, hrun, hended, hW, hsame⟩ := X.leave (v := some (.int (1 : Int32))) (fun h => by rw [hret] at h; cases h) hlk
  exact ⟨_, _, retN X hx (t := .boolean) hret (by simp) (hb hby d1_61) hr, hrun, hended, hW, hsame, N, eT⟩
def oF1_60 (p1 : Addr) : Int32 := (0 : Int32)
set_option maxRecDepth 65536 in
set_option maxHeartbeats 4000000 in
theorem oB1_60 {p : Program} {l : Launch} {e : Env} {s : State} {m : MethodId} {args : Array Value} {below : List Frame} {meth : Method} {c : Code} {T : State} {locs : List Loc} {cells slots : Nat} {Z : State} {a0 : Array Value} {h0 : Heap} {n0 : Nat} (X : Stand p l e ({ frames := 0, cells := 0, slots := 0, locals := 0 } : Room) s m args below meth c T locs cells slots) (hx : p.tables.exec = Jvm.exec) (hby : c.code = prog_185_method_12_code) (hml : c.maxLocals = 1) (hret : meth.sig.returnType = some .boolean) (hlk : meth.locks = false) (hown : s.vm.findClass "com/example/wary_query/waryquery/model/AtomicType" = some m.cls) (hZ : Z.Warmed39 s.vm) (hw : ∀ d ∈ tables_1, d.before a0 Z = true) (eT : T.heap = h0) (N : Fr n0 locs) (Z0 : n0 ≤ h0.size) (hcs : cells ≤ ({ frames := 0, cells := 0, slots := 0, locals := 0 } : Room).cells) (hss : slots ≤ ({ frames := 0, cells := 0, slots := 0, locals := 0 } : Room).slots) (p1 : Addr) {w : Int32} (hv : oF1_60 p1 = w) : oEnd p e s below T (mkF m 60 #[.val (.ref p1)] []) n0 h0 cells slots (some (.int w)) := by
  show oEnd p e s below T (mkF m 60 #[.val (.ref p1)] []) n0 h0 cells slots (some (.int w))
  refine oPre (fun _ => XS.iconst X.here hx rfl (hb hby d1_60)) ?_
  show oEnd p e s below T (mkF m 61 #[.val (.ref p1)] [(.int (0 : Int32))]) n0 h0 cells slots (some (.int w))
  subst hv
  obtain ⟨fs, hr, hrun, hended, hW, hsame⟩ := X.leave (v := some (.int (0 : Int32))) (fun h => by rw [hret] at h; cases h) hlk
  exact ⟨_, _, retN X hx (t := .boolean) hret (by simp) (hb hby d1_61) hr, hrun, hended, hW, hsame, N, eT⟩
set_option maxRecDepth 65536 in
set_option maxHeartbeats 40000000 in
theorem oB1_0 {p : Program} {l : Launch} {e : Env} {s : State} {m : MethodId} {args : Array Value} {below : List Frame} {meth : Method} {c : Code} {T : State} {locs : List Loc} {cells slots : Nat} {Z : State} {a0 : Array Value} {h0 : Heap} {n0 : Nat} (X : Stand p l e ({ frames := 0, cells := 0, slots := 0, locals := 0 } : Room) s m args below meth c T locs cells slots) (hx : p.tables.exec = Jvm.exec) (hby : c.code = prog_185_method_12_code) (hml : c.maxLocals = 1) (hret : meth.sig.returnType = some .boolean) (hlk : meth.locks = false) (hown : s.vm.findClass "com/example/wary_query/waryquery/model/AtomicType" = some m.cls) (hZ : Z.Warmed39 s.vm) (hw : ∀ d ∈ tables_1, d.before a0 Z = true) (eT : T.heap = h0) (N : Fr n0 locs) (Z0 : n0 ≤ h0.size) (hcs : cells ≤ ({ frames := 0, cells := 0, slots := 0, locals := 0 } : Room).cells) (hss : slots ≤ ({ frames := 0, cells := 0, slots := 0, locals := 0 } : Room).slots) {ad : Nat → Addr} (hS : ∀ i, i < 45 → Sta Z h0 "com/example/wary_query/waryquery/model/AtomicType" (oNm i) "Lcom/example/wary_query/waryquery/model/AtomicType;" (.ref (ad i))) (a : Addr) {w : Int32} (hv : oT ad a = w) : oEnd p e s below T (mkF m 0 #[.val (.ref a)] []) n0 h0 cells slots (some (.int w)) := by
  show oEnd p e s below T (mkF m 0 #[.val (.ref a)] []) n0 h0 cells slots (some (.int w))
  refine oPre (fun _ => XS.aloadN X.here hx rfl (hb hby d1_0) rfl rfl) ?_
  show oEnd p e s below T (mkF m 1 #[.val (.ref a)] [(.ref a)]) n0 h0 cells slots (some (.int w))
  obtain ⟨T0, X0, e0, st0⟩ := getS2 X hx hZ hown (host := "") (Or.inl (hw _ (List.mem_of_getElem? (i := 100) rfl))) Via.refl eT (show Sta Z h0 "com/example/wary_query/waryquery/model/AtomicType" "DATE_TIME" "Lcom/example/wary_query/waryquery/model/AtomicType;" (.ref (ad 32)) from hS 32 (by decide)) (g := (mkF m 1 #[.val (.ref a)] [(.ref a)])) rfl (hb hby d1_1)
  refine oPre st0 ?_
  show oEnd p e s below T0 (mkF m 4 #[.val (.ref a)] [(.ref (ad 32)), (.ref a)]) n0 h0 cells slots (some (.int w))
  by_cases hq0 : a = ad 32
  · have v0 : (1 : Int32) = w := (if_pos hq0).symm.trans hv
    refine oPre (fun _ => Jvm.RoadKit.acmp (g := (mkF m 4 #[.val (.ref a)] [(.ref (ad 32)), (.ref a)])) X0 hx rfl rfl rfl (pc0 := 4) (pc' := 56) (same := true) rfl (hb hby d1_4) rfl (decide_eq_true (congrArg Value.ref hq0)) (by decide) (by decide)) ?_
    exact oB1_56 X0 hx hby hml hret hlk hown hZ hw e0 N Z0 hcs hss a v0
  · have v0 : ((if a = ad 33 then 1 else (if a = ad 34 then 1 else (if a = ad 35 then 1 else (if a = ad 36 then 1 else (if a = ad 37 then 1 else (if a = ad 38 then 1 else (if a = ad 39 then 1 else 0))))))) : Int32) = w := (if_neg hq0).symm.trans hv
    refine oPre (fun _ => Jvm.RoadKit.acmp (g := (mkF m 4 #[.val (.ref a)] [(.ref (ad 32)), (.ref a)])) X0 hx rfl rfl rfl (pc0 := 4) (pc' := 7) (same := false) rfl (hb hby d1_4) rfl (decide_eq_false fun q => hq0 (Value.ref.inj q)) (by decide) (by decide)) ?_
    show oEnd p e s below T0 (mkF m 7 #[.val (.ref a)] []) n0 h0 cells slots (some (.int w))
    refine oPre (fun _ => XS.aloadN X0.here hx rfl (hb hby d1_7) rfl rfl) ?_
    show oEnd p e s below T0 (mkF m 8 #[.val (.ref a)] [(.ref a)]) n0 h0 cells slots (some (.int w))
    obtain ⟨T1, X1, e1, st1⟩ := getS2 X0 hx hZ hown (host := "") (Or.inl (hw _ (List.mem_of_getElem? (i := 101) rfl))) Via.refl e0 (show Sta Z h0 "com/example/wary_query/waryquery/model/AtomicType" "DATE" "Lcom/example/wary_query/waryquery/model/AtomicType;" (.ref (ad 33)) from hS 33 (by decide)) (g := (mkF m 8 #[.val (.ref a)] [(.ref a)])) rfl (hb hby d1_8)
    refine oPre st1 ?_
    show oEnd p e s below T1 (mkF m 11 #[.val (.ref a)] [(.ref (ad 33)), (.ref a)]) n0 h0 cells slots (some (.int w))
    by_cases hq1 : a = ad 33
    · have v1 : (1 : Int32) = w := (if_pos hq1).symm.trans v0
      refine oPre (fun _ => Jvm.RoadKit.acmp (g := (mkF m 11 #[.val (.ref a)] [(.ref (ad 33)), (.ref a)])) X1 hx rfl rfl rfl (pc0 := 11) (pc' := 56) (same := true) rfl (hb hby d1_11) rfl (decide_eq_true (congrArg Value.ref hq1)) (by decide) (by decide)) ?_
      exact oB1_56 X1 hx hby hml hret hlk hown hZ hw e1 N Z0 hcs hss a v1
    · have v1 : ((if a = ad 34 then 1 else (if a = ad 35 then 1 else (if a = ad 36 then 1 else (if a = ad 37 then 1 else (if a = ad 38 then 1 else (if a = ad 39 then 1 else 0)))))) : Int32) = w := (if_neg hq1).symm.trans v0
      refine oPre (fun _ => Jvm.RoadKit.acmp (g := (mkF m 11 #[.val (.ref a)] [(.ref (ad 33)), (.ref a)])) X1 hx rfl rfl rfl (pc0 := 11) (pc' := 14) (same := false) rfl (hb hby d1_11) rfl (decide_eq_false fun q => hq1 (Value.ref.inj q)) (by decide) (by decide)) ?_
      show oEnd p e s below T1 (mkF m 14 #[.val (.ref a)] []) n0 h0 cells slots (some (.int w))
      refine oPre (fun _ => XS.aloadN X1.here hx rfl (hb hby d1_14) rfl rfl) ?_
      show oEnd p e s below T1 (mkF m 15 #[.val (.ref a)] [(.ref a)]) n0 h0 cells slots (some (.int w))
      obtain ⟨T2, X2, e2, st2⟩ := getS2 X1 hx hZ hown (host := "") (Or.inl (hw _ (List.mem_of_getElem? (i := 102) rfl))) Via.refl e1 (show Sta Z h0 "com/example/wary_query/waryquery/model/AtomicType" "TIME" "Lcom/example/wary_query/waryquery/model/AtomicType;" (.ref (ad 34)) from hS 34 (by decide)) (g := (mkF m 15 #[.val (.ref a)] [(.ref a)])) rfl (hb hby d1_15)
      refine oPre st2 ?_
      show oEnd p e s below T2 (mkF m 18 #[.val (.ref a)] [(.ref (ad 34)), (.ref a)]) n0 h0 cells slots (some (.int w))
      by_cases hq2 : a = ad 34
      · have v2 : (1 : Int32) = w := (if_pos hq2).symm.trans v1
        refine oPre (fun _ => Jvm.RoadKit.acmp (g := (mkF m 18 #[.val (.ref a)] [(.ref (ad 34)), (.ref a)])) X2 hx rfl rfl rfl (pc0 := 18) (pc' := 56) (same := true) rfl (hb hby d1_18) rfl (decide_eq_true (congrArg Value.ref hq2)) (by decide) (by decide)) ?_
        exact oB1_56 X2 hx hby hml hret hlk hown hZ hw e2 N Z0 hcs hss a v2
      · have v2 : ((if a = ad 35 then 1 else (if a = ad 36 then 1 else (if a = ad 37 then 1 else (if a = ad 38 then 1 else (if a = ad 39 then 1 else 0))))) : Int32) = w := (if_neg hq2).symm.trans v1
        refine oPre (fun _ => Jvm.RoadKit.acmp (g := (mkF m 18 #[.val (.ref a)] [(.ref (ad 34)), (.ref a)])) X2 hx rfl rfl rfl (pc0 := 18) (pc' := 21) (same := false) rfl (hb hby d1_18) rfl (decide_eq_false fun q => hq2 (Value.ref.inj q)) (by decide) (by decide)) ?_
        show oEnd p e s below T2 (mkF m 21 #[.val (.ref a)] []) n0 h0 cells slots (some (.int w))
        refine oPre (fun _ => XS.aloadN X2.here hx rfl (hb hby d1_21) rfl rfl) ?_
        show oEnd p e s below T2 (mkF m 22 #[.val (.ref a)] [(.ref a)]) n0 h0 cells slots (some (.int w))
        obtain ⟨T3, X3, e3, st3⟩ := getS2 X2 hx hZ hown (host := "") (Or.inl (hw _ (List.mem_of_getElem? (i := 103) rfl))) Via.refl e2 (show Sta Z h0 "com/example/wary_query/waryquery/model/AtomicType" "G_YEAR_MONTH" "Lcom/example/wary_query/waryquery/model/AtomicType;" (.ref (ad 35)) from hS 35 (by decide)) (g := (mkF m 22 #[.val (.ref a)] [(.ref a)])) rfl (hb hby d1_22)
        refine oPre st3 ?_
        show oEnd p e s below T3 (mkF m 25 #[.val (.ref a)] [(.ref (ad 35)), (.ref a)]) n0 h0 cells slots (some (.int w))
        by_cases hq3 : a = ad 35
        · have v3 : (1 : Int32) = w := (if_pos hq3).symm.trans v2
          refine oPre (fun _ => Jvm.RoadKit.acmp (g := (mkF m 25 #[.val (.ref a)] [(.ref (ad 35)), (.ref a)])) X3 hx rfl rfl rfl (pc0 := 25) (pc' := 56) (same := true) rfl (hb hby d1_25) rfl (decide_eq_true (congrArg Value.ref hq3)) (by decide) (by decide)) ?_
          exact oB1_56 X3 hx hby hml hret hlk hown hZ hw e3 N Z0 hcs hss a v3
        · have v3 : ((if a = ad 36 then 1 else (if a = ad 37 then 1 else (if a = ad 38 then 1 else (if a = ad 39 then 1 else 0)))) : Int32) = w := (if_neg hq3).symm.trans v2
          refine oPre (fun _ => Jvm.RoadKit.acmp (g := (mkF m 25 #[.val (.ref a)] [(.ref (ad 35)), (.ref a)])) X3 hx rfl rfl rfl (pc0 := 25) (pc' := 28) (same := false) rfl (hb hby d1_25) rfl (decide_eq_false fun q => hq3 (Value.ref.inj q)) (by decide) (by decide)) ?_
          show oEnd p e s below T3 (mkF m 28 #[.val (.ref a)] []) n0 h0 cells slots (some (.int w))
          refine oPre (fun _ => XS.aloadN X3.here hx rfl (hb hby d1_28) rfl rfl) ?_
          show oEnd p e s below T3 (mkF m 29 #[.val (.ref a)] [(.ref a)]) n0 h0 cells slots (some (.int w))
          obtain ⟨T4, X4, e4, st4⟩ := getS2 X3 hx hZ hown (host := "") (Or.inl (hw _ (List.mem_of_getElem? (i := 104) rfl))) Via.refl e3 (show Sta Z h0 "com/example/wary_query/waryquery/model/AtomicType" "G_YEAR" "Lcom/example/wary_query/waryquery/model/AtomicType;" (.ref (ad 36)) from hS 36 (by decide)) (g := (mkF m 29 #[.val (.ref a)] [(.ref a)])) rfl (hb hby d1_29)
          refine oPre st4 ?_
          show oEnd p e s below T4 (mkF m 32 #[.val (.ref a)] [(.ref (ad 36)), (.ref a)]) n0 h0 cells slots (some (.int w))
          by_cases hq4 : a = ad 36
          · have v4 : (1 : Int32) = w := (if_pos hq4).symm.trans v3
            refine oPre (fun _ => Jvm.RoadKit.acmp (g := (mkF m 32 #[.val (.ref a)] [(.ref (ad 36)), (.ref a)])) X4 hx rfl rfl rfl (pc0 := 32) (pc' := 56) (same := true) rfl (hb hby d1_32) rfl (decide_eq_true (congrArg Value.ref hq4)) (by decide) (by decide)) ?_
            exact oB1_56 X4 hx hby hml hret hlk hown hZ hw e4 N Z0 hcs hss a v4
          · have v4 : ((if a = ad 37 then 1 else (if a = ad 38 then 1 else (if a = ad 39 then 1 else 0))) : Int32) = w := (if_neg hq4).symm.trans v3
            refine oPre (fun _ => Jvm.RoadKit.acmp (g := (mkF m 32 #[.val (.ref a)] [(.ref (ad 36)), (.ref a)])) X4 hx rfl rfl rfl (pc0 := 32) (pc' := 35) (same := false) rfl (hb hby d1_32) rfl (decide_eq_false fun q => hq4 (Value.ref.inj q)) (by decide) (by decide)) ?_
            show oEnd p e s below T4 (mkF m 35 #[.val (.ref a)] []) n0 h0 cells slots (some (.int w))
            refine oPre (fun _ => XS.aloadN X4.here hx rfl (hb hby d1_35) rfl rfl) ?_
            show oEnd p e s below T4 (mkF m 36 #[.val (.ref a)] [(.ref a)]) n0 h0 cells slots (some (.int w))
            obtain ⟨T5, X5, e5, st5⟩ := getS2 X4 hx hZ hown (host := "") (Or.inl (hw _ (List.mem_of_getElem? (i := 105) rfl))) Via.refl e4 (show Sta Z h0 "com/example/wary_query/waryquery/model/AtomicType" "G_MONTH_DAY" "Lcom/example/wary_query/waryquery/model/AtomicType;" (.ref (ad 37)) from hS 37 (by decide)) (g := (mkF m 36 #[.val (.ref a)] [(.ref a)])) rfl (hb hby d1_36)
            refine oPre st5 ?_
            show oEnd p e s below T5 (mkF m 39 #[.val (.ref a)] [(.ref (ad 37)), (.ref a)]) n0 h0 cells slots (some (.int w))
            by_cases hq5 : a = ad 37
            · have v5 : (1 : Int32) = w := (if_pos hq5).symm.trans v4
              refine oPre (fun _ => Jvm.RoadKit.acmp (g := (mkF m 39 #[.val (.ref a)] [(.ref (ad 37)), (.ref a)])) X5 hx rfl rfl rfl (pc0 := 39) (pc' := 56) (same := true) rfl (hb hby d1_39) rfl (decide_eq_true (congrArg Value.ref hq5)) (by decide) (by decide)) ?_
              exact oB1_56 X5 hx hby hml hret hlk hown hZ hw e5 N Z0 hcs hss a v5
            · have v5 : ((if a = ad 38 then 1 else (if a = ad 39 then 1 else 0)) : Int32) = w := (if_neg hq5).symm.trans v4
              refine oPre (fun _ => Jvm.RoadKit.acmp (g := (mkF m 39 #[.val (.ref a)] [(.ref (ad 37)), (.ref a)])) X5 hx rfl rfl rfl (pc0 := 39) (pc' := 42) (same := false) rfl (hb hby d1_39) rfl (decide_eq_false fun q => hq5 (Value.ref.inj q)) (by decide) (by decide)) ?_
              show oEnd p e s below T5 (mkF m 42 #[.val (.ref a)] []) n0 h0 cells slots (some (.int w))
              refine oPre (fun _ => XS.aloadN X5.here hx rfl (hb hby d1_42) rfl rfl) ?_
              show oEnd p e s below T5 (mkF m 43 #[.val (.ref a)] [(.ref a)]) n0 h0 cells slots (some (.int w))
              obtain ⟨T6, X6, e6, st6⟩ := getS2 X5 hx hZ hown (host := "") (Or.inl (hw _ (List.mem_of_getElem? (i := 106) rfl))) Via.refl e5 (show Sta Z h0 "com/example/wary_query/waryquery/model/AtomicType" "G_DAY" "Lcom/example/wary_query/waryquery/model/AtomicType;" (.ref (ad 38)) from hS 38 (by decide)) (g := (mkF m 43 #[.val (.ref a)] [(.ref a)])) rfl (hb hby d1_43)
              refine oPre st6 ?_
              show oEnd p e s below T6 (mkF m 46 #[.val (.ref a)] [(.ref (ad 38)), (.ref a)]) n0 h0 cells slots (some (.int w))
              by_cases hq6 : a = ad 38
              · have v6 : (1 : Int32) = w := (if_pos hq6).symm.trans v5
                refine oPre (fun _ => Jvm.RoadKit.acmp (g := (mkF m 46 #[.val (.ref a)] [(.ref (ad 38)), (.ref a)])) X6 hx rfl rfl rfl (pc0 := 46) (pc' := 56) (same := true) rfl (hb hby d1_46) rfl (decide_eq_true (congrArg Value.ref hq6)) (by decide) (by decide)) ?_
                exact oB1_56 X6 hx hby hml hret hlk hown hZ hw e6 N Z0 hcs hss a v6
              · have v6 : ((if a = ad 39 then 1 else 0) : Int32) = w := (if_neg hq6).symm.trans v5
                refine oPre (fun _ => Jvm.RoadKit.acmp (g := (mkF m 46 #[.val (.ref a)] [(.ref (ad 38)), (.ref a)])) X6 hx rfl rfl rfl (pc0 := 46) (pc' := 49) (same := false) rfl (hb hby d1_46) rfl (decide_eq_false fun q => hq6 (Value.ref.inj q)) (by decide) (by decide)) ?_
                show oEnd p e s below T6 (mkF m 49 #[.val (.ref a)] []) n0 h0 cells slots (some (.int w))
                refine oPre (fun _ => XS.aloadN X6.here hx rfl (hb hby d1_49) rfl rfl) ?_
                show oEnd p e s below T6 (mkF m 50 #[.val (.ref a)] [(.ref a)]) n0 h0 cells slots (some (.int w))
                obtain ⟨T7, X7, e7, st7⟩ := getS2 X6 hx hZ hown (host := "") (Or.inl (hw _ (List.mem_of_getElem? (i := 107) rfl))) Via.refl e6 (show Sta Z h0 "com/example/wary_query/waryquery/model/AtomicType" "G_MONTH" "Lcom/example/wary_query/waryquery/model/AtomicType;" (.ref (ad 39)) from hS 39 (by decide)) (g := (mkF m 50 #[.val (.ref a)] [(.ref a)])) rfl (hb hby d1_50)
                refine oPre st7 ?_
                show oEnd p e s below T7 (mkF m 53 #[.val (.ref a)] [(.ref (ad 39)), (.ref a)]) n0 h0 cells slots (some (.int w))
                by_cases hq7 : a = ad 39
                · have v7 : (1 : Int32) = w := (if_pos hq7).symm.trans v6
                  refine oPre (fun _ => Jvm.RoadKit.acmp (g := (mkF m 53 #[.val (.ref a)] [(.ref (ad 39)), (.ref a)])) X7 hx rfl rfl rfl (pc0 := 53) (pc' := 56) (same := true) rfl (hb hby d1_53) rfl (decide_eq_true (congrArg Value.ref hq7)) (by decide) (by decide)) ?_
                  exact oB1_56 X7 hx hby hml hret hlk hown hZ hw e7 N Z0 hcs hss a v7
                · have v7 : (0 : Int32) = w := (if_neg hq7).symm.trans v6
                  refine oPre (fun _ => Jvm.RoadKit.acmp (g := (mkF m 53 #[.val (.ref a)] [(.ref (ad 39)), (.ref a)])) X7 hx rfl rfl rfl (pc0 := 53) (pc' := 60) (same := false) rfl (hb hby d1_53) rfl (decide_eq_false fun q => hq7 (Value.ref.inj q)) (by decide) (by decide)) ?_
                  exact oB1_60 X7 hx hby hml hret hlk hown hZ hw e7 N Z0 hcs hss a v7
theorem pn_1 : plainName "com/example/wary_query/waryquery/model/AtomicType" = true := by first | (simp [plainName, overriddenIn]; done) | decide +kernel
theorem ef_1 (m : MethodId) (a : Addr) : entryFrame m #[(.ref a)] 1 = mkF m 0 #[.val (.ref a)] [] := by first | (simp [entryFrame, mkF, argsToLocals, Value.category]; done) | rfl
def oQ1 (ad : Nat → Addr) (a : Addr) (h0 : Heap) (n0 : Nat) (v : Option Value) (h : Heap) (L : List Loc) : Prop := v = some (.int (oT ad a)) ∧ Fr n0 L ∧ h = h0
set_option maxRecDepth 65536 in
set_option maxHeartbeats 4000000 in
theorem oR1 (l : Launch) (Z : State) (a0 : Array Value) (hw : ∀ d ∈ tables_1, d.before a0 Z = true) (ws : List Jvm.Cond) (ad : Nat → Addr) (a : Addr) (h0 : Heap) (n0 : Nat) (Z0 : n0 ≤ h0.size) (hS : ∀ i, i < 45 → Sta Z h0 "com/example/wary_query/waryquery/model/AtomicType" (oNm i) "Lcom/example/wary_query/waryquery/model/AtomicType;" (.ref (ad i))) :
    MetFree l (⟨"com/example/wary_query/waryquery/model/AtomicType", "isTemporal", "()Z"⟩ : MethodName) (head1 (Jvm.Cond.code (⟨"com/example/wary_query/waryquery/model/AtomicType", "isTemporal", "()Z"⟩ : MethodName) prog_185_method_12_code 1 (some .boolean) :: ws) ({ frames := 0, cells := 0, slots := 0, locals := 0 } : Room)) (fun a' U => a' = #[(.ref a)] ∧ Z.Warmed39 U.vm ∧ U.heap = h0) (fun _ _ _ _ _ => True) (fun _ U o U' => ∃ v L, o = .returned v ∧ oQ1 ad a h0 n0 v U'.heap L ∧ FrameEnd U o U' L ({ frames := 0, cells := 0, slots := 0, locals := 0 } : Room).cells ({ frames := 0, cells := 0, slots := 0, locals := 0 } : Room).slots) := by
  refine MetFree.of_bodySF (plainFor_of_name pn_1) hisR ?_
  intro p e s m args below meth c s₁ Bd hml0 hP hK
  obtain ⟨rfl, hZ, hh⟩ := hP
  have hown : s.vm.findClass "com/example/wary_query/waryquery/model/AtomicType" = some m.cls := findClass_of_methodNamed Bd.named
  have X0 : Stand p l e ({ frames := 0, cells := 0, slots := 0, locals := 0 } : Room) s m #[(.ref a)] below meth c s₁ [] 0 0 := Stand.of_body Bd
  have e0 : s₁.heap = h0 := by rw [← hh, Bd.state]; rfl
  obtain ⟨t, L, hs, hrun, hended, hW, hsame, hN, ht⟩ := oB1_0 X0 Bd.exec Bd.bytes hml0 Bd.returns Bd.notSynchronized hown hZ hw e0 (Fr.nil n0) Z0 (Nat.zero_le _) (Nat.zero_le _) hS a rfl
  exact ⟨t, _, castTop (ef_1 m a) hs, hrun, hended, _, L, rfl, ⟨rfl, hN, ht⟩, ⟨_, rfl⟩, hW, hsame.mono (Nat.zero_le _) (Nat.zero_le _)⟩
def oEndE (p : Program) (e : Env) (s : State) (below : List Frame) (T : State) (g : JFrame) (n0 : Nat) (cells slots : Nat) (w : Option Value) : Prop := ∃ h, oEnd p e s below T g n0 h cells slots w
theorem oPreE {p : Program} {e : Env} {s : State} {below : List Frame} {T T' : State} {g g' : JFrame} {n0 : Nat} {cells slots : Nat} {w : Option Value}
    (k : ∀ target, Steps p.tables e below (T'.setTop g') target → Steps p.tables e below (T.setTop g) target) (q : oEndE p e s below T' g' n0 cells slots w) : oEndE p e s below T g n0 cells slots w := by
  obtain ⟨h, q⟩ := q
  exact ⟨h, oPre k q⟩
/-- an array of 45 places for that class; its first n places hold ad 0, ad 1 .. -/
def oFill (Z : State) (h : Heap) (b : Addr) (k : ClassId) (ad : Nat → Addr) (n : Nat) : Prop := ∃ c : Cell, Arr Z h b c (.object "com/example/wary_query/waryquery/model/AtomicType") ∧ c.cls = k ∧ c.slots.size = (45 : Int32).toNatClampNeg ∧ ∀ i, i < n → c.slots[i]? = some (.ref (ad i))
theorem oSt {p : Program} {l : Launch} {e : Env} {R : Room} {s : State} {m : MethodId} {args : Array Value} {below : List Frame} {meth : Method} {c : Code} {T : State} {locs : List Loc} {cells slots : Nat} {Z : State} {h h0 : Heap} {n0 n : Nat} {k : ClassId} {ad : Nat → Addr}
    (X : Stand p l e R s m args below meth c T locs cells slots) (hx : p.tables.exec = Jvm.exec) (hZ : Z.Warmed39 s.vm) (eT : T.heap = h) {b : Addr} (A : oFill Z h b k ad n) (O : Ovr Z k "com/example/wary_query/waryquery/model/AtomicType") (K : Keep h0 h []) (hb0 : h0.size ≤ b) (N : Fr n0 locs) (hb : n0 ≤ b) (j : Int32) (hj : ¬ j < 0 ∧ j < 45) (hjn : j.toNatClampNeg = n) (E : Exa Z h0 (ad n) "com/example/wary_query/waryquery/model/AtomicType")
    {g : JFrame} (hg : g.method = m) {rest : List Value} (hs : g.stack = .ref (ad n) :: .int j :: .ref b :: rest) (hd : decode c.code g.pc = .ok (.aastore, 1)) :
    ∃ T' h' locs', Stand p l e R s m args below meth c T' locs' cells slots ∧ T'.heap = h' ∧ oFill Z h' b k ad (n + 1) ∧ Keep h0 h' [] ∧ Fr n0 locs' ∧ ∀ target, Steps p.tables e below (T'.setTop { g with pc := g.pc + 1, stack := rest }) target → Steps p.tables e below (T.setTop g) target := by
  obtain ⟨cl, Ar, q, S, H⟩ := A
  have hin := inb_of S hj
  obtain ⟨T', h', X', e', W', st⟩ := stR X hx hZ eT Ar hin rfl (Sto.ofV Ar q O (Ins.self (E.keep K))) hg hs hd
  refine ⟨T', h', _, X', e', ⟨_, Ar.same W', q, by rw [sz_set]; exact S, fun i hi => ?_⟩, K.wr W' (Or.inr hb0), Fr.snoc X' N hb, st⟩
  have hlt : j.toNatClampNeg < cl.slots.size := Nat.lt_of_not_le fun r => hin (Or.inr r)
  rw [hjn] at hlt
  by_cases r : n = i
  · subst r
    simp [Cell.setSlot, hjn, hlt]
  · have := H i (by omega)
    simp [Cell.setSlot, hjn, Array.getElem?_setIfInBounds, r, this]
theorem oIdx (x : Int32) : ¬ ((x &&& (2147483647 : Int32)) - ((x &&& (2147483647 : Int32)) / (45 : Int32)) * (45 : Int32)) < 0 ∧ ((x &&& (2147483647 : Int32)) - ((x &&& (2147483647 : Int32)) / (45 : Int32)) * (45 : Int32)) < (45 : Int32) := by
  have h0 := c_and x (2147483647 : Int32) (by decide)
  generalize (x &&& (2147483647 : Int32)) = y at h0 ⊢
  have h1 := (c_idiv y (45 : Int32) 45 (by decide) (by decide)).1 h0.1
  have h2 := c_imul (y / 45) (45 : Int32)
  have h3 := c_isub y ((y / 45) * 45)
  have h4 : (45 : Int32).toInt = 45 := by decide
  have h5 : (0 : Int32).toInt = 0 := by decide
  have h6 : (2147483647 : Int32).toInt = 2147483647 := by decide
  have r1 := rng32 ((y / 45) * 45)
  have r2 := rng32 (y - (y / 45) * 45)
  rw [Int32.lt_iff_toInt_lt, Int32.lt_iff_toInt_lt]
  rw [h4, h1] at h2
  omega
theorem pd_0 : parseMethodDescriptor "()Z" = some ⟨[], some .boolean⟩ := by decide +kernel
set_option maxRecDepth 65536 in
set_option maxHeartbeats 40000000 in
theorem oTail {p : Program} {l : Launch} {e : Env} {s : State} {m : MethodId} {args : Array Value} {below : List Frame} {meth : Method} {c : Code} {T : State} {locs : List Loc} {cells slots : Nat} {Z : State} {a0 : Array Value} {h : Heap} {n0 : Nat} (X : Stand p l e room_1 s m args below meth c T locs cells slots) (hx : p.tables.exec = Jvm.exec) (hby : c.code = code) (hml : c.maxLocals = 4) (hret : meth.sig.returnType = some .boolean) (hlk : meth.locks = false) (hown : s.vm.findClass "com/example/wary_query/waryquery/model/AtomicTypeIsTemporalPinLaw" = some m.cls) (hZ : Z.Warmed39 s.vm) (hw : ∀ d ∈ tables_1, d.before a0 Z = true) (eT : T.heap = h) (N : Fr n0 locs) (Z0 : n0 ≤ h.size) (hcs : cells ≤ room_1.cells) (hss : slots ≤ room_1.slots) {ad : Nat → Addr} {k : ClassId} (b : Addr) (V : oFill Z h b k ad 45) (hS : ∀ i, i < 45 → Sta Z h "com/example/wary_query/waryquery/model/AtomicType" (oNm i) "Lcom/example/wary_query/waryquery/model/AtomicType;" (.ref (ad i))) (hE : ∀ i, i < 45 → Exa Z h (ad i) "com/example/wary_query/waryquery/model/AtomicType") (p1 j q : Int32) (hj : ¬ j < 0 ∧ j < 45) (hq : oT ad (ad j.toNatClampNeg) = q) : oEndE p e s below T (mkF m 340 #[.val (.int p1), .val (.ref b), .val (.int j), .unset] [(.int q)]) n0 cells slots (some (.int 1)) := by
  show oEndE p e s below T (mkF m 340 #[.val (.int p1), .val (.ref b), .val (.int j), .unset] [(.int q)]) n0 cells slots (some (.int 1))
  refine oPreE (fun _ => XS.istoreN X.here hx rfl (hb hby at_340) rfl (l' := #[.val (.int p1), .val (.ref b), .val (.int j), .val (.int q)]) rfl) ?_
  show oEndE p e s below T (mkF m 341 #[.val (.int p1), .val (.ref b), .val (.int j), .val (.int q)] []) n0 cells slots (some (.int 1))
  refine oPreE (fun _ => XS.aloadN X.here hx rfl (hb hby at_341) rfl rfl) ?_
  show oEndE p e s below T (mkF m 342 #[.val (.int p1), .val (.ref b), .val (.int j), .val (.int q)] [(.ref b)]) n0 cells slots (some (.int 1))
  refine oPreE (fun _ => XS.iloadN X.here hx rfl (hb hby at_342) rfl) ?_
  show oEndE p e s below T (mkF m 343 #[.val (.int p1), .val (.ref b), .val (.int j), .val (.int q)] [(.int j), (.ref b)]) n0 cells slots (some (.int 1))
  obtain ⟨cl, Ar, -, Sz, H⟩ := V
  have hin := inb_of Sz hj
  have hj45 : j.toNatClampNeg < 45 := by
    have : j.toNatClampNeg < cl.slots.size := Nat.lt_of_not_le fun r => hin (Or.inr r)
    rw [Sz] at this
    exact this
  refine oPreE (fun _ => X.aaload hx (v := .ref (ad j.toNatClampNeg)) (by rw [eT]; exact Ar.1) (State.isArrayOf_alike hZ.alike Ar.2.1) rfl Ar.2.2 hin (H _ hj45) (g := (mkF m 343 #[.val (.int p1), .val (.ref b), .val (.int j), .val (.int q)] [(.int j), (.ref b)])) rfl rfl (hb hby at_343) _) ?_
  show oEndE p e s below T (mkF m 344 #[.val (.int p1), .val (.ref b), .val (.int j), .val (.int q)] [(.ref (ad j.toNatClampNeg))]) n0 cells slots (some (.int 1))
  obtain ⟨cq, kq, qa, qb, qc⟩ := isOf hZ eT (hE _ hj45)
  obtain ⟨_, _, ⟨T1, L1, k1, n1⟩, -, X1, ⟨Lc1, hQ1, l1, y1, z1⟩, st1⟩ := X.virtualBack hx (y := (⟨"com/example/wary_query/waryquery/model/AtomicType", "isTemporal", "()Z"⟩ : MethodName)) (z := (⟨"com/example/wary_query/waryquery/model/AtomicType", "isTemporal", "()Z"⟩ : MethodName)) hown (mvT hZ (hw _ (List.mem_of_getElem? (i := 95) rfl))) (mvT hZ (hw _ (List.mem_of_getElem? (i := 96) rfl))) (notFace_of_selects (args := #[]) (mvT hZ (hw _ (List.mem_of_getElem? (i := 98) rfl)))) (mvT hZ (hw _ (List.mem_of_getElem? (i := 98) rfl))) (mvT hZ (hw _ (List.mem_of_getElem? (i := 97) rfl))) (by decide) (backOf (W := 0) (oR1 l Z a0 hw [] ad (ad j.toNatClampNeg) h n0 Z0 hS) hZ (hw _ (List.mem_of_getElem? (i := 99) rfl)) (hw _ (List.mem_of_getElem? (i := 3) rfl)) (by decide) (by decide)) qa qc (g := (mkF m 344 #[.val (.int p1), .val (.ref b), .val (.int j), .val (.int q)] [(.ref (ad j.toNatClampNeg))])) rfl (by rw [hml]; rfl) (Steps.refl _) (argsL := []) (rest := []) (lenOf pd_0 rfl) rfl (by show 2 * 0 + _ ≤ _; exact Nat.le_of_eq rfl) (hb hby at_344) (fun _ _ => ⟨rfl, eT, hcs, hss⟩)
  dsimp only [Pt.U, Pt.locs, Pt.cells, Pt.slots] at X1 l1 y1 z1 st1 hQ1
  subst l1
  rw [y1, z1] at X1
  obtain ⟨rfl, N1q, e1⟩ := hQ1
  have N1 := Fr.app N N1q
  refine oPreE (fun _ w => st1.trans w) ?_
  show oEndE p e s below T1 (mkF m 347 #[.val (.int p1), .val (.ref b), .val (.int j), .val (.int q)] [(.int (oT ad (ad j.toNatClampNeg)))]) n0 cells slots (some (.int 1))
  refine oPreE (fun _ => XS.iloadN X1.here hx rfl (hb hby at_347) rfl) ?_
  show oEndE p e s below T1 (mkF m 348 #[.val (.int p1), .val (.ref b), .val (.int j), .val (.int q)] [(.int q), (.int (oT ad (ad j.toNatClampNeg)))]) n0 cells slots (some (.int 1))
  refine oPreE (fun _ => XS.icmpNo X1.here hx rfl (hb hby at_348) rfl (teq hq).2) ?_
  show oEndE p e s below T1 (mkF m 351 #[.val (.int p1), .val (.ref b), .val (.int j), .val (.int q)] []) n0 cells slots (some (.int 1))
  refine oPreE (fun _ => XS.iconst X1.here hx rfl (hb hby at_351)) ?_
  show oEndE p e s below T1 (mkF m 352 #[.val (.int p1), .val (.ref b), .val (.int j), .val (.int q)] [(.int (1 : Int32))]) n0 cells slots (some (.int 1))
  refine oPreE (fun _ => XS.goto X1.here hx rfl (pc0 := 352) (pc' := 356) rfl (hb hby at_352) (by decide) (by decide)) ?_
  show oEndE p e s below T1 (mkF m 356 #[.val (.int p1), .val (.ref b), .val (.int j), .val (.int q)] [(.int (1 : Int32))]) n0 cells slots (some (.int 1))
  obtain ⟨fs, hr, hrun, hended, hW, hsame⟩ := X1.leave (v := some (.int 1)) (fun h => by rw [hret] at h; cases h) hlk
  exact ⟨_, _, _, retN X1 hx (t := .boolean) hret (by simp) (hb hby at_356) hr, hrun, hended, hW, hsame, N1, rfl⟩
set_option maxRecDepth 65536 in
set_option maxHeartbeats 40000000 in
theorem oMid {p : Program} {l : Launch} {e : Env} {s : State} {m : MethodId} {args : Array Value} {below : List Frame} {meth : Method} {c : Code} {T : State} {locs : List Loc} {cells slots : Nat} {Z : State} {a0 : Array Value} {h : Heap} {n0 : Nat} (X : Stand p l e room_1 s m args below meth c T locs cells slots) (hx : p.tables.exec = Jvm.exec) (hby : c.code = code) (hml : c.maxLocals = 4) (hret : meth.sig.returnType = some .boolean) (hlk : meth.locks = false) (hown : s.vm.findClass "com/example/wary_query/waryquery/model/AtomicTypeIsTemporalPinLaw" = some m.cls) (hZ : Z.Warmed39 s.vm) (hw : ∀ d ∈ tables_1, d.before a0 Z = true) (eT : T.heap = h) (N : Fr n0 locs) (Z0 : n0 ≤ h.size) (hcs : cells ≤ room_1.cells) (hss : slots ≤ room_1.slots) {ad : Nat → Addr} {k : ClassId} (b : Addr) (V : oFill Z h b k ad 45) (F : oFacts Z h ad) (p1 j : Int32) (hj : ¬ j < 0 ∧ j < 45) : oEndE p e s below T (mkF m 323 #[.val (.int p1), .val (.ref b), .val (.int j), .unset] []) n0 cells slots (some (.int 1)) := by
  have z0 : (0 : Int32).toInt = 0 := by decide
  have z1 : (45 : Int32).toInt = 45 := by decide
  have z2 : (32 : Int32).toInt = 32 := by decide
  have z3 : (39 : Int32).toInt = 39 := by decide
  have hj' := hj
  rw [Int32.lt_iff_toInt_lt, Int32.lt_iff_toInt_lt, z0, z1] at hj'
  have hn : j.toNatClampNeg = j.toInt.toNat := rfl
  have hS : ∀ i, i < 45 → Sta Z h "com/example/wary_query/waryquery/model/AtomicType" (oNm i) "Lcom/example/wary_query/waryquery/model/AtomicType;" (.ref (ad i)) := fun i hi => (F i hi).1
  have hE : ∀ i, i < 45 → Exa Z h (ad i) "com/example/wary_query/waryquery/model/AtomicType" := fun i hi => (F i hi).2.1
  show oEndE p e s below T (mkF m 323 #[.val (.int p1), .val (.ref b), .val (.int j), .unset] []) n0 cells slots (some (.int 1))
  refine oPreE (fun _ => XS.iloadN X.here hx rfl (hb hby at_323) rfl) ?_
  show oEndE p e s below T (mkF m 324 #[.val (.int p1), .val (.ref b), .val (.int j), .unset] [(.int j)]) n0 cells slots (some (.int 1))
  refine oPreE (fun _ => XS.bipush X.here hx rfl (hb hby at_324)) ?_
  show oEndE p e s below T (mkF m 326 #[.val (.int p1), .val (.ref b), .val (.int j), .unset] [(.int (32 : Int32)), (.int j)]) n0 cells slots (some (.int 1))
  by_cases h1 : j < (32 : Int32)
  · refine oPreE (fun _ => XS.icmpYes X.here hx rfl (pc0 := 326) (pc' := 339) rfl (hb hby at_326) rfl (tlt h1).1 (by decide) (by decide)) ?_
    show oEndE p e s below T (mkF m 339 #[.val (.int p1), .val (.ref b), .val (.int j), .unset] []) n0 cells slots (some (.int 1))
    refine oPreE (fun _ => XS.iconst X.here hx rfl (hb hby at_339)) ?_
    rw [Int32.lt_iff_toInt_lt, z2] at h1
    exact oTail X hx hby hml hret hlk hown hZ hw eT N Z0 hcs hss b V hS hE p1 j 0 hj (oT_out F (by omega) (by omega))
  · refine oPreE (fun _ => XS.icmpNo X.here hx rfl (hb hby at_326) rfl (flt h1).1) ?_
    show oEndE p e s below T (mkF m 329 #[.val (.int p1), .val (.ref b), .val (.int j), .unset] []) n0 cells slots (some (.int 1))
    refine oPreE (fun _ => XS.iloadN X.here hx rfl (hb hby at_329) rfl) ?_
    show oEndE p e s below T (mkF m 330 #[.val (.int p1), .val (.ref b), .val (.int j), .unset] [(.int j)]) n0 cells slots (some (.int 1))
    refine oPreE (fun _ => XS.bipush X.here hx rfl (hb hby at_330)) ?_
    show oEndE p e s below T (mkF m 332 #[.val (.int p1), .val (.ref b), .val (.int j), .unset] [(.int (39 : Int32)), (.int j)]) n0 cells slots (some (.int 1))
    by_cases h2 : (39 : Int32) < j
    · refine oPreE (fun _ => XS.icmpYes X.here hx rfl (pc0 := 332) (pc' := 339) rfl (hb hby at_332) rfl (tlt h2).2.2.1 (by decide) (by decide)) ?_
      show oEndE p e s below T (mkF m 339 #[.val (.int p1), .val (.ref b), .val (.int j), .unset] []) n0 cells slots (some (.int 1))
      refine oPreE (fun _ => XS.iconst X.here hx rfl (hb hby at_339)) ?_
      rw [Int32.lt_iff_toInt_lt, z3] at h2
      exact oTail X hx hby hml hret hlk hown hZ hw eT N Z0 hcs hss b V hS hE p1 j 0 hj (oT_out F (by omega) (by omega))
    · refine oPreE (fun _ => XS.icmpNo X.here hx rfl (hb hby at_332) rfl (flt h2).2.2.1) ?_
      show oEndE p e s below T (mkF m 335 #[.val (.int p1), .val (.ref b), .val (.int j), .unset] []) n0 cells slots (some (.int 1))
      refine oPreE (fun _ => XS.iconst X.here hx rfl (hb hby at_335)) ?_
      show oEndE p e s below T (mkF m 336 #[.val (.int p1), .val (.ref b), .val (.int j), .unset] [(.int (1 : Int32))]) n0 cells slots (some (.int 1))
      refine oPreE (fun _ => XS.goto X.here hx rfl (pc0 := 336) (pc' := 340) rfl (hb hby at_336) (by decide) (by decide)) ?_
      rw [Int32.lt_iff_toInt_lt, z2] at h1
      rw [Int32.lt_iff_toInt_lt, z3] at h2
      exact oTail X hx hby hml hret hlk hown hZ hw eT N Z0 hcs hss b V hS hE p1 j 1 hj (oT_in F (by omega) (by omega))
theorem pn_0 : plainName "com/example/wary_query/waryquery/model/AtomicTypeIsTemporalPinLaw" = true := by first | (simp [plainName, overriddenIn]; done) | decide +kernel
theorem ef_0 (m : MethodId) (p1 : Int32) : entryFrame m #[(.int p1)] maxLocals = mkF m 0 #[.val (.int p1), .unset, .unset, .unset] [] := by first | (simp [entryFrame, mkF, argsToLocals, Value.category, maxLocals]; done) | rfl
set_option maxRecDepth 65536 in
set_option maxHeartbeats 400000000 in
theorem oR0 (l : Launch) (Z : State) (a0 : Array Value) (hw : ∀ d ∈ tables_1, d.before a0 Z = true) (ws : List Jvm.Cond) (p1 : Int32) (h0 : Heap) (n0 : Nat) (Z0 : n0 ≤ h0.size) (ad : Nat → Addr) (F : oFacts Z h0 ad) :
    MetFree l x (head1 (Jvm.Cond.code x code maxLocals ret :: ws) room_1) (fun a U => a = #[(.int p1)] ∧ Z.Warmed39 U.vm ∧ U.heap = h0) (fun _ _ _ _ _ => True) (fun _ U o U' => ∃ v L, o = .returned v ∧ (v = some (.int 1) ∧ Fr n0 L ∧ True) ∧ FrameEnd U o U' L room_1.cells room_1.slots) := by
  refine MetFree.of_bodySF (plainFor_of_name pn_0) hisR ?_
  intro p e s m args below meth c s₁ Bd hml0 hP hK
  obtain ⟨rfl, hZ, hh⟩ := hP
  have hx := Bd.exec
  have hby := Bd.bytes
  have hown : s.vm.findClass "com/example/wary_query/waryquery/model/AtomicTypeIsTemporalPinLaw" = some m.cls := findClass_of_methodNamed Bd.named
  have X0 : Stand p l e room_1 s m #[(.int p1)] below meth c s₁ [] 0 0 := Stand.of_body Bd
  have e0 : s₁.heap = h0 := by rw [← hh, Bd.state]; rfl
  have N0 := Fr.nil n0
  have main : oEndE p e s below s₁ (mkF m 0 #[.val (.int p1), .unset, .unset, .unset] []) n0 1 45 (some (.int 1)) := by
    show oEndE p e s below s₁ (mkF m 0 #[.val (.int p1), .unset, .unset, .unset] []) n0 1 45 (some (.int 1))
    refine oPreE (fun _ => XS.bipush X0.here hx rfl (hb hby at_0)) ?_
    show oEndE p e s below s₁ (mkF m 2 #[.val (.int p1), .unset, .unset, .unset] [(.int (45 : Int32))]) n0 1 45 (some (.int 1))
    obtain ⟨T1, h1, k1, X1, e1, E1, A1, O1, st1⟩ := newR X0 hx hZ hown (hw _ (List.mem_of_getElem? (i := 0) rfl)) (hw _ (List.mem_of_getElem? (i := 1) rfl)) e0 (g := (mkF m 2 #[.val (.int p1), .unset, .unset, .unset] [(.int (45 : Int32))])) rfl (hb hby at_2) rfl (by decide) (cap := 45) (by decide) (by decide) (by decide) (by decide)
    obtain ⟨b4, g4⟩ : ∃ z, z = h0.size := ⟨_, rfl⟩
    rw [← g4] at A1 st1
    have hb4 : n0 ≤ b4 := by rw [g4]; exact Z0
    have hb0 : h0.size ≤ b4 := Nat.le_of_eq g4.symm
    have V1 : oFill Z h1 b4 k1 ad 0 := ⟨_, A1, rfl, sz_new _ _ _, fun i hi => absurd hi (Nat.not_lt_zero i)⟩
    have K1 : Keep h0 h1 [] := (Keep.refl h0 []).ext E1
    refine oPreE st1 ?_
    show oEndE p e s below T1 (mkF m 5 #[.val (.int p1), .unset, .unset, .unset] [(.ref b4)]) n0 1 45 (some (.int 1))
    refine oPreE (fun _ => XS.dup X1.here hx rfl (hb hby at_5) rfl rfl) ?_
    show oEndE p e s below T1 (mkF m 6 #[.val (.int p1), .unset, .unset, .unset] [(.ref b4), (.ref b4)]) n0 1 45 (some (.int 1))
    refine oPreE (fun _ => XS.iconst X1.here hx rfl (hb hby at_6)) ?_
    show oEndE p e s below T1 (mkF m 7 #[.val (.int p1), .unset, .unset, .unset] [(.int (0 : Int32)), (.ref b4), (.ref b4)]) n0 1 45 (some (.int 1))
    obtain ⟨Tg0, Xg0, eg0, sg0⟩ := getS2 X1 hx hZ hown (host := "") (Or.inl (hw _ (List.mem_of_getElem? (i := 2) rfl))) Via.refl e1 (oSta_keep K1 (show Sta Z h0 "com/example/wary_query/waryquery/model/AtomicType" "ANY_ATOMIC" "Lcom/example/wary_query/waryquery/model/AtomicType;" (.ref (ad 0)) from (F 0 (by decide)).1)) (g := (mkF m 7 #[.val (.int p1), .unset, .unset, .unset] [(.int (0 : Int32)), (.ref b4), (.ref b4)])) rfl (hb hby at_7)
    refine oPreE sg0 ?_
    show oEndE p e s below Tg0 (mkF m 10 #[.val (.int p1), .unset, .unset, .unset] [(.ref (ad 0)), (.int (0 : Int32)), (.ref b4), (.ref b4)]) n0 1 45 (some (.int 1))
    obtain ⟨T2, h2, L2, X2, e2, V2, K2, N2, st2⟩ := oSt Xg0 hx hZ eg0 V1 O1 K1 hb0 N0 hb4 (0 : Int32) (by decide) (by decide) (F 0 (by decide)).2.1 (g := (mkF m 10 #[.val (.int p1), .unset, .unset, .unset] [(.ref (ad 0)), (.int (0 : Int32)), (.ref b4), (.ref b4)])) rfl (rest := [(.ref b4)]) rfl (hb hby at_10)
    refine oPreE st2 ?_
    show oEndE p e s below T2 (mkF m 11 #[.val (.int p1), .unset, .unset, .unset] [(.ref b4)]) n0 1 45 (some (.int 1))
    refine oPreE (fun _ => XS.dup X2.here hx rfl (hb hby at_11) rfl rfl) ?_
    show oEndE p e s below T2 (mkF m 12 #[.val (.int p1), .unset, .unset, .unset] [(.ref b4), (.ref b4)]) n0 1 45 (some (.int 1))
    refine oPreE (fun _ => XS.iconst X2.here hx rfl (hb hby at_12)) ?_
    show oEndE p e s below T2 (mkF m 13 #[.val (.int p1), .unset, .unset, .unset] [(.int (1 : Int32)), (.ref b4), (.ref b4)]) n0 1 45 (some (.int 1))
    obtain ⟨Tg1, Xg1, eg1, sg1⟩ := getS2 X2 hx hZ hown (host := "") (Or.inl (hw _ (List.mem_of_getElem? (i := 6) rfl))) Via.refl e2 (oSta_keep K2 (show Sta Z h0 "com/example/wary_query/waryquery/model/AtomicType" "UNTYPED_ATOMIC" "Lcom/example/wary_query/waryquery/model/AtomicType;" (.ref (ad 1)) from (F 1 (by decide)).1)) (g := (mkF m 13 #[.val (.int p1), .unset, .unset, .unset] [(.int (1 : Int32)), (.ref b4), (.ref b4)])) rfl (hb hby at_13)
    refine oPreE sg1 ?_
    show oEndE p e s below Tg1 (mkF m 16 #[.val (.int p1), .unset, .unset, .unset] [(.ref (ad 1)), (.int (1 : Int32)), (.ref b4), (.ref b4)]) n0 1 45 (some (.int 1))
    obtain ⟨T3, h3, L3, X3, e3, V3, K3, N3, st3⟩ := oSt Xg1 hx hZ eg1 V2 O1 K2 hb0 N2 hb4 (1 : Int32) (by decide) (by decide) (F 1 (by decide)).2.1 (g := (mkF m 16 #[.val (.int p1), .unset, .unset, .unset] [(.ref (ad 1)), (.int (1 : Int32)), (.ref b4), (.ref b4)])) rfl (rest := [(.ref b4)]) rfl (hb hby at_16)
    refine oPreE st3 ?_
    show oEndE p e s below T3 (mkF m 17 #[.val (.int p1), .unset, .unset, .unset] [(.ref b4)]) n0 1 45 (some (.int 1))
    refine oPreE (fun _ => XS.dup X3.here hx rfl (hb hby at_17) rfl rfl) ?_
    show oEndE p e s below T3 (mkF m 18 #[.val (.int p1), .unset, .unset, .unset] [(.ref b4), (.ref b4)]) n0 1 45 (some (.int 1))
    refine oPreE (fun _ => XS.iconst X3.here hx rfl (hb hby at_18)) ?_
    show oEndE p e s below T3 (mkF m 19 #[.val (.int p1), .unset, .unset, .unset] [(.int (2 : Int32)), (.ref b4), (.ref b4)]) n0 1 45 (some (.int 1))
    obtain ⟨Tg2, Xg2, eg2, sg2⟩ := getS2 X3 hx hZ hown (host := "") (Or.inl (hw _ (List.mem_of_getElem? (i := 8) rfl))) Via.refl e3 (oSta_keep K3 (show Sta Z h0 "com/example/wary_query/waryquery/model/AtomicType" "STRING" "Lcom/example/wary_query/waryquery/model/AtomicType;" (.ref (ad 2)) from (F 2 (by decide)).1)) (g := (mkF m 19 #[.val (.int p1), .unset, .unset, .unset] [(.int (2 : Int32)), (.ref b4), (.ref b4)])) rfl (hb hby at_19)
    refine oPreE sg2 ?_
    show oEndE p e s below Tg2 (mkF m 22 #[.val (.int p1), .unset, .unset, .unset] [(.ref (ad 2)), (.int (2 : Int32)), (.ref b4), (.ref b4)]) n0 1 45 (some (.int 1))
    obtain ⟨T4, h4, L4, X4, e4, V4, K4, N4, st4⟩ := oSt Xg2 hx hZ eg2 V3 O1 K3 hb0 N3 hb4 (2 : Int32) (by decide) (by decide) (F 2 (by decide)).2.1 (g := (mkF m 22 #[.val (.int p1), .unset, .unset, .unset] [(.ref (ad 2)), (.int (2 : Int32)), (.ref b4), (.ref b4)])) rfl (rest := [(.ref b4)]) rfl (hb hby at_22)
    refine oPreE st4 ?_
    show oEndE p e s below T4 (mkF m 23 #[.val (.int p1), .unset, .unset, .unset] [(.ref b4)]) n0 1 45 (some (.int 1))
    refine oPreE (fun _ => XS.dup X4.here hx rfl (hb hby at_23) rfl rfl) ?_
    show oEndE p e s below T4 (mkF m 24 #[.val (.int p1), .unset, .unset, .unset] [(.ref b4), (.ref b4)]) n0 1 45 (some (.int 1))
    refine oPreE (fun _ => XS.iconst X4.here hx rfl (hb hby at_24)) ?_
    show oEndE p e s below T4 (mkF m 25 #[.val (.int p1), .unset, .unset, .unset] [(.int (3 : Int32)), (.ref b4), (.ref b4)]) n0 1 45 (some (.int 1))
    obtain ⟨Tg3, Xg3, eg3, sg3⟩ := getS2 X4 hx hZ hown (host := "") (Or.inl (hw _ (List.mem_of_getElem? (i := 10) rfl))) Via.refl e4 (oSta_keep K4 (show Sta Z h0 "com/example/wary_query/waryquery/model/AtomicType" "NORMALIZED_STRING" "Lcom/example/wary_query/waryquery/model/AtomicType;" (.ref (ad 3)) from (F 3 (by decide)).1)) (g := (mkF m 25 #[.val (.int p1), .unset, .unset, .unset] [(.int (3 : Int32)), (.ref b4), (.ref b4)])) rfl (hb hby at_25)
    refine oPreE sg3 ?_
    show oEndE p e s below Tg3 (mkF m 28 #[.val (.int p1), .unset, .unset, .unset] [(.ref (ad 3)), (.int (3 : Int32)), (.ref b4), (.ref b4)]) n0 1 45 (some (.int 1))
    obtain ⟨T5, h5, L5, X5, e5, V5, K5, N5, st5⟩ := oSt Xg3 hx hZ eg3 V4 O1 K4 hb0 N4 hb4 (3 : Int32) (by decide) (by decide) (F 3 (by decide)).2.1 (g := (mkF m 28 #[.val (.int p1), .unset, .unset, .unset] [(.ref (ad 3)), (.int (3 : Int32)), (.ref b4), (.ref b4)])) rfl (rest := [(.ref b4)]) rfl (hb hby at_28)
    refine oPreE st5 ?_
    show oEndE p e s below T5 (mkF m 29 #[.val (.int p1), .unset, .unset, .unset] [(.ref b4)]) n0 1 45 (some (.int 1))
    refine oPreE (fun _ => XS.dup X5.here hx rfl (hb hby at_29) rfl rfl) ?_
    show oEndE p e s below T5 (mkF m 30 #[.val (.int p1), .unset, .unset, .unset] [(.ref b4), (.ref b4)]) n0 1 45 (some (.int 1))
    refine oPreE (fun _ => XS.iconst X5.here hx rfl (hb hby at_30)) ?_
    show oEndE p e s below T5 (mkF m 31 #[.val (.int p1), .unset, .unset, .unset] [(.int (4 : Int32)), (.ref b4), (.ref b4)]) n0 1 45 (some (.int 1))
    obtain ⟨Tg4, Xg4, eg4, sg4⟩ := getS2 X5 hx hZ hown (host := "") (Or.inl (hw _ (List.mem_of_getElem? (i := 12) rfl))) Via.refl e5 (oSta_keep K5 (show Sta Z h0 "com/example/wary_query/waryquery/model/AtomicType" "TOKEN" "Lcom/example/wary_query/waryquery/model/AtomicType;" (.ref (ad 4)) from (F 4 (by decide)).1)) (g := (mkF m 31 #[.val (.int p1), .unset, .unset, .unset] [(.int (4 : Int32)), (.ref b4), (.ref b4)])) rfl (hb hby at_31)
    refine oPreE sg4 ?_
    show oEndE p e s below Tg4 (mkF m 34 #[.val (.int p1), .unset, .unset, .unset] [(.ref (ad 4)), (.int (4 : Int32)), (.ref b4), (.ref b4)]) n0 1 45 (some (.int 1))
    obtain ⟨T6, h6, L6, X6, e6, V6, K6, N6, st6⟩ := oSt Xg4 hx hZ eg4 V5 O1 K5 hb0 N5 hb4 (4 : Int32) (by decide) (by decide) (F 4 (by decide)).2.1 (g := (mkF m 34 #[.val (.int p1), .unset, .unset, .unset] [(.ref (ad 4)), (.int (4 : Int32)), (.ref b4), (.ref b4)])) rfl (rest := [(.ref b4)]) rfl (hb hby at_34)
    refine oPreE st6 ?_
    show oEndE p e s below T6 (mkF m 35 #[.val (.int p1), .unset, .unset, .unset] [(.ref b4)]) n0 1 45 (some (.int 1))
    refine oPreE (fun _ => XS.dup X6.here hx rfl (hb hby at_35) rfl rfl) ?_
    show oEndE p e s below T6 (mkF m 36 #[.val (.int p1), .unset, .unset, .unset] [(.ref b4), (.ref b4)]) n0 1 45 (some (.int 1))
    refine oPreE (fun _ => XS.iconst X6.here hx rfl (hb hby at_36)) ?_
    show oEndE p e s below T6 (mkF m 37 #[.val (.int p1), .unset, .unset, .unset] [(.int (5 : Int32)), (.ref b4), (.ref b4)]) n0 1 45 (some (.int 1))
    obtain ⟨Tg5, Xg5, eg5, sg5⟩ := getS2 X6 hx hZ hown (host := "") (Or.inl (hw _ (List.mem_of_getElem? (i := 14) rfl))) Via.refl e6 (oSta_keep K6 (show Sta Z h0 "com/example/wary_query/waryquery/model/AtomicType" "LANGUAGE" "Lcom/example/wary_query/waryquery/model/AtomicType;" (.ref (ad 5)) from (F 5 (by decide)).1)) (g := (mkF m 37 #[.val (.int p1), .unset, .unset, .unset] [(.int (5 : Int32)), (.ref b4), (.ref b4)])) rfl (hb hby at_37)
    refine oPreE sg5 ?_
    show oEndE p e s below Tg5 (mkF m 40 #[.val (.int p1), .unset, .unset, .unset] [(.ref (ad 5)), (.int (5 : Int32)), (.ref b4), (.ref b4)]) n0 1 45 (some (.int 1))
    obtain ⟨T7, h7, L7, X7, e7, V7, K7, N7, st7⟩ := oSt Xg5 hx hZ eg5 V6 O1 K6 hb0 N6 hb4 (5 : Int32) (by decide) (by decide) (F 5 (by decide)).2.1 (g := (mkF m 40 #[.val (.int p1), .unset, .unset, .unset] [(.ref (ad 5)), (.int (5 : Int32)), (.ref b4), (.ref b4)])) rfl (rest := [(.ref b4)]) rfl (hb hby at_40)
    refine oPreE st7 ?_
    show oEndE p e s below T7 (mkF m 41 #[.val (.int p1), .unset, .unset, .unset] [(.ref b4)]) n0 1 45 (some (.int 1))
    refine oPreE (fun _ => XS.dup X7.here hx rfl (hb hby at_41) rfl rfl) ?_
    show oEndE p e s below T7 (mkF m 42 #[.val (.int p1), .unset, .unset, .unset] [(.ref b4), (.ref b4)]) n0 1 45 (some (.int 1))
    refine oPreE (fun _ => XS.bipush X7.here hx rfl (hb hby at_42)) ?_
    show oEndE p e s below T7 (mkF m 44 #[.val (.int p1), .unset, .unset, .unset] [(.int (6 : Int32)), (.ref b4), (.ref b4)]) n0 1 45 (some (.int 1))
    obtain ⟨Tg6, Xg6, eg6, sg6⟩ := getS2 X7 hx hZ hown (host := "") (Or.inl (hw _ (List.mem_of_getElem? (i := 16) rfl))) Via.refl e7 (oSta_keep K7 (show Sta Z h0 "com/example/wary_query/waryquery/model/AtomicType" "NMTOKEN" "Lcom/example/wary_query/waryquery/model/AtomicType;" (.ref (ad 6)) from (F 6 (by decide)).1)) (g := (mkF m 44 #[.val (.int p1), .unset, .unset, .unset] [(.int (6 : Int32)), (.ref b4), (.ref b4)])) rfl (hb hby at_44)
    refine oPreE sg6 ?_
    show oEndE p e s below Tg6 (mkF m 47 #[.val (.int p1), .unset, .unset, .unset] [(.ref (ad 6)), (.int (6 : Int32)), (.ref b4), (.ref b4)]) n0 1 45 (some (.int 1))
    obtain ⟨T8, h8, L8, X8, e8, V8, K8, N8, st8⟩ := oSt Xg6 hx hZ eg6 V7 O1 K7 hb0 N7 hb4 (6 : Int32) (by decide) (by decide) (F 6 (by decide)).2.1 (g := (mkF m 47 #[.val (.int p1), .unset, .unset, .unset] [(.ref (ad 6)), (.int (6 : Int32)), (.ref b4), (.ref b4)])) rfl (rest := [(.ref b4)]) rfl (hb hby at_47)
    refine oPreE st8 ?_
    show oEndE p e s below T8 (mkF m 48 #[.val (.int p1), .unset, .unset, .unset] [(.ref b4)]) n0 1 45 (some (.int 1))
    refine oPreE (fun _ => XS.dup X8.here hx rfl (hb hby at_48) rfl rfl) ?_
    show oEndE p e s below T8 (mkF m 49 #[.val (.int p1), .unset, .unset, .unset] [(.ref b4), (.ref b4)]) n0 1 45 (some (.int 1))
    refine oPreE (fun _ => XS.bipush X8.here hx rfl (hb hby at_49)) ?_
    show oEndE p e s below T8 (mkF m 51 #[.val (.int p1), .unset, .unset, .unset] [(.int (7 : Int32)), (.ref b4), (.ref b4)]) n0 1 45 (some (.int 1))
    obtain ⟨Tg7, Xg7, eg7, sg7⟩ := getS2 X8 hx hZ hown (host := "") (Or.inl (hw _ (List.mem_of_getElem? (i := 18) rfl))) Via.refl e8 (oSta_keep K8 (show Sta Z h0 "com/example/wary_query/waryquery/model/AtomicType" "NAME" "Lcom/example/wary_query/waryquery/model/AtomicType;" (.ref (ad 7)) from (F 7 (by decide)).1)) (g := (mkF m 51 #[.val (.int p1), .unset, .unset, .unset] [(.int (7 : Int32)), (.ref b4), (.ref b4)])) rfl (hb hby at_51)
    refine oPreE sg7 ?_
    show oEndE p e s below Tg7 (mkF m 54 #[.val (.int p1), .unset, .unset, .unset] [(.ref (ad 7)), (.int (7 : Int32)), (.ref b4), (.ref b4)]) n0 1 45 (some (.int 1))
    obtain ⟨T9, h9, L9, X9, e9, V9, K9, N9, st9⟩ := oSt Xg7 hx hZ eg7 V8 O1 K8 hb0 N8 hb4 (7 : Int32) (by decide) (by decide) (F 7 (by decide)).2.1 (g := (mkF m 54 #[.val (.int p1), .unset, .unset, .unset] [(.ref (ad 7)), (.int (7 : Int32)), (.ref b4), (.ref b4)])) rfl (rest := [(.ref b4)]) rfl (hb hby at_54)
    refine oPreE st9 ?_
    show oEndE p e s below T9 (mkF m 55 #[.val (.int p1), .unset, .unset, .unset] [(.ref b4)]) n0 1 45 (some (.int 1))
    refine oPreE (fun _ => XS.dup X9.here hx rfl (hb hby at_55) rfl rfl) ?_
    show oEndE p e s below T9 (mkF m 56 #[.val (.int p1), .unset, .unset, .unset] [(.ref b4), (.ref b4)]) n0 1 45 (some (.int 1))
    refine oPreE (fun _ => XS.bipush X9.here hx rfl (hb hby at_56)) ?_
    show oEndE p e s below T9 (mkF m 58 #[.val (.int p1), .unset, .unset, .unset] [(.int (8 : Int32)), (.ref b4), (.ref b4)]) n0 1 45 (some (.int 1))
    obtain ⟨Tg8, Xg8, eg8, sg8⟩ := getS2 X9 hx hZ hown (host := "") (Or.inl (hw _ (List.mem_of_getElem? (i := 20) rfl))) Via.refl e9 (oSta_keep K9 (show Sta Z h0 "com/example/wary_query/waryquery/model/AtomicType" "NCNAME" "Lcom/example/wary_query/waryquery/model/AtomicType;" (.ref (ad 8)) from (F 8 (by decide)).1)) (g := (mkF m 58 #[.val (.int p1), .unset, .unset, .unset] [(.int (8 : Int32)), (.ref b4), (.ref b4)])) rfl (hb hby at_58)
    refine oPreE sg8 ?_
    show oEndE p e s below Tg8 (mkF m 61 #[.val (.int p1), .unset, .unset, .unset] [(.ref (ad 8)), (.int (8 : Int32)), (.ref b4), (.ref b4)]) n0 1 45 (some (.int 1))
    obtain ⟨T10, h10, L10, X10, e10, V10, K10, N10, st10⟩ := oSt Xg8 hx hZ eg8 V9 O1 K9 hb0 N9 hb4 (8 : Int32) (by decide) (by decide) (F 8 (by decide)).2.1 (g := (mkF m 61 #[.val (.int p1), .unset, .unset, .unset] [(.ref (ad 8)), (.int (8 : Int32)), (.ref b4), (.ref b4)])) rfl (rest := [(.ref b4)]) rfl (hb hby at_61)
    refine oPreE st10 ?_
    show oEndE p e s below T10 (mkF m 62 #[.val (.int p1), .unset, .unset, .unset] [(.ref b4)]) n0 1 45 (some (.int 1))
    refine oPreE (fun _ => XS.dup X10.here hx rfl (hb hby at_62) rfl rfl) ?_
    show oEndE p e s below T10 (mkF m 63 #[.val (.int p1), .unset, .unset, .unset] [(.ref b4), (.ref b4)]) n0 1 45 (some (.int 1))
    refine oPreE (fun _ => XS.bipush X10.here hx rfl (hb hby at_63)) ?_
    show oEndE p e s below T10 (mkF m 65 #[.val (.int p1), .unset, .unset, .unset] [(.int (9 : Int32)), (.ref b4), (.ref b4)]) n0 1 45 (some (.int 1))
    obtain ⟨Tg9, Xg9, eg9, sg9⟩ := getS2 X10 hx hZ hown (host := "") (Or.inl (hw _ (List.mem_of_getElem? (i := 22) rfl))) Via.refl e10 (oSta_keep K10 (show Sta Z h0 "com/example/wary_query/waryquery/model/AtomicType" "ID" "Lcom/example/wary_query/waryquery/model/AtomicType;" (.ref (ad 9)) from (F 9 (by decide)).1)) (g := (mkF m 65 #[.val (.int p1), .unset, .unset, .unset] [(.int (9 : Int32)), (.ref b4), (.ref b4)])) rfl (hb hby at_65)
    refine oPreE sg9 ?_
    show oEndE p e s below Tg9 (mkF m 68 #[.val (.int p1), .unset, .unset, .unset] [(.ref (ad 9)), (.int (9 : Int32)), (.ref b4), (.ref b4)]) n0 1 45 (some (.int 1))
    obtain ⟨T11, h11, L11, X11, e11, V11, K11, N11, st11⟩ := oSt Xg9 hx hZ eg9 V10 O1 K10 hb0 N10 hb4 (9 : Int32) (by decide) (by decide) (F 9 (by decide)).2.1 (g := (mkF m 68 #[.val (.int p1), .unset, .unset, .unset] [(.ref (ad 9)), (.int (9 : Int32)), (.ref b4), (.ref b4)])) rfl (rest := [(.ref b4)]) rfl (hb hby at_68)
    refine oPreE st11 ?_
    show oEndE p e s below T11 (mkF m 69 #[.val (.int p1), .unset, .unset, .unset] [(.ref b4)]) n0 1 45 (some (.int 1))
    refine oPreE (fun _ => XS.dup X11.here hx rfl (hb hby at_69) rfl rfl) ?_
    show oEndE p e s below T11 (mkF m 70 #[.val (.int p1), .unset, .unset, .unset] [(.ref b4), (.ref b4)]) n0 1 45 (some (.int 1))
    refine oPreE (fun _ => XS.bipush X11.here hx rfl (hb hby at_70)) ?_
    show oEndE p e s below T11 (mkF m 72 #[.val (.int p1), .unset, .unset, .unset] [(.int (10 : Int32)), (.ref b4), (.ref b4)]) n0 1 45 (some (.int 1))
    obtain ⟨Tg10, Xg10, eg10, sg10⟩ := getS2 X11 hx hZ hown (host := "") (Or.inl (hw _ (List.mem_of_getElem? (i := 24) rfl))) Via.refl e11 (oSta_keep K11 (show Sta Z h0 "com/example/wary_query/waryquery/model/AtomicType" "IDREF" "Lcom/example/wary_query/waryquery/model/AtomicType;" (.ref (ad 10)) from (F 10 (by decide)).1)) (g := (mkF m 72 #[.val (.int p1), .unset, .unset, .unset] [(.int (10 : Int32)), (.ref b4), (.ref b4)])) rfl (hb hby at_72)
    refine oPreE sg10 ?_
    show oEndE p e s below Tg10 (mkF m 75 #[.val (.int p1), .unset, .unset, .unset] [(.ref (ad 10)), (.int (10 : Int32)), (.ref b4), (.ref b4)]) n0 1 45 (some (.int 1))
    obtain ⟨T12, h12, L12, X12, e12, V12, K12, N12, st12⟩ := oSt Xg10 hx hZ eg10 V11 O1 K11 hb0 N11 hb4 (10 : Int32) (by decide) (by decide) (F 10 (by decide)).2.1 (g := (mkF m 75 #[.val (.int p1), .unset, .unset, .unset] [(.ref (ad 10)), (.int (10 : Int32)), (.ref b4), (.ref b4)])) rfl (rest := [(.ref b4)]) rfl (hb hby at_75)
    refine oPreE st12 ?_
    show oEndE p e s below T12 (mkF m 76 #[.val (.int p1), .unset, .unset, .unset] [(.ref b4)]) n0 1 45 (some (.int 1))
    refine oPreE (fun _ => XS.dup X12.here hx rfl (hb hby at_76) rfl rfl) ?_
    show oEndE p e s below T12 (mkF m 77 #[.val (.int p1), .unset, .unset, .unset] [(.ref b4), (.ref b4)]) n0 1 45 (some (.int 1))
    refine oPreE (fun _ => XS.bipush X12.here hx rfl (hb hby at_77)) ?_
    show oEndE p e s below T12 (mkF m 79 #[.val (.int p1), .unset, .unset, .unset] [(.int (11 : Int32)), (.ref b4), (.ref b4)]) n0 1 45 (some (.int 1))
    obtain ⟨Tg11, Xg11, eg11, sg11⟩ := getS2 X12 hx hZ hown (host := "") (Or.inl (hw _ (List.mem_of_getElem? (i := 26) rfl))) Via.refl e12 (oSta_keep K12 (show Sta Z h0 "com/example/wary_query/waryquery/model/AtomicType" "ENTITY" "Lcom/example/wary_query/waryquery/model/AtomicType;" (.ref (ad 11)) from (F 11 (by decide)).1)) (g := (mkF m 79 #[.val (.int p1), .unset, .unset, .unset] [(.int (11 : Int32)), (.ref b4), (.ref b4)])) rfl (hb hby at_79)
    refine oPreE sg11 ?_
    show oEndE p e s below Tg11 (mkF m 82 #[.val (.int p1), .unset, .unset, .unset] [(.ref (ad 11)), (.int (11 : Int32)), (.ref b4), (.ref b4)]) n0 1 45 (some (.int 1))
    obtain ⟨T13, h13, L13, X13, e13, V13, K13, N13, st13⟩ := oSt Xg11 hx hZ eg11 V12 O1 K12 hb0 N12 hb4 (11 : Int32) (by decide) (by decide) (F 11 (by decide)).2.1 (g := (mkF m 82 #[.val (.int p1), .unset, .unset, .unset] [(.ref (ad 11)), (.int (11 : Int32)), (.ref b4), (.ref b4)])) rfl (rest := [(.ref b4)]) rfl (hb hby at_82)
    refine oPreE st13 ?_
    show oEndE p e s below T13 (mkF m 83 #[.val (.int p1), .unset, .unset, .unset] [(.ref b4)]) n0 1 45 (some (.int 1))
    refine oPreE (fun _ => XS.dup X13.here hx rfl (hb hby at_83) rfl rfl) ?_
    show oEndE p e s below T13 (mkF m 84 #[.val (.int p1), .unset, .unset, .unset] [(.ref b4), (.ref b4)]) n0 1 45 (some (.int 1))
    refine oPreE (fun _ => XS.bipush X13.here hx rfl (hb hby at_84)) ?_
    show oEndE p e s below T13 (mkF m 86 #[.val (.int p1), .unset, .unset, .unset] [(.int (12 : Int32)), (.ref b4), (.ref b4)]) n0 1 45 (some (.int 1))
    obtain ⟨Tg12, Xg12, eg12, sg12⟩ := getS2 X13 hx hZ hown (host := "") (Or.inl (hw _ (List.mem_of_getElem? (i := 28) rfl))) Via.refl e13 (oSta_keep K13 (show Sta Z h0 "com/example/wary_query/waryquery/model/AtomicType" "BOOLEAN" "Lcom/example/wary_query/waryquery/model/AtomicType;" (.ref (ad 12)) from (F 12 (by decide)).1)) (g := (mkF m 86 #[.val (.int p1), .unset, .unset, .unset] [(.int (12 : Int32)), (.ref b4), (.ref b4)])) rfl (hb hby at_86)
    refine oPreE sg12 ?_
    show oEndE p e s below Tg12 (mkF m 89 #[.val (.int p1), .unset, .unset, .unset] [(.ref (ad 12)), (.int (12 : Int32)), (.ref b4), (.ref b4)]) n0 1 45 (some (.int 1))
    obtain ⟨T14, h14, L14, X14, e14, V14, K14, N14, st14⟩ := oSt Xg12 hx hZ eg12 V13 O1 K13 hb0 N13 hb4 (12 : Int32) (by decide) (by decide) (F 12 (by decide)).2.1 (g := (mkF m 89 #[.val (.int p1), .unset, .unset, .unset] [(.ref (ad 12)), (.int (12 : Int32)), (.ref b4), (.ref b4)])) rfl (rest := [(.ref b4)]) rfl (hb hby at_89)
    refine oPreE st14 ?_
    show oEndE p e s below T14 (mkF m 90 #[.val (.int p1), .unset, .unset, .unset] [(.ref b4)]) n0 1 45 (some (.int 1))
    refine oPreE (fun _ => XS.dup X14.here hx rfl (hb hby at_90) rfl rfl) ?_
    show oEndE p e s below T14 (mkF m 91 #[.val (.int p1), .unset, .unset, .unset] [(.ref b4), (.ref b4)]) n0 1 45 (some (.int 1))
    refine oPreE (fun _ => XS.bipush X14.here hx rfl (hb hby at_91)) ?_
    show oEndE p e s below T14 (mkF m 93 #[.val (.int p1), .unset, .unset, .unset] [(.int (13 : Int32)), (.ref b4), (.ref b4)]) n0 1 45 (some (.int 1))
    obtain ⟨Tg13, Xg13, eg13, sg13⟩ := getS2 X14 hx hZ hown (host := "") (Or.inl (hw _ (List.mem_of_getElem? (i := 30) rfl))) Via.refl e14 (oSta_keep K14 (show Sta Z h0 "com/example/wary_query/waryquery/model/AtomicType" "DECIMAL" "Lcom/example/wary_query/waryquery/model/AtomicType;" (.ref (ad 13)) from (F 13 (by decide)).1)) (g := (mkF m 93 #[.val (.int p1), .unset, .unset, .unset] [(.int (13 : Int32)), (.ref b4), (.ref b4)])) rfl (hb hby at_93)
    refine oPreE sg13 ?_
    show oEndE p e s below Tg13 (mkF m 96 #[.val (.int p1), .unset, .unset, .unset] [(.ref (ad 13)), (.int (13 : Int32)), (.ref b4), (.ref b4)]) n0 1 45 (some (.int 1))
    obtain ⟨T15, h15, L15, X15, e15, V15, K15, N15, st15⟩ := oSt Xg13 hx hZ eg13 V14 O1 K14 hb0 N14 hb4 (13 : Int32) (by decide) (by decide) (F 13 (by decide)).2.1 (g := (mkF m 96 #[.val (.int p1), .unset, .unset, .unset] [(.ref (ad 13)), (.int (13 : Int32)), (.ref b4), (.ref b4)])) rfl (rest := [(.ref b4)]) rfl (hb hby at_96)
    refine oPreE st15 ?_
    show oEndE p e s below T15 (mkF m 97 #[.val (.int p1), .unset, .unset, .unset] [(.ref b4)]) n0 1 45 (some (.int 1))
    refine oPreE (fun _ => XS.dup X15.here hx rfl (hb hby at_97) rfl rfl) ?_
    show oEndE p e s below T15 (mkF m 98 #[.val (.int p1), .unset, .unset, .unset] [(.ref b4), (.ref b4)]) n0 1 45 (some (.int 1))
    refine oPreE (fun _ => XS.bipush X15.here hx rfl (hb hby at_98)) ?_
    show oEndE p e s below T15 (mkF m 100 #[.val (.int p1), .unset, .unset, .unset] [(.int (14 : Int32)), (.ref b4), (.ref b4)]) n0 1 45 (some (.int 1))
    obtain ⟨Tg14, Xg14, eg14, sg14⟩ := getS2 X15 hx hZ hown (host := "") (Or.inl (hw _ (List.mem_of_getElem? (i := 32) rfl))) Via.refl e15 (oSta_keep K15 (show Sta Z h0 "com/example/wary_query/waryquery/model/AtomicType" "INTEGER" "Lcom/example/wary_query/waryquery/model/AtomicType;" (.ref (ad 14)) from (F 14 (by decide)).1)) (g := (mkF m 100 #[.val (.int p1), .unset, .unset, .unset] [(.int (14 : Int32)), (.ref b4), (.ref b4)])) rfl (hb hby at_100)
    refine oPreE sg14 ?_
    show oEndE p e s below Tg14 (mkF m 103 #[.val (.int p1), .unset, .unset, .unset] [(.ref (ad 14)), (.int (14 : Int32)), (.ref b4), (.ref b4)]) n0 1 45 (some (.int 1))
    obtain ⟨T16, h16, L16, X16, e16, V16, K16, N16, st16⟩ := oSt Xg14 hx hZ eg14 V15 O1 K15 hb0 N15 hb4 (14 : Int32) (by decide) (by decide) (F 14 (by decide)).2.1 (g := (mkF m 103 #[.val (.int p1), .unset, .unset, .unset] [(.ref (ad 14)), (.int (14 : Int32)), (.ref b4), (.ref b4)])) rfl (rest := [(.ref b4)]) rfl (hb hby at_103)
    refine oPreE st16 ?_
    show oEndE p e s below T16 (mkF m 104 #[.val (.int p1), .unset, .unset, .unset] [(.ref b4)]) n0 1 45 (some (.int 1))
    refine oPreE (fun _ => XS.dup X16.here hx rfl (hb hby at_104) rfl rfl) ?_
    show oEndE p e s below T16 (mkF m 105 #[.val (.int p1), .unset, .unset, .unset] [(.ref b4), (.ref b4)]) n0 1 45 (some (.int 1))
    refine oPreE (fun _ => XS.bipush X16.here hx rfl (hb hby at_105)) ?_
    show oEndE p e s below T16 (mkF m 107 #[.val (.int p1), .unset, .unset, .unset] [(.int (15 : Int32)), (.ref b4), (.ref b4)]) n0 1 45 (some (.int 1))
    obtain ⟨Tg15, Xg15, eg15, sg15⟩ := getS2 X16 hx hZ hown (host := "") (Or.inl (hw _ (List.mem_of_getElem? (i := 34) rfl))) Via.refl e16 (oSta_keep K16 (show Sta Z h0 "com/example/wary_query/waryquery/model/AtomicType" "NON_POSITIVE_INTEGER" "Lcom/example/wary_query/waryquery/model/AtomicType;" (.ref (ad 15)) from (F 15 (by decide)).1)) (g := (mkF m 107 #[.val (.int p1), .unset, .unset, .unset] [(.int (15 : Int32)), (.ref b4), (.ref b4)])) rfl (hb hby at_107)
    refine oPreE sg15 ?_
    show oEndE p e s below Tg15 (mkF m 110 #[.val (.int p1), .unset, .unset, .unset] [(.ref (ad 15)), (.int (15 : Int32)), (.ref b4), (.ref b4)]) n0 1 45 (some (.int 1))
    obtain ⟨T17, h17, L17, X17, e17, V17, K17, N17, st17⟩ := oSt Xg15 hx hZ eg15 V16 O1 K16 hb0 N16 hb4 (15 : Int32) (by decide) (by decide) (F 15 (by decide)).2.1 (g := (mkF m 110 #[.val (.int p1), .unset, .unset, .unset] [(.ref (ad 15)), (.int (15 : Int32)), (.ref b4), (.ref b4)])) rfl (rest := [(.ref b4)]) rfl (hb hby at_110)
    refine oPreE st17 ?_
    show oEndE p e s below T17 (mkF m 111 #[.val (.int p1), .unset, .unset, .unset] [(.ref b4)]) n0 1 45 (some (.int 1))
    refine oPreE (fun _ => XS.dup X17.here hx rfl (hb hby at_111) rfl rfl) ?_
    show oEndE p e s below T17 (mkF m 112 #[.val (.int p1), .unset, .unset, .unset] [(.ref b4), (.ref b4)]) n0 1 45 (some (.int 1))
    refine oPreE (fun _ => XS.bipush X17.here hx rfl (hb hby at_112)) ?_
    show oEndE p e s below T17 (mkF m 114 #[.val (.int p1), .unset, .unset, .unset] [(.int (16 : Int32)), (.ref b4), (.ref b4)]) n0 1 45 (some (.int 1))
    obtain ⟨Tg16, Xg16, eg16, sg16⟩ := getS2 X17 hx hZ hown (host := "") (Or.inl (hw _ (List.mem_of_getElem? (i := 36) rfl))) Via.refl e17 (oSta_keep K17 (show Sta Z h0 "com/example/wary_query/waryquery/model/AtomicType" "NEGATIVE_INTEGER" "Lcom/example/wary_query/waryquery/model/AtomicType;" (.ref (ad 16)) from (F 16 (by decide)).1)) (g := (mkF m 114 #[.val (.int p1), .unset, .unset, .unset] [(.int (16 : Int32)), (.ref b4), (.ref b4)])) rfl (hb hby at_114)
    refine oPreE sg16 ?_
    show oEndE p e s below Tg16 (mkF m 117 #[.val (.int p1), .unset, .unset, .unset] [(.ref (ad 16)), (.int (16 : Int32)), (.ref b4), (.ref b4)]) n0 1 45 (some (.int 1))
    obtain ⟨T18, h18, L18, X18, e18, V18, K18, N18, st18⟩ := oSt Xg16 hx hZ eg16 V17 O1 K17 hb0 N17 hb4 (16 : Int32) (by decide) (by decide) (F 16 (by decide)).2.1 (g := (mkF m 117 #[.val (.int p1), .unset, .unset, .unset] [(.ref (ad 16)), (.int (16 : Int32)), (.ref b4), (.ref b4)])) rfl (rest := [(.ref b4)]) rfl (hb hby at_117)
    refine oPreE st18 ?_
    show oEndE p e s below T18 (mkF m 118 #[.val (.int p1), .unset, .unset, .unset] [(.ref b4)]) n0 1 45 (some (.int 1))
    refine oPreE (fun _ => XS.dup X18.here hx rfl (hb hby at_118) rfl rfl) ?_
    show oEndE p e s below T18 (mkF m 119 #[.val (.int p1), .unset, .unset, .unset] [(.ref b4), (.ref b4)]) n0 1 45 (some (.int 1))
    refine oPreE (fun _ => XS.bipush X18.here hx rfl (hb hby at_119)) ?_
    show oEndE p e s below T18 (mkF m 121 #[.val (.int p1), .unset, .unset, .unset] [(.int (17 : Int32)), (.ref b4), (.ref b4)]) n0 1 45 (some (.int 1))
    obtain ⟨Tg17, Xg17, eg17, sg17⟩ := getS2 X18 hx hZ hown (host := "") (Or.inl (hw _ (List.mem_of_getElem? (i := 38) rfl))) Via.refl e18 (oSta_keep K18 (show Sta Z h0 "com/example/wary_query/waryquery/model/AtomicType" "LONG" "Lcom/example/wary_query/waryquery/model/AtomicType;" (.ref (ad 17)) from (F 17 (by decide)).1)) (g := (mkF m 121 #[.val (.int p1), .unset, .unset, .unset] [(.int (17 : Int32)), (.ref b4), (.ref b4)])) rfl (hb hby at_121)
    refine oPreE sg17 ?_
    show oEndE p e s below Tg17 (mkF m 124 #[.val (.int p1), .unset, .unset, .unset] [(.ref (ad 17)), (.int (17 : Int32)), (.ref b4), (.ref b4)]) n0 1 45 (some (.int 1))
    obtain ⟨T19, h19, L19, X19, e19, V19, K19, N19, st19⟩ := oSt Xg17 hx hZ eg17 V18 O1 K18 hb0 N18 hb4 (17 : Int32) (by decide) (by decide) (F 17 (by decide)).2.1 (g := (mkF m 124 #[.val (.int p1), .unset, .unset, .unset] [(.ref (ad 17)), (.int (17 : Int32)), (.ref b4), (.ref b4)])) rfl (rest := [(.ref b4)]) rfl (hb hby at_124)
    refine oPreE st19 ?_
    show oEndE p e s below T19 (mkF m 125 #[.val (.int p1), .unset, .unset, .unset] [(.ref b4)]) n0 1 45 (some (.int 1))
    refine oPreE (fun _ => XS.dup X19.here hx rfl (hb hby at_125) rfl rfl) ?_
    show oEndE p e s below T19 (mkF m 126 #[.val (.int p1), .unset, .unset, .unset] [(.ref b4), (.ref b4)]) n0 1 45 (some (.int 1))
    refine oPreE (fun _ => XS.bipush X19.here hx rfl (hb hby at_126)) ?_
    show oEndE p e s below T19 (mkF m 128 #[.val (.int p1), .unset, .unset, .unset] [(.int (18 : Int32)), (.ref b4), (.ref b4)]) n0 1 45 (some (.int 1))
    obtain ⟨Tg18, Xg18, eg18, sg18⟩ := getS2 X19 hx hZ hown (host := "") (Or.inl (hw _ (List.mem_of_getElem? (i := 40) rfl))) Via.refl e19 (oSta_keep K19 (show Sta Z h0 "com/example/wary_query/waryquery/model/AtomicType" "INT" "Lcom/example/wary_query/waryquery/model/AtomicType;" (.ref (ad 18)) from (F 18 (by decide)).1)) (g := (mkF m 128 #[.val (.int p1), .unset, .unset, .unset] [(.int (18 : Int32)), (.ref b4), (.ref b4)])) rfl (hb hby at_128)
    refine oPreE sg18 ?_
    show oEndE p e s below Tg18 (mkF m 131 #[.val (.int p1), .unset, .unset, .unset] [(.ref (ad 18)), (.int (18 : Int32)), (.ref b4), (.ref b4)]) n0 1 45 (some (.int 1))
    obtain ⟨T20, h20, L20, X20, e20, V20, K20, N20, st20⟩ := oSt Xg18 hx hZ eg18 V19 O1 K19 hb0 N19 hb4 (18 : Int32) (by decide) (by decide) (F 18 (by decide)).2.1 (g := (mkF m 131 #[.val (.int p1), .unset, .unset, .unset] [(.ref (ad 18)), (.int (18 : Int32)), (.ref b4), (.ref b4)])) rfl (rest := [(.ref b4)]) rfl (hb hby at_131)
    refine oPreE st20 ?_
    show oEndE p e s below T20 (mkF m 132 #[.val (.int p1), .unset, .unset, .unset] [(.ref b4)]) n0 1 45 (some (.int 1))
    refine oPreE (fun _ => XS.dup X20.here hx rfl (hb hby at_132) rfl rfl) ?_
    show oEndE p e s below T20 (mkF m 133 #[.val (.int p1), .unset, .unset, .unset] [(.ref b4), (.ref b4)]) n0 1 45 (some (.int 1))
    refine oPreE (fun _ => XS.bipush X20.here hx rfl (hb hby at_133)) ?_
    show oEndE p e s below T20 (mkF m 135 #[.val (.int p1), .unset, .unset, .unset] [(.int (19 : Int32)), (.ref b4), (.ref b4)]) n0 1 45 (some (.int 1))
    obtain ⟨Tg19, Xg19, eg19, sg19⟩ := getS2 X20 hx hZ hown (host := "") (Or.inl (hw _ (List.mem_of_getElem? (i := 42) rfl))) Via.refl e20 (oSta_keep K20 (show Sta Z h0 "com/example/wary_query/waryquery/model/AtomicType" "SHORT" "Lcom/example/wary_query/waryquery/model/AtomicType;" (.ref (ad 19)) from (F 19 (by decide)).1)) (g := (mkF m 135 #[.val (.int p1), .unset, .unset, .unset] [(.int (19 : Int32)), (.ref b4), (.ref b4)])) rfl (hb hby at_135)
    refine oPreE sg19 ?_
    show oEndE p e s below Tg19 (mkF m 138 #[.val (.int p1), .unset, .unset, .unset] [(.ref (ad 19)), (.int (19 : Int32)), (.ref b4), (.ref b4)]) n0 1 45 (some (.int 1))
    obtain ⟨T21, h21, L21, X21, e21, V21, K21, N21, st21⟩ := oSt Xg19 hx hZ eg19 V20 O1 K20 hb0 N20 hb4 (19 : Int32) (by decide) (by decide) (F 19 (by decide)).2.1 (g := (mkF m 138 #[.val (.int p1), .unset, .unset, .unset] [(.ref (ad 19)), (.int (19 : Int32)), (.ref b4), (.ref b4)])) rfl (rest := [(.ref b4)]) rfl (hb hby at_138)
    refine oPreE st21 ?_
    show oEndE p e s below T21 (mkF m 139 #[.val (.int p1), .unset, .unset, .unset] [(.ref b4)]) n0 1 45 (some (.int 1))
    refine oPreE (fun _ => XS.dup X21.here hx rfl (hb hby at_139) rfl rfl) ?_
    show oEndE p e s below T21 (mkF m 140 #[.val (.int p1), .unset, .unset, .unset] [(.ref b4), (.ref b4)]) n0 1 45 (some (.int 1))
    refine oPreE (fun _ => XS.bipush X21.here hx rfl (hb hby at_140)) ?_
    show oEndE p e s below T21 (mkF m 142 #[.val (.int p1), .unset, .unset, .unset] [(.int (20 : Int32)), (.ref b4), (.ref b4)]) n0 1 45 (some (.int 1))
    obtain ⟨Tg20, Xg20, eg20, sg20⟩ := getS2 X21 hx hZ hown (host := "") (Or.inl (hw _ (List.mem_of_getElem? (i := 44) rfl))) Via.refl e21 (oSta_keep K21 (show Sta Z h0 "com/example/wary_query/waryquery/model/AtomicType" "BYTE" "Lcom/example/wary_query/waryquery/model/AtomicType;" (.ref (ad 20)) from (F 20 (by decide)).1)) (g := (mkF m 142 #[.val (.int p1), .unset, .unset, .unset] [(.int (20 : Int32)), (.ref b4), (.ref b4)])) rfl (hb hby at_142)
    refine oPreE sg20 ?_
    show oEndE p e s below Tg20 (mkF m 145 #[.val (.int p1), .unset, .unset, .unset] [(.ref (ad 20)), (.int (20 : Int32)), (.ref b4), (.ref b4)]) n0 1 45 (some (.int 1))
    obtain ⟨T22, h22, L22, X22, e22, V22, K22, N22, st22⟩ := oSt Xg20 hx hZ eg20 V21 O1 K21 hb0 N21 hb4 (20 : Int32) (by decide) (by decide) (F 20 (by decide)).2.1 (g := (mkF m 145 #[.val (.int p1), .unset, .unset, .unset] [(.ref (ad 20)), (.int (20 : Int32)), (.ref b4), (.ref b4)])) rfl (rest := [(.ref b4)]) rfl (hb hby at_145)
    refine oPreE st22 ?_
    show oEndE p e s below T22 (mkF m 146 #[.val (.int p1), .unset, .unset, .unset] [(.ref b4)]) n0 1 45 (some (.int 1))
    refine oPreE (fun _ => XS.dup X22.here hx rfl (hb hby at_146) rfl rfl) ?_
    show oEndE p e s below T22 (mkF m 147 #[.val (.int p1), .unset, .unset, .unset] [(.ref b4), (.ref b4)]) n0 1 45 (some (.int 1))
    refine oPreE (fun _ => XS.bipush X22.here hx rfl (hb hby at_147)) ?_
    show oEndE p e s below T22 (mkF m 149 #[.val (.int p1), .unset, .unset, .unset] [(.int (21 : Int32)), (.ref b4), (.ref b4)]) n0 1 45 (some (.int 1))
    obtain ⟨Tg21, Xg21, eg21, sg21⟩ := getS2 X22 hx hZ hown (host := "") (Or.inl (hw _ (List.mem_of_getElem? (i := 46) rfl))) Via.refl e22 (oSta_keep K22 (show Sta Z h0 "com/example/wary_query/waryquery/model/AtomicType" "NON_NEGATIVE_INTEGER" "Lcom/example/wary_query/waryquery/model/AtomicType;" (.ref (ad 21)) from (F 21 (by decide)).1)) (g := (mkF m 149 #[.val (.int p1), .unset, .unset, .unset] [(.int (21 : Int32)), (.ref b4), (.ref b4)])) rfl (hb hby at_149)
    refine oPreE sg21 ?_
    show oEndE p e s below Tg21 (mkF m 152 #[.val (.int p1), .unset, .unset, .unset] [(.ref (ad 21)), (.int (21 : Int32)), (.ref b4), (.ref b4)]) n0 1 45 (some (.int 1))
    obtain ⟨T23, h23, L23, X23, e23, V23, K23, N23, st23⟩ := oSt Xg21 hx hZ eg21 V22 O1 K22 hb0 N22 hb4 (21 : Int32) (by decide) (by decide) (F 21 (by decide)).2.1 (g := (mkF m 152 #[.val (.int p1), .unset, .unset, .unset] [(.ref (ad 21)), (.int (21 : Int32)), (.ref b4), (.ref b4)])) rfl (rest := [(.ref b4)]) rfl (hb hby at_152)
    refine oPreE st23 ?_
    show oEndE p e s below T23 (mkF m 153 #[.val (.int p1), .unset, .unset, .unset] [(.ref b4)]) n0 1 45 (some (.int 1))
    refine oPreE (fun _ => XS.dup X23.here hx rfl (hb hby at_153) rfl rfl) ?_
    show oEndE p e s below T23 (mkF m 154 #[.val (.int p1), .unset, .unset, .unset] [(.ref b4), (.ref b4)]) n0 1 45 (some (.int 1))
    refine oPreE (fun _ => XS.bipush X23.here hx rfl (hb hby at_154)) ?_
    show oEndE p e s below T23 (mkF m 156 #[.val (.int p1), .unset, .unset, .unset] [(.int (22 : Int32)), (.ref b4), (.ref b4)]) n0 1 45 (some (.int 1))
    obtain ⟨Tg22, Xg22, eg22, sg22⟩ := getS2 X23 hx hZ hown (host := "") (Or.inl (hw _ (List.mem_of_getElem? (i := 48) rfl))) Via.refl e23 (oSta_keep K23 (show Sta Z h0 "com/example/wary_query/waryquery/model/AtomicType" "UNSIGNED_LONG" "Lcom/example/wary_query/waryquery/model/AtomicType;" (.ref (ad 22)) from (F 22 (by decide)).1)) (g := (mkF m 156 #[.val (.int p1), .unset, .unset, .unset] [(.int (22 : Int32)), (.ref b4), (.ref b4)])) rfl (hb hby at_156)
    refine oPreE sg22 ?_
    show oEndE p e s below Tg22 (mkF m 159 #[.val (.int p1), .unset, .unset, .unset] [(.ref (ad 22)), (.int (22 : Int32)), (.ref b4), (.ref b4)]) n0 1 45 (some (.int 1))
    obtain ⟨T24, h24, L24, X24, e24, V24, K24, N24, st24⟩ := oSt Xg22 hx hZ eg22 V23 O1 K23 hb0 N23 hb4 (22 : Int32) (by decide) (by decide) (F 22 (by decide)).2.1 (g := (mkF m 159 #[.val (.int p1), .unset, .unset, .unset] [(.ref (ad 22)), (.int (22 : Int32)), (.ref b4), (.ref b4)])) rfl (rest := [(.ref b4)]) rfl (hb hby at_159)
    refine oPreE st24 ?_
    show oEndE p e s below T24 (mkF m 160 #[.val (.int p1), .unset, .unset, .unset] [(.ref b4)]) n0 1 45 (some (.int 1))
    refine oPreE (fun _ => XS.dup X24.here hx rfl (hb hby at_160) rfl rfl) ?_
    show oEndE p e s below T24 (mkF m 161 #[.val (.int p1), .unset, .unset, .unset] [(.ref b4), (.ref b4)]) n0 1 45 (some (.int 1))
    refine oPreE (fun _ => XS.bipush X24.here hx rfl (hb hby at_161)) ?_
    show oEndE p e s below T24 (mkF m 163 #[.val (.int p1), .unset, .unset, .unset] [(.int (23 : Int32)), (.ref b4), (.ref b4)]) n0 1 45 (some (.int 1))
    obtain ⟨Tg23, Xg23, eg23, sg23⟩ := getS2 X24 hx hZ hown (host := "") (Or.inl (hw _ (List.mem_of_getElem? (i := 50) rfl))) Via.refl e24 (oSta_keep K24 (show Sta Z h0 "com/example/wary_query/waryquery/model/AtomicType" "UNSIGNED_INT" "Lcom/example/wary_query/waryquery/model/AtomicType;" (.ref (ad 23)) from (F 23 (by decide)).1)) (g := (mkF m 163 #[.val (.int p1), .unset, .unset, .unset] [(.int (23 : Int32)), (.ref b4), (.ref b4)])) rfl (hb hby at_163)
    refine oPreE sg23 ?_
    show oEndE p e s below Tg23 (mkF m 166 #[.val (.int p1), .unset, .unset, .unset] [(.ref (ad 23)), (.int (23 : Int32)), (.ref b4), (.ref b4)]) n0 1 45 (some (.int 1))
    obtain ⟨T25, h25, L25, X25, e25, V25, K25, N25, st25⟩ := oSt Xg23 hx hZ eg23 V24 O1 K24 hb0 N24 hb4 (23 : Int32) (by decide) (by decide) (F 23 (by decide)).2.1 (g := (mkF m 166 #[.val (.int p1), .unset, .unset, .unset] [(.ref (ad 23)), (.int (23 : Int32)), (.ref b4), (.ref b4)])) rfl (rest := [(.ref b4)]) rfl (hb hby at_166)
    refine oPreE st25 ?_
    show oEndE p e s below T25 (mkF m 167 #[.val (.int p1), .unset, .unset, .unset] [(.ref b4)]) n0 1 45 (some (.int 1))
    refine oPreE (fun _ => XS.dup X25.here hx rfl (hb hby at_167) rfl rfl) ?_
    show oEndE p e s below T25 (mkF m 168 #[.val (.int p1), .unset, .unset, .unset] [(.ref b4), (.ref b4)]) n0 1 45 (some (.int 1))
    refine oPreE (fun _ => XS.bipush X25.here hx rfl (hb hby at_168)) ?_
    show oEndE p e s below T25 (mkF m 170 #[.val (.int p1), .unset, .unset, .unset] [(.int (24 : Int32)), (.ref b4), (.ref b4)]) n0 1 45 (some (.int 1))
    obtain ⟨Tg24, Xg24, eg24, sg24⟩ := getS2 X25 hx hZ hown (host := "") (Or.inl (hw _ (List.mem_of_getElem? (i := 52) rfl))) Via.refl e25 (oSta_keep K25 (show Sta Z h0 "com/example/wary_query/waryquery/model/AtomicType" "UNSIGNED_SHORT" "Lcom/example/wary_query/waryquery/model/AtomicType;" (.ref (ad 24)) from (F 24 (by decide)).1)) (g := (mkF m 170 #[.val (.int p1), .unset, .unset, .unset] [(.int (24 : Int32)), (.ref b4), (.ref b4)])) rfl (hb hby at_170)
    refine oPreE sg24 ?_
    show oEndE p e s below Tg24 (mkF m 173 #[.val (.int p1), .unset, .unset, .unset] [(.ref (ad 24)), (.int (24 : Int32)), (.ref b4), (.ref b4)]) n0 1 45 (some (.int 1))
    obtain ⟨T26, h26, L26, X26, e26, V26, K26, N26, st26⟩ := oSt Xg24 hx hZ eg24 V25 O1 K25 hb0 N25 hb4 (24 : Int32) (by decide) (by decide) (F 24 (by decide)).2.1 (g := (mkF m 173 #[.val (.int p1), .unset, .unset, .unset] [(.ref (ad 24)), (.int (24 : Int32)), (.ref b4), (.ref b4)])) rfl (rest := [(.ref b4)]) rfl (hb hby at_173)
    refine oPreE st26 ?_
    show oEndE p e s below T26 (mkF m 174 #[.val (.int p1), .unset, .unset, .unset] [(.ref b4)]) n0 1 45 (some (.int 1))
    refine oPreE (fun _ => XS.dup X26.here hx rfl (hb hby at_174) rfl rfl) ?_
    show oEndE p e s below T26 (mkF m 175 #[.val (.int p1), .unset, .unset, .unset] [(.ref b4), (.ref b4)]) n0 1 45 (some (.int 1))
    refine oPreE (fun _ => XS.bipush X26.here hx rfl (hb hby at_175)) ?_
    show oEndE p e s below T26 (mkF m 177 #[.val (.int p1), .unset, .unset, .unset] [(.int (25 : Int32)), (.ref b4), (.ref b4)]) n0 1 45 (some (.int 1))
    obtain ⟨Tg25, Xg25, eg25, sg25⟩ := getS2 X26 hx hZ hown (host := "") (Or.inl (hw _ (List.mem_of_getElem? (i := 54) rfl))) Via.refl e26 (oSta_keep K26 (show Sta Z h0 "com/example/wary_query/waryquery/model/AtomicType" "UNSIGNED_BYTE" "Lcom/example/wary_query/waryquery/model/AtomicType;" (.ref (ad 25)) from (F 25 (by decide)).1)) (g := (mkF m 177 #[.val (.int p1), .unset, .unset, .unset] [(.int (25 : Int32)), (.ref b4), (.ref b4)])) rfl (hb hby at_177)
    refine oPreE sg25 ?_
    show oEndE p e s below Tg25 (mkF m 180 #[.val (.int p1), .unset, .unset, .unset] [(.ref (ad 25)), (.int (25 : Int32)), (.ref b4), (.ref b4)]) n0 1 45 (some (.int 1))
    obtain ⟨T27, h27, L27, X27, e27, V27, K27, N27, st27⟩ := oSt Xg25 hx hZ eg25 V26 O1 K26 hb0 N26 hb4 (25 : Int32) (by decide) (by decide) (F 25 (by decide)).2.1 (g := (mkF m 180 #[.val (.int p1), .unset, .unset, .unset] [(.ref (ad 25)), (.int (25 : Int32)), (.ref b4), (.ref b4)])) rfl (rest := [(.ref b4)]) rfl (hb hby at_180)
    refine oPreE st27 ?_
    show oEndE p e s below T27 (mkF m 181 #[.val (.int p1), .unset, .unset, .unset] [(.ref b4)]) n0 1 45 (some (.int 1))
    refine oPreE (fun _ => XS.dup X27.here hx rfl (hb hby at_181) rfl rfl) ?_
    show oEndE p e s below T27 (mkF m 182 #[.val (.int p1), .unset, .unset, .unset] [(.ref b4), (.ref b4)]) n0 1 45 (some (.int 1))
    refine oPreE (fun _ => XS.bipush X27.here hx rfl (hb hby at_182)) ?_
    show oEndE p e s below T27 (mkF m 184 #[.val (.int p1), .unset, .unset, .unset] [(.int (26 : Int32)), (.ref b4), (.ref b4)]) n0 1 45 (some (.int 1))
    obtain ⟨Tg26, Xg26, eg26, sg26⟩ := getS2 X27 hx hZ hown (host := "") (Or.inl (hw _ (List.mem_of_getElem? (i := 56) rfl))) Via.refl e27 (oSta_keep K27 (show Sta Z h0 "com/example/wary_query/waryquery/model/AtomicType" "POSITIVE_INTEGER" "Lcom/example/wary_query/waryquery/model/AtomicType;" (.ref (ad 26)) from (F 26 (by decide)).1)) (g := (mkF m 184 #[.val (.int p1), .unset, .unset, .unset] [(.int (26 : Int32)), (.ref b4), (.ref b4)])) rfl (hb hby at_184)
    refine oPreE sg26 ?_
    show oEndE p e s below Tg26 (mkF m 187 #[.val (.int p1), .unset, .unset, .unset] [(.ref (ad 26)), (.int (26 : Int32)), (.ref b4), (.ref b4)]) n0 1 45 (some (.int 1))
    obtain ⟨T28, h28, L28, X28, e28, V28, K28, N28, st28⟩ := oSt Xg26 hx hZ eg26 V27 O1 K27 hb0 N27 hb4 (26 : Int32) (by decide) (by decide) (F 26 (by decide)).2.1 (g := (mkF m 187 #[.val (.int p1), .unset, .unset, .unset] [(.ref (ad 26)), (.int (26 : Int32)), (.ref b4), (.ref b4)])) rfl (rest := [(.ref b4)]) rfl (hb hby at_187)
    refine oPreE st28 ?_
    show oEndE p e s below T28 (mkF m 188 #[.val (.int p1), .unset, .unset, .unset] [(.ref b4)]) n0 1 45 (some (.int 1))
    refine oPreE (fun _ => XS.dup X28.here hx rfl (hb hby at_188) rfl rfl) ?_
    show oEndE p e s below T28 (mkF m 189 #[.val (.int p1), .unset, .unset, .unset] [(.ref b4), (.ref b4)]) n0 1 45 (some (.int 1))
    refine oPreE (fun _ => XS.bipush X28.here hx rfl (hb hby at_189)) ?_
    show oEndE p e s below T28 (mkF m 191 #[.val (.int p1), .unset, .unset, .unset] [(.int (27 : Int32)), (.ref b4), (.ref b4)]) n0 1 45 (some (.int 1))
    obtain ⟨Tg27, Xg27, eg27, sg27⟩ := getS2 X28 hx hZ hown (host := "") (Or.inl (hw _ (List.mem_of_getElem? (i := 58) rfl))) Via.refl e28 (oSta_keep K28 (show Sta Z h0 "com/example/wary_query/waryquery/model/AtomicType" "FLOAT" "Lcom/example/wary_query/waryquery/model/AtomicType;" (.ref (ad 27)) from (F 27 (by decide)).1)) (g := (mkF m 191 #[.val (.int p1), .unset, .unset, .unset] [(.int (27 : Int32)), (.ref b4), (.ref b4)])) rfl (hb hby at_191)
    refine oPreE sg27 ?_
    show oEndE p e s below Tg27 (mkF m 194 #[.val (.int p1), .unset, .unset, .unset] [(.ref (ad 27)), (.int (27 : Int32)), (.ref b4), (.ref b4)]) n0 1 45 (some (.int 1))
    obtain ⟨T29, h29, L29, X29, e29, V29, K29, N29, st29⟩ := oSt Xg27 hx hZ eg27 V28 O1 K28 hb0 N28 hb4 (27 : Int32) (by decide) (by decide) (F 27 (by decide)).2.1 (g := (mkF m 194 #[.val (.int p1), .unset, .unset, .unset] [(.ref (ad 27)), (.int (27 : Int32)), (.ref b4), (.ref b4)])) rfl (rest := [(.ref b4)]) rfl (hb hby at_194)
    refine oPreE st29 ?_
    show oEndE p e s below T29 (mkF m 195 #[.val (.int p1), .unset, .unset, .unset] [(.ref b4)]) n0 1 45 (some (.int 1))
    refine oPreE (fun _ => XS.dup X29.here hx rfl (hb hby at_195) rfl rfl) ?_
    show oEndE p e s below T29 (mkF m 196 #[.val (.int p1), .unset, .unset, .unset] [(.ref b4), (.ref b4)]) n0 1 45 (some (.int 1))
    refine oPreE (fun _ => XS.bipush X29.here hx rfl (hb hby at_196)) ?_
    show oEndE p e s below T29 (mkF m 198 #[.val (.int p1), .unset, .unset, .unset] [(.int (28 : Int32)), (.ref b4), (.ref b4)]) n0 1 45 (some (.int 1))
    obtain ⟨Tg28, Xg28, eg28, sg28⟩ := getS2 X29 hx hZ hown (host := "") (Or.inl (hw _ (List.mem_of_getElem? (i := 60) rfl))) Via.refl e29 (oSta_keep K29 (show Sta Z h0 "com/example/wary_query/waryquery/model/AtomicType" "DOUBLE" "Lcom/example/wary_query/waryquery/model/AtomicType;" (.ref (ad 28)) from (F 28 (by decide)).1)) (g := (mkF m 198 #[.val (.int p1), .unset, .unset, .unset] [(.int (28 : Int32)), (.ref b4), (.ref b4)])) rfl (hb hby at_198)
    refine oPreE sg28 ?_
    show oEndE p e s below Tg28 (mkF m 201 #[.val (.int p1), .unset, .unset, .unset] [(.ref (ad 28)), (.int (28 : Int32)), (.ref b4), (.ref b4)]) n0 1 45 (some (.int 1))
    obtain ⟨T30, h30, L30, X30, e30, V30, K30, N30, st30⟩ := oSt Xg28 hx hZ eg28 V29 O1 K29 hb0 N29 hb4 (28 : Int32) (by decide) (by decide) (F 28 (by decide)).2.1 (g := (mkF m 201 #[.val (.int p1), .unset, .unset, .unset] [(.ref (ad 28)), (.int (28 : Int32)), (.ref b4), (.ref b4)])) rfl (rest := [(.ref b4)]) rfl (hb hby at_201)
    refine oPreE st30 ?_
    show oEndE p e s below T30 (mkF m 202 #[.val (.int p1), .unset, .unset, .unset] [(.ref b4)]) n0 1 45 (some (.int 1))
    refine oPreE (fun _ => XS.dup X30.here hx rfl (hb hby at_202) rfl rfl) ?_
    show oEndE p e s below T30 (mkF m 203 #[.val (.int p1), .unset, .unset, .unset] [(.ref b4), (.ref b4)]) n0 1 45 (some (.int 1))
    refine oPreE (fun _ => XS.bipush X30.here hx rfl (hb hby at_203)) ?_
    show oEndE p e s below T30 (mkF m 205 #[.val (.int p1), .unset, .unset, .unset] [(.int (29 : Int32)), (.ref b4), (.ref b4)]) n0 1 45 (some (.int 1))
    obtain ⟨Tg29, Xg29, eg29, sg29⟩ := getS2 X30 hx hZ hown (host := "") (Or.inl (hw _ (List.mem_of_getElem? (i := 62) rfl))) Via.refl e30 (oSta_keep K30 (show Sta Z h0 "com/example/wary_query/waryquery/model/AtomicType" "DURATION" "Lcom/example/wary_query/waryquery/model/AtomicType;" (.ref (ad 29)) from (F 29 (by decide)).1)) (g := (mkF m 205 #[.val (.int p1), .unset, .unset, .unset] [(.int (29 : Int32)), (.ref b4), (.ref b4)])) rfl (hb hby at_205)
    refine oPreE sg29 ?_
    show oEndE p e s below Tg29 (mkF m 208 #[.val (.int p1), .unset, .unset, .unset] [(.ref (ad 29)), (.int (29 : Int32)), (.ref b4), (.ref b4)]) n0 1 45 (some (.int 1))
    obtain ⟨T31, h31, L31, X31, e31, V31, K31, N31, st31⟩ := oSt Xg29 hx hZ eg29 V30 O1 K30 hb0 N30 hb4 (29 : Int32) (by decide) (by decide) (F 29 (by decide)).2.1 (g := (mkF m 208 #[.val (.int p1), .unset, .unset, .unset] [(.ref (ad 29)), (.int (29 : Int32)), (.ref b4), (.ref b4)])) rfl (rest := [(.ref b4)]) rfl (hb hby at_208)
    refine oPreE st31 ?_
    show oEndE p e s below T31 (mkF m 209 #[.val (.int p1), .unset, .unset, .unset] [(.ref b4)]) n0 1 45 (some (.int 1))
    refine oPreE (fun _ => XS.dup X31.here hx rfl (hb hby at_209) rfl rfl) ?_
    show oEndE p e s below T31 (mkF m 210 #[.val (.int p1), .unset, .unset, .unset] [(.ref b4), (.ref b4)]) n0 1 45 (some (.int 1))
    refine oPreE (fun _ => XS.bipush X31.here hx rfl (hb hby at_210)) ?_
    show oEndE p e s below T31 (mkF m 212 #[.val (.int p1), .unset, .unset, .unset] [(.int (30 : Int32)), (.ref b4), (.ref b4)]) n0 1 45 (some (.int 1))
    obtain ⟨Tg30, Xg30, eg30, sg30⟩ := getS2 X31 hx hZ hown (host := "") (Or.inl (hw _ (List.mem_of_getElem? (i := 64) rfl))) Via.refl e31 (oSta_keep K31 (show Sta Z h0 "com/example/wary_query/waryquery/model/AtomicType" "YEAR_MONTH_DURATION" "Lcom/example/wary_query/waryquery/model/AtomicType;" (.ref (ad 30)) from (F 30 (by decide)).1)) (g := (mkF m 212 #[.val (.int p1), .unset, .unset, .unset] [(.int (30 : Int32)), (.ref b4), (.ref b4)])) rfl (hb hby at_212)
    refine oPreE sg30 ?_
    show oEndE p e s below Tg30 (mkF m 215 #[.val (.int p1), .unset, .unset, .unset] [(.ref (ad 30)), (.int (30 : Int32)), (.ref b4), (.ref b4)]) n0 1 45 (some (.int 1))
    obtain ⟨T32, h32, L32, X32, e32, V32, K32, N32, st32⟩ := oSt Xg30 hx hZ eg30 V31 O1 K31 hb0 N31 hb4 (30 : Int32) (by decide) (by decide) (F 30 (by decide)).2.1 (g := (mkF m 215 #[.val (.int p1), .unset, .unset, .unset] [(.ref (ad 30)), (.int (30 : Int32)), (.ref b4), (.ref b4)])) rfl (rest := [(.ref b4)]) rfl (hb hby at_215)
    refine oPreE st32 ?_
    show oEndE p e s below T32 (mkF m 216 #[.val (.int p1), .unset, .unset, .unset] [(.ref b4)]) n0 1 45 (some (.int 1))
    refine oPreE (fun _ => XS.dup X32.here hx rfl (hb hby at_216) rfl rfl) ?_
    show oEndE p e s below T32 (mkF m 217 #[.val (.int p1), .unset, .unset, .unset] [(.ref b4), (.ref b4)]) n0 1 45 (some (.int 1))
    refine oPreE (fun _ => XS.bipush X32.here hx rfl (hb hby at_217)) ?_
    show oEndE p e s below T32 (mkF m 219 #[.val (.int p1), .unset, .unset, .unset] [(.int (31 : Int32)), (.ref b4), (.ref b4)]) n0 1 45 (some (.int 1))
    obtain ⟨Tg31, Xg31, eg31, sg31⟩ := getS2 X32 hx hZ hown (host := "") (Or.inl (hw _ (List.mem_of_getElem? (i := 66) rfl))) Via.refl e32 (oSta_keep K32 (show Sta Z h0 "com/example/wary_query/waryquery/model/AtomicType" "DAY_TIME_DURATION" "Lcom/example/wary_query/waryquery/model/AtomicType;" (.ref (ad 31)) from (F 31 (by decide)).1)) (g := (mkF m 219 #[.val (.int p1), .unset, .unset, .unset] [(.int (31 : Int32)), (.ref b4), (.ref b4)])) rfl (hb hby at_219)
    refine oPreE sg31 ?_
    show oEndE p e s below Tg31 (mkF m 222 #[.val (.int p1), .unset, .unset, .unset] [(.ref (ad 31)), (.int (31 : Int32)), (.ref b4), (.ref b4)]) n0 1 45 (some (.int 1))
    obtain ⟨T33, h33, L33, X33, e33, V33, K33, N33, st33⟩ := oSt Xg31 hx hZ eg31 V32 O1 K32 hb0 N32 hb4 (31 : Int32) (by decide) (by decide) (F 31 (by decide)).2.1 (g := (mkF m 222 #[.val (.int p1), .unset, .unset, .unset] [(.ref (ad 31)), (.int (31 : Int32)), (.ref b4), (.ref b4)])) rfl (rest := [(.ref b4)]) rfl (hb hby at_222)
    refine oPreE st33 ?_
    show oEndE p e s below T33 (mkF m 223 #[.val (.int p1), .unset, .unset, .unset] [(.ref b4)]) n0 1 45 (some (.int 1))
    refine oPreE (fun _ => XS.dup X33.here hx rfl (hb hby at_223) rfl rfl) ?_
    show oEndE p e s below T33 (mkF m 224 #[.val (.int p1), .unset, .unset, .unset] [(.ref b4), (.ref b4)]) n0 1 45 (some (.int 1))
    refine oPreE (fun _ => XS.bipush X33.here hx rfl (hb hby at_224)) ?_
    show oEndE p e s below T33 (mkF m 226 #[.val (.int p1), .unset, .unset, .unset] [(.int (32 : Int32)), (.ref b4), (.ref b4)]) n0 1 45 (some (.int 1))
    obtain ⟨Tg32, Xg32, eg32, sg32⟩ := getS2 X33 hx hZ hown (host := "") (Or.inl (hw _ (List.mem_of_getElem? (i := 68) rfl))) Via.refl e33 (oSta_keep K33 (show Sta Z h0 "com/example/wary_query/waryquery/model/AtomicType" "DATE_TIME" "Lcom/example/wary_query/waryquery/model/AtomicType;" (.ref (ad 32)) from (F 32 (by decide)).1)) (g := (mkF m 226 #[.val (.int p1), .unset, .unset, .unset] [(.int (32 : Int32)), (.ref b4), (.ref b4)])) rfl (hb hby at_226)
    refine oPreE sg32 ?_
    show oEndE p e s below Tg32 (mkF m 229 #[.val (.int p1), .unset, .unset, .unset] [(.ref (ad 32)), (.int (32 : Int32)), (.ref b4), (.ref b4)]) n0 1 45 (some (.int 1))
    obtain ⟨T34, h34, L34, X34, e34, V34, K34, N34, st34⟩ := oSt Xg32 hx hZ eg32 V33 O1 K33 hb0 N33 hb4 (32 : Int32) (by decide) (by decide) (F 32 (by decide)).2.1 (g := (mkF m 229 #[.val (.int p1), .unset, .unset, .unset] [(.ref (ad 32)), (.int (32 : Int32)), (.ref b4), (.ref b4)])) rfl (rest := [(.ref b4)]) rfl (hb hby at_229)
    refine oPreE st34 ?_
    show oEndE p e s below T34 (mkF m 230 #[.val (.int p1), .unset, .unset, .unset] [(.ref b4)]) n0 1 45 (some (.int 1))
    refine oPreE (fun _ => XS.dup X34.here hx rfl (hb hby at_230) rfl rfl) ?_
    show oEndE p e s below T34 (mkF m 231 #[.val (.int p1), .unset, .unset, .unset] [(.ref b4), (.ref b4)]) n0 1 45 (some (.int 1))
    refine oPreE (fun _ => XS.bipush X34.here hx rfl (hb hby at_231)) ?_
    show oEndE p e s below T34 (mkF m 233 #[.val (.int p1), .unset, .unset, .unset] [(.int (33 : Int32)), (.ref b4), (.ref b4)]) n0 1 45 (some (.int 1))
    obtain ⟨Tg33, Xg33, eg33, sg33⟩ := getS2 X34 hx hZ hown (host := "") (Or.inl (hw _ (List.mem_of_getElem? (i := 70) rfl))) Via.refl e34 (oSta_keep K34 (show Sta Z h0 "com/example/wary_query/waryquery/model/AtomicType" "DATE" "Lcom/example/wary_query/waryquery/model/AtomicType;" (.ref (ad 33)) from (F 33 (by decide)).1)) (g := (mkF m 233 #[.val (.int p1), .unset, .unset, .unset] [(.int (33 : Int32)), (.ref b4), (.ref b4)])) rfl (hb hby at_233)
    refine oPreE sg33 ?_
    show oEndE p e s below Tg33 (mkF m 236 #[.val (.int p1), .unset, .unset, .unset] [(.ref (ad 33)), (.int (33 : Int32)), (.ref b4), (.ref b4)]) n0 1 45 (some (.int 1))
    obtain ⟨T35, h35, L35, X35, e35, V35, K35, N35, st35⟩ := oSt Xg33 hx hZ eg33 V34 O1 K34 hb0 N34 hb4 (33 : Int32) (by decide) (by decide) (F 33 (by decide)).2.1 (g := (mkF m 236 #[.val (.int p1), .unset, .unset, .unset] [(.ref (ad 33)), (.int (33 : Int32)), (.ref b4), (.ref b4)])) rfl (rest := [(.ref b4)]) rfl (hb hby at_236)
    refine oPreE st35 ?_
    show oEndE p e s below T35 (mkF m 237 #[.val (.int p1), .unset, .unset, .unset] [(.ref b4)]) n0 1 45 (some (.int 1))
    refine oPreE (fun _ => XS.dup X35.here hx rfl (hb hby at_237) rfl rfl) ?_
    show oEndE p e s below T35 (mkF m 238 #[.val (.int p1), .unset, .unset, .unset] [(.ref b4), (.ref b4)]) n0 1 45 (some (.int 1))
    refine oPreE (fun _ => XS.bipush X35.here hx rfl (hb hby at_238)) ?_
    show oEndE p e s below T35 (mkF m 240 #[.val (.int p1), .unset, .unset, .unset] [(.int (34 : Int32)), (.ref b4), (.ref b4)]) n0 1 45 (some (.int 1))
    obtain ⟨Tg34, Xg34, eg34, sg34⟩ := getS2 X35 hx hZ hown (host := "") (Or.inl (hw _ (List.mem_of_getElem? (i := 72) rfl))) Via.refl e35 (oSta_keep K35 (show Sta Z h0 "com/example/wary_query/waryquery/model/AtomicType" "TIME" "Lcom/example/wary_query/waryquery/model/AtomicType;" (.ref (ad 34)) from (F 34 (by decide)).1)) (g := (mkF m 240 #[.val (.int p1), .unset, .unset, .unset] [(.int (34 : Int32)), (.ref b4), (.ref b4)])) rfl (hb hby at_240)
    refine oPreE sg34 ?_
    show oEndE p e s below Tg34 (mkF m 243 #[.val (.int p1), .unset, .unset, .unset] [(.ref (ad 34)), (.int (34 : Int32)), (.ref b4), (.ref b4)]) n0 1 45 (some (.int 1))
    obtain ⟨T36, h36, L36, X36, e36, V36, K36, N36, st36⟩ := oSt Xg34 hx hZ eg34 V35 O1 K35 hb0 N35 hb4 (34 : Int32) (by decide) (by decide) (F 34 (by decide)).2.1 (g := (mkF m 243 #[.val (.int p1), .unset, .unset, .unset] [(.ref (ad 34)), (.int (34 : Int32)), (.ref b4), (.ref b4)])) rfl (rest := [(.ref b4)]) rfl (hb hby at_243)
    refine oPreE st36 ?_
    show oEndE p e s below T36 (mkF m 244 #[.val (.int p1), .unset, .unset, .unset] [(.ref b4)]) n0 1 45 (some (.int 1))
    refine oPreE (fun _ => XS.dup X36.here hx rfl (hb hby at_244) rfl rfl) ?_
    show oEndE p e s below T36 (mkF m 245 #[.val (.int p1), .unset, .unset, .unset] [(.ref b4), (.ref b4)]) n0 1 45 (some (.int 1))
    refine oPreE (fun _ => XS.bipush X36.here hx rfl (hb hby at_245)) ?_
    show oEndE p e s below T36 (mkF m 247 #[.val (.int p1), .unset, .unset, .unset] [(.int (35 : Int32)), (.ref b4), (.ref b4)]) n0 1 45 (some (.int 1))
    obtain ⟨Tg35, Xg35, eg35, sg35⟩ := getS2 X36 hx hZ hown (host := "") (Or.inl (hw _ (List.mem_of_getElem? (i := 74) rfl))) Via.refl e36 (oSta_keep K36 (show Sta Z h0 "com/example/wary_query/waryquery/model/AtomicType" "G_YEAR_MONTH" "Lcom/example/wary_query/waryquery/model/AtomicType;" (.ref (ad 35)) from (F 35 (by decide)).1)) (g := (mkF m 247 #[.val (.int p1), .unset, .unset, .unset] [(.int (35 : Int32)), (.ref b4), (.ref b4)])) rfl (hb hby at_247)
    refine oPreE sg35 ?_
    show oEndE p e s below Tg35 (mkF m 250 #[.val (.int p1), .unset, .unset, .unset] [(.ref (ad 35)), (.int (35 : Int32)), (.ref b4), (.ref b4)]) n0 1 45 (some (.int 1))
    obtain ⟨T37, h37, L37, X37, e37, V37, K37, N37, st37⟩ := oSt Xg35 hx hZ eg35 V36 O1 K36 hb0 N36 hb4 (35 : Int32) (by decide) (by decide) (F 35 (by decide)).2.1 (g := (mkF m 250 #[.val (.int p1), .unset, .unset, .unset] [(.ref (ad 35)), (.int (35 : Int32)), (.ref b4), (.ref b4)])) rfl (rest := [(.ref b4)]) rfl (hb hby at_250)
    refine oPreE st37 ?_
    show oEndE p e s below T37 (mkF m 251 #[.val (.int p1), .unset, .unset, .unset] [(.ref b4)]) n0 1 45 (some (.int 1))
    refine oPreE (fun _ => XS.dup X37.here hx rfl (hb hby at_251) rfl rfl) ?_
    show oEndE p e s below T37 (mkF m 252 #[.val (.int p1), .unset, .unset, .unset] [(.ref b4), (.ref b4)]) n0 1 45 (some (.int 1))
    refine oPreE (fun _ => XS.bipush X37.here hx rfl (hb hby at_252)) ?_
    show oEndE p e s below T37 (mkF m 254 #[.val (.int p1), .unset, .unset, .unset] [(.int (36 : Int32)), (.ref b4), (.ref b4)]) n0 1 45 (some (.int 1))
    obtain ⟨Tg36, Xg36, eg36, sg36⟩ := getS2 X37 hx hZ hown (host := "") (Or.inl (hw _ (List.mem_of_getElem? (i := 76) rfl))) Via.refl e37 (oSta_keep K37 (show Sta Z h0 "com/example/wary_query/waryquery/model/AtomicType" "G_YEAR" "Lcom/example/wary_query/waryquery/model/AtomicType;" (.ref (ad 36)) from (F 36 (by decide)).1)) (g := (mkF m 254 #[.val (.int p1), .unset, .unset, .unset] [(.int (36 : Int32)), (.ref b4), (.ref b4)])) rfl (hb hby at_254)
    refine oPreE sg36 ?_
    show oEndE p e s below Tg36 (mkF m 257 #[.val (.int p1), .unset, .unset, .unset] [(.ref (ad 36)), (.int (36 : Int32)), (.ref b4), (.ref b4)]) n0 1 45 (some (.int 1))
    obtain ⟨T38, h38, L38, X38, e38, V38, K38, N38, st38⟩ := oSt Xg36 hx hZ eg36 V37 O1 K37 hb0 N37 hb4 (36 : Int32) (by decide) (by decide) (F 36 (by decide)).2.1 (g := (mkF m 257 #[.val (.int p1), .unset, .unset, .unset] [(.ref (ad 36)), (.int (36 : Int32)), (.ref b4), (.ref b4)])) rfl (rest := [(.ref b4)]) rfl (hb hby at_257)
    refine oPreE st38 ?_
    show oEndE p e s below T38 (mkF m 258 #[.val (.int p1), .unset, .unset, .unset] [(.ref b4)]) n0 1 45 (some (.int 1))
    refine oPreE (fun _ => XS.dup X38.here hx rfl (hb hby at_258) rfl rfl) ?_
    show oEndE p e s below T38 (mkF m 259 #[.val (.int p1), .unset, .unset, .unset] [(.ref b4), (.ref b4)]) n0 1 45 (some (.int 1))
    refine oPreE (fun _ => XS.bipush X38.here hx rfl (hb hby at_259)) ?_
    show oEndE p e s below T38 (mkF m 261 #[.val (.int p1), .unset, .unset, .unset] [(.int (37 : Int32)), (.ref b4), (.ref b4)]) n0 1 45 (some (.int 1))
    obtain ⟨Tg37, Xg37, eg37, sg37⟩ := getS2 X38 hx hZ hown (host := "") (Or.inl (hw _ (List.mem_of_getElem? (i := 78) rfl))) Via.refl e38 (oSta_keep K38 (show Sta Z h0 "com/example/wary_query/waryquery/model/AtomicType" "G_MONTH_DAY" "Lcom/example/wary_query/waryquery/model/AtomicType;" (.ref (ad 37)) from (F 37 (by decide)).1)) (g := (mkF m 261 #[.val (.int p1), .unset, .unset, .unset] [(.int (37 : Int32)), (.ref b4), (.ref b4)])) rfl (hb hby at_261)
    refine oPreE sg37 ?_
    show oEndE p e s below Tg37 (mkF m 264 #[.val (.int p1), .unset, .unset, .unset] [(.ref (ad 37)), (.int (37 : Int32)), (.ref b4), (.ref b4)]) n0 1 45 (some (.int 1))
    obtain ⟨T39, h39, L39, X39, e39, V39, K39, N39, st39⟩ := oSt Xg37 hx hZ eg37 V38 O1 K38 hb0 N38 hb4 (37 : Int32) (by decide) (by decide) (F 37 (by decide)).2.1 (g := (mkF m 264 #[.val (.int p1), .unset, .unset, .unset] [(.ref (ad 37)), (.int (37 : Int32)), (.ref b4), (.ref b4)])) rfl (rest := [(.ref b4)]) rfl (hb hby at_264)
    refine oPreE st39 ?_
    show oEndE p e s below T39 (mkF m 265 #[.val (.int p1), .unset, .unset, .unset] [(.ref b4)]) n0 1 45 (some (.int 1))
    refine oPreE (fun _ => XS.dup X39.here hx rfl (hb hby at_265) rfl rfl) ?_
    show oEndE p e s below T39 (mkF m 266 #[.val (.int p1), .unset, .unset, .unset] [(.ref b4), (.ref b4)]) n0 1 45 (some (.int 1))
    refine oPreE (fun _ => XS.bipush X39.here hx rfl (hb hby at_266)) ?_
    show oEndE p e s below T39 (mkF m 268 #[.val (.int p1), .unset, .unset, .unset] [(.int (38 : Int32)), (.ref b4), (.ref b4)]) n0 1 45 (some (.int 1))
    obtain ⟨Tg38, Xg38, eg38, sg38⟩ := getS2 X39 hx hZ hown (host := "") (Or.inl (hw _ (List.mem_of_getElem? (i := 80) rfl))) Via.refl e39 (oSta_keep K39 (show Sta Z h0 "com/example/wary_query/waryquery/model/AtomicType" "G_DAY" "Lcom/example/wary_query/waryquery/model/AtomicType;" (.ref (ad 38)) from (F 38 (by decide)).1)) (g := (mkF m 268 #[.val (.int p1), .unset, .unset, .unset] [(.int (38 : Int32)), (.ref b4), (.ref b4)])) rfl (hb hby at_268)
    refine oPreE sg38 ?_
    show oEndE p e s below Tg38 (mkF m 271 #[.val (.int p1), .unset, .unset, .unset] [(.ref (ad 38)), (.int (38 : Int32)), (.ref b4), (.ref b4)]) n0 1 45 (some (.int 1))
    obtain ⟨T40, h40, L40, X40, e40, V40, K40, N40, st40⟩ := oSt Xg38 hx hZ eg38 V39 O1 K39 hb0 N39 hb4 (38 : Int32) (by decide) (by decide) (F 38 (by decide)).2.1 (g := (mkF m 271 #[.val (.int p1), .unset, .unset, .unset] [(.ref (ad 38)), (.int (38 : Int32)), (.ref b4), (.ref b4)])) rfl (rest := [(.ref b4)]) rfl (hb hby at_271)
    refine oPreE st40 ?_
    show oEndE p e s below T40 (mkF m 272 #[.val (.int p1), .unset, .unset, .unset] [(.ref b4)]) n0 1 45 (some (.int 1))
    refine oPreE (fun _ => XS.dup X40.here hx rfl (hb hby at_272) rfl rfl) ?_
    show oEndE p e s below T40 (mkF m 273 #[.val (.int p1), .unset, .unset, .unset] [(.ref b4), (.ref b4)]) n0 1 45 (some (.int 1))
    refine oPreE (fun _ => XS.bipush X40.here hx rfl (hb hby at_273)) ?_
    show oEndE p e s below T40 (mkF m 275 #[.val (.int p1), .unset, .unset, .unset] [(.int (39 : Int32)), (.ref b4), (.ref b4)]) n0 1 45 (some (.int 1))
    obtain ⟨Tg39, Xg39, eg39, sg39⟩ := getS2 X40 hx hZ hown (host := "") (Or.inl (hw _ (List.mem_of_getElem? (i := 82) rfl))) Via.refl e40 (oSta_keep K40 (show Sta Z h0 "com/example/wary_query/waryquery/model/AtomicType" "G_MONTH" "Lcom/example/wary_query/waryquery/model/AtomicType;" (.ref (ad 39)) from (F 39 (by decide)).1)) (g := (mkF m 275 #[.val (.int p1), .unset, .unset, .unset] [(.int (39 : Int32)), (.ref b4), (.ref b4)])) rfl (hb hby at_275)
    refine oPreE sg39 ?_
    show oEndE p e s below Tg39 (mkF m 278 #[.val (.int p1), .unset, .unset, .unset] [(.ref (ad 39)), (.int (39 : Int32)), (.ref b4), (.ref b4)]) n0 1 45 (some (.int 1))
    obtain ⟨T41, h41, L41, X41, e41, V41, K41, N41, st41⟩ := oSt Xg39 hx hZ eg39 V40 O1 K40 hb0 N40 hb4 (39 : Int32) (by decide) (by decide) (F 39 (by decide)).2.1 (g := (mkF m 278 #[.val (.int p1), .unset, .unset, .unset] [(.ref (ad 39)), (.int (39 : Int32)), (.ref b4), (.ref b4)])) rfl (rest := [(.ref b4)]) rfl (hb hby at_278)
    refine oPreE st41 ?_
    show oEndE p e s below T41 (mkF m 279 #[.val (.int p1), .unset, .unset, .unset] [(.ref b4)]) n0 1 45 (some (.int 1))
    refine oPreE (fun _ => XS.dup X41.here hx rfl (hb hby at_279) rfl rfl) ?_
    show oEndE p e s below T41 (mkF m 280 #[.val (.int p1), .unset, .unset, .unset] [(.ref b4), (.ref b4)]) n0 1 45 (some (.int 1))
    refine oPreE (fun _ => XS.bipush X41.here hx rfl (hb hby at_280)) ?_
    show oEndE p e s below T41 (mkF m 282 #[.val (.int p1), .unset, .unset, .unset] [(.int (40 : Int32)), (.ref b4), (.ref b4)]) n0 1 45 (some (.int 1))
    obtain ⟨Tg40, Xg40, eg40, sg40⟩ := getS2 X41 hx hZ hown (host := "") (Or.inl (hw _ (List.mem_of_getElem? (i := 84) rfl))) Via.refl e41 (oSta_keep K41 (show Sta Z h0 "com/example/wary_query/waryquery/model/AtomicType" "HEX_BINARY" "Lcom/example/wary_query/waryquery/model/AtomicType;" (.ref (ad 40)) from (F 40 (by decide)).1)) (g := (mkF m 282 #[.val (.int p1), .unset, .unset, .unset] [(.int (40 : Int32)), (.ref b4), (.ref b4)])) rfl (hb hby at_282)
    refine oPreE sg40 ?_
    show oEndE p e s below Tg40 (mkF m 285 #[.val (.int p1), .unset, .unset, .unset] [(.ref (ad 40)), (.int (40 : Int32)), (.ref b4), (.ref b4)]) n0 1 45 (some (.int 1))
    obtain ⟨T42, h42, L42, X42, e42, V42, K42, N42, st42⟩ := oSt Xg40 hx hZ eg40 V41 O1 K41 hb0 N41 hb4 (40 : Int32) (by decide) (by decide) (F 40 (by decide)).2.1 (g := (mkF m 285 #[.val (.int p1), .unset, .unset, .unset] [(.ref (ad 40)), (.int (40 : Int32)), (.ref b4), (.ref b4)])) rfl (rest := [(.ref b4)]) rfl (hb hby at_285)
    refine oPreE st42 ?_
    show oEndE p e s below T42 (mkF m 286 #[.val (.int p1), .unset, .unset, .unset] [(.ref b4)]) n0 1 45 (some (.int 1))
    refine oPreE (fun _ => XS.dup X42.here hx rfl (hb hby at_286) rfl rfl) ?_
    show oEndE p e s below T42 (mkF m 287 #[.val (.int p1), .unset, .unset, .unset] [(.ref b4), (.ref b4)]) n0 1 45 (some (.int 1))
    refine oPreE (fun _ => XS.bipush X42.here hx rfl (hb hby at_287)) ?_
    show oEndE p e s below T42 (mkF m 289 #[.val (.int p1), .unset, .unset, .unset] [(.int (41 : Int32)), (.ref b4), (.ref b4)]) n0 1 45 (some (.int 1))
    obtain ⟨Tg41, Xg41, eg41, sg41⟩ := getS2 X42 hx hZ hown (host := "") (Or.inl (hw _ (List.mem_of_getElem? (i := 86) rfl))) Via.refl e42 (oSta_keep K42 (show Sta Z h0 "com/example/wary_query/waryquery/model/AtomicType" "BASE64_BINARY" "Lcom/example/wary_query/waryquery/model/AtomicType;" (.ref (ad 41)) from (F 41 (by decide)).1)) (g := (mkF m 289 #[.val (.int p1), .unset, .unset, .unset] [(.int (41 : Int32)), (.ref b4), (.ref b4)])) rfl (hb hby at_289)
    refine oPreE sg41 ?_
    show oEndE p e s below Tg41 (mkF m 292 #[.val (.int p1), .unset, .unset, .unset] [(.ref (ad 41)), (.int (41 : Int32)), (.ref b4), (.ref b4)]) n0 1 45 (some (.int 1))
    obtain ⟨T43, h43, L43, X43, e43, V43, K43, N43, st43⟩ := oSt Xg41 hx hZ eg41 V42 O1 K42 hb0 N42 hb4 (41 : Int32) (by decide) (by decide) (F 41 (by decide)).2.1 (g := (mkF m 292 #[.val (.int p1), .unset, .unset, .unset] [(.ref (ad 41)), (.int (41 : Int32)), (.ref b4), (.ref b4)])) rfl (rest := [(.ref b4)]) rfl (hb hby at_292)
    refine oPreE st43 ?_
    show oEndE p e s below T43 (mkF m 293 #[.val (.int p1), .unset, .unset, .unset] [(.ref b4)]) n0 1 45 (some (.int 1))
    refine oPreE (fun _ => XS.dup X43.here hx rfl (hb hby at_293) rfl rfl) ?_
    show oEndE p e s below T43 (mkF m 294 #[.val (.int p1), .unset, .unset, .unset] [(.ref b4), (.ref b4)]) n0 1 45 (some (.int 1))
    refine oPreE (fun _ => XS.bipush X43.here hx rfl (hb hby at_294)) ?_
    show oEndE p e s below T43 (mkF m 296 #[.val (.int p1), .unset, .unset, .unset] [(.int (42 : Int32)), (.ref b4), (.ref b4)]) n0 1 45 (some (.int 1))
    obtain ⟨Tg42, Xg42, eg42, sg42⟩ := getS2 X43 hx hZ hown (host := "") (Or.inl (hw _ (List.mem_of_getElem? (i := 88) rfl))) Via.refl e43 (oSta_keep K43 (show Sta Z h0 "com/example/wary_query/waryquery/model/AtomicType" "ANY_URI" "Lcom/example/wary_query/waryquery/model/AtomicType;" (.ref (ad 42)) from (F 42 (by decide)).1)) (g := (mkF m 296 #[.val (.int p1), .unset, .unset, .unset] [(.int (42 : Int32)), (.ref b4), (.ref b4)])) rfl (hb hby at_296)
    refine oPreE sg42 ?_
    show oEndE p e s below Tg42 (mkF m 299 #[.val (.int p1), .unset, .unset, .unset] [(.ref (ad 42)), (.int (42 : Int32)), (.ref b4), (.ref b4)]) n0 1 45 (some (.int 1))
    obtain ⟨T44, h44, L44, X44, e44, V44, K44, N44, st44⟩ := oSt Xg42 hx hZ eg42 V43 O1 K43 hb0 N43 hb4 (42 : Int32) (by decide) (by decide) (F 42 (by decide)).2.1 (g := (mkF m 299 #[.val (.int p1), .unset, .unset, .unset] [(.ref (ad 42)), (.int (42 : Int32)), (.ref b4), (.ref b4)])) rfl (rest := [(.ref b4)]) rfl (hb hby at_299)
    refine oPreE st44 ?_
    show oEndE p e s below T44 (mkF m 300 #[.val (.int p1), .unset, .unset, .unset] [(.ref b4)]) n0 1 45 (some (.int 1))
    refine oPreE (fun _ => XS.dup X44.here hx rfl (hb hby at_300) rfl rfl) ?_
    show oEndE p e s below T44 (mkF m 301 #[.val (.int p1), .unset, .unset, .unset] [(.ref b4), (.ref b4)]) n0 1 45 (some (.int 1))
    refine oPreE (fun _ => XS.bipush X44.here hx rfl (hb hby at_301)) ?_
    show oEndE p e s below T44 (mkF m 303 #[.val (.int p1), .unset, .unset, .unset] [(.int (43 : Int32)), (.ref b4), (.ref b4)]) n0 1 45 (some (.int 1))
    obtain ⟨Tg43, Xg43, eg43, sg43⟩ := getS2 X44 hx hZ hown (host := "") (Or.inl (hw _ (List.mem_of_getElem? (i := 90) rfl))) Via.refl e44 (oSta_keep K44 (show Sta Z h0 "com/example/wary_query/waryquery/model/AtomicType" "QNAME" "Lcom/example/wary_query/waryquery/model/AtomicType;" (.ref (ad 43)) from (F 43 (by decide)).1)) (g := (mkF m 303 #[.val (.int p1), .unset, .unset, .unset] [(.int (43 : Int32)), (.ref b4), (.ref b4)])) rfl (hb hby at_303)
    refine oPreE sg43 ?_
    show oEndE p e s below Tg43 (mkF m 306 #[.val (.int p1), .unset, .unset, .unset] [(.ref (ad 43)), (.int (43 : Int32)), (.ref b4), (.ref b4)]) n0 1 45 (some (.int 1))
    obtain ⟨T45, h45, L45, X45, e45, V45, K45, N45, st45⟩ := oSt Xg43 hx hZ eg43 V44 O1 K44 hb0 N44 hb4 (43 : Int32) (by decide) (by decide) (F 43 (by decide)).2.1 (g := (mkF m 306 #[.val (.int p1), .unset, .unset, .unset] [(.ref (ad 43)), (.int (43 : Int32)), (.ref b4), (.ref b4)])) rfl (rest := [(.ref b4)]) rfl (hb hby at_306)
    refine oPreE st45 ?_
    show oEndE p e s below T45 (mkF m 307 #[.val (.int p1), .unset, .unset, .unset] [(.ref b4)]) n0 1 45 (some (.int 1))
    refine oPreE (fun _ => XS.dup X45.here hx rfl (hb hby at_307) rfl rfl) ?_
    show oEndE p e s below T45 (mkF m 308 #[.val (.int p1), .unset, .unset, .unset] [(.ref b4), (.ref b4)]) n0 1 45 (some (.int 1))
    refine oPreE (fun _ => XS.bipush X45.here hx rfl (hb hby at_308)) ?_
    show oEndE p e s below T45 (mkF m 310 #[.val (.int p1), .unset, .unset, .unset] [(.int (44 : Int32)), (.ref b4), (.ref b4)]) n0 1 45 (some (.int 1))
    obtain ⟨Tg44, Xg44, eg44, sg44⟩ := getS2 X45 hx hZ hown (host := "") (Or.inl (hw _ (List.mem_of_getElem? (i := 92) rfl))) Via.refl e45 (oSta_keep K45 (show Sta Z h0 "com/example/wary_query/waryquery/model/AtomicType" "NOTATION" "Lcom/example/wary_query/waryquery/model/AtomicType;" (.ref (ad 44)) from (F 44 (by decide)).1)) (g := (mkF m 310 #[.val (.int p1), .unset, .unset, .unset] [(.int (44 : Int32)), (.ref b4), (.ref b4)])) rfl (hb hby at_310)
    refine oPreE sg44 ?_
    show oEndE p e s below Tg44 (mkF m 313 #[.val (.int p1), .unset, .unset, .unset] [(.ref (ad 44)), (.int (44 : Int32)), (.ref b4), (.ref b4)]) n0 1 45 (some (.int 1))
    obtain ⟨T46, h46, L46, X46, e46, V46, K46, N46, st46⟩ := oSt Xg44 hx hZ eg44 V45 O1 K45 hb0 N45 hb4 (44 : Int32) (by decide) (by decide) (F 44 (by decide)).2.1 (g := (mkF m 313 #[.val (.int p1), .unset, .unset, .unset] [(.ref (ad 44)), (.int (44 : Int32)), (.ref b4), (.ref b4)])) rfl (rest := [(.ref b4)]) rfl (hb hby at_313)
    refine oPreE st46 ?_
    show oEndE p e s below T46 (mkF m 314 #[.val (.int p1), .unset, .unset, .unset] [(.ref b4)]) n0 1 45 (some (.int 1))
    refine oPreE (fun _ => XS.astoreN X46.here hx rfl (hb hby at_314) rfl rfl (l' := #[.val (.int p1), .val (.ref b4), .unset, .unset]) rfl) ?_
    show oEndE p e s below T46 (mkF m 315 #[.val (.int p1), .val (.ref b4), .unset, .unset] []) n0 1 45 (some (.int 1))
    refine oPreE (fun _ => XS.iloadN X46.here hx rfl (hb hby at_315) rfl) ?_
    show oEndE p e s below T46 (mkF m 316 #[.val (.int p1), .val (.ref b4), .unset, .unset] [(.int p1)]) n0 1 45 (some (.int 1))
    refine oPreE (fun _ => X46.ldcInt hx hown (mvT hZ (hw _ (List.mem_of_getElem? (i := 94) rfl))) (g := (mkF m 316 #[.val (.int p1), .val (.ref b4), .unset, .unset] [(.int p1)])) rfl (hb hby at_316) _) ?_
    show oEndE p e s below T46 (mkF m 318 #[.val (.int p1), .val (.ref b4), .unset, .unset] [(.int (2147483647 : Int32)), (.int p1)]) n0 1 45 (some (.int 1))
    refine oPreE (fun _ => XS.iand X46.here hx rfl (hb hby at_318) rfl) ?_
    show oEndE p e s below T46 (mkF m 319 #[.val (.int p1), .val (.ref b4), .unset, .unset] [(.int (p1 &&& (2147483647 : Int32)))]) n0 1 45 (some (.int 1))
    refine oPreE (fun _ => XS.bipush X46.here hx rfl (hb hby at_319)) ?_
    show oEndE p e s below T46 (mkF m 321 #[.val (.int p1), .val (.ref b4), .unset, .unset] [(.int (45 : Int32)), (.int (p1 &&& (2147483647 : Int32)))]) n0 1 45 (some (.int 1))
    refine oPreE (fun _ => XS.irem X46.here hx rfl (hb hby at_321) rfl (by decide)) ?_
    show oEndE p e s below T46 (mkF m 322 #[.val (.int p1), .val (.ref b4), .unset, .unset] [(.int ((p1 &&& (2147483647 : Int32)) - ((p1 &&& (2147483647 : Int32)) / (45 : Int32)) * (45 : Int32)))]) n0 1 45 (some (.int 1))
    refine oPreE (fun _ => XS.istoreN X46.here hx rfl (hb hby at_322) rfl (l' := #[.val (.int p1), .val (.ref b4), .val (.int ((p1 &&& (2147483647 : Int32)) - ((p1 &&& (2147483647 : Int32)) / (45 : Int32)) * (45 : Int32))), .unset]) rfl) ?_
    have FF : oFacts Z h46 ad := fun i hi => ⟨oSta_keep K46 (F i hi).1, (F i hi).2.1.keep K46, (F i hi).2.2.keep K46 (by simp)⟩
    exact oMid X46 hx hby hml0 Bd.returns Bd.notSynchronized hown hZ hw e46 N46 (Nat.le_trans Z0 K46.1) (by decide) (by decide) b4 V46 FF p1 _ (oIdx p1)
  obtain ⟨hh, t, L, hs, hrun, hended, hW, hsame, hN, ht⟩ := main
  exact ⟨t, _, castTop (ef_0 m p1) hs, hrun, hended, _, L, rfl, ⟨rfl, hN, trivial⟩, ⟨_, rfl⟩, hW, hsame.mono (by decide) (by decide)⟩
theorem oOrd {Z : State} {args : Array Value} {t : Term} {a : Addr} {C n d : String} {v : Value} (ev : t.eval args Z none [] Z = some (.ref a)) (e2 : (Term.field t C n d).eval args Z none [] Z = some v) : Z.fieldOf? a C n d = some v := by
  simpa [Term.eval, ev] using e2
theorem oOne {Z : State} {a0 args : Array Value} {nm C D : String} {k : Int32} (h1 : (Jvm.Cond.exactly (Jvm.Term.static C nm D) C).value args Z none Z [] = some true) (h2 : (Jvm.Cond.eq (Jvm.Term.field (Jvm.Term.static C nm D) "java/lang/Enum" "ordinal" "I") (Jvm.Term.int k)).value args Z none Z [] = some true)
    (wi : (Jvm.Cond.initialized C).before a0 Z = true) (wl : (Jvm.Cond.laysStatic C nm D).before a0 Z = true) : ∃ a, Sta Z Z.heap C nm D (.ref a) ∧ Exa Z Z.heap a C ∧ Fld Z Z.heap a "java/lang/Enum" "ordinal" "I" (.int k) := by
  obtain ⟨a, -, -, -, ev, -⟩ := Cond.exactly_spec (Cond.before_iff.mpr h1)
  have e2 := Cond.eq_int (Cond.before_iff.mpr h2) rfl
  refine ⟨a, Sta.start (args := a0) (by simpa [Term.eval] using ev) (Or.inr ⟨wi, wl⟩), Exa.start ev h1, Fld.start ?_⟩
  exact oOrd ev e2
set_option maxRecDepth 65536 in
set_option maxHeartbeats 4000000 in
theorem comes_1 {Post : Tables → Env → Array Value → State → Outcome → State → Prop} (hpost : ∀ tb e args s v u, (limb_1_1.after args s (.returned v) u = true ∧ limb_1_2.after args s (.returned v) u = true ∧ True) → FrameEnd s (.returned v) u (Jvm.fieldLocs frame_1_writes args s ++ Jvm.arrayLocs frame_1_arrays args s ++ Jvm.staticLocs frame_1_statics s) 16 192 → Post tb e args s (.returned v) u) :
    ArmFor flags0 classFile x code maxLocals ret World_1 tables_1 room_1 Calls_1 rest_1 Pre_1 Post := by
  intro l hfl _ _ p e ha hc hk s m args below hf hA hF happ hP
  obtain ⟨hcalls, hrest, hpre⟩ := hP
  obtain ⟨-, -, -, hnamed, -, -, -, hat⟩ := (Spec.applies_iff hf).mp happ
  obtain ⟨hg, hn⟩ := and_e (Cond.before_iff.mp (show (Jvm.Cond.and given_1 narrow_1).before args s = true from hpre))
  obtain ⟨gc, gr0⟩ := and_e hg
  have g0 := gr0
  obtain ⟨w0, rfl⟩ : ∃ w0 : Value, args = #[w0] := by
    have hs : args.size = 1 := by simpa [Cond.value, given_1] using gc
    obtain ⟨L⟩ := args
    match L, hs with
    | [w0], _ => exact ⟨w0, rfl⟩
  have hw := fun d (hd : d ∈ tables_1) => atoms_spec (ws := Jvm.Cond.code x code maxLocals ret :: tables_1) hat d (List.mem_cons_of_mem _ hd)
  obtain ⟨i0, ei0⟩ := is_v g0
  obtain rfl : w0 = (.int i0) := Option.some.inj ei0
  obtain ⟨n0, r0⟩ := and_e hn
  obtain ⟨n1, r1⟩ := and_e r0
  obtain ⟨n2, r2⟩ := and_e r1
  obtain ⟨n3, r3⟩ := and_e r2
  obtain ⟨n4, r4⟩ := and_e r3
  obtain ⟨n5, r5⟩ := and_e r4
  obtain ⟨n6, r6⟩ := and_e r5
  obtain ⟨n7, r7⟩ := and_e r6
  obtain ⟨n8, r8⟩ := and_e r7
  obtain ⟨n9, r9⟩ := and_e r8
  obtain ⟨n10, r10⟩ := and_e r9
  obtain ⟨n11, r11⟩ := and_e r10
  obtain ⟨n12, r12⟩ := and_e r11
  obtain ⟨n13, r13⟩ := and_e r12
  obtain ⟨n14, r14⟩ := and_e r13
  obtain ⟨n15, r15⟩ := and_e r14
  obtain ⟨n16, r16⟩ := and_e r15
  obtain ⟨n17, r17⟩ := and_e r16
  obtain ⟨n18, r18⟩ := and_e r17
  obtain ⟨n19, r19⟩ := and_e r18
  obtain ⟨n20, r20⟩ := and_e r19
  obtain ⟨n21, r21⟩ := and_e r20
  obtain ⟨n22, r22⟩ := and_e r21
  obtain ⟨n23, r23⟩ := and_e r22
  obtain ⟨n24, r24⟩ := and_e r23
  obtain ⟨n25, r25⟩ := and_e r24
  obtain ⟨n26, r26⟩ := and_e r25
  obtain ⟨n27, r27⟩ := and_e r26
  obtain ⟨n28, r28⟩ := and_e r27
  obtain ⟨n29, r29⟩ := and_e r28
  obtain ⟨n30, r30⟩ := and_e r29
  obtain ⟨n31, r31⟩ := and_e r30
  obtain ⟨n32, r32⟩ := and_e r31
  obtain ⟨n33, r33⟩ := and_e r32
  obtain ⟨n34, r34⟩ := and_e r33
  obtain ⟨n35, r35⟩ := and_e r34
  obtain ⟨n36, r36⟩ := and_e r35
  obtain ⟨n37, r37⟩ := and_e r36
  obtain ⟨n38, r38⟩ := and_e r37
  obtain ⟨n39, r39⟩ := and_e r38
  obtain ⟨n40, r40⟩ := and_e r39
  obtain ⟨n41, r41⟩ := and_e r40
  obtain ⟨n42, r42⟩ := and_e r41
  obtain ⟨n43, r43⟩ := and_e r42
  obtain ⟨n44, r44⟩ := and_e r43
  obtain ⟨n45, r45⟩ := and_e r44
  obtain ⟨n46, r46⟩ := and_e r45
  obtain ⟨n47, r47⟩ := and_e r46
  obtain ⟨n48, r48⟩ := and_e r47
  obtain ⟨n49, r49⟩ := and_e r48
  obtain ⟨n50, r50⟩ := and_e r49
  obtain ⟨n51, r51⟩ := and_e r50
  obtain ⟨n52, r52⟩ := and_e r51
  obtain ⟨n53, r53⟩ := and_e r52
  obtain ⟨n54, r54⟩ := and_e r53
  obtain ⟨n55, r55⟩ := and_e r54
  obtain ⟨n56, r56⟩ := and_e r55
  obtain ⟨n57, r57⟩ := and_e r56
  obtain ⟨n58, r58⟩ := and_e r57
  obtain ⟨n59, r59⟩ := and_e r58
  obtain ⟨n60, r60⟩ := and_e r59
  obtain ⟨n61, r61⟩ := and_e r60
  obtain ⟨n62, r62⟩ := and_e r61
  obtain ⟨n63, r63⟩ := and_e r62
  obtain ⟨n64, r64⟩ := and_e r63
  obtain ⟨n65, r65⟩ := and_e r64
  obtain ⟨n66, r66⟩ := and_e r65
  obtain ⟨n67, r67⟩ := and_e r66
  obtain ⟨n68, r68⟩ := and_e r67
  obtain ⟨n69, r69⟩ := and_e r68
  obtain ⟨n70, r70⟩ := and_e r69
  obtain ⟨n71, r71⟩ := and_e r70
  obtain ⟨n72, r72⟩ := and_e r71
  obtain ⟨n73, r73⟩ := and_e r72
  obtain ⟨n74, r74⟩ := and_e r73
  obtain ⟨n75, r75⟩ := and_e r74
  obtain ⟨n76, r76⟩ := and_e r75
  obtain ⟨n77, r77⟩ := and_e r76
  obtain ⟨n78, r78⟩ := and_e r77
  obtain ⟨n79, r79⟩ := and_e r78
  obtain ⟨n80, r80⟩ := and_e r79
  obtain ⟨n81, r81⟩ := and_e r80
  obtain ⟨n82, r82⟩ := and_e r81
  obtain ⟨n83, r83⟩ := and_e r82
  obtain ⟨n84, r84⟩ := and_e r83
  obtain ⟨n85, r85⟩ := and_e r84
  obtain ⟨n86, r86⟩ := and_e r85
  obtain ⟨n87, r87⟩ := and_e r86
  obtain ⟨n88, r88⟩ := and_e r87
  have n89 := r88
  have all : ∀ i, i < 45 → ∃ a, Sta s s.heap "com/example/wary_query/waryquery/model/AtomicType" (oNm i) "Lcom/example/wary_query/waryquery/model/AtomicType;" (.ref a) ∧ Exa s s.heap a "com/example/wary_query/waryquery/model/AtomicType" ∧ Fld s s.heap a "java/lang/Enum" "ordinal" "I" (.int (Int32.ofNat i)) := by
    intro i hi
    match i, hi with
    | 0, _ => exact oOne n0 n45 (hw _ (List.mem_of_getElem? (i := 3) rfl)) (hw _ (List.mem_of_getElem? (i := 4) rfl))
    | 1, _ => exact oOne n1 n64 (hw _ (List.mem_of_getElem? (i := 3) rfl)) (hw _ (List.mem_of_getElem? (i := 7) rfl))
    | 2, _ => exact oOne n2 n60 (hw _ (List.mem_of_getElem? (i := 3) rfl)) (hw _ (List.mem_of_getElem? (i := 9) rfl))
    | 3, _ => exact oOne n3 n54 (hw _ (List.mem_of_getElem? (i := 3) rfl)) (hw _ (List.mem_of_getElem? (i := 11) rfl))
    | 4, _ => exact oOne n4 n70 (hw _ (List.mem_of_getElem? (i := 3) rfl)) (hw _ (List.mem_of_getElem? (i := 13) rfl))
    | 5, _ => exact oOne n5 n78 (hw _ (List.mem_of_getElem? (i := 3) rfl)) (hw _ (List.mem_of_getElem? (i := 15) rfl))
    | 6, _ => exact oOne n6 n80 (hw _ (List.mem_of_getElem? (i := 3) rfl)) (hw _ (List.mem_of_getElem? (i := 17) rfl))
    | 7, _ => exact oOne n7 n59 (hw _ (List.mem_of_getElem? (i := 3) rfl)) (hw _ (List.mem_of_getElem? (i := 19) rfl))
    | 8, _ => exact oOne n8 n63 (hw _ (List.mem_of_getElem? (i := 3) rfl)) (hw _ (List.mem_of_getElem? (i := 21) rfl))
    | 9, _ => exact oOne n9 n81 (hw _ (List.mem_of_getElem? (i := 3) rfl)) (hw _ (List.mem_of_getElem? (i := 23) rfl))
    | 10, _ => exact oOne n10 n69 (hw _ (List.mem_of_getElem? (i := 3) rfl)) (hw _ (List.mem_of_getElem? (i := 25) rfl))
    | 11, _ => exact oOne n11 n61 (hw _ (List.mem_of_getElem? (i := 3) rfl)) (hw _ (List.mem_of_getElem? (i := 27) rfl))
    | 12, _ => exact oOne n12 n82 (hw _ (List.mem_of_getElem? (i := 3) rfl)) (hw _ (List.mem_of_getElem? (i := 29) rfl))
    | 13, _ => exact oOne n13 n83 (hw _ (List.mem_of_getElem? (i := 3) rfl)) (hw _ (List.mem_of_getElem? (i := 31) rfl))
    | 14, _ => exact oOne n14 n79 (hw _ (List.mem_of_getElem? (i := 3) rfl)) (hw _ (List.mem_of_getElem? (i := 33) rfl))
    | 15, _ => exact oOne n15 n71 (hw _ (List.mem_of_getElem? (i := 3) rfl)) (hw _ (List.mem_of_getElem? (i := 35) rfl))
    | 16, _ => exact oOne n16 n67 (hw _ (List.mem_of_getElem? (i := 3) rfl)) (hw _ (List.mem_of_getElem? (i := 37) rfl))
    | 17, _ => exact oOne n17 n72 (hw _ (List.mem_of_getElem? (i := 3) rfl)) (hw _ (List.mem_of_getElem? (i := 39) rfl))
    | 18, _ => exact oOne n18 n84 (hw _ (List.mem_of_getElem? (i := 3) rfl)) (hw _ (List.mem_of_getElem? (i := 41) rfl))
    | 19, _ => exact oOne n19 n73 (hw _ (List.mem_of_getElem? (i := 3) rfl)) (hw _ (List.mem_of_getElem? (i := 43) rfl))
    | 20, _ => exact oOne n20 n55 (hw _ (List.mem_of_getElem? (i := 3) rfl)) (hw _ (List.mem_of_getElem? (i := 45) rfl))
    | 21, _ => exact oOne n21 n57 (hw _ (List.mem_of_getElem? (i := 3) rfl)) (hw _ (List.mem_of_getElem? (i := 47) rfl))
    | 22, _ => exact oOne n22 n74 (hw _ (List.mem_of_getElem? (i := 3) rfl)) (hw _ (List.mem_of_getElem? (i := 49) rfl))
    | 23, _ => exact oOne n23 n76 (hw _ (List.mem_of_getElem? (i := 3) rfl)) (hw _ (List.mem_of_getElem? (i := 51) rfl))
    | 24, _ => exact oOne n24 n88 (hw _ (List.mem_of_getElem? (i := 3) rfl)) (hw _ (List.mem_of_getElem? (i := 53) rfl))
    | 25, _ => exact oOne n25 n65 (hw _ (List.mem_of_getElem? (i := 3) rfl)) (hw _ (List.mem_of_getElem? (i := 55) rfl))
    | 26, _ => exact oOne n26 n86 (hw _ (List.mem_of_getElem? (i := 3) rfl)) (hw _ (List.mem_of_getElem? (i := 57) rfl))
    | 27, _ => exact oOne n27 n85 (hw _ (List.mem_of_getElem? (i := 3) rfl)) (hw _ (List.mem_of_getElem? (i := 59) rfl))
    | 28, _ => exact oOne n28 n56 (hw _ (List.mem_of_getElem? (i := 3) rfl)) (hw _ (List.mem_of_getElem? (i := 61) rfl))
    | 29, _ => exact oOne n29 n58 (hw _ (List.mem_of_getElem? (i := 3) rfl)) (hw _ (List.mem_of_getElem? (i := 63) rfl))
    | 30, _ => exact oOne n30 n66 (hw _ (List.mem_of_getElem? (i := 3) rfl)) (hw _ (List.mem_of_getElem? (i := 65) rfl))
    | 31, _ => exact oOne n31 n75 (hw _ (List.mem_of_getElem? (i := 3) rfl)) (hw _ (List.mem_of_getElem? (i := 67) rfl))
    | 32, _ => exact oOne n32 n46 (hw _ (List.mem_of_getElem? (i := 3) rfl)) (hw _ (List.mem_of_getElem? (i := 69) rfl))
    | 33, _ => exact oOne n33 n47 (hw _ (List.mem_of_getElem? (i := 3) rfl)) (hw _ (List.mem_of_getElem? (i := 71) rfl))
    | 34, _ => exact oOne n34 n48 (hw _ (List.mem_of_getElem? (i := 3) rfl)) (hw _ (List.mem_of_getElem? (i := 73) rfl))
    | 35, _ => exact oOne n35 n49 (hw _ (List.mem_of_getElem? (i := 3) rfl)) (hw _ (List.mem_of_getElem? (i := 75) rfl))
    | 36, _ => exact oOne n36 n50 (hw _ (List.mem_of_getElem? (i := 3) rfl)) (hw _ (List.mem_of_getElem? (i := 77) rfl))
    | 37, _ => exact oOne n37 n51 (hw _ (List.mem_of_getElem? (i := 3) rfl)) (hw _ (List.mem_of_getElem? (i := 79) rfl))
    | 38, _ => exact oOne n38 n52 (hw _ (List.mem_of_getElem? (i := 3) rfl)) (hw _ (List.mem_of_getElem? (i := 81) rfl))
    | 39, _ => exact oOne n39 n53 (hw _ (List.mem_of_getElem? (i := 3) rfl)) (hw _ (List.mem_of_getElem? (i := 83) rfl))
    | 40, _ => exact oOne n40 n62 (hw _ (List.mem_of_getElem? (i := 3) rfl)) (hw _ (List.mem_of_getElem? (i := 85) rfl))
    | 41, _ => exact oOne n41 n87 (hw _ (List.mem_of_getElem? (i := 3) rfl)) (hw _ (List.mem_of_getElem? (i := 87) rfl))
    | 42, _ => exact oOne n42 n68 (hw _ (List.mem_of_getElem? (i := 3) rfl)) (hw _ (List.mem_of_getElem? (i := 89) rfl))
    | 43, _ => exact oOne n43 n89 (hw _ (List.mem_of_getElem? (i := 3) rfl)) (hw _ (List.mem_of_getElem? (i := 91) rfl))
    | 44, _ => exact oOne n44 n77 (hw _ (List.mem_of_getElem? (i := 3) rfl)) (hw _ (List.mem_of_getElem? (i := 93) rfl))
    | k + 45, hk => exact absurd hk (by omega)
  have F : oFacts s s.heap (fun i => if h : i < 45 then (all i h).choose else 0) := fun i hi => by
    simp only [hi, dif_pos]
    exact (all i hi).choose_spec
  obtain ⟨n, o, h1, h2, h3, _, L, rfl, ⟨rfl, N, -⟩, hq⟩ := oR0 l s _ hw tables_1 i0 s.heap s.heap.size (Nat.le_refl _) _ F p e ha hc hk s m _ below hf ((Spec.applies_iff_loose hf).mp happ).1 ⟨rfl, State.Warmed39.refl s, rfl⟩ trivial
  refine ⟨n, _, h1, h2, h3, hpost _ _ _ _ _ _ ⟨Cond.after_iff.mpr rfl, Cond.after_iff.mpr (eq_i res_at (Term.int_eval (1)) rfl), trivial⟩ ⟨hq.1, hq.2.1, (hq.2.2.sift fun y hy => Or.inr (N y hy)).mono (by decide) (by decide)⟩⟩
theorem main_1_1 : Claimed_1_1 := comes_1 fun _ _ _ _ _ _ h hF => ⟨h.1, hF⟩
theorem main_1_2 : Claimed_1_2 := comes_1 fun _ _ _ _ _ _ h hF => ⟨h.2.1, hF⟩
end Jvm.Pilot.@@N@@
namespace Jvm.Pilot.@@N@@
open Jvm Jvm.ClassFile Sem Op Lib Jvm.Free Jvm.Stand Jvm.Pilot.@@N@@.Jvm.D
/-! MADE BY PROGRAM (witnessworld.py) out of the Statement's table words and the real class files: 14 classes; the members and pool entries that the words name. The judged class is class 1, her method 1. -/
namespace start1
open Jvm.ClassFile
def u (s : String) : CpInfo := .utf8 (stringToUtf16 s)
/-- a pool by its gaps: so many unusable entries, then the entry; so many at the end -/
def gap : Nat → List CpInfo → List CpInfo
  | 0, r => r
  | n + 1, r => .unusable :: gap n r
def poolList (es : List (Nat × CpInfo)) (last : Nat) : List CpInfo := es.foldr (fun e r => gap e.1 (e.2 :: r)) (gap last [])
def pool (es : List (Nat × CpInfo)) (last : Nat) : Array CpInfo := ⟨poolList es last⟩
def fileOf (pool : Array CpInfo) (this : Nat) (attrs : Array Attribute := #[]) (ms : Array MethodInfo := #[]) (fl : Nat := 33) (sup : Nat := 0) (ifs : Array Nat := #[]) (fds : Array FieldInfo := #[]) : ClassFile where
  minorVersion := 0
  majorVersion := 65
  constantPool := pool
  accessFlags := fl
  thisClass := this
  superClass := sup
  interfaces := ifs
  fields := fds
  methods := ms
  attributes := attrs
def plain (name : String) (sup : Option ClassId) : Class where
  name := name
  kind := .ordinary
  loader := none
  accessFlags := 33
  super := sup
  interfaces := #[]
  cf := none
  fields := #[]
  methods := #[]
  instanceTypes := #[]
  staticTypes := #[]
  resolved := #[]
  callSites := []
  init := .initialized
  statics := none
  mirror := none

def pool0 : Array CpInfo := pool [(5, u "<init>"), (0, u "()V"), (1, .class_ 10), (1, u "java/lang/Object")] 113

def k0m0 : Method := { name := "<init>", desc := "()V", sig := { parameters := [], returnType := none }, accessFlags := 1, code := none }
/-- java/lang/Object -/
def k0 : Class := { plain "java/lang/Object" none with
  accessFlags := 33
  interfaces := #[]
  cf := some (fileOf pool0 8 #[] #[{ accessFlags := 1, nameIndex := 5, descriptorIndex := 6, attributes := #[] }] 33 0 #[] #[])
  fields := #[]
  methods := #[k0m0]
  instanceTypes := #[]
  staticTypes := #[]
  resolved := Array.replicate 124 none
  statics := none }

def pool1 : Array CpInfo := pool [(2, .class_ 4), (1, u "java/lang/Object"), (0, u "<init>"), (0, u "()V"), (0, .class_ 8), (0, u "com/example/wary_query/waryquery/model/AtomicType"), (0, .fieldref 7 10), (0, .nameAndType 11 12), (0, u "ANY_ATOMIC"), (0, u "Lcom/example/wary_query/waryquery/model/AtomicType;"), (0, .fieldref 7 14), (0, .nameAndType 15 12), (0, u "UNTYPED_ATOMIC"), (0, .fieldref 7 17), (0, .nameAndType 18 12), (0, u "STRING"), (0, .fieldref 7 20), (0, .nameAndType 21 12), (0, u "NORMALIZED_STRING"), (0, .fieldref 7 23), (0, .nameAndType 24 12), (0, u "TOKEN"), (0, .fieldref 7 26), (0, .nameAndType 27 12), (0, u "LANGUAGE"), (0, .fieldref 7 29), (0, .nameAndType 30 12), (0, u "NMTOKEN"), (0, .fieldref 7 32), (0, .nameAndType 33 12), (0, u "NAME"), (0, .fieldref 7 35), (0, .nameAndType 36 12), (0, u "NCNAME"), (0, .fieldref 7 38), (0, .nameAndType 39 12), (0, u "ID"), (0, .fieldref 7 41), (0, .nameAndType 42 12), (0, u "IDREF"), (0, .fieldref 7 44), (0, .nameAndType 45 12), (0, u "ENTITY"), (0, .fieldref 7 47), (0, .nameAndType 48 12), (0, u "BOOLEAN"), (0, .fieldref 7 50), (0, .nameAndType 51 12), (0, u "DECIMAL"), (0, .fieldref 7 53), (0, .nameAndType 54 12), (0, u "INTEGER"), (0, .fieldref 7 56), (0, .nameAndType 57 12), (0, u "NON_POSITIVE_INTEGER"), (0, .fieldref 7 59), (0, .nameAndType 60 12), (0, u "NEGATIVE_INTEGER"), (0, .fieldref 7 62), (0, .nameAndType 63 12), (0, u "LONG"), (0, .fieldref 7 65), (0, .nameAndType 66 12), (0, u "INT"), (0, .fieldref 7 68), (0, .nameAndType 69 12), (0, u "SHORT"), (0, .fieldref 7 71), (0, .nameAndType 72 12), (0, u "BYTE"), (0, .fieldref 7 74), (0, .nameAndType 75 12), (0, u "NON_NEGATIVE_INTEGER"), (0, .fieldref 7 77), (0, .nameAndType 78 12), (0, u "UNSIGNED_LONG"), (0, .fieldref 7 80), (0, .nameAndType 81 12), (0, u "UNSIGNED_INT"), (0, .fieldref 7 83), (0, .nameAndType 84 12), (0, u "UNSIGNED_SHORT"), (0, .fieldref 7 86), (0, .nameAndType 87 12), (0, u "UNSIGNED_BYTE"), (0, .fieldref 7 89), (0, .nameAndType 90 12), (0, u "POSITIVE_INTEGER"), (0, .fieldref 7 92), (0, .nameAndType 93 12), (0, u "FLOAT"), (0, .fieldref 7 95), (0, .nameAndType 96 12), (0, u "DOUBLE"), (0, .fieldref 7 98), (0, .nameAndType 99 12), (0, u "DURATION"), (0, .fieldref 7 101), (0, .nameAndType 102 12), (0, u "YEAR_MONTH_DURATION"), (0, .fieldref 7 104), (0, .nameAndType 105 12), (0, u "DAY_TIME_DURATION"), (0, .fieldref 7 107), (0, .nameAndType 108 12), (0, u "DATE_TIME"), (0, .fieldref 7 110), (0, .nameAndType 111 12), (0, u "DATE"), (0, .fieldref 7 113), (0, .nameAndType 114 12), (0, u "TIME"), (0, .fieldref 7 116), (0, .nameAndType 117 12), (0, u "G_YEAR_MONTH"), (0, .fieldref 7 119), (0, .nameAndType 120 12), (0, u "G_YEAR"), (0, .fieldref 7 122), (0, .nameAndType 123 12), (0, u "G_MONTH_DAY"), (0, .fieldref 7 125), (0, .nameAndType 126 12), (0, u "G_DAY"), (0, .fieldref 7 128), (0, .nameAndType 129 12), (0, u "G_MONTH"), (0, .fieldref 7 131), (0, .nameAndType 132 12), (0, u "HEX_BINARY"), (0, .fieldref 7 134), (0, .nameAndType 135 12), (0, u "BASE64_BINARY"), (0, .fieldref 7 137), (0, .nameAndType 138 12), (0, u "ANY_URI"), (0, .fieldref 7 140), (0, .nameAndType 141 12), (0, u "QNAME"), (0, .fieldref 7 143), (0, .nameAndType 144 12), (0, u "NOTATION"), (0, .integer 2147483647), (0, .methodref 7 147), (0, .nameAndType 148 149), (0, u "isTemporal"), (0, u "()Z"), (0, .class_ 151), (0, u "com/example/wary_query/waryquery/model/AtomicTypeIsTemporalPinLaw"), (2, u "law"), (0, u "(I)Z")] 5

def k1m0 : Method := { name := "<init>", desc := "()V", sig := { parameters := [], returnType := none }, accessFlags := 2, code := none }
def k1c1 : Code := { maxStack := 4, maxLocals := 4, code := code, exceptionTable := #[], attributes := #[] }
def k1m1 : Method := { name := "law", desc := "(I)Z", sig := { parameters := [.int], returnType := some .boolean }, accessFlags := 9, code := some k1c1 }
/-- com/example/wary_query/waryquery/model/AtomicTypeIsTemporalPinLaw -/
def k1 : Class := { plain "com/example/wary_query/waryquery/model/AtomicTypeIsTemporalPinLaw" (some 0) with
  accessFlags := 49
  interfaces := #[]
  cf := some (fileOf pool1 150 #[] #[{ accessFlags := 2, nameIndex := 5, descriptorIndex := 6, attributes := #[] }, { accessFlags := 9, nameIndex := 154, descriptorIndex := 155, attributes := #[] }] 49 2 #[] #[])
  fields := #[]
  methods := #[k1m0, k1m1]
  instanceTypes := #[]
  staticTypes := #[]
  resolved := Array.replicate 161 none
  statics := none }

def pool2 : Array CpInfo := pool [(1, .class_ 2), (0, u "java/lang/constant/Constable"), (0, .class_ 4), (0, u "java/lang/Object")] 6

/-- java/lang/constant/Constable -/
def k2 : Class := { plain "java/lang/constant/Constable" (some 0) with
  accessFlags := 1537
  interfaces := #[]
  cf := some (fileOf pool2 1 #[] #[] 1537 3 #[] #[])
  fields := #[]
  methods := #[]
  instanceTypes := #[]
  staticTypes := #[]
  resolved := Array.replicate 11 none
  statics := none }

def pool3 : Array CpInfo := pool [(1, .class_ 2), (0, u "java/lang/Comparable"), (0, .class_ 4), (0, u "java/lang/Object")] 7

/-- java/lang/Comparable -/
def k3 : Class := { plain "java/lang/Comparable" (some 0) with
  accessFlags := 1537
  interfaces := #[]
  cf := some (fileOf pool3 1 #[] #[] 1537 3 #[] #[])
  fields := #[]
  methods := #[]
  instanceTypes := #[]
  staticTypes := #[]
  resolved := Array.replicate 12 none
  statics := none }

def pool4 : Array CpInfo := pool [(1, .class_ 2), (0, u "java/io/Serializable"), (0, .class_ 4), (0, u "java/lang/Object")] 2

/-- java/io/Serializable -/
def k4 : Class := { plain "java/io/Serializable" (some 0) with
  accessFlags := 1537
  interfaces := #[]
  cf := some (fileOf pool4 1 #[] #[] 1537 3 #[] #[])
  fields := #[]
  methods := #[]
  instanceTypes := #[]
  staticTypes := #[]
  resolved := Array.replicate 7 none
  statics := none }

def pool5 : Array CpInfo := pool [(2, .class_ 4), (1, u "java/lang/Enum"), (0, u "name"), (0, u "Ljava/lang/String;"), (2, u "ordinal"), (0, u "I"), (1, .class_ 14), (1, u "java/lang/Object"), (4, u "hash"), (86, .class_ 108), (1, u "java/lang/Enum$EnumDesc"), (2, .class_ 112), (0, u "java/lang/constant/Constable"), (0, .class_ 114), (0, u "java/lang/Comparable"), (0, .class_ 116), (0, u "java/io/Serializable")] 87

/-- java/lang/Enum -/
def k5 : Class := { plain "java/lang/Enum" (some 0) with
  accessFlags := 1057
  interfaces := #[2, 3, 4]
  cf := some (fileOf pool5 2 #[.nestMembers #[106]] #[] 1057 12 #[111, 113, 115] #[{ accessFlags := 18, nameIndex := 5, descriptorIndex := 6, attributes := #[] }, { accessFlags := 18, nameIndex := 9, descriptorIndex := 10, attributes := #[] }, { accessFlags := 2, nameIndex := 19, descriptorIndex := 10, attributes := #[] }])
  fields := #[{ name := "name", type := (.object "java/lang/String"), accessFlags := 18, slot := 0, constantValue := 0 }, { name := "ordinal", type := .int, accessFlags := 18, slot := 1, constantValue := 0 }, { name := "hash", type := .int, accessFlags := 2, slot := 2, constantValue := 0 }]
  methods := #[]
  instanceTypes := #[(.object "java/lang/String"), .int, .int]
  staticTypes := #[]
  resolved := Array.replicate 204 none
  statics := none }

def pool6 : Array CpInfo := pool [(1, .class_ 2), (0, u "com/example/wary_query/waryquery/model/ItemType$1"), (5, .class_ 10), (1, u "com/example/wary_query/waryquery/model/ItemType"), (0, u "ANY"), (0, u "Lcom/example/wary_query/waryquery/model/ItemType;"), (0, .class_ 14), (0, u "java/lang/Object")] 11

/-- com/example/wary_query/waryquery/model/ItemType -/
def k6 : Class := { plain "com/example/wary_query/waryquery/model/ItemType" (some 0) with
  accessFlags := 1537
  interfaces := #[]
  cf := some (fileOf pool6 8 #[.nestMembers #[1]] #[] 1537 13 #[] #[{ accessFlags := 25, nameIndex := 11, descriptorIndex := 12, attributes := #[] }])
  fields := #[{ name := "ANY", type := (.object "com/example/wary_query/waryquery/model/ItemType"), accessFlags := 25, slot := 0, constantValue := 0 }]
  methods := #[]
  instanceTypes := #[]
  staticTypes := #[(.object "com/example/wary_query/waryquery/model/ItemType")]
  resolved := Array.replicate 26 none
  statics := none }

def pool7 : Array CpInfo := pool [(1, .class_ 2), (0, u "com/example/wary_query/waryquery/model/AtomicType"), (2, u "ANY_ATOMIC"), (0, u "Lcom/example/wary_query/waryquery/model/AtomicType;"), (2, u "UNTYPED_ATOMIC"), (2, u "STRING"), (2, u "NORMALIZED_STRING"), (2, u "TOKEN"), (2, u "LANGUAGE"), (2, u "NMTOKEN"), (2, u "NAME"), (2, u "NCNAME"), (2, u "ID"), (2, u "IDREF"), (2, u "ENTITY"), (2, u "BOOLEAN"), (2, u "DECIMAL"), (2, u "INTEGER"), (2, u "NON_POSITIVE_INTEGER"), (2, u "NEGATIVE_INTEGER"), (2, u "LONG"), (2, u "INT"), (2, u "SHORT"), (2, u "BYTE"), (2, u "NON_NEGATIVE_INTEGER"), (2, u "UNSIGNED_LONG"), (2, u "UNSIGNED_INT"), (2, u "UNSIGNED_SHORT"), (2, u "UNSIGNED_BYTE"), (2, u "POSITIVE_INTEGER"), (2, u "FLOAT"), (2, u "DOUBLE"), (2, u "DURATION"), (2, u "YEAR_MONTH_DURATION"), (2, u "DAY_TIME_DURATION"), (0, .fieldref 1 101), (0, .nameAndType 102 6), (0, u "DATE_TIME"), (0, .fieldref 1 104), (0, .nameAndType 105 6), (0, u "DATE"), (0, .fieldref 1 107), (0, .nameAndType 108 6), (0, u "TIME"), (0, .fieldref 1 110), (0, .nameAndType 111 6), (0, u "G_YEAR_MONTH"), (0, .fieldref 1 113), (0, .nameAndType 114 6), (0, u "G_YEAR"), (0, .fieldref 1 116), (0, .nameAndType 117 6), (0, u "G_MONTH_DAY"), (0, .fieldref 1 119), (0, .nameAndType 120 6), (0, u "G_DAY"), (0, .fieldref 1 122), (0, .nameAndType 123 6), (0, u "G_MONTH"), (2, u "HEX_BINARY"), (2, u "BASE64_BINARY"), (2, u "ANY_URI"), (2, u "QNAME"), (2, u "NOTATION"), (2, u "$VALUES"), (0, u "[Lcom/example/wary_query/waryquery/model/AtomicType;"), (6, .class_ 151), (1, u "java/lang/Enum"), (8, u "localName"), (0, u "Ljava/lang/String;"), (2, u "base"), (158, .class_ 324), (0, u "com/example/wary_query/waryquery/model/ItemType"), (0, u "NAMESPACE"), (14, u "()Z"), (2, u "isTemporal")] 23

def k7c0 : Code := { maxStack := 2, maxLocals := 1, code := prog_185_method_12_code, exceptionTable := #[], attributes := #[] }
def k7m0 : Method := { name := "isTemporal", desc := "()Z", sig := { parameters := [], returnType := some .boolean }, accessFlags := 1, code := some k7c0 }
/-- com/example/wary_query/waryquery/model/AtomicType -/
def k7 : Class := { plain "com/example/wary_query/waryquery/model/AtomicType" (some 5) with
  accessFlags := 16433
  interfaces := #[6]
  cf := some (fileOf pool7 1 #[] #[{ accessFlags := 1, nameIndex := 343, descriptorIndex := 340, attributes := #[] }] 16433 149 #[323] #[{ accessFlags := 16409, nameIndex := 5, descriptorIndex := 6, attributes := #[] }, { accessFlags := 16409, nameIndex := 9, descriptorIndex := 6, attributes := #[] }, { accessFlags := 16409, nameIndex := 12, descriptorIndex := 6, attributes := #[] }, { accessFlags := 16409, nameIndex := 15, descriptorIndex := 6, attributes := #[] }, { accessFlags := 16409, nameIndex := 18, descriptorIndex := 6, attributes := #[] }, { accessFlags := 16409, nameIndex := 21, descriptorIndex := 6, attributes := #[] }, { accessFlags := 16409, nameIndex := 24, descriptorIndex := 6, attributes := #[] }, { accessFlags := 16409, nameIndex := 27, descriptorIndex := 6, attributes := #[] }, { accessFlags := 16409, nameIndex := 30, descriptorIndex := 6, attributes := #[] }, { accessFlags := 16409, nameIndex := 33, descriptorIndex := 6, attributes := #[] }, { accessFlags := 16409, nameIndex := 36, descriptorIndex := 6, attributes := #[] }, { accessFlags := 16409, nameIndex := 39, descriptorIndex := 6, attributes := #[] }, { accessFlags := 16409, nameIndex := 42, descriptorIndex := 6, attributes := #[] }, { accessFlags := 16409, nameIndex := 45, descriptorIndex := 6, attributes := #[] }, { accessFlags := 16409, nameIndex := 48, descriptorIndex := 6, attributes := #[] }, { accessFlags := 16409, nameIndex := 51, descriptorIndex := 6, attributes := #[] }, { accessFlags := 16409, nameIndex := 54, descriptorIndex := 6, attributes := #[] }, { accessFlags := 16409, nameIndex := 57, descriptorIndex := 6, attributes := #[] }, { accessFlags := 16409, nameIndex := 60, descriptorIndex := 6, attributes := #[] }, { accessFlags := 16409, nameIndex := 63, descriptorIndex := 6, attributes := #[] }, { accessFlags := 16409, nameIndex := 66, descriptorIndex := 6, attributes := #[] }, { accessFlags := 16409, nameIndex := 69, descriptorIndex := 6, attributes := #[] }, { accessFlags := 16409, nameIndex := 72, descriptorIndex := 6, attributes := #[] }, { accessFlags := 16409, nameIndex := 75, descriptorIndex := 6, attributes := #[] }, { accessFlags := 16409, nameIndex := 78, descriptorIndex := 6, attributes := #[] }, { accessFlags := 16409, nameIndex := 81, descriptorIndex := 6, attributes := #[] }, { accessFlags := 16409, nameIndex := 84, descriptorIndex := 6, attributes := #[] }, { accessFlags := 16409, nameIndex := 87, descriptorIndex := 6, attributes := #[] }, { accessFlags := 16409, nameIndex := 90, descriptorIndex := 6, attributes := #[] }, { accessFlags := 16409, nameIndex := 93, descriptorIndex := 6, attributes := #[] }, { accessFlags := 16409, nameIndex := 96, descriptorIndex := 6, attributes := #[] }, { accessFlags := 16409, nameIndex := 99, descriptorIndex := 6, attributes := #[] }, { accessFlags := 16409, nameIndex := 102, descriptorIndex := 6, attributes := #[] }, { accessFlags := 16409, nameIndex := 105, descriptorIndex := 6, attributes := #[] }, { accessFlags := 16409, nameIndex := 108, descriptorIndex := 6, attributes := #[] }, { accessFlags := 16409, nameIndex := 111, descriptorIndex := 6, attributes := #[] }, { accessFlags := 16409, nameIndex := 114, descriptorIndex := 6, attributes := #[] }, { accessFlags := 16409, nameIndex := 117, descriptorIndex := 6, attributes := #[] }, { accessFlags := 16409, nameIndex := 120, descriptorIndex := 6, attributes := #[] }, { accessFlags := 16409, nameIndex := 123, descriptorIndex := 6, attributes := #[] }, { accessFlags := 16409, nameIndex := 126, descriptorIndex := 6, attributes := #[] }, { accessFlags := 16409, nameIndex := 129, descriptorIndex := 6, attributes := #[] }, { accessFlags := 16409, nameIndex := 132, descriptorIndex := 6, attributes := #[] }, { accessFlags := 16409, nameIndex := 135, descriptorIndex := 6, attributes := #[] }, { accessFlags := 16409, nameIndex := 138, descriptorIndex := 6, attributes := #[] }, { accessFlags := 25, nameIndex := 325, descriptorIndex := 161, attributes := #[] }, { accessFlags := 18, nameIndex := 160, descriptorIndex := 161, attributes := #[] }, { accessFlags := 18, nameIndex := 164, descriptorIndex := 6, attributes := #[] }, { accessFlags := 4122, nameIndex := 141, descriptorIndex := 142, attributes := #[] }])
  fields := #[{ name := "ANY_ATOMIC", type := (.object "com/example/wary_query/waryquery/model/AtomicType"), accessFlags := 16409, slot := 0, constantValue := 0 }, { name := "UNTYPED_ATOMIC", type := (.object "com/example/wary_query/waryquery/model/AtomicType"), accessFlags := 16409, slot := 1, constantValue := 0 }, { name := "STRING", type := (.object "com/example/wary_query/waryquery/model/AtomicType"), accessFlags := 16409, slot := 2, constantValue := 0 }, { name := "NORMALIZED_STRING", type := (.object "com/example/wary_query/waryquery/model/AtomicType"), accessFlags := 16409, slot := 3, constantValue := 0 }, { name := "TOKEN", type := (.object "com/example/wary_query/waryquery/model/AtomicType"), accessFlags := 16409, slot := 4, constantValue := 0 }, { name := "LANGUAGE", type := (.object "com/example/wary_query/waryquery/model/AtomicType"), accessFlags := 16409, slot := 5, constantValue := 0 }, { name := "NMTOKEN", type := (.object "com/example/wary_query/waryquery/model/AtomicType"), accessFlags := 16409, slot := 6, constantValue := 0 }, { name := "NAME", type := (.object "com/example/wary_query/waryquery/model/AtomicType"), accessFlags := 16409, slot := 7, constantValue := 0 }, { name := "NCNAME", type := (.object "com/example/wary_query/waryquery/model/AtomicType"), accessFlags := 16409, slot := 8, constantValue := 0 }, { name := "ID", type := (.object "com/example/wary_query/waryquery/model/AtomicType"), accessFlags := 16409, slot := 9, constantValue := 0 }, { name := "IDREF", type := (.object "com/example/wary_query/waryquery/model/AtomicType"), accessFlags := 16409, slot := 10, constantValue := 0 }, { name := "ENTITY", type := (.object "com/example/wary_query/waryquery/model/AtomicType"), accessFlags := 16409, slot := 11, constantValue := 0 }, { name := "BOOLEAN", type := (.object "com/example/wary_query/waryquery/model/AtomicType"), accessFlags := 16409, slot := 12, constantValue := 0 }, { name := "DECIMAL", type := (.object "com/example/wary_query/waryquery/model/AtomicType"), accessFlags := 16409, slot := 13, constantValue := 0 }, { name := "INTEGER", type := (.object "com/example/wary_query/waryquery/model/AtomicType"), accessFlags := 16409, slot := 14, constantValue := 0 }, { name := "NON_POSITIVE_INTEGER", type := (.object "com/example/wary_query/waryquery/model/AtomicType"), accessFlags := 16409, slot := 15, constantValue := 0 }, { name := "NEGATIVE_INTEGER", type := (.object "com/example/wary_query/waryquery/model/AtomicType"), accessFlags := 16409, slot := 16, constantValue := 0 }, { name := "LONG", type := (.object "com/example/wary_query/waryquery/model/AtomicType"), accessFlags := 16409, slot := 17, constantValue := 0 }, { name := "INT", type := (.object "com/example/wary_query/waryquery/model/AtomicType"), accessFlags := 16409, slot := 18, constantValue := 0 }, { name := "SHORT", type := (.object "com/example/wary_query/waryquery/model/AtomicType"), accessFlags := 16409, slot := 19, constantValue := 0 }, { name := "BYTE", type := (.object "com/example/wary_query/waryquery/model/AtomicType"), accessFlags := 16409, slot := 20, constantValue := 0 }, { name := "NON_NEGATIVE_INTEGER", type := (.object "com/example/wary_query/waryquery/model/AtomicType"), accessFlags := 16409, slot := 21, constantValue := 0 }, { name := "UNSIGNED_LONG", type := (.object "com/example/wary_query/waryquery/model/AtomicType"), accessFlags := 16409, slot := 22, constantValue := 0 }, { name := "UNSIGNED_INT", type := (.object "com/example/wary_query/waryquery/model/AtomicType"), accessFlags := 16409, slot := 23, constantValue := 0 }, { name := "UNSIGNED_SHORT", type := (.object "com/example/wary_query/waryquery/model/AtomicType"), accessFlags := 16409, slot := 24, constantValue := 0 }, { name := "UNSIGNED_BYTE", type := (.object "com/example/wary_query/waryquery/model/AtomicType"), accessFlags := 16409, slot := 25, constantValue := 0 }, { name := "POSITIVE_INTEGER", type := (.object "com/example/wary_query/waryquery/model/AtomicType"), accessFlags := 16409, slot := 26, constantValue := 0 }, { name := "FLOAT", type := (.object "com/example/wary_query/waryquery/model/AtomicType"), accessFlags := 16409, slot := 27, constantValue := 0 }, { name := "DOUBLE", type := (.object "com/example/wary_query/waryquery/model/AtomicType"), accessFlags := 16409, slot := 28, constantValue := 0 }, { name := "DURATION", type := (.object "com/example/wary_query/waryquery/model/AtomicType"), accessFlags := 16409, slot := 29, constantValue := 0 }, { name := "YEAR_MONTH_DURATION", type := (.object "com/example/wary_query/waryquery/model/AtomicType"), accessFlags := 16409, slot := 30, constantValue := 0 }, { name := "DAY_TIME_DURATION", type := (.object "com/example/wary_query/waryquery/model/AtomicType"), accessFlags := 16409, slot := 31, constantValue := 0 }, { name := "DATE_TIME", type := (.object "com/example/wary_query/waryquery/model/AtomicType"), accessFlags := 16409, slot := 32, constantValue := 0 }, { name := "DATE", type := (.object "com/example/wary_query/waryquery/model/AtomicType"), accessFlags := 16409, slot := 33, constantValue := 0 }, { name := "TIME", type := (.object "com/example/wary_query/waryquery/model/AtomicType"), accessFlags := 16409, slot := 34, constantValue := 0 }, { name := "G_YEAR_MONTH", type := (.object "com/example/wary_query/waryquery/model/AtomicType"), accessFlags := 16409, slot := 35, constantValue := 0 }, { name := "G_YEAR", type := (.object "com/example/wary_query/waryquery/model/AtomicType"), accessFlags := 16409, slot := 36, constantValue := 0 }, { name := "G_MONTH_DAY", type := (.object "com/example/wary_query/waryquery/model/AtomicType"), accessFlags := 16409, slot := 37, constantValue := 0 }, { name := "G_DAY", type := (.object "com/example/wary_query/waryquery/model/AtomicType"), accessFlags := 16409, slot := 38, constantValue := 0 }, { name := "G_MONTH", type := (.object "com/example/wary_query/waryquery/model/AtomicType"), accessFlags := 16409, slot := 39, constantValue := 0 }, { name := "HEX_BINARY", type := (.object "com/example/wary_query/waryquery/model/AtomicType"), accessFlags := 16409, slot := 40, constantValue := 0 }, { name := "BASE64_BINARY", type := (.object "com/example/wary_query/waryquery/model/AtomicType"), accessFlags := 16409, slot := 41, constantValue := 0 }, { name := "ANY_URI", type := (.object "com/example/wary_query/waryquery/model/AtomicType"), accessFlags := 16409, slot := 42, constantValue := 0 }, { name := "QNAME", type := (.object "com/example/wary_query/waryquery/model/AtomicType"), accessFlags := 16409, slot := 43, constantValue := 0 }, { name := "NOTATION", type := (.object "com/example/wary_query/waryquery/model/AtomicType"), accessFlags := 16409, slot := 44, constantValue := 0 }, { name := "NAMESPACE", type := (.object "java/lang/String"), accessFlags := 25, slot := 45, constantValue := 0 }, { name := "localName", type := (.object "java/lang/String"), accessFlags := 18, slot := 3, constantValue := 0 }, { name := "base", type := (.object "com/example/wary_query/waryquery/model/AtomicType"), accessFlags := 18, slot := 4, constantValue := 0 }, { name := "$VALUES", type := (.array (.object "com/example/wary_query/waryquery/model/AtomicType")), accessFlags := 4122, slot := 46, constantValue := 0 }]
  methods := #[k7m0]
  instanceTypes := #[(.object "java/lang/String"), .int, .int, (.object "java/lang/String"), (.object "com/example/wary_query/waryquery/model/AtomicType")]
  staticTypes := #[(.object "com/example/wary_query/waryquery/model/AtomicType"), (.object "com/example/wary_query/waryquery/model/AtomicType"), (.object "com/example/wary_query/waryquery/model/AtomicType"), (.object "com/example/wary_query/waryquery/model/AtomicType"), (.object "com/example/wary_query/waryquery/model/AtomicType"), (.object "com/example/wary_query/waryquery/model/AtomicType"), (.object "com/example/wary_query/waryquery/model/AtomicType"), (.object "com/example/wary_query/waryquery/model/AtomicType"), (.object "com/example/wary_query/waryquery/model/AtomicType"), (.object "com/example/wary_query/waryquery/model/AtomicType"), (.object "com/example/wary_query/waryquery/model/AtomicType"), (.object "com/example/wary_query/waryquery/model/AtomicType"), (.object "com/example/wary_query/waryquery/model/AtomicType"), (.object "com/example/wary_query/waryquery/model/AtomicType"), (.object "com/example/wary_query/waryquery/model/AtomicType"), (.object "com/example/wary_query/waryquery/model/AtomicType"), (.object "com/example/wary_query/waryquery/model/AtomicType"), (.object "com/example/wary_query/waryquery/model/AtomicType"), (.object "com/example/wary_query/waryquery/model/AtomicType"), (.object "com/example/wary_query/waryquery/model/AtomicType"), (.object "com/example/wary_query/waryquery/model/AtomicType"), (.object "com/example/wary_query/waryquery/model/AtomicType"), (.object "com/example/wary_query/waryquery/model/AtomicType"), (.object "com/example/wary_query/waryquery/model/AtomicType"), (.object "com/example/wary_query/waryquery/model/AtomicType"), (.object "com/example/wary_query/waryquery/model/AtomicType"), (.object "com/example/wary_query/waryquery/model/AtomicType"), (.object "com/example/wary_query/waryquery/model/AtomicType"), (.object "com/example/wary_query/waryquery/model/AtomicType"), (.object "com/example/wary_query/waryquery/model/AtomicType"), (.object "com/example/wary_query/waryquery/model/AtomicType"), (.object "com/example/wary_query/waryquery/model/AtomicType"), (.object "com/example/wary_query/waryquery/model/AtomicType"), (.object "com/example/wary_query/waryquery/model/AtomicType"), (.object "com/example/wary_query/waryquery/model/AtomicType"), (.object "com/example/wary_query/waryquery/model/AtomicType"), (.object "com/example/wary_query/waryquery/model/AtomicType"), (.object "com/example/wary_query/waryquery/model/AtomicType"), (.object "com/example/wary_query/waryquery/model/AtomicType"), (.object "com/example/wary_query/waryquery/model/AtomicType"), (.object "com/example/wary_query/waryquery/model/AtomicType"), (.object "com/example/wary_query/waryquery/model/AtomicType"), (.object "com/example/wary_query/waryquery/model/AtomicType"), (.object "com/example/wary_query/waryquery/model/AtomicType"), (.object "com/example/wary_query/waryquery/model/AtomicType"), (.object "java/lang/String"), (.array (.object "com/example/wary_query/waryquery/model/AtomicType"))]
  resolved := Array.replicate 367 none
  statics := some 0 }

def pool8 : Array CpInfo := pool [(1, u "java/lang/Cloneable"), (0, .class_ 1), (0, u "java/lang/Object"), (0, .class_ 3)] 3

/-- java/lang/Cloneable -/
def k8 : Class := { plain "java/lang/Cloneable" (some 0) with
  accessFlags := 1537
  interfaces := #[]
  cf := some (fileOf pool8 2 #[] #[] 1537 4 #[] #[])
  fields := #[]
  methods := #[]
  instanceTypes := #[]
  staticTypes := #[]
  resolved := Array.replicate 8 none
  statics := none }

/-- the primitive byte -/
def k9 : Class := { plain "byte" none with kind := .primitive 'B', accessFlags := 0x411 }
/-- [B -/
def k10 : Class := { plain "[B" (some 0) with kind := .array 9 .byte, interfaces := #[8, 4], accessFlags := 1041 }

/-- the primitive int -/
def k11 : Class := { plain "int" none with kind := .primitive 'I', accessFlags := 0x411 }
/-- [I -/
def k12 : Class := { plain "[I" (some 0) with kind := .array 11 .int, interfaces := #[8, 4], accessFlags := 1041 }

/-- [Lcom/example/wary_query/waryquery/model/AtomicType; -/
def k13 : Class := { plain "[Lcom/example/wary_query/waryquery/model/AtomicType;" (some 0) with kind := .array 7 (.object "com/example/wary_query/waryquery/model/AtomicType"), interfaces := #[8, 4], accessFlags := 1041 }

def heap : Heap := #[{ cls := 7, slots := #[.ref 1, .ref 2, .ref 3, .ref 4, .ref 5, .ref 6, .ref 7, .ref 8, .ref 9, .ref 10, .ref 11, .ref 12, .ref 13, .ref 14, .ref 15, .ref 16, .ref 17, .ref 18, .ref 19, .ref 20, .ref 21, .ref 22, .ref 23, .ref 24, .ref 25, .ref 26, .ref 27, .ref 28, .ref 29, .ref 30, .ref 31, .ref 32, .ref 33, .ref 34, .ref 35, .ref 36, .ref 37, .ref 38, .ref 39, .ref 40, .ref 41, .ref 42, .ref 43, .ref 44, .ref 45, .null, .null], vm := .statics 7 },
  { cls := 7, slots := #[.null, .int 0, .int 0, .null, .null], vm := .none },
  { cls := 7, slots := #[.null, .int 1, .int 0, .null, .null], vm := .none },
  { cls := 7, slots := #[.null, .int 2, .int 0, .null, .null], vm := .none },
  { cls := 7, slots := #[.null, .int 3, .int 0, .null, .null], vm := .none },
  { cls := 7, slots := #[.null, .int 4, .int 0, .null, .null], vm := .none },
  { cls := 7, slots := #[.null, .int 5, .int 0, .null, .null], vm := .none },
  { cls := 7, slots := #[.null, .int 6, .int 0, .null, .null], vm := .none },
  { cls := 7, slots := #[.null, .int 7, .int 0, .null, .null], vm := .none },
  { cls := 7, slots := #[.null, .int 8, .int 0, .null, .null], vm := .none },
  { cls := 7, slots := #[.null, .int 9, .int 0, .null, .null], vm := .none },
  { cls := 7, slots := #[.null, .int 10, .int 0, .null, .null], vm := .none },
  { cls := 7, slots := #[.null, .int 11, .int 0, .null, .null], vm := .none },
  { cls := 7, slots := #[.null, .int 12, .int 0, .null, .null], vm := .none },
  { cls := 7, slots := #[.null, .int 13, .int 0, .null, .null], vm := .none },
  { cls := 7, slots := #[.null, .int 14, .int 0, .null, .null], vm := .none },
  { cls := 7, slots := #[.null, .int 15, .int 0, .null, .null], vm := .none },
  { cls := 7, slots := #[.null, .int 16, .int 0, .null, .null], vm := .none },
  { cls := 7, slots := #[.null, .int 17, .int 0, .null, .null], vm := .none },
  { cls := 7, slots := #[.null, .int 18, .int 0, .null, .null], vm := .none },
  { cls := 7, slots := #[.null, .int 19, .int 0, .null, .null], vm := .none },
  { cls := 7, slots := #[.null, .int 20, .int 0, .null, .null], vm := .none },
  { cls := 7, slots := #[.null, .int 21, .int 0, .null, .null], vm := .none },
  { cls := 7, slots := #[.null, .int 22, .int 0, .null, .null], vm := .none },
  { cls := 7, slots := #[.null, .int 23, .int 0, .null, .null], vm := .none },
  { cls := 7, slots := #[.null, .int 24, .int 0, .null, .null], vm := .none },
  { cls := 7, slots := #[.null, .int 25, .int 0, .null, .null], vm := .none },
  { cls := 7, slots := #[.null, .int 26, .int 0, .null, .null], vm := .none },
  { cls := 7, slots := #[.null, .int 27, .int 0, .null, .null], vm := .none },
  { cls := 7, slots := #[.null, .int 28, .int 0, .null, .null], vm := .none },
  { cls := 7, slots := #[.null, .int 29, .int 0, .null, .null], vm := .none },
  { cls := 7, slots := #[.null, .int 30, .int 0, .null, .null], vm := .none },
  { cls := 7, slots := #[.null, .int 31, .int 0, .null, .null], vm := .none },
  { cls := 7, slots := #[.null, .int 32, .int 0, .null, .null], vm := .none },
  { cls := 7, slots := #[.null, .int 33, .int 0, .null, .null], vm := .none },
  { cls := 7, slots := #[.null, .int 34, .int 0, .null, .null], vm := .none },
  { cls := 7, slots := #[.null, .int 35, .int 0, .null, .null], vm := .none },
  { cls := 7, slots := #[.null, .int 36, .int 0, .null, .null], vm := .none },
  { cls := 7, slots := #[.null, .int 37, .int 0, .null, .null], vm := .none },
  { cls := 7, slots := #[.null, .int 38, .int 0, .null, .null], vm := .none },
  { cls := 7, slots := #[.null, .int 39, .int 0, .null, .null], vm := .none },
  { cls := 7, slots := #[.null, .int 40, .int 0, .null, .null], vm := .none },
  { cls := 7, slots := #[.null, .int 41, .int 0, .null, .null], vm := .none },
  { cls := 7, slots := #[.null, .int 42, .int 0, .null, .null], vm := .none },
  { cls := 7, slots := #[.null, .int 43, .int 0, .null, .null], vm := .none },
  { cls := 7, slots := #[.null, .int 44, .int 0, .null, .null], vm := .none }]
def classes : Array Class := #[k0, k1, k2, k3, k4, k5, k6, k7, k8, k9, k10, k11, k12, k13]
def interned : List (Array UInt16 × Addr) := []
def slotsUsed : Nat := 272
def theMethod : MethodId := ⟨1, 1⟩
def args0 : Array Value := #[.int 5]
def aboutOver (below : List Frame) : State where
  vm := { classes := classes, interned := interned.toArray }
  heap := heap
  slotsUsed := slotsUsed
  threads := #[{ frames := .invoking theMethod args0 :: below }]
def below0 : List Frame := [.native { method := ⟨0, 0⟩, args := #[] }]
def about1 : State := aboutOver below0
def p0 : Program := .bare "" "" ""
def e0 : Env := launch0.env 0 0 0
theorem w_frames : about1.frames = Frame.invoking theMethod args0 :: below0 := rfl
set_option maxRecDepth 65536 in
theorem w_args : argsFit about1.vm theMethod args0 = true := by decide +kernel
set_option maxRecDepth 65536 in
theorem w_heap : heapFits about1 = true := by decide +kernel
set_option maxRecDepth 65536 in
theorem w_runnable : about1.curStatus? = some .runnable := by decide +kernel
set_option maxRecDepth 65536 in
theorem w_alone : about1.alone = true := by decide +kernel
set_option maxRecDepth 65536 in
theorem w_named : about1.methodNamed? x = some theMethod := by decide +kernel
set_option maxRecDepth 65536 in
theorem w_hears : about1.hears theMethod below0 = true := by decide +kernel
set_option maxRecDepth 65536 in
theorem w_ripe : about1.ripe theMethod args0 below0 = true := by decide +kernel
theorem w_running : about1.status = .running := rfl
set_option maxRecDepth 65536 in
theorem w_room : about1.hasRoom e0.platform room_1 = true :=
  launch0.hasRoom_least _ room_1 (by decide +kernel) (by decide +kernel) (by decide +kernel) (by decide +kernel) (by decide +kernel) (by decide +kernel)
theorem allAtoms_all (ts : List Jvm.Cond) (a : Array Jvm.Value) (st : Jvm.State) : (allAtoms ts).before a st = ts.all (fun c => c.before a st) := by
  induction ts with
  | nil => rfl
  | cons c t ih =>
    show (Jvm.Cond.and c (allAtoms t)).before a st = _
    rw [Jvm.Cond.before_and, ih, List.all_cons]
def words1 : List Jvm.Cond := Jvm.Cond.code x code maxLocals ret :: tables_1
/-- a 'code' word, met by the world's own term for the bytes: nothing is compared byte by byte -/
theorem code_word {y : MethodName} {bytes : ByteArray} {mx : Nat} {rt : Option FieldType} {a : Array Value} {s : State} {m : MethodId} {meth : Method} {c : Code} (h1 : s.methodNamed? y = some m) (h2 : s.vm.method? m = some meth) (h3 : meth.code = some c) (h4 : c.code = bytes)
    (h5 : (c.maxLocals == mx && c.exceptionTable.isEmpty && decide (c.maxStack ≤ mostOperands) && decide (meth.sig.returnType = rt) && !meth.locks && decide (parseMethodDescriptor y.desc = some meth.sig)) = true) : (Jvm.Cond.code y bytes mx rt).before a s = true := by
  simp only [Bool.and_eq_true, beq_iff_eq, Bool.not_eq_true', decide_eq_true_eq] at h5
  obtain ⟨⟨⟨⟨⟨g1, g2⟩, g3⟩, g4⟩, g5⟩, g6⟩ := h5
  simp [Cond.before, Cond.holds, Cond.value, h1, h2, h3, h4, g1, g2, g3, g4, g5, g6]
def isCode : Jvm.Cond → Bool
  | .code _ _ _ _ => true
  | _ => false
theorem all_split {L : List Jvm.Cond} {P : Jvm.Cond → Bool} (h1 : L.all (fun c => isCode c || P c) = true) (h2 : ∀ c ∈ L.filter isCode, P c = true) : L.all P = true := by
  refine List.all_eq_true.mpr fun c hc => ?_
  have h := List.all_eq_true.mp h1 c hc
  rcases Bool.eq_false_or_eq_true (isCode c) with hi | hi
  · exact h2 c (List.mem_filter.mpr ⟨hc, hi⟩)
  · simpa [hi] using h
set_option maxRecDepth 65536 in
theorem w_c0 : (Jvm.Cond.code x code maxLocals ret).before args0 about1 = true := code_word (m := ⟨1, 1⟩) (meth := k1m1) (c := k1c1) (by decide +kernel) rfl rfl rfl (by decide +kernel)
set_option maxRecDepth 65536 in
theorem w_c1 : (Jvm.Cond.code ({ cls := "com/example/wary_query/waryquery/model/AtomicType", name := "isTemporal", desc := "()Z" } : Jvm.MethodName) prog_185_method_12_code (1 : Nat) (Option.some Jvm.ClassFile.FieldType.boolean)).before args0 about1 = true := code_word (m := ⟨7, 0⟩) (meth := k7m0) (c := k7c0) (by decide +kernel) rfl rfl rfl (by decide +kernel)
def codes1 : List Jvm.Cond := [Jvm.Cond.code x code maxLocals ret, Jvm.Cond.code ({ cls := "com/example/wary_query/waryquery/model/AtomicType", name := "isTemporal", desc := "()Z" } : Jvm.MethodName) prog_185_method_12_code (1 : Nat) (Option.some Jvm.ClassFile.FieldType.boolean)]
set_option maxRecDepth 65536 in
theorem codes_eq : words1.filter isCode = codes1 := rfl
theorem w_codes : ∀ c ∈ words1.filter isCode, c.before args0 about1 = true := by
  rw [codes_eq]
  intro c hc
  simp only [codes1, List.mem_cons, List.not_mem_nil, or_false] at hc
  rcases hc with rfl | rfl
  · exact w_c0
  · exact w_c1
set_option maxRecDepth 65536 in
theorem w_t1 : (words1.take 24).all (fun c => isCode c || c.before args0 about1) = true := by decide +kernel
set_option maxRecDepth 65536 in
theorem w_t2 : ((words1.drop 24).take 24).all (fun c => isCode c || c.before args0 about1) = true := by decide +kernel
set_option maxRecDepth 65536 in
theorem w_t3 : (((words1.drop 24).drop 24).take 24).all (fun c => isCode c || c.before args0 about1) = true := by decide +kernel
set_option maxRecDepth 65536 in
theorem w_t4 : ((((words1.drop 24).drop 24).drop 24).take 24).all (fun c => isCode c || c.before args0 about1) = true := by decide +kernel
set_option maxRecDepth 65536 in
theorem w_t5 : ((((words1.drop 24).drop 24).drop 24).drop 24).all (fun c => isCode c || c.before args0 about1) = true := by decide +kernel
theorem w_tables : (allAtoms (Jvm.Cond.code x code maxLocals ret :: tables_1)).before args0 about1 = true := by
  rw [allAtoms_all]
  show words1.all (fun c => c.before args0 about1) = true
  refine all_split ?_ w_codes
  rw [← List.take_append_drop 24 words1, List.all_append, w_t1, ← List.take_append_drop 24 (words1.drop 24), List.all_append, w_t2, ← List.take_append_drop 24 ((words1.drop 24).drop 24), List.all_append, w_t3, ← List.take_append_drop 24 (((words1.drop 24).drop 24).drop 24), List.all_append, w_t4, w_t5]
  rfl
set_option maxRecDepth 65536 in
theorem w_case : (Jvm.Cond.and given_1 narrow_1).before args0 about1 = true := by decide +kernel
theorem w_applies : (headSpec (Jvm.Cond.code x code maxLocals ret :: tables_1) room_1).applies x e0.platform about1 = true :=
  (Spec.applies_iff w_frames).mpr ⟨w_running, w_runnable, w_alone, w_named, w_hears, w_ripe, w_room, w_tables⟩
theorem atStart : AtStart classFile x code maxLocals ret World_1 tables_1 room_1 Calls_1 rest_1 Pre_1 launch0 p0 e0 about1 theMethod args0 below0 :=
  ⟨lists_1, trivial, launch0.admits_env _ _ _, launch0.least_env, fairChoices_fair.cas, fairChoices_fair.clock, w_frames, w_args, w_heap, w_applies, trivial, trivial, w_case⟩
end start1
theorem witness_1 : WitnessClaimed_1 := ⟨start1.p0, start1.e0, start1.about1, start1.theMethod, start1.args0, start1.below0, start1.atStart⟩
end Jvm.Pilot.@@N@@
