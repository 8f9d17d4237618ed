import JvmDerived
import JvmDerived.Pilot.@@N@@Statement
import JvmDerived.Pilot.@@N@@Code
set_option linter.unusedVariables false
set_option linter.unusedSimpArgs false
namespace Jvm.RoadKit
open Sem ClassFile Op Lib Jvm.Stand Jvm.Free Jvm.LawKit
section New
variable {p : Program} {l : Launch} {e : Env} {R : Room} {s : State} {m : MethodId} {args : Array Value} {below : List Frame} {meth : Method} {c : Code} {T : State} {locs : List Loc} {cells slots : Nat}
theorem retI (X : Stand p l e R s m args below meth c T locs cells slots) (hx : p.tables.exec = Jvm.exec) {pc : Nat} {Ls : Array Slot} {z : Int32} {rest : List Value} (hret : meth.sig.returnType = some .int) (hd : decode c.code pc = .ok (.ireturn, 1)) {fs : List Frame}
    (hl : ∀ (f : JFrame) (acts : List Action), f.method = m → f.locked = none → f.entered = [] → (doReturn e (T.setTop f) acts (some (.int z))).1 = T.setFrames fs) : Steps p.tables e below (T.setTop (mkF m pc Ls (.int z :: rest))) (T.setFrames fs) := by
  have hm' : T.vm.method? m = some meth := X.method'
  have hn : narrow .int (.int z) = .int z := rfl
  show Steps p.tables e below (T.setTop { method := m, pc := pc, locals := Ls, stack := _ :: rest, locked := none }) _
  jvm_step X.here [X.here.top, hx, hd, hm', hret, hn]
  first | (intro acts; rw [hl _ acts rfl rfl rfl]) | rw [hl _ _ rfl rfl rfl]
  exact Steps.refl _
end New
end Jvm.RoadKit
namespace Jvm.Pilot.@@N@@
open Jvm Jvm.ClassFile Sem Op Lib Jvm.Free Jvm.Stand Jvm.LawKit Jvm.RoadKit Bundle Jvm.Pilot.@@N@@.Jvm.D
theorem own_ext {h0 h : Heap} (K : Keep h0 h []) : Ext h0 h := ⟨K.1, fun x c q => K.2.1 x c q nin0⟩
theorem own_fld {args : Array Value} {s : State} {t : Term} {x : Addr} {C n d : String} {i : Int32} (e : t.eval args s none [] s = some (.ref x)) (h : (Jvm.Cond.eq (.field t C n d) (.int i)).value args s none s [] = some true) : s.fieldOf? x C n d = some (.int i) := by
  obtain ⟨u, v, a1, a2, -, k2⟩ := cmp_v (Or.inl h)
  have a3 := a2
  rw [Term.int_eval] at a3
  obtain rfl := Option.some.inj a3
  obtain ⟨z, rfl⟩ := k2
  rw [fld_at e] at a1
  rw [a1]
  have q : z = i := by simpa [Cond.value, fld_at e, a1, Term.int_eval] using h
  rw [q]
theorem own_six (p : Int32) : ((p &&& (2147483647 : Int32)) % (6 : Int32)) = (0 : Int32) ∨ ((p &&& (2147483647 : Int32)) % (6 : Int32)) = (1 : Int32) ∨ ((p &&& (2147483647 : Int32)) % (6 : Int32)) = (2 : Int32) ∨ ((p &&& (2147483647 : Int32)) % (6 : Int32)) = (3 : Int32) ∨ ((p &&& (2147483647 : Int32)) % (6 : Int32)) = (4 : Int32) ∨ ((p &&& (2147483647 : Int32)) % (6 : Int32)) = (5 : Int32) := by
  have a := (c_and p (2147483647 : Int32) (by decide)).1
  have b := (c_irem (p &&& (2147483647 : Int32)) (6 : Int32) 6 rfl).1 a
  have c : ∀ z : Int32, z.toInt = (0 : Int32).toInt ∨ z.toInt = (1 : Int32).toInt ∨ z.toInt = (2 : Int32).toInt ∨ z.toInt = (3 : Int32).toInt ∨ z.toInt = (4 : Int32).toInt ∨ z.toInt = (5 : Int32).toInt → z = 0 ∨ z = 1 ∨ z = 2 ∨ z = 3 ∨ z = 4 ∨ z = 5 := fun z h => by
    simpa only [Int32.toInt_inj] using h
  apply c
  show _ = (0 : Int) ∨ _ = (1 : Int) ∨ _ = (2 : Int) ∨ _ = (3 : Int) ∨ _ = (4 : Int) ∨ _ = (5 : Int)
  omega
theorem pn_com_example_tidewater_tidewater_core_ColumnStorageOrderedPinLaw : plainName "com/example/tidewater/tidewater/core/ColumnStorageOrderedPinLaw" = true := by first | (simp [plainName, overriddenIn]; done) | decide +kernel
theorem d_m2_0 : decode method_2_code 0 = .ok (.iload_n 0, 1) := by decide +kernel
theorem d_m2_1 : decode method_2_code 1 = .ok (.ifCond .ne 7, 3) := by decide +kernel
theorem d_m2_4 : decode method_2_code 4 = .ok (.getstatic 7, 3) := by decide +kernel
theorem d_m2_7 : decode method_2_code 7 = .ok (.areturn, 1) := by decide +kernel
theorem d_m2_8 : decode method_2_code 8 = .ok (.iload_n 0, 1) := by decide +kernel
theorem d_m2_9 : decode method_2_code 9 = .ok (.iconst 1, 1) := by decide +kernel
theorem d_m2_10 : decode method_2_code 10 = .ok (.if_icmp .ne 7, 3) := by decide +kernel
theorem d_m2_13 : decode method_2_code 13 = .ok (.getstatic 13, 3) := by decide +kernel
theorem d_m2_16 : decode method_2_code 16 = .ok (.areturn, 1) := by decide +kernel
theorem d_m2_17 : decode method_2_code 17 = .ok (.iload_n 0, 1) := by decide +kernel
theorem d_m2_18 : decode method_2_code 18 = .ok (.iconst 2, 1) := by decide +kernel
theorem d_m2_19 : decode method_2_code 19 = .ok (.if_icmp .ne 7, 3) := by decide +kernel
theorem d_m2_22 : decode method_2_code 22 = .ok (.getstatic 16, 3) := by decide +kernel
theorem d_m2_25 : decode method_2_code 25 = .ok (.areturn, 1) := by decide +kernel
theorem d_m2_26 : decode method_2_code 26 = .ok (.iload_n 0, 1) := by decide +kernel
theorem d_m2_27 : decode method_2_code 27 = .ok (.iconst 3, 1) := by decide +kernel
theorem d_m2_28 : decode method_2_code 28 = .ok (.if_icmp .ne 7, 3) := by decide +kernel
theorem d_m2_31 : decode method_2_code 31 = .ok (.getstatic 19, 3) := by decide +kernel
theorem d_m2_34 : decode method_2_code 34 = .ok (.areturn, 1) := by decide +kernel
theorem d_m2_35 : decode method_2_code 35 = .ok (.iload_n 0, 1) := by decide +kernel
theorem d_m2_36 : decode method_2_code 36 = .ok (.iconst 4, 1) := by decide +kernel
theorem d_m2_37 : decode method_2_code 37 = .ok (.if_icmp .ne 7, 3) := by decide +kernel
theorem d_m2_40 : decode method_2_code 40 = .ok (.getstatic 22, 3) := by decide +kernel
theorem d_m2_43 : decode method_2_code 43 = .ok (.areturn, 1) := by decide +kernel
theorem d_m2_44 : decode method_2_code 44 = .ok (.getstatic 25, 3) := by decide +kernel
theorem d_m2_47 : decode method_2_code 47 = .ok (.areturn, 1) := by decide +kernel
theorem ef_rmP (m : MethodId) (x0 : Int32) : entryFrame m #[(.int x0)] 1 = mkF m 0 #[.val (.int x0)] [] := by first | (simp [entryFrame, mkF, argsToLocals, Value.category]; done) | rfl
def Q_rmP (Z : State) (p0 : Int32) (tSTRING tINT tLONG tDOUBLE tBOOLEAN tTIMESTAMP : Addr) (h0 : Heap) (n0 : Nat) (v : Option Value) (h : Heap) (L : List Loc) : Prop := ∃ w : Addr, v = some (.ref w) ∧ Fr n0 L ∧ h = h0 ∧ (p0 = (0 : Int32) → tSTRING = w) ∧ (p0 = (1 : Int32) → tINT = w) ∧ (p0 = (2 : Int32) → tLONG = w) ∧ (p0 = (3 : Int32) → tDOUBLE = w) ∧ (p0 = (4 : Int32) → tBOOLEAN = w) ∧ (p0 = (5 : Int32) → tTIMESTAMP = w)
set_option maxRecDepth 65536 in
set_option maxHeartbeats 40000000 in
theorem rmP (l : Launch) (Z : State) (a0 : Array Value) (hw : ∀ d ∈ tables_1, d.before a0 Z = true) (ws : List Jvm.Cond) (p0 : Int32) (tSTRING tINT tLONG tDOUBLE tBOOLEAN tTIMESTAMP : Addr) (h0 : Heap) (n0 : Nat) (Z0 : n0 ≤ h0.size) (S_tSTRING : Sta Z h0 "com/example/tidewater/tidewater/core/table/ColumnType" "STRING" "Lcom/example/tidewater/tidewater/core/table/ColumnType;" (.ref tSTRING)) (S_tINT : Sta Z h0 "com/example/tidewater/tidewater/core/table/ColumnType" "INT" "Lcom/example/tidewater/tidewater/core/table/ColumnType;" (.ref tINT)) (S_tLONG : Sta Z h0 "com/example/tidewater/tidewater/core/table/ColumnType" "LONG" "Lcom/example/tidewater/tidewater/core/table/ColumnType;" (.ref tLONG)) (S_tDOUBLE : Sta Z h0 "com/example/tidewater/tidewater/core/table/ColumnType" "DOUBLE" "Lcom/example/tidewater/tidewater/core/table/ColumnType;" (.ref tDOUBLE)) (S_tBOOLEAN : Sta Z h0 "com/example/tidewater/tidewater/core/table/ColumnType" "BOOLEAN" "Lcom/example/tidewater/tidewater/core/table/ColumnType;" (.ref tBOOLEAN)) (S_tTIMESTAMP : Sta Z h0 "com/example/tidewater/tidewater/core/table/ColumnType" "TIMESTAMP" "Lcom/example/tidewater/tidewater/core/table/ColumnType;" (.ref tTIMESTAMP)) :
    MetFree l (⟨"com/example/tidewater/tidewater/core/ColumnStorageOrderedPinLaw", "pick", "(I)Lcom/example/tidewater/tidewater/core/table/ColumnType;"⟩ : MethodName) (head1 (Jvm.Cond.code (⟨"com/example/tidewater/tidewater/core/ColumnStorageOrderedPinLaw", "pick", "(I)Lcom/example/tidewater/tidewater/core/table/ColumnType;"⟩ : MethodName) method_2_code 1 (some (.object "com/example/tidewater/tidewater/core/table/ColumnType")) :: ws) ({ frames := 0, cells := 0, slots := 0, locals := 0 } : Room)) (fun a U => a = #[(.int p0)] ∧ Z.Warmed39 U.vm ∧ U.heap = h0) (fun _ _ _ _ _ => True) (fun _ U o U' => ∃ v L, o = .returned v ∧ Q_rmP Z p0 tSTRING tINT tLONG tDOUBLE tBOOLEAN tTIMESTAMP h0 n0 v U'.heap L ∧ FrameEnd U o U' L ({ frames := 0, cells := 0, slots := 0, locals := 0 } : Room).cells ({ frames := 0, cells := 0, slots := 0, locals := 0 } : Room).slots) := by
  refine MetFree.of_bodySF (plainFor_of_name pn_com_example_tidewater_tidewater_core_ColumnStorageOrderedPinLaw) hisR ?_
  intro p e s m args below meth c s₁ Bd hml0 hP hK
  obtain ⟨rfl, hZ, hh⟩ := hP
  have hx := Bd.exec
  have hby := Bd.bytes
  have hml : c.maxLocals = 1 := hml0
  have hown : s.vm.findClass "com/example/tidewater/tidewater/core/ColumnStorageOrderedPinLaw" = some m.cls := findClass_of_methodNamed Bd.named
  have hnm := (name_of_methodNamed Bd.named Bd.method).1
  have X0 : Stand p l e ({ frames := 0, cells := 0, slots := 0, locals := 0 } : Room) s m #[(.int p0)] below meth c s₁ [] 0 0 := Stand.of_body Bd
  have e0 : s₁.heap = h0 := by rw [← hh, Bd.state]; rfl
  have N0 := Fr.nil n0
  have K0 := Keep.refl h0 []
  have pre0 : ∀ t, Steps p.tables e below (s₁.setTop (mkF m 0 #[.val (.int p0)] [])) t → Steps p.tables e below (s₁.setTop (entryFrame m #[(.int p0)] 1)) t := fun t k => castTop (ef_rmP m p0) k
  by_cases hc1 : p0 = (0 : Int32)
  · obtain ⟨T1, X1, e1, st1⟩ := getS2 X0 hx hZ hown (host := "") (Or.inl (hw _ (List.mem_of_getElem? (i := 5) rfl))) Via.refl e0 S_tSTRING (g := (mkF m 4 #[.val (.int p0)] [])) rfl (hb hby d_m2_4)
    obtain ⟨fs, hr, hrun, hended, hW, hsame⟩ := X1.leave (v := some (.ref tSTRING)) (fun h => by rw [Bd.returns] at h; cases h)
    refine ⟨_, _, pre0 _ ?_, hrun, hended, _, _, rfl, ?_, ⟨_, rfl⟩, hW, hsame.mono (by decide) (by decide)⟩
    · show Steps p.tables e below (s₁.setTop (mkF m 0 #[.val (.int p0)] [])) _
      refine XS.iloadN X0.here hx rfl (hb hby d_m2_0) rfl ?_
      show Steps p.tables e below (s₁.setTop (mkF m 1 #[.val (.int p0)] [(.int p0)])) _
      refine XS.ifNo X0.here hx rfl (hb hby d_m2_1) rfl ((if0 _ _).trans (teq hc1).2) ?_
      show Steps p.tables e below (s₁.setTop (mkF m 4 #[.val (.int p0)] [])) _
      refine st1 _ ?_
      show Steps p.tables e below (T1.setTop (mkF m 7 #[.val (.int p0)] [(.ref tSTRING)])) _
      jvm_step X1.here [X1.here.top, hx, (hb hby d_m2_7), X1.method', Bd.returns, Value.isRef, FieldType.isReference]
      first | (intro acts; rw [hr _ acts rfl rfl rfl]) | rw [hr _ _ rfl rfl rfl]
      exact Steps.refl _
    · show Q_rmP Z p0 tSTRING tINT tLONG tDOUBLE tBOOLEAN tTIMESTAMP h0 n0 _ T1.heap _
      rw [e1]
      exact ⟨_, rfl, N0, rfl, fun _ => rfl, fun q => absurd (q.symm.trans hc1) (by decide), fun q => absurd (q.symm.trans hc1) (by decide), fun q => absurd (q.symm.trans hc1) (by decide), fun q => absurd (q.symm.trans hc1) (by decide), fun q => absurd (q.symm.trans hc1) (by decide)⟩
  · by_cases hc10 : p0 = (1 : Int32)
    · obtain ⟨T2, X2, e2, st2⟩ := getS2 X0 hx hZ hown (host := "") (Or.inl (hw _ (List.mem_of_getElem? (i := 41) rfl))) Via.refl e0 S_tINT (g := (mkF m 13 #[.val (.int p0)] [])) rfl (hb hby d_m2_13)
      obtain ⟨fs, hr, hrun, hended, hW, hsame⟩ := X2.leave (v := some (.ref tINT)) (fun h => by rw [Bd.returns] at h; cases h)
      refine ⟨_, _, pre0 _ ?_, hrun, hended, _, _, rfl, ?_, ⟨_, rfl⟩, hW, hsame.mono (by decide) (by decide)⟩
      · show Steps p.tables e below (s₁.setTop (mkF m 0 #[.val (.int p0)] [])) _
        refine XS.iloadN X0.here hx rfl (hb hby d_m2_0) rfl ?_
        show Steps p.tables e below (s₁.setTop (mkF m 1 #[.val (.int p0)] [(.int p0)])) _
        refine XS.ifYes X0.here hx rfl (pc0 := 1) (pc' := 8) rfl (hb hby d_m2_1) rfl ((if0 _ _).trans (feq hc1).2) (by decide) (by decide) ?_
        show Steps p.tables e below (s₁.setTop (mkF m 8 #[.val (.int p0)] [])) _
        refine XS.iloadN X0.here hx rfl (hb hby d_m2_8) rfl ?_
        show Steps p.tables e below (s₁.setTop (mkF m 9 #[.val (.int p0)] [(.int p0)])) _
        refine XS.iconst X0.here hx rfl (hb hby d_m2_9) ?_
        show Steps p.tables e below (s₁.setTop (mkF m 10 #[.val (.int p0)] [(.int (1 : Int32)), (.int p0)])) _
        refine XS.icmpNo X0.here hx rfl (hb hby d_m2_10) rfl (teq hc10).2 ?_
        show Steps p.tables e below (s₁.setTop (mkF m 13 #[.val (.int p0)] [])) _
        refine st2 _ ?_
        show Steps p.tables e below (T2.setTop (mkF m 16 #[.val (.int p0)] [(.ref tINT)])) _
        jvm_step X2.here [X2.here.top, hx, (hb hby d_m2_16), X2.method', Bd.returns, Value.isRef, FieldType.isReference]
        first | (intro acts; rw [hr _ acts rfl rfl rfl]) | rw [hr _ _ rfl rfl rfl]
        exact Steps.refl _
      · show Q_rmP Z p0 tSTRING tINT tLONG tDOUBLE tBOOLEAN tTIMESTAMP h0 n0 _ T2.heap _
        rw [e2]
        exact ⟨_, rfl, N0, rfl, fun q => absurd (q.symm.trans hc10) (by decide), fun _ => rfl, fun q => absurd (q.symm.trans hc10) (by decide), fun q => absurd (q.symm.trans hc10) (by decide), fun q => absurd (q.symm.trans hc10) (by decide), fun q => absurd (q.symm.trans hc10) (by decide)⟩
    · by_cases hc19 : p0 = (2 : Int32)
      · obtain ⟨T3, X3, e3, st3⟩ := getS2 X0 hx hZ hown (host := "") (Or.inl (hw _ (List.mem_of_getElem? (i := 39) rfl))) Via.refl e0 S_tLONG (g := (mkF m 22 #[.val (.int p0)] [])) rfl (hb hby d_m2_22)
        obtain ⟨fs, hr, hrun, hended, hW, hsame⟩ := X3.leave (v := some (.ref tLONG)) (fun h => by rw [Bd.returns] at h; cases h)
        refine ⟨_, _, pre0 _ ?_, hrun, hended, _, _, rfl, ?_, ⟨_, rfl⟩, hW, hsame.mono (by decide) (by decide)⟩
        · show Steps p.tables e below (s₁.setTop (mkF m 0 #[.val (.int p0)] [])) _
          refine XS.iloadN X0.here hx rfl (hb hby d_m2_0) rfl ?_
          show Steps p.tables e below (s₁.setTop (mkF m 1 #[.val (.int p0)] [(.int p0)])) _
          refine XS.ifYes X0.here hx rfl (pc0 := 1) (pc' := 8) rfl (hb hby d_m2_1) rfl ((if0 _ _).trans (feq hc1).2) (by decide) (by decide) ?_
          show Steps p.tables e below (s₁.setTop (mkF m 8 #[.val (.int p0)] [])) _
          refine XS.iloadN X0.here hx rfl (hb hby d_m2_8) rfl ?_
          show Steps p.tables e below (s₁.setTop (mkF m 9 #[.val (.int p0)] [(.int p0)])) _
          refine XS.iconst X0.here hx rfl (hb hby d_m2_9) ?_
          show Steps p.tables e below (s₁.setTop (mkF m 10 #[.val (.int p0)] [(.int (1 : Int32)), (.int p0)])) _
          refine XS.icmpYes X0.here hx rfl (pc0 := 10) (pc' := 17) rfl (hb hby d_m2_10) rfl (feq hc10).2 (by decide) (by decide) ?_
          show Steps p.tables e below (s₁.setTop (mkF m 17 #[.val (.int p0)] [])) _
          refine XS.iloadN X0.here hx rfl (hb hby d_m2_17) rfl ?_
          show Steps p.tables e below (s₁.setTop (mkF m 18 #[.val (.int p0)] [(.int p0)])) _
          refine XS.iconst X0.here hx rfl (hb hby d_m2_18) ?_
          show Steps p.tables e below (s₁.setTop (mkF m 19 #[.val (.int p0)] [(.int (2 : Int32)), (.int p0)])) _
          refine XS.icmpNo X0.here hx rfl (hb hby d_m2_19) rfl (teq hc19).2 ?_
          show Steps p.tables e below (s₁.setTop (mkF m 22 #[.val (.int p0)] [])) _
          refine st3 _ ?_
          show Steps p.tables e below (T3.setTop (mkF m 25 #[.val (.int p0)] [(.ref tLONG)])) _
          jvm_step X3.here [X3.here.top, hx, (hb hby d_m2_25), X3.method', Bd.returns, Value.isRef, FieldType.isReference]
          first | (intro acts; rw [hr _ acts rfl rfl rfl]) | rw [hr _ _ rfl rfl rfl]
          exact Steps.refl _
        · show Q_rmP Z p0 tSTRING tINT tLONG tDOUBLE tBOOLEAN tTIMESTAMP h0 n0 _ T3.heap _
          rw [e3]
          exact ⟨_, rfl, N0, rfl, fun q => absurd (q.symm.trans hc19) (by decide), fun q => absurd (q.symm.trans hc19) (by decide), fun _ => rfl, fun q => absurd (q.symm.trans hc19) (by decide), fun q => absurd (q.symm.trans hc19) (by decide), fun q => absurd (q.symm.trans hc19) (by decide)⟩
      · by_cases hc28 : p0 = (3 : Int32)
        · obtain ⟨T4, X4, e4, st4⟩ := getS2 X0 hx hZ hown (host := "") (Or.inl (hw _ (List.mem_of_getElem? (i := 37) rfl))) Via.refl e0 S_tDOUBLE (g := (mkF m 31 #[.val (.int p0)] [])) rfl (hb hby d_m2_31)
          obtain ⟨fs, hr, hrun, hended, hW, hsame⟩ := X4.leave (v := some (.ref tDOUBLE)) (fun h => by rw [Bd.returns] at h; cases h)
          refine ⟨_, _, pre0 _ ?_, hrun, hended, _, _, rfl, ?_, ⟨_, rfl⟩, hW, hsame.mono (by decide) (by decide)⟩
          · show Steps p.tables e below (s₁.setTop (mkF m 0 #[.val (.int p0)] [])) _
            refine XS.iloadN X0.here hx rfl (hb hby d_m2_0) rfl ?_
            show Steps p.tables e below (s₁.setTop (mkF m 1 #[.val (.int p0)] [(.int p0)])) _
            refine XS.ifYes X0.here hx rfl (pc0 := 1) (pc' := 8) rfl (hb hby d_m2_1) rfl ((if0 _ _).trans (feq hc1).2) (by decide) (by decide) ?_
            show Steps p.tables e below (s₁.setTop (mkF m 8 #[.val (.int p0)] [])) _
            refine XS.iloadN X0.here hx rfl (hb hby d_m2_8) rfl ?_
            show Steps p.tables e below (s₁.setTop (mkF m 9 #[.val (.int p0)] [(.int p0)])) _
            refine XS.iconst X0.here hx rfl (hb hby d_m2_9) ?_
            show Steps p.tables e below (s₁.setTop (mkF m 10 #[.val (.int p0)] [(.int (1 : Int32)), (.int p0)])) _
            refine XS.icmpYes X0.here hx rfl (pc0 := 10) (pc' := 17) rfl (hb hby d_m2_10) rfl (feq hc10).2 (by decide) (by decide) ?_
            show Steps p.tables e below (s₁.setTop (mkF m 17 #[.val (.int p0)] [])) _
            refine XS.iloadN X0.here hx rfl (hb hby d_m2_17) rfl ?_
            show Steps p.tables e below (s₁.setTop (mkF m 18 #[.val (.int p0)] [(.int p0)])) _
            refine XS.iconst X0.here hx rfl (hb hby d_m2_18) ?_
            show Steps p.tables e below (s₁.setTop (mkF m 19 #[.val (.int p0)] [(.int (2 : Int32)), (.int p0)])) _
            refine XS.icmpYes X0.here hx rfl (pc0 := 19) (pc' := 26) rfl (hb hby d_m2_19) rfl (feq hc19).2 (by decide) (by decide) ?_
            show Steps p.tables e below (s₁.setTop (mkF m 26 #[.val (.int p0)] [])) _
            refine XS.iloadN X0.here hx rfl (hb hby d_m2_26) rfl ?_
            show Steps p.tables e below (s₁.setTop (mkF m 27 #[.val (.int p0)] [(.int p0)])) _
            refine XS.iconst X0.here hx rfl (hb hby d_m2_27) ?_
            show Steps p.tables e below (s₁.setTop (mkF m 28 #[.val (.int p0)] [(.int (3 : Int32)), (.int p0)])) _
            refine XS.icmpNo X0.here hx rfl (hb hby d_m2_28) rfl (teq hc28).2 ?_
            show Steps p.tables e below (s₁.setTop (mkF m 31 #[.val (.int p0)] [])) _
            refine st4 _ ?_
            show Steps p.tables e below (T4.setTop (mkF m 34 #[.val (.int p0)] [(.ref tDOUBLE)])) _
            jvm_step X4.here [X4.here.top, hx, (hb hby d_m2_34), X4.method', Bd.returns, Value.isRef, FieldType.isReference]
            first | (intro acts; rw [hr _ acts rfl rfl rfl]) | rw [hr _ _ rfl rfl rfl]
            exact Steps.refl _
          · show Q_rmP Z p0 tSTRING tINT tLONG tDOUBLE tBOOLEAN tTIMESTAMP h0 n0 _ T4.heap _
            rw [e4]
            exact ⟨_, rfl, N0, rfl, fun q => absurd (q.symm.trans hc28) (by decide), fun q => absurd (q.symm.trans hc28) (by decide), fun q => absurd (q.symm.trans hc28) (by decide), fun _ => rfl, fun q => absurd (q.symm.trans hc28) (by decide), fun q => absurd (q.symm.trans hc28) (by decide)⟩
        · by_cases hc37 : p0 = (4 : Int32)
          · obtain ⟨T5, X5, e5, st5⟩ := getS2 X0 hx hZ hown (host := "") (Or.inl (hw _ (List.mem_of_getElem? (i := 45) rfl))) Via.refl e0 S_tBOOLEAN (g := (mkF m 40 #[.val (.int p0)] [])) rfl (hb hby d_m2_40)
            obtain ⟨fs, hr, hrun, hended, hW, hsame⟩ := X5.leave (v := some (.ref tBOOLEAN)) (fun h => by rw [Bd.returns] at h; cases h)
            refine ⟨_, _, pre0 _ ?_, hrun, hended, _, _, rfl, ?_, ⟨_, rfl⟩, hW, hsame.mono (by decide) (by decide)⟩
            · show Steps p.tables e below (s₁.setTop (mkF m 0 #[.val (.int p0)] [])) _
              refine XS.iloadN X0.here hx rfl (hb hby d_m2_0) rfl ?_
              show Steps p.tables e below (s₁.setTop (mkF m 1 #[.val (.int p0)] [(.int p0)])) _
              refine XS.ifYes X0.here hx rfl (pc0 := 1) (pc' := 8) rfl (hb hby d_m2_1) rfl ((if0 _ _).trans (feq hc1).2) (by decide) (by decide) ?_
              show Steps p.tables e below (s₁.setTop (mkF m 8 #[.val (.int p0)] [])) _
              refine XS.iloadN X0.here hx rfl (hb hby d_m2_8) rfl ?_
              show Steps p.tables e below (s₁.setTop (mkF m 9 #[.val (.int p0)] [(.int p0)])) _
              refine XS.iconst X0.here hx rfl (hb hby d_m2_9) ?_
              show Steps p.tables e below (s₁.setTop (mkF m 10 #[.val (.int p0)] [(.int (1 : Int32)), (.int p0)])) _
              refine XS.icmpYes X0.here hx rfl (pc0 := 10) (pc' := 17) rfl (hb hby d_m2_10) rfl (feq hc10).2 (by decide) (by decide) ?_
              show Steps p.tables e below (s₁.setTop (mkF m 17 #[.val (.int p0)] [])) _
              refine XS.iloadN X0.here hx rfl (hb hby d_m2_17) rfl ?_
              show Steps p.tables e below (s₁.setTop (mkF m 18 #[.val (.int p0)] [(.int p0)])) _
              refine XS.iconst X0.here hx rfl (hb hby d_m2_18) ?_
              show Steps p.tables e below (s₁.setTop (mkF m 19 #[.val (.int p0)] [(.int (2 : Int32)), (.int p0)])) _
              refine XS.icmpYes X0.here hx rfl (pc0 := 19) (pc' := 26) rfl (hb hby d_m2_19) rfl (feq hc19).2 (by decide) (by decide) ?_
              show Steps p.tables e below (s₁.setTop (mkF m 26 #[.val (.int p0)] [])) _
              refine XS.iloadN X0.here hx rfl (hb hby d_m2_26) rfl ?_
              show Steps p.tables e below (s₁.setTop (mkF m 27 #[.val (.int p0)] [(.int p0)])) _
              refine XS.iconst X0.here hx rfl (hb hby d_m2_27) ?_
              show Steps p.tables e below (s₁.setTop (mkF m 28 #[.val (.int p0)] [(.int (3 : Int32)), (.int p0)])) _
              refine XS.icmpYes X0.here hx rfl (pc0 := 28) (pc' := 35) rfl (hb hby d_m2_28) rfl (feq hc28).2 (by decide) (by decide) ?_
              show Steps p.tables e below (s₁.setTop (mkF m 35 #[.val (.int p0)] [])) _
              refine XS.iloadN X0.here hx rfl (hb hby d_m2_35) rfl ?_
              show Steps p.tables e below (s₁.setTop (mkF m 36 #[.val (.int p0)] [(.int p0)])) _
              refine XS.iconst X0.here hx rfl (hb hby d_m2_36) ?_
              show Steps p.tables e below (s₁.setTop (mkF m 37 #[.val (.int p0)] [(.int (4 : Int32)), (.int p0)])) _
              refine XS.icmpNo X0.here hx rfl (hb hby d_m2_37) rfl (teq hc37).2 ?_
              show Steps p.tables e below (s₁.setTop (mkF m 40 #[.val (.int p0)] [])) _
              refine st5 _ ?_
              show Steps p.tables e below (T5.setTop (mkF m 43 #[.val (.int p0)] [(.ref tBOOLEAN)])) _
              jvm_step X5.here [X5.here.top, hx, (hb hby d_m2_43), X5.method', Bd.returns, Value.isRef, FieldType.isReference]
              first | (intro acts; rw [hr _ acts rfl rfl rfl]) | rw [hr _ _ rfl rfl rfl]
              exact Steps.refl _
            · show Q_rmP Z p0 tSTRING tINT tLONG tDOUBLE tBOOLEAN tTIMESTAMP h0 n0 _ T5.heap _
              rw [e5]
              exact ⟨_, rfl, N0, rfl, fun q => absurd (q.symm.trans hc37) (by decide), fun q => absurd (q.symm.trans hc37) (by decide), fun q => absurd (q.symm.trans hc37) (by decide), fun q => absurd (q.symm.trans hc37) (by decide), fun _ => rfl, fun q => absurd (q.symm.trans hc37) (by decide)⟩
          · obtain ⟨T6, X6, e6, st6⟩ := getS2 X0 hx hZ hown (host := "") (Or.inl (hw _ (List.mem_of_getElem? (i := 43) rfl))) Via.refl e0 S_tTIMESTAMP (g := (mkF m 44 #[.val (.int p0)] [])) rfl (hb hby d_m2_44)
            obtain ⟨fs, hr, hrun, hended, hW, hsame⟩ := X6.leave (v := some (.ref tTIMESTAMP)) (fun h => by rw [Bd.returns] at h; cases h)
            refine ⟨_, _, pre0 _ ?_, hrun, hended, _, _, rfl, ?_, ⟨_, rfl⟩, hW, hsame.mono (by decide) (by decide)⟩
            · show Steps p.tables e below (s₁.setTop (mkF m 0 #[.val (.int p0)] [])) _
              refine XS.iloadN X0.here hx rfl (hb hby d_m2_0) rfl ?_
              show Steps p.tables e below (s₁.setTop (mkF m 1 #[.val (.int p0)] [(.int p0)])) _
              refine XS.ifYes X0.here hx rfl (pc0 := 1) (pc' := 8) rfl (hb hby d_m2_1) rfl ((if0 _ _).trans (feq hc1).2) (by decide) (by decide) ?_
              show Steps p.tables e below (s₁.setTop (mkF m 8 #[.val (.int p0)] [])) _
              refine XS.iloadN X0.here hx rfl (hb hby d_m2_8) rfl ?_
              show Steps p.tables e below (s₁.setTop (mkF m 9 #[.val (.int p0)] [(.int p0)])) _
              refine XS.iconst X0.here hx rfl (hb hby d_m2_9) ?_
              show Steps p.tables e below (s₁.setTop (mkF m 10 #[.val (.int p0)] [(.int (1 : Int32)), (.int p0)])) _
              refine XS.icmpYes X0.here hx rfl (pc0 := 10) (pc' := 17) rfl (hb hby d_m2_10) rfl (feq hc10).2 (by decide) (by decide) ?_
              show Steps p.tables e below (s₁.setTop (mkF m 17 #[.val (.int p0)] [])) _
              refine XS.iloadN X0.here hx rfl (hb hby d_m2_17) rfl ?_
              show Steps p.tables e below (s₁.setTop (mkF m 18 #[.val (.int p0)] [(.int p0)])) _
              refine XS.iconst X0.here hx rfl (hb hby d_m2_18) ?_
              show Steps p.tables e below (s₁.setTop (mkF m 19 #[.val (.int p0)] [(.int (2 : Int32)), (.int p0)])) _
              refine XS.icmpYes X0.here hx rfl (pc0 := 19) (pc' := 26) rfl (hb hby d_m2_19) rfl (feq hc19).2 (by decide) (by decide) ?_
              show Steps p.tables e below (s₁.setTop (mkF m 26 #[.val (.int p0)] [])) _
              refine XS.iloadN X0.here hx rfl (hb hby d_m2_26) rfl ?_
              show Steps p.tables e below (s₁.setTop (mkF m 27 #[.val (.int p0)] [(.int p0)])) _
              refine XS.iconst X0.here hx rfl (hb hby d_m2_27) ?_
              show Steps p.tables e below (s₁.setTop (mkF m 28 #[.val (.int p0)] [(.int (3 : Int32)), (.int p0)])) _
              refine XS.icmpYes X0.here hx rfl (pc0 := 28) (pc' := 35) rfl (hb hby d_m2_28) rfl (feq hc28).2 (by decide) (by decide) ?_
              show Steps p.tables e below (s₁.setTop (mkF m 35 #[.val (.int p0)] [])) _
              refine XS.iloadN X0.here hx rfl (hb hby d_m2_35) rfl ?_
              show Steps p.tables e below (s₁.setTop (mkF m 36 #[.val (.int p0)] [(.int p0)])) _
              refine XS.iconst X0.here hx rfl (hb hby d_m2_36) ?_
              show Steps p.tables e below (s₁.setTop (mkF m 37 #[.val (.int p0)] [(.int (4 : Int32)), (.int p0)])) _
              refine XS.icmpYes X0.here hx rfl (pc0 := 37) (pc' := 44) rfl (hb hby d_m2_37) rfl (feq hc37).2 (by decide) (by decide) ?_
              show Steps p.tables e below (s₁.setTop (mkF m 44 #[.val (.int p0)] [])) _
              refine st6 _ ?_
              show Steps p.tables e below (T6.setTop (mkF m 47 #[.val (.int p0)] [(.ref tTIMESTAMP)])) _
              jvm_step X6.here [X6.here.top, hx, (hb hby d_m2_47), X6.method', Bd.returns, Value.isRef, FieldType.isReference]
              first | (intro acts; rw [hr _ acts rfl rfl rfl]) | rw [hr _ _ rfl rfl rfl]
              exact Steps.refl _
            · show Q_rmP Z p0 tSTRING tINT tLONG tDOUBLE tBOOLEAN tTIMESTAMP h0 n0 _ T6.heap _
              rw [e6]
              exact ⟨_, rfl, N0, rfl, fun q => absurd q hc1, fun q => absurd q hc10, fun q => absurd q hc19, fun q => absurd q hc28, fun q => absurd q hc37, fun _ => rfl⟩
theorem pn_java_lang_Enum : plainName "java/lang/Enum" = true := by first | (simp [plainName, overriddenIn]; done) | decide +kernel
theorem d_jdk_37_m2_0 : decode jdk_37_method_2_code 0 = .ok (.aload_n 0, 1) := by decide +kernel
theorem d_jdk_37_m2_1 : decode jdk_37_method_2_code 1 = .ok (.getfield 7, 3) := by decide +kernel
theorem d_jdk_37_m2_4 : decode jdk_37_method_2_code 4 = .ok (.ireturn, 1) := by decide +kernel
theorem ef_rmE (m : MethodId) (x0 : Addr) : entryFrame m #[(.ref x0)] 1 = mkF m 0 #[.val (.ref x0)] [] := by first | (simp [entryFrame, mkF, argsToLocals, Value.category]; done) | rfl
def Q_rmE (Z : State) (r0 : Addr) (od : Int32) (h0 : Heap) (n0 : Nat) (v : Option Value) (h : Heap) (L : List Loc) : Prop := v = some (.int od) ∧ Fr n0 L ∧ h = h0
set_option maxRecDepth 65536 in
set_option maxHeartbeats 40000000 in
theorem rmE (l : Launch) (Z : State) (a0 : Array Value) (hw : ∀ d ∈ tables_1, d.before a0 Z = true) (ws : List Jvm.Cond) (r0 : Addr) (od : Int32) (h0 : Heap) (n0 : Nat) (Z0 : n0 ≤ h0.size) (F : Fld Z h0 r0 "java/lang/Enum" "ordinal" "I" (.int od)) :
    MetFree l (⟨"java/lang/Enum", "ordinal", "()I"⟩ : MethodName) (head1 (Jvm.Cond.code (⟨"java/lang/Enum", "ordinal", "()I"⟩ : MethodName) jdk_37_method_2_code 1 (some .int) :: ws) ({ frames := 0, cells := 0, slots := 0, locals := 0 } : Room)) (fun a U => a = #[(.ref r0)] ∧ Z.Warmed39 U.vm ∧ U.heap = h0) (fun _ _ _ _ _ => True) (fun _ U o U' => ∃ v L, o = .returned v ∧ Q_rmE Z r0 od h0 n0 v U'.heap L ∧ FrameEnd U o U' L ({ frames := 0, cells := 0, slots := 0, locals := 0 } : Room).cells ({ frames := 0, cells := 0, slots := 0, locals := 0 } : Room).slots) := by
  refine MetFree.of_bodySF (plainFor_of_name pn_java_lang_Enum) hisR ?_
  intro p e s m args below meth c s₁ Bd hml0 hP hK
  obtain ⟨rfl, hZ, hh⟩ := hP
  have hx := Bd.exec
  have hby := Bd.bytes
  have hml : c.maxLocals = 1 := hml0
  have hown : s.vm.findClass "java/lang/Enum" = some m.cls := findClass_of_methodNamed Bd.named
  have hnm := (name_of_methodNamed Bd.named Bd.method).1
  have X0 : Stand p l e ({ frames := 0, cells := 0, slots := 0, locals := 0 } : Room) s m #[(.ref r0)] below meth c s₁ [] 0 0 := Stand.of_body Bd
  have e0 : s₁.heap = h0 := by rw [← hh, Bd.state]; rfl
  have N0 := Fr.nil n0
  have K0 := Keep.refl h0 []
  have pre0 : ∀ t, Steps p.tables e below (s₁.setTop (mkF m 0 #[.val (.ref r0)] [])) t → Steps p.tables e below (s₁.setTop (entryFrame m #[(.ref r0)] 1)) t := fun t k => castTop (ef_rmE m r0) k
  obtain ⟨T1, X1, e1, st1⟩ := getF X0 hx hZ hown (host := "") (Or.inl (hw _ (List.mem_of_getElem? (i := 22) rfl))) Via.refl e0 F (g := (mkF m 1 #[.val (.ref r0)] [(.ref r0)])) rfl rfl (hb hby d_jdk_37_m2_1)
  obtain ⟨fs, hr, hrun, hended, hW, hsame⟩ := X1.leave (v := some (.int od)) (fun h => by rw [Bd.returns] at h; cases h)
  refine ⟨_, _, pre0 _ ?_, hrun, hended, _, _, rfl, ?_, ⟨_, rfl⟩, hW, hsame.mono (by decide) (by decide)⟩
  · show Steps p.tables e below (s₁.setTop (mkF m 0 #[.val (.ref r0)] [])) _
    refine XS.aloadN X0.here hx rfl (hb hby d_jdk_37_m2_0) rfl rfl ?_
    show Steps p.tables e below (s₁.setTop (mkF m 1 #[.val (.ref r0)] [(.ref r0)])) _
    refine st1 _ ?_
    show Steps p.tables e below (T1.setTop (mkF m 4 #[.val (.ref r0)] [(.int od)])) _
    exact retI X1 hx Bd.returns (hb hby d_jdk_37_m2_4) hr
  · show Q_rmE Z r0 od h0 n0 _ T1.heap _
    rw [e1]
    exact ⟨rfl, N0, rfl⟩
theorem pn_com_example_tidewater_tidewater_core_ColumnStorage : plainName "com/example/tidewater/tidewater/core/ColumnStorage" = true := by first | (simp [plainName, overriddenIn]; done) | decide +kernel
theorem d_prog_24_m4_0 : decode prog_24_method_4_code 0 = .ok (.getstatic 42, 3) := by decide +kernel
theorem d_prog_24_m4_3 : decode prog_24_method_4_code 3 = .ok (.aload_n 0, 1) := by decide +kernel
theorem d_prog_24_m4_4 : decode prog_24_method_4_code 4 = .ok (.invokevirtual 48, 3) := by decide +kernel
theorem pd___I : parseMethodDescriptor "()I" = some ⟨[], some .int⟩ := by decide +kernel
theorem d_prog_24_m4_7 : decode prog_24_method_4_code 7 = .ok (.iaload, 1) := by decide +kernel
theorem d_prog_24_m4_8 : decode prog_24_method_4_code 8 = .ok (.tableswitch 40 1 6 #[50, 56, 62, 62, 68, 74], 40) := by decide +kernel
theorem d_prog_24_m4_58 : decode prog_24_method_4_code 58 = .ok (.getstatic 3, 3) := by decide +kernel
theorem d_prog_24_m4_61 : decode prog_24_method_4_code 61 = .ok (.goto 24, 3) := by decide +kernel
theorem d_prog_24_m4_85 : decode prog_24_method_4_code 85 = .ok (.areturn, 1) := by decide +kernel
theorem ef_rmF0 (m : MethodId) (x0 : Addr) : entryFrame m #[(.ref x0)] 1 = mkF m 0 #[.val (.ref x0)] [] := by first | (simp [entryFrame, mkF, argsToLocals, Value.category]; done) | rfl
def Q_rmF0 (Z : State) (r0 : Addr) (wM u : Addr) (cl : Cell) (h0 : Heap) (n0 : Nat) (v : Option Value) (h : Heap) (L : List Loc) : Prop := v = some (.ref u) ∧ Fr n0 L ∧ h = h0
set_option maxRecDepth 65536 in
set_option maxHeartbeats 40000000 in
theorem rmF0 (l : Launch) (Z : State) (a0 : Array Value) (hw : ∀ d ∈ tables_1, d.before a0 Z = true) (ws : List Jvm.Cond) (r0 : Addr) (wM u : Addr) (cl : Cell) (h0 : Heap) (n0 : Nat) (Z0 : n0 ≤ h0.size) (S_M : Sta Z h0 "com/example/tidewater/tidewater/core/ColumnStorage$1" "$SwitchMap$com$example$tidewater$tidewater$core$table$ColumnType" "[I" (.ref wM)) (S_u : Sta Z h0 "com/example/tidewater/tidewater/core/ColumnStorage" "STRING" "Lcom/example/tidewater/tidewater/core/ColumnStorage;" (.ref u)) (E_0 : Exa Z h0 r0 "com/example/tidewater/tidewater/core/table/ColumnType") (F : Fld Z h0 r0 "java/lang/Enum" "ordinal" "I" (.int (0 : Int32))) (A : Arr Z h0 wM cl .int) (hin : ¬ ((0 : Int32) < 0 ∨ cl.slots.size ≤ (0 : Int32).toNatClampNeg)) (hat : cl.slots[(0 : Int32).toNatClampNeg]? = some (.int (1 : Int32))) :
    MetFree l (⟨"com/example/tidewater/tidewater/core/ColumnStorage", "of", "(Lcom/example/tidewater/tidewater/core/table/ColumnType;)Lcom/example/tidewater/tidewater/core/ColumnStorage;"⟩ : MethodName) (head1 (Jvm.Cond.code (⟨"com/example/tidewater/tidewater/core/ColumnStorage", "of", "(Lcom/example/tidewater/tidewater/core/table/ColumnType;)Lcom/example/tidewater/tidewater/core/ColumnStorage;"⟩ : MethodName) prog_24_method_4_code 1 (some (.object "com/example/tidewater/tidewater/core/ColumnStorage")) :: ws) ({ frames := 1, cells := 0, slots := 0, locals := 13 } : Room)) (fun a U => a = #[(.ref r0)] ∧ Z.Warmed39 U.vm ∧ U.heap = h0) (fun _ _ _ _ _ => True) (fun _ U o U' => ∃ v L, o = .returned v ∧ Q_rmF0 Z r0 wM u cl h0 n0 v U'.heap L ∧ FrameEnd U o U' L ({ frames := 1, cells := 0, slots := 0, locals := 13 } : Room).cells ({ frames := 1, cells := 0, slots := 0, locals := 13 } : Room).slots) := by
  refine MetFree.of_bodySF (plainFor_of_name pn_com_example_tidewater_tidewater_core_ColumnStorage) hisR ?_
  intro p e s m args below meth c s₁ Bd hml0 hP hK
  obtain ⟨rfl, hZ, hh⟩ := hP
  have hx := Bd.exec
  have hby := Bd.bytes
  have hml : c.maxLocals = 1 := hml0
  have hown : s.vm.findClass "com/example/tidewater/tidewater/core/ColumnStorage" = some m.cls := findClass_of_methodNamed Bd.named
  have hnm := (name_of_methodNamed Bd.named Bd.method).1
  have X0 : Stand p l e ({ frames := 1, cells := 0, slots := 0, locals := 13 } : Room) s m #[(.ref r0)] below meth c s₁ [] 0 0 := Stand.of_body Bd
  have e0 : s₁.heap = h0 := by rw [← hh, Bd.state]; rfl
  have N0 := Fr.nil n0
  have K0 := Keep.refl h0 []
  have pre0 : ∀ t, Steps p.tables e below (s₁.setTop (mkF m 0 #[.val (.ref r0)] [])) t → Steps p.tables e below (s₁.setTop (entryFrame m #[(.ref r0)] 1)) t := fun t k => castTop (ef_rmF0 m r0) k
  obtain ⟨T1, X1, e1, st1⟩ := getS2 X0 hx hZ hown (host := "") (Or.inl (hw _ (List.mem_of_getElem? (i := 12) rfl))) Via.refl e0 S_M (g := (mkF m 0 #[.val (.ref r0)] [])) rfl (hb hby d_prog_24_m4_0)
  obtain ⟨cq2, kq2, q2a, q2b, q2c⟩ := isOf hZ e1 E_0
  obtain ⟨_, _, ⟨T2, L2, k2, n2⟩, -, X2, ⟨Lc2, hQ2, l2, y2, z2⟩, st2⟩ := X1.virtualBackUp hx (x := (⟨"com/example/tidewater/tidewater/core/table/ColumnType", "ordinal", "()I"⟩ : MethodName)) (y := (⟨"java/lang/Enum", "ordinal", "()I"⟩ : MethodName)) hown (mvT hZ (hw _ (List.mem_of_getElem? (i := 15) rfl))) (mvT hZ (hw _ (List.mem_of_getElem? (i := 16) rfl))) (mvT hZ (hw _ (List.mem_of_getElem? (i := 17) rfl))) (by decide) (mvT hZ (hw _ (List.mem_of_getElem? (i := 19) rfl))) (mvT hZ (hw _ (List.mem_of_getElem? (i := 18) rfl))) (backOf (W := 1) (rmE l Z a0 hw [] r0 (0 : Int32) h0 n0 Z0 F) hZ (hw _ (List.mem_of_getElem? (i := 21) rfl)) (hw _ (List.mem_of_getElem? (i := 20) rfl)) (by decide) (by decide)) q2a q2c (g := (mkF m 4 #[.val (.ref r0)] [(.ref r0), (.ref wM)])) rfl (by rw [hml]; rfl) (Steps.refl _) (argsL := []) (rest := [(.ref wM)]) (lenOf pd___I rfl) rfl (by show 2 * 0 + _ ≤ _; exact Nat.le_of_eq rfl) (hb hby d_prog_24_m4_4) (fun _ _ => ⟨rfl, e1, (by decide : 0 + 0 ≤ _), (by decide : 0 + 0 ≤ _)⟩)
  dsimp only [Pt.U, Pt.locs, Pt.cells, Pt.slots] at X2 l2 y2 z2 st2 hQ2
  subst l2 y2 z2
  obtain ⟨rfl, N2q, e2⟩ := hQ2
  have N2 := Fr.app N0 N2q
  obtain ⟨T3, X3, e3, st3⟩ := getS2 X2 hx hZ hown (host := "") (Or.inl (hw _ (List.mem_of_getElem? (i := 24) rfl))) Via.refl e2 S_u (g := (mkF m 58 #[.val (.ref r0)] [])) rfl (hb hby d_prog_24_m4_58)
  obtain ⟨fs, hr, hrun, hended, hW, hsame⟩ := X3.leave (v := some (.ref u)) (fun h => by rw [Bd.returns] at h; cases h)
  refine ⟨_, _, pre0 _ ?_, hrun, hended, _, _, rfl, ?_, ⟨_, rfl⟩, hW, hsame.mono (by decide) (by decide)⟩
  · show Steps p.tables e below (s₁.setTop (mkF m 0 #[.val (.ref r0)] [])) _
    refine st1 _ ?_
    show Steps p.tables e below (T1.setTop (mkF m 3 #[.val (.ref r0)] [(.ref wM)])) _
    refine XS.aloadN X1.here hx rfl (hb hby d_prog_24_m4_3) rfl rfl ?_
    show Steps p.tables e below (T1.setTop (mkF m 4 #[.val (.ref r0)] [(.ref r0), (.ref wM)])) _
    refine st2.trans ?_
    show Steps p.tables e below (T2.setTop (mkF m 7 #[.val (.ref r0)] [(.int (0 : Int32)), (.ref wM)])) _
    refine X2.iaload hx (j := (0 : Int32)) (v := (.int (1 : Int32))) (by rw [e2]; exact A.1) (State.isArrayOf_alike hZ.alike A.2.1) A.2.2 hin hat (g := (mkF m 7 #[.val (.ref r0)] [(.int (0 : Int32)), (.ref wM)])) rfl rfl (hb hby d_prog_24_m4_7) _ ?_
    show Steps p.tables e below (T2.setTop (mkF m 8 #[.val (.ref r0)] [(.int (1 : Int32))])) _
    refine X2.tableswitchIn hx (g := (mkF m 8 #[.val (.ref r0)] [(.int (1 : Int32))])) rfl rfl (hb hby d_prog_24_m4_8) (by decide) (off := 50) (by decide) (by show (0 : Int) ≤ ((8 : Nat) : Int) + 50; decide) _ ?_
    show Steps p.tables e below (T2.setTop (mkF m 58 #[.val (.ref r0)] [])) _
    refine st3 _ ?_
    show Steps p.tables e below (T3.setTop (mkF m 61 #[.val (.ref r0)] [(.ref u)])) _
    refine XS.goto X3.here hx rfl (pc0 := 61) (pc' := 85) rfl (hb hby d_prog_24_m4_61) (by decide) (by decide) ?_
    show Steps p.tables e below (T3.setTop (mkF m 85 #[.val (.ref r0)] [(.ref u)])) _
    jvm_step X3.here [X3.here.top, hx, (hb hby d_prog_24_m4_85), X3.method', Bd.returns, Value.isRef, FieldType.isReference]
    first | (intro acts; rw [hr _ acts rfl rfl rfl]) | rw [hr _ _ rfl rfl rfl]
    exact Steps.refl _
  · show Q_rmF0 Z r0 wM u cl h0 n0 _ T3.heap _
    rw [e3]
    exact ⟨rfl, N2, rfl⟩
theorem d_prog_24_m4_64 : decode prog_24_method_4_code 64 = .ok (.getstatic 7, 3) := by decide +kernel
theorem d_prog_24_m4_67 : decode prog_24_method_4_code 67 = .ok (.goto 18, 3) := by decide +kernel
theorem ef_rmF1 (m : MethodId) (x0 : Addr) : entryFrame m #[(.ref x0)] 1 = mkF m 0 #[.val (.ref x0)] [] := by first | (simp [entryFrame, mkF, argsToLocals, Value.category]; done) | rfl
def Q_rmF1 (Z : State) (r0 : Addr) (wM u : Addr) (cl : Cell) (h0 : Heap) (n0 : Nat) (v : Option Value) (h : Heap) (L : List Loc) : Prop := v = some (.ref u) ∧ Fr n0 L ∧ h = h0
set_option maxRecDepth 65536 in
set_option maxHeartbeats 40000000 in
theorem rmF1 (l : Launch) (Z : State) (a0 : Array Value) (hw : ∀ d ∈ tables_1, d.before a0 Z = true) (ws : List Jvm.Cond) (r0 : Addr) (wM u : Addr) (cl : Cell) (h0 : Heap) (n0 : Nat) (Z0 : n0 ≤ h0.size) (S_M : Sta Z h0 "com/example/tidewater/tidewater/core/ColumnStorage$1" "$SwitchMap$com$example$tidewater$tidewater$core$table$ColumnType" "[I" (.ref wM)) (S_u : Sta Z h0 "com/example/tidewater/tidewater/core/ColumnStorage" "INT" "Lcom/example/tidewater/tidewater/core/ColumnStorage;" (.ref u)) (E_0 : Exa Z h0 r0 "com/example/tidewater/tidewater/core/table/ColumnType") (F : Fld Z h0 r0 "java/lang/Enum" "ordinal" "I" (.int (1 : Int32))) (A : Arr Z h0 wM cl .int) (hin : ¬ ((1 : Int32) < 0 ∨ cl.slots.size ≤ (1 : Int32).toNatClampNeg)) (hat : cl.slots[(1 : Int32).toNatClampNeg]? = some (.int (2 : Int32))) :
    MetFree l (⟨"com/example/tidewater/tidewater/core/ColumnStorage", "of", "(Lcom/example/tidewater/tidewater/core/table/ColumnType;)Lcom/example/tidewater/tidewater/core/ColumnStorage;"⟩ : MethodName) (head1 (Jvm.Cond.code (⟨"com/example/tidewater/tidewater/core/ColumnStorage", "of", "(Lcom/example/tidewater/tidewater/core/table/ColumnType;)Lcom/example/tidewater/tidewater/core/ColumnStorage;"⟩ : MethodName) prog_24_method_4_code 1 (some (.object "com/example/tidewater/tidewater/core/ColumnStorage")) :: ws) ({ frames := 1, cells := 0, slots := 0, locals := 13 } : Room)) (fun a U => a = #[(.ref r0)] ∧ Z.Warmed39 U.vm ∧ U.heap = h0) (fun _ _ _ _ _ => True) (fun _ U o U' => ∃ v L, o = .returned v ∧ Q_rmF1 Z r0 wM u cl h0 n0 v U'.heap L ∧ FrameEnd U o U' L ({ frames := 1, cells := 0, slots := 0, locals := 13 } : Room).cells ({ frames := 1, cells := 0, slots := 0, locals := 13 } : Room).slots) := by
  refine MetFree.of_bodySF (plainFor_of_name pn_com_example_tidewater_tidewater_core_ColumnStorage) hisR ?_
  intro p e s m args below meth c s₁ Bd hml0 hP hK
  obtain ⟨rfl, hZ, hh⟩ := hP
  have hx := Bd.exec
  have hby := Bd.bytes
  have hml : c.maxLocals = 1 := hml0
  have hown : s.vm.findClass "com/example/tidewater/tidewater/core/ColumnStorage" = some m.cls := findClass_of_methodNamed Bd.named
  have hnm := (name_of_methodNamed Bd.named Bd.method).1
  have X0 : Stand p l e ({ frames := 1, cells := 0, slots := 0, locals := 13 } : Room) s m #[(.ref r0)] below meth c s₁ [] 0 0 := Stand.of_body Bd
  have e0 : s₁.heap = h0 := by rw [← hh, Bd.state]; rfl
  have N0 := Fr.nil n0
  have K0 := Keep.refl h0 []
  have pre0 : ∀ t, Steps p.tables e below (s₁.setTop (mkF m 0 #[.val (.ref r0)] [])) t → Steps p.tables e below (s₁.setTop (entryFrame m #[(.ref r0)] 1)) t := fun t k => castTop (ef_rmF1 m r0) k
  obtain ⟨T1, X1, e1, st1⟩ := getS2 X0 hx hZ hown (host := "") (Or.inl (hw _ (List.mem_of_getElem? (i := 12) rfl))) Via.refl e0 S_M (g := (mkF m 0 #[.val (.ref r0)] [])) rfl (hb hby d_prog_24_m4_0)
  obtain ⟨cq2, kq2, q2a, q2b, q2c⟩ := isOf hZ e1 E_0
  obtain ⟨_, _, ⟨T2, L2, k2, n2⟩, -, X2, ⟨Lc2, hQ2, l2, y2, z2⟩, st2⟩ := X1.virtualBackUp hx (x := (⟨"com/example/tidewater/tidewater/core/table/ColumnType", "ordinal", "()I"⟩ : MethodName)) (y := (⟨"java/lang/Enum", "ordinal", "()I"⟩ : MethodName)) hown (mvT hZ (hw _ (List.mem_of_getElem? (i := 15) rfl))) (mvT hZ (hw _ (List.mem_of_getElem? (i := 16) rfl))) (mvT hZ (hw _ (List.mem_of_getElem? (i := 17) rfl))) (by decide) (mvT hZ (hw _ (List.mem_of_getElem? (i := 19) rfl))) (mvT hZ (hw _ (List.mem_of_getElem? (i := 18) rfl))) (backOf (W := 1) (rmE l Z a0 hw [] r0 (1 : Int32) h0 n0 Z0 F) hZ (hw _ (List.mem_of_getElem? (i := 21) rfl)) (hw _ (List.mem_of_getElem? (i := 20) rfl)) (by decide) (by decide)) q2a q2c (g := (mkF m 4 #[.val (.ref r0)] [(.ref r0), (.ref wM)])) rfl (by rw [hml]; rfl) (Steps.refl _) (argsL := []) (rest := [(.ref wM)]) (lenOf pd___I rfl) rfl (by show 2 * 0 + _ ≤ _; exact Nat.le_of_eq rfl) (hb hby d_prog_24_m4_4) (fun _ _ => ⟨rfl, e1, (by decide : 0 + 0 ≤ _), (by decide : 0 + 0 ≤ _)⟩)
  dsimp only [Pt.U, Pt.locs, Pt.cells, Pt.slots] at X2 l2 y2 z2 st2 hQ2
  subst l2 y2 z2
  obtain ⟨rfl, N2q, e2⟩ := hQ2
  have N2 := Fr.app N0 N2q
  obtain ⟨T3, X3, e3, st3⟩ := getS2 X2 hx hZ hown (host := "") (Or.inl (hw _ (List.mem_of_getElem? (i := 31) rfl))) Via.refl e2 S_u (g := (mkF m 64 #[.val (.ref r0)] [])) rfl (hb hby d_prog_24_m4_64)
  obtain ⟨fs, hr, hrun, hended, hW, hsame⟩ := X3.leave (v := some (.ref u)) (fun h => by rw [Bd.returns] at h; cases h)
  refine ⟨_, _, pre0 _ ?_, hrun, hended, _, _, rfl, ?_, ⟨_, rfl⟩, hW, hsame.mono (by decide) (by decide)⟩
  · show Steps p.tables e below (s₁.setTop (mkF m 0 #[.val (.ref r0)] [])) _
    refine st1 _ ?_
    show Steps p.tables e below (T1.setTop (mkF m 3 #[.val (.ref r0)] [(.ref wM)])) _
    refine XS.aloadN X1.here hx rfl (hb hby d_prog_24_m4_3) rfl rfl ?_
    show Steps p.tables e below (T1.setTop (mkF m 4 #[.val (.ref r0)] [(.ref r0), (.ref wM)])) _
    refine st2.trans ?_
    show Steps p.tables e below (T2.setTop (mkF m 7 #[.val (.ref r0)] [(.int (1 : Int32)), (.ref wM)])) _
    refine X2.iaload hx (j := (1 : Int32)) (v := (.int (2 : Int32))) (by rw [e2]; exact A.1) (State.isArrayOf_alike hZ.alike A.2.1) A.2.2 hin hat (g := (mkF m 7 #[.val (.ref r0)] [(.int (1 : Int32)), (.ref wM)])) rfl rfl (hb hby d_prog_24_m4_7) _ ?_
    show Steps p.tables e below (T2.setTop (mkF m 8 #[.val (.ref r0)] [(.int (2 : Int32))])) _
    refine X2.tableswitchIn hx (g := (mkF m 8 #[.val (.ref r0)] [(.int (2 : Int32))])) rfl rfl (hb hby d_prog_24_m4_8) (by decide) (off := 56) (by decide) (by show (0 : Int) ≤ ((8 : Nat) : Int) + 56; decide) _ ?_
    show Steps p.tables e below (T2.setTop (mkF m 64 #[.val (.ref r0)] [])) _
    refine st3 _ ?_
    show Steps p.tables e below (T3.setTop (mkF m 67 #[.val (.ref r0)] [(.ref u)])) _
    refine XS.goto X3.here hx rfl (pc0 := 67) (pc' := 85) rfl (hb hby d_prog_24_m4_67) (by decide) (by decide) ?_
    show Steps p.tables e below (T3.setTop (mkF m 85 #[.val (.ref r0)] [(.ref u)])) _
    jvm_step X3.here [X3.here.top, hx, (hb hby d_prog_24_m4_85), X3.method', Bd.returns, Value.isRef, FieldType.isReference]
    first | (intro acts; rw [hr _ acts rfl rfl rfl]) | rw [hr _ _ rfl rfl rfl]
    exact Steps.refl _
  · show Q_rmF1 Z r0 wM u cl h0 n0 _ T3.heap _
    rw [e3]
    exact ⟨rfl, N2, rfl⟩
theorem d_prog_24_m4_70 : decode prog_24_method_4_code 70 = .ok (.getstatic 10, 3) := by decide +kernel
theorem d_prog_24_m4_73 : decode prog_24_method_4_code 73 = .ok (.goto 12, 3) := by decide +kernel
theorem ef_rmF2 (m : MethodId) (x0 : Addr) : entryFrame m #[(.ref x0)] 1 = mkF m 0 #[.val (.ref x0)] [] := by first | (simp [entryFrame, mkF, argsToLocals, Value.category]; done) | rfl
def Q_rmF2 (Z : State) (r0 : Addr) (wM u : Addr) (cl : Cell) (h0 : Heap) (n0 : Nat) (v : Option Value) (h : Heap) (L : List Loc) : Prop := v = some (.ref u) ∧ Fr n0 L ∧ h = h0
set_option maxRecDepth 65536 in
set_option maxHeartbeats 40000000 in
theorem rmF2 (l : Launch) (Z : State) (a0 : Array Value) (hw : ∀ d ∈ tables_1, d.before a0 Z = true) (ws : List Jvm.Cond) (r0 : Addr) (wM u : Addr) (cl : Cell) (h0 : Heap) (n0 : Nat) (Z0 : n0 ≤ h0.size) (S_M : Sta Z h0 "com/example/tidewater/tidewater/core/ColumnStorage$1" "$SwitchMap$com$example$tidewater$tidewater$core$table$ColumnType" "[I" (.ref wM)) (S_u : Sta Z h0 "com/example/tidewater/tidewater/core/ColumnStorage" "LONG" "Lcom/example/tidewater/tidewater/core/ColumnStorage;" (.ref u)) (E_0 : Exa Z h0 r0 "com/example/tidewater/tidewater/core/table/ColumnType") (F : Fld Z h0 r0 "java/lang/Enum" "ordinal" "I" (.int (2 : Int32))) (A : Arr Z h0 wM cl .int) (hin : ¬ ((2 : Int32) < 0 ∨ cl.slots.size ≤ (2 : Int32).toNatClampNeg)) (hat : cl.slots[(2 : Int32).toNatClampNeg]? = some (.int (3 : Int32))) :
    MetFree l (⟨"com/example/tidewater/tidewater/core/ColumnStorage", "of", "(Lcom/example/tidewater/tidewater/core/table/ColumnType;)Lcom/example/tidewater/tidewater/core/ColumnStorage;"⟩ : MethodName) (head1 (Jvm.Cond.code (⟨"com/example/tidewater/tidewater/core/ColumnStorage", "of", "(Lcom/example/tidewater/tidewater/core/table/ColumnType;)Lcom/example/tidewater/tidewater/core/ColumnStorage;"⟩ : MethodName) prog_24_method_4_code 1 (some (.object "com/example/tidewater/tidewater/core/ColumnStorage")) :: ws) ({ frames := 1, cells := 0, slots := 0, locals := 13 } : Room)) (fun a U => a = #[(.ref r0)] ∧ Z.Warmed39 U.vm ∧ U.heap = h0) (fun _ _ _ _ _ => True) (fun _ U o U' => ∃ v L, o = .returned v ∧ Q_rmF2 Z r0 wM u cl h0 n0 v U'.heap L ∧ FrameEnd U o U' L ({ frames := 1, cells := 0, slots := 0, locals := 13 } : Room).cells ({ frames := 1, cells := 0, slots := 0, locals := 13 } : Room).slots) := by
  refine MetFree.of_bodySF (plainFor_of_name pn_com_example_tidewater_tidewater_core_ColumnStorage) hisR ?_
  intro p e s m args below meth c s₁ Bd hml0 hP hK
  obtain ⟨rfl, hZ, hh⟩ := hP
  have hx := Bd.exec
  have hby := Bd.bytes
  have hml : c.maxLocals = 1 := hml0
  have hown : s.vm.findClass "com/example/tidewater/tidewater/core/ColumnStorage" = some m.cls := findClass_of_methodNamed Bd.named
  have hnm := (name_of_methodNamed Bd.named Bd.method).1
  have X0 : Stand p l e ({ frames := 1, cells := 0, slots := 0, locals := 13 } : Room) s m #[(.ref r0)] below meth c s₁ [] 0 0 := Stand.of_body Bd
  have e0 : s₁.heap = h0 := by rw [← hh, Bd.state]; rfl
  have N0 := Fr.nil n0
  have K0 := Keep.refl h0 []
  have pre0 : ∀ t, Steps p.tables e below (s₁.setTop (mkF m 0 #[.val (.ref r0)] [])) t → Steps p.tables e below (s₁.setTop (entryFrame m #[(.ref r0)] 1)) t := fun t k => castTop (ef_rmF2 m r0) k
  obtain ⟨T1, X1, e1, st1⟩ := getS2 X0 hx hZ hown (host := "") (Or.inl (hw _ (List.mem_of_getElem? (i := 12) rfl))) Via.refl e0 S_M (g := (mkF m 0 #[.val (.ref r0)] [])) rfl (hb hby d_prog_24_m4_0)
  obtain ⟨cq2, kq2, q2a, q2b, q2c⟩ := isOf hZ e1 E_0
  obtain ⟨_, _, ⟨T2, L2, k2, n2⟩, -, X2, ⟨Lc2, hQ2, l2, y2, z2⟩, st2⟩ := X1.virtualBackUp hx (x := (⟨"com/example/tidewater/tidewater/core/table/ColumnType", "ordinal", "()I"⟩ : MethodName)) (y := (⟨"java/lang/Enum", "ordinal", "()I"⟩ : MethodName)) hown (mvT hZ (hw _ (List.mem_of_getElem? (i := 15) rfl))) (mvT hZ (hw _ (List.mem_of_getElem? (i := 16) rfl))) (mvT hZ (hw _ (List.mem_of_getElem? (i := 17) rfl))) (by decide) (mvT hZ (hw _ (List.mem_of_getElem? (i := 19) rfl))) (mvT hZ (hw _ (List.mem_of_getElem? (i := 18) rfl))) (backOf (W := 1) (rmE l Z a0 hw [] r0 (2 : Int32) h0 n0 Z0 F) hZ (hw _ (List.mem_of_getElem? (i := 21) rfl)) (hw _ (List.mem_of_getElem? (i := 20) rfl)) (by decide) (by decide)) q2a q2c (g := (mkF m 4 #[.val (.ref r0)] [(.ref r0), (.ref wM)])) rfl (by rw [hml]; rfl) (Steps.refl _) (argsL := []) (rest := [(.ref wM)]) (lenOf pd___I rfl) rfl (by show 2 * 0 + _ ≤ _; exact Nat.le_of_eq rfl) (hb hby d_prog_24_m4_4) (fun _ _ => ⟨rfl, e1, (by decide : 0 + 0 ≤ _), (by decide : 0 + 0 ≤ _)⟩)
  dsimp only [Pt.U, Pt.locs, Pt.cells, Pt.slots] at X2 l2 y2 z2 st2 hQ2
  subst l2 y2 z2
  obtain ⟨rfl, N2q, e2⟩ := hQ2
  have N2 := Fr.app N0 N2q
  obtain ⟨T3, X3, e3, st3⟩ := getS2 X2 hx hZ hown (host := "") (Or.inl (hw _ (List.mem_of_getElem? (i := 33) rfl))) Via.refl e2 S_u (g := (mkF m 70 #[.val (.ref r0)] [])) rfl (hb hby d_prog_24_m4_70)
  obtain ⟨fs, hr, hrun, hended, hW, hsame⟩ := X3.leave (v := some (.ref u)) (fun h => by rw [Bd.returns] at h; cases h)
  refine ⟨_, _, pre0 _ ?_, hrun, hended, _, _, rfl, ?_, ⟨_, rfl⟩, hW, hsame.mono (by decide) (by decide)⟩
  · show Steps p.tables e below (s₁.setTop (mkF m 0 #[.val (.ref r0)] [])) _
    refine st1 _ ?_
    show Steps p.tables e below (T1.setTop (mkF m 3 #[.val (.ref r0)] [(.ref wM)])) _
    refine XS.aloadN X1.here hx rfl (hb hby d_prog_24_m4_3) rfl rfl ?_
    show Steps p.tables e below (T1.setTop (mkF m 4 #[.val (.ref r0)] [(.ref r0), (.ref wM)])) _
    refine st2.trans ?_
    show Steps p.tables e below (T2.setTop (mkF m 7 #[.val (.ref r0)] [(.int (2 : Int32)), (.ref wM)])) _
    refine X2.iaload hx (j := (2 : Int32)) (v := (.int (3 : Int32))) (by rw [e2]; exact A.1) (State.isArrayOf_alike hZ.alike A.2.1) A.2.2 hin hat (g := (mkF m 7 #[.val (.ref r0)] [(.int (2 : Int32)), (.ref wM)])) rfl rfl (hb hby d_prog_24_m4_7) _ ?_
    show Steps p.tables e below (T2.setTop (mkF m 8 #[.val (.ref r0)] [(.int (3 : Int32))])) _
    refine X2.tableswitchIn hx (g := (mkF m 8 #[.val (.ref r0)] [(.int (3 : Int32))])) rfl rfl (hb hby d_prog_24_m4_8) (by decide) (off := 62) (by decide) (by show (0 : Int) ≤ ((8 : Nat) : Int) + 62; decide) _ ?_
    show Steps p.tables e below (T2.setTop (mkF m 70 #[.val (.ref r0)] [])) _
    refine st3 _ ?_
    show Steps p.tables e below (T3.setTop (mkF m 73 #[.val (.ref r0)] [(.ref u)])) _
    refine XS.goto X3.here hx rfl (pc0 := 73) (pc' := 85) rfl (hb hby d_prog_24_m4_73) (by decide) (by decide) ?_
    show Steps p.tables e below (T3.setTop (mkF m 85 #[.val (.ref r0)] [(.ref u)])) _
    jvm_step X3.here [X3.here.top, hx, (hb hby d_prog_24_m4_85), X3.method', Bd.returns, Value.isRef, FieldType.isReference]
    first | (intro acts; rw [hr _ acts rfl rfl rfl]) | rw [hr _ _ rfl rfl rfl]
    exact Steps.refl _
  · show Q_rmF2 Z r0 wM u cl h0 n0 _ T3.heap _
    rw [e3]
    exact ⟨rfl, N2, rfl⟩
theorem d_prog_24_m4_76 : decode prog_24_method_4_code 76 = .ok (.getstatic 13, 3) := by decide +kernel
theorem d_prog_24_m4_79 : decode prog_24_method_4_code 79 = .ok (.goto 6, 3) := by decide +kernel
theorem ef_rmF3 (m : MethodId) (x0 : Addr) : entryFrame m #[(.ref x0)] 1 = mkF m 0 #[.val (.ref x0)] [] := by first | (simp [entryFrame, mkF, argsToLocals, Value.category]; done) | rfl
def Q_rmF3 (Z : State) (r0 : Addr) (wM u : Addr) (cl : Cell) (h0 : Heap) (n0 : Nat) (v : Option Value) (h : Heap) (L : List Loc) : Prop := v = some (.ref u) ∧ Fr n0 L ∧ h = h0
set_option maxRecDepth 65536 in
set_option maxHeartbeats 40000000 in
theorem rmF3 (l : Launch) (Z : State) (a0 : Array Value) (hw : ∀ d ∈ tables_1, d.before a0 Z = true) (ws : List Jvm.Cond) (r0 : Addr) (wM u : Addr) (cl : Cell) (h0 : Heap) (n0 : Nat) (Z0 : n0 ≤ h0.size) (S_M : Sta Z h0 "com/example/tidewater/tidewater/core/ColumnStorage$1" "$SwitchMap$com$example$tidewater$tidewater$core$table$ColumnType" "[I" (.ref wM)) (S_u : Sta Z h0 "com/example/tidewater/tidewater/core/ColumnStorage" "DOUBLE" "Lcom/example/tidewater/tidewater/core/ColumnStorage;" (.ref u)) (E_0 : Exa Z h0 r0 "com/example/tidewater/tidewater/core/table/ColumnType") (F : Fld Z h0 r0 "java/lang/Enum" "ordinal" "I" (.int (3 : Int32))) (A : Arr Z h0 wM cl .int) (hin : ¬ ((3 : Int32) < 0 ∨ cl.slots.size ≤ (3 : Int32).toNatClampNeg)) (hat : cl.slots[(3 : Int32).toNatClampNeg]? = some (.int (5 : Int32))) :
    MetFree l (⟨"com/example/tidewater/tidewater/core/ColumnStorage", "of", "(Lcom/example/tidewater/tidewater/core/table/ColumnType;)Lcom/example/tidewater/tidewater/core/ColumnStorage;"⟩ : MethodName) (head1 (Jvm.Cond.code (⟨"com/example/tidewater/tidewater/core/ColumnStorage", "of", "(Lcom/example/tidewater/tidewater/core/table/ColumnType;)Lcom/example/tidewater/tidewater/core/ColumnStorage;"⟩ : MethodName) prog_24_method_4_code 1 (some (.object "com/example/tidewater/tidewater/core/ColumnStorage")) :: ws) ({ frames := 1, cells := 0, slots := 0, locals := 13 } : Room)) (fun a U => a = #[(.ref r0)] ∧ Z.Warmed39 U.vm ∧ U.heap = h0) (fun _ _ _ _ _ => True) (fun _ U o U' => ∃ v L, o = .returned v ∧ Q_rmF3 Z r0 wM u cl h0 n0 v U'.heap L ∧ FrameEnd U o U' L ({ frames := 1, cells := 0, slots := 0, locals := 13 } : Room).cells ({ frames := 1, cells := 0, slots := 0, locals := 13 } : Room).slots) := by
  refine MetFree.of_bodySF (plainFor_of_name pn_com_example_tidewater_tidewater_core_ColumnStorage) hisR ?_
  intro p e s m args below meth c s₁ Bd hml0 hP hK
  obtain ⟨rfl, hZ, hh⟩ := hP
  have hx := Bd.exec
  have hby := Bd.bytes
  have hml : c.maxLocals = 1 := hml0
  have hown : s.vm.findClass "com/example/tidewater/tidewater/core/ColumnStorage" = some m.cls := findClass_of_methodNamed Bd.named
  have hnm := (name_of_methodNamed Bd.named Bd.method).1
  have X0 : Stand p l e ({ frames := 1, cells := 0, slots := 0, locals := 13 } : Room) s m #[(.ref r0)] below meth c s₁ [] 0 0 := Stand.of_body Bd
  have e0 : s₁.heap = h0 := by rw [← hh, Bd.state]; rfl
  have N0 := Fr.nil n0
  have K0 := Keep.refl h0 []
  have pre0 : ∀ t, Steps p.tables e below (s₁.setTop (mkF m 0 #[.val (.ref r0)] [])) t → Steps p.tables e below (s₁.setTop (entryFrame m #[(.ref r0)] 1)) t := fun t k => castTop (ef_rmF3 m r0) k
  obtain ⟨T1, X1, e1, st1⟩ := getS2 X0 hx hZ hown (host := "") (Or.inl (hw _ (List.mem_of_getElem? (i := 12) rfl))) Via.refl e0 S_M (g := (mkF m 0 #[.val (.ref r0)] [])) rfl (hb hby d_prog_24_m4_0)
  obtain ⟨cq2, kq2, q2a, q2b, q2c⟩ := isOf hZ e1 E_0
  obtain ⟨_, _, ⟨T2, L2, k2, n2⟩, -, X2, ⟨Lc2, hQ2, l2, y2, z2⟩, st2⟩ := X1.virtualBackUp hx (x := (⟨"com/example/tidewater/tidewater/core/table/ColumnType", "ordinal", "()I"⟩ : MethodName)) (y := (⟨"java/lang/Enum", "ordinal", "()I"⟩ : MethodName)) hown (mvT hZ (hw _ (List.mem_of_getElem? (i := 15) rfl))) (mvT hZ (hw _ (List.mem_of_getElem? (i := 16) rfl))) (mvT hZ (hw _ (List.mem_of_getElem? (i := 17) rfl))) (by decide) (mvT hZ (hw _ (List.mem_of_getElem? (i := 19) rfl))) (mvT hZ (hw _ (List.mem_of_getElem? (i := 18) rfl))) (backOf (W := 1) (rmE l Z a0 hw [] r0 (3 : Int32) h0 n0 Z0 F) hZ (hw _ (List.mem_of_getElem? (i := 21) rfl)) (hw _ (List.mem_of_getElem? (i := 20) rfl)) (by decide) (by decide)) q2a q2c (g := (mkF m 4 #[.val (.ref r0)] [(.ref r0), (.ref wM)])) rfl (by rw [hml]; rfl) (Steps.refl _) (argsL := []) (rest := [(.ref wM)]) (lenOf pd___I rfl) rfl (by show 2 * 0 + _ ≤ _; exact Nat.le_of_eq rfl) (hb hby d_prog_24_m4_4) (fun _ _ => ⟨rfl, e1, (by decide : 0 + 0 ≤ _), (by decide : 0 + 0 ≤ _)⟩)
  dsimp only [Pt.U, Pt.locs, Pt.cells, Pt.slots] at X2 l2 y2 z2 st2 hQ2
  subst l2 y2 z2
  obtain ⟨rfl, N2q, e2⟩ := hQ2
  have N2 := Fr.app N0 N2q
  obtain ⟨T3, X3, e3, st3⟩ := getS2 X2 hx hZ hown (host := "") (Or.inl (hw _ (List.mem_of_getElem? (i := 35) rfl))) Via.refl e2 S_u (g := (mkF m 76 #[.val (.ref r0)] [])) rfl (hb hby d_prog_24_m4_76)
  obtain ⟨fs, hr, hrun, hended, hW, hsame⟩ := X3.leave (v := some (.ref u)) (fun h => by rw [Bd.returns] at h; cases h)
  refine ⟨_, _, pre0 _ ?_, hrun, hended, _, _, rfl, ?_, ⟨_, rfl⟩, hW, hsame.mono (by decide) (by decide)⟩
  · show Steps p.tables e below (s₁.setTop (mkF m 0 #[.val (.ref r0)] [])) _
    refine st1 _ ?_
    show Steps p.tables e below (T1.setTop (mkF m 3 #[.val (.ref r0)] [(.ref wM)])) _
    refine XS.aloadN X1.here hx rfl (hb hby d_prog_24_m4_3) rfl rfl ?_
    show Steps p.tables e below (T1.setTop (mkF m 4 #[.val (.ref r0)] [(.ref r0), (.ref wM)])) _
    refine st2.trans ?_
    show Steps p.tables e below (T2.setTop (mkF m 7 #[.val (.ref r0)] [(.int (3 : Int32)), (.ref wM)])) _
    refine X2.iaload hx (j := (3 : Int32)) (v := (.int (5 : Int32))) (by rw [e2]; exact A.1) (State.isArrayOf_alike hZ.alike A.2.1) A.2.2 hin hat (g := (mkF m 7 #[.val (.ref r0)] [(.int (3 : Int32)), (.ref wM)])) rfl rfl (hb hby d_prog_24_m4_7) _ ?_
    show Steps p.tables e below (T2.setTop (mkF m 8 #[.val (.ref r0)] [(.int (5 : Int32))])) _
    refine X2.tableswitchIn hx (g := (mkF m 8 #[.val (.ref r0)] [(.int (5 : Int32))])) rfl rfl (hb hby d_prog_24_m4_8) (by decide) (off := 68) (by decide) (by show (0 : Int) ≤ ((8 : Nat) : Int) + 68; decide) _ ?_
    show Steps p.tables e below (T2.setTop (mkF m 76 #[.val (.ref r0)] [])) _
    refine st3 _ ?_
    show Steps p.tables e below (T3.setTop (mkF m 79 #[.val (.ref r0)] [(.ref u)])) _
    refine XS.goto X3.here hx rfl (pc0 := 79) (pc' := 85) rfl (hb hby d_prog_24_m4_79) (by decide) (by decide) ?_
    show Steps p.tables e below (T3.setTop (mkF m 85 #[.val (.ref r0)] [(.ref u)])) _
    jvm_step X3.here [X3.here.top, hx, (hb hby d_prog_24_m4_85), X3.method', Bd.returns, Value.isRef, FieldType.isReference]
    first | (intro acts; rw [hr _ acts rfl rfl rfl]) | rw [hr _ _ rfl rfl rfl]
    exact Steps.refl _
  · show Q_rmF3 Z r0 wM u cl h0 n0 _ T3.heap _
    rw [e3]
    exact ⟨rfl, N2, rfl⟩
theorem d_prog_24_m4_82 : decode prog_24_method_4_code 82 = .ok (.getstatic 16, 3) := by decide +kernel
theorem ef_rmF4 (m : MethodId) (x0 : Addr) : entryFrame m #[(.ref x0)] 1 = mkF m 0 #[.val (.ref x0)] [] := by first | (simp [entryFrame, mkF, argsToLocals, Value.category]; done) | rfl
def Q_rmF4 (Z : State) (r0 : Addr) (wM u : Addr) (cl : Cell) (h0 : Heap) (n0 : Nat) (v : Option Value) (h : Heap) (L : List Loc) : Prop := v = some (.ref u) ∧ Fr n0 L ∧ h = h0
set_option maxRecDepth 65536 in
set_option maxHeartbeats 40000000 in
theorem rmF4 (l : Launch) (Z : State) (a0 : Array Value) (hw : ∀ d ∈ tables_1, d.before a0 Z = true) (ws : List Jvm.Cond) (r0 : Addr) (wM u : Addr) (cl : Cell) (h0 : Heap) (n0 : Nat) (Z0 : n0 ≤ h0.size) (S_M : Sta Z h0 "com/example/tidewater/tidewater/core/ColumnStorage$1" "$SwitchMap$com$example$tidewater$tidewater$core$table$ColumnType" "[I" (.ref wM)) (S_u : Sta Z h0 "com/example/tidewater/tidewater/core/ColumnStorage" "BOOLEAN" "Lcom/example/tidewater/tidewater/core/ColumnStorage;" (.ref u)) (E_0 : Exa Z h0 r0 "com/example/tidewater/tidewater/core/table/ColumnType") (F : Fld Z h0 r0 "java/lang/Enum" "ordinal" "I" (.int (4 : Int32))) (A : Arr Z h0 wM cl .int) (hin : ¬ ((4 : Int32) < 0 ∨ cl.slots.size ≤ (4 : Int32).toNatClampNeg)) (hat : cl.slots[(4 : Int32).toNatClampNeg]? = some (.int (6 : Int32))) :
    MetFree l (⟨"com/example/tidewater/tidewater/core/ColumnStorage", "of", "(Lcom/example/tidewater/tidewater/core/table/ColumnType;)Lcom/example/tidewater/tidewater/core/ColumnStorage;"⟩ : MethodName) (head1 (Jvm.Cond.code (⟨"com/example/tidewater/tidewater/core/ColumnStorage", "of", "(Lcom/example/tidewater/tidewater/core/table/ColumnType;)Lcom/example/tidewater/tidewater/core/ColumnStorage;"⟩ : MethodName) prog_24_method_4_code 1 (some (.object "com/example/tidewater/tidewater/core/ColumnStorage")) :: ws) ({ frames := 1, cells := 0, slots := 0, locals := 13 } : Room)) (fun a U => a = #[(.ref r0)] ∧ Z.Warmed39 U.vm ∧ U.heap = h0) (fun _ _ _ _ _ => True) (fun _ U o U' => ∃ v L, o = .returned v ∧ Q_rmF4 Z r0 wM u cl h0 n0 v U'.heap L ∧ FrameEnd U o U' L ({ frames := 1, cells := 0, slots := 0, locals := 13 } : Room).cells ({ frames := 1, cells := 0, slots := 0, locals := 13 } : Room).slots) := by
  refine MetFree.of_bodySF (plainFor_of_name pn_com_example_tidewater_tidewater_core_ColumnStorage) hisR ?_
  intro p e s m args below meth c s₁ Bd hml0 hP hK
  obtain ⟨rfl, hZ, hh⟩ := hP
  have hx := Bd.exec
  have hby := Bd.bytes
  have hml : c.maxLocals = 1 := hml0
  have hown : s.vm.findClass "com/example/tidewater/tidewater/core/ColumnStorage" = some m.cls := findClass_of_methodNamed Bd.named
  have hnm := (name_of_methodNamed Bd.named Bd.method).1
  have X0 : Stand p l e ({ frames := 1, cells := 0, slots := 0, locals := 13 } : Room) s m #[(.ref r0)] below meth c s₁ [] 0 0 := Stand.of_body Bd
  have e0 : s₁.heap = h0 := by rw [← hh, Bd.state]; rfl
  have N0 := Fr.nil n0
  have K0 := Keep.refl h0 []
  have pre0 : ∀ t, Steps p.tables e below (s₁.setTop (mkF m 0 #[.val (.ref r0)] [])) t → Steps p.tables e below (s₁.setTop (entryFrame m #[(.ref r0)] 1)) t := fun t k => castTop (ef_rmF4 m r0) k
  obtain ⟨T1, X1, e1, st1⟩ := getS2 X0 hx hZ hown (host := "") (Or.inl (hw _ (List.mem_of_getElem? (i := 12) rfl))) Via.refl e0 S_M (g := (mkF m 0 #[.val (.ref r0)] [])) rfl (hb hby d_prog_24_m4_0)
  obtain ⟨cq2, kq2, q2a, q2b, q2c⟩ := isOf hZ e1 E_0
  obtain ⟨_, _, ⟨T2, L2, k2, n2⟩, -, X2, ⟨Lc2, hQ2, l2, y2, z2⟩, st2⟩ := X1.virtualBackUp hx (x := (⟨"com/example/tidewater/tidewater/core/table/ColumnType", "ordinal", "()I"⟩ : MethodName)) (y := (⟨"java/lang/Enum", "ordinal", "()I"⟩ : MethodName)) hown (mvT hZ (hw _ (List.mem_of_getElem? (i := 15) rfl))) (mvT hZ (hw _ (List.mem_of_getElem? (i := 16) rfl))) (mvT hZ (hw _ (List.mem_of_getElem? (i := 17) rfl))) (by decide) (mvT hZ (hw _ (List.mem_of_getElem? (i := 19) rfl))) (mvT hZ (hw _ (List.mem_of_getElem? (i := 18) rfl))) (backOf (W := 1) (rmE l Z a0 hw [] r0 (4 : Int32) h0 n0 Z0 F) hZ (hw _ (List.mem_of_getElem? (i := 21) rfl)) (hw _ (List.mem_of_getElem? (i := 20) rfl)) (by decide) (by decide)) q2a q2c (g := (mkF m 4 #[.val (.ref r0)] [(.ref r0), (.ref wM)])) rfl (by rw [hml]; rfl) (Steps.refl _) (argsL := []) (rest := [(.ref wM)]) (lenOf pd___I rfl) rfl (by show 2 * 0 + _ ≤ _; exact Nat.le_of_eq rfl) (hb hby d_prog_24_m4_4) (fun _ _ => ⟨rfl, e1, (by decide : 0 + 0 ≤ _), (by decide : 0 + 0 ≤ _)⟩)
  dsimp only [Pt.U, Pt.locs, Pt.cells, Pt.slots] at X2 l2 y2 z2 st2 hQ2
  subst l2 y2 z2
  obtain ⟨rfl, N2q, e2⟩ := hQ2
  have N2 := Fr.app N0 N2q
  obtain ⟨T3, X3, e3, st3⟩ := getS2 X2 hx hZ hown (host := "") (Or.inl (hw _ (List.mem_of_getElem? (i := 47) rfl))) Via.refl e2 S_u (g := (mkF m 82 #[.val (.ref r0)] [])) rfl (hb hby d_prog_24_m4_82)
  obtain ⟨fs, hr, hrun, hended, hW, hsame⟩ := X3.leave (v := some (.ref u)) (fun h => by rw [Bd.returns] at h; cases h)
  refine ⟨_, _, pre0 _ ?_, hrun, hended, _, _, rfl, ?_, ⟨_, rfl⟩, hW, hsame.mono (by decide) (by decide)⟩
  · show Steps p.tables e below (s₁.setTop (mkF m 0 #[.val (.ref r0)] [])) _
    refine st1 _ ?_
    show Steps p.tables e below (T1.setTop (mkF m 3 #[.val (.ref r0)] [(.ref wM)])) _
    refine XS.aloadN X1.here hx rfl (hb hby d_prog_24_m4_3) rfl rfl ?_
    show Steps p.tables e below (T1.setTop (mkF m 4 #[.val (.ref r0)] [(.ref r0), (.ref wM)])) _
    refine st2.trans ?_
    show Steps p.tables e below (T2.setTop (mkF m 7 #[.val (.ref r0)] [(.int (4 : Int32)), (.ref wM)])) _
    refine X2.iaload hx (j := (4 : Int32)) (v := (.int (6 : Int32))) (by rw [e2]; exact A.1) (State.isArrayOf_alike hZ.alike A.2.1) A.2.2 hin hat (g := (mkF m 7 #[.val (.ref r0)] [(.int (4 : Int32)), (.ref wM)])) rfl rfl (hb hby d_prog_24_m4_7) _ ?_
    show Steps p.tables e below (T2.setTop (mkF m 8 #[.val (.ref r0)] [(.int (6 : Int32))])) _
    refine X2.tableswitchIn hx (g := (mkF m 8 #[.val (.ref r0)] [(.int (6 : Int32))])) rfl rfl (hb hby d_prog_24_m4_8) (by decide) (off := 74) (by decide) (by show (0 : Int) ≤ ((8 : Nat) : Int) + 74; decide) _ ?_
    show Steps p.tables e below (T2.setTop (mkF m 82 #[.val (.ref r0)] [])) _
    refine st3 _ ?_
    show Steps p.tables e below (T3.setTop (mkF m 85 #[.val (.ref r0)] [(.ref u)])) _
    jvm_step X3.here [X3.here.top, hx, (hb hby d_prog_24_m4_85), X3.method', Bd.returns, Value.isRef, FieldType.isReference]
    first | (intro acts; rw [hr _ acts rfl rfl rfl]) | rw [hr _ _ rfl rfl rfl]
    exact Steps.refl _
  · show Q_rmF4 Z r0 wM u cl h0 n0 _ T3.heap _
    rw [e3]
    exact ⟨rfl, N2, rfl⟩
theorem ef_rmF5 (m : MethodId) (x0 : Addr) : entryFrame m #[(.ref x0)] 1 = mkF m 0 #[.val (.ref x0)] [] := by first | (simp [entryFrame, mkF, argsToLocals, Value.category]; done) | rfl
def Q_rmF5 (Z : State) (r0 : Addr) (wM u : Addr) (cl : Cell) (h0 : Heap) (n0 : Nat) (v : Option Value) (h : Heap) (L : List Loc) : Prop := v = some (.ref u) ∧ Fr n0 L ∧ h = h0
set_option maxRecDepth 65536 in
set_option maxHeartbeats 40000000 in
theorem rmF5 (l : Launch) (Z : State) (a0 : Array Value) (hw : ∀ d ∈ tables_1, d.before a0 Z = true) (ws : List Jvm.Cond) (r0 : Addr) (wM u : Addr) (cl : Cell) (h0 : Heap) (n0 : Nat) (Z0 : n0 ≤ h0.size) (S_M : Sta Z h0 "com/example/tidewater/tidewater/core/ColumnStorage$1" "$SwitchMap$com$example$tidewater$tidewater$core$table$ColumnType" "[I" (.ref wM)) (S_u : Sta Z h0 "com/example/tidewater/tidewater/core/ColumnStorage" "LONG" "Lcom/example/tidewater/tidewater/core/ColumnStorage;" (.ref u)) (E_0 : Exa Z h0 r0 "com/example/tidewater/tidewater/core/table/ColumnType") (F : Fld Z h0 r0 "java/lang/Enum" "ordinal" "I" (.int (5 : Int32))) (A : Arr Z h0 wM cl .int) (hin : ¬ ((5 : Int32) < 0 ∨ cl.slots.size ≤ (5 : Int32).toNatClampNeg)) (hat : cl.slots[(5 : Int32).toNatClampNeg]? = some (.int (4 : Int32))) :
    MetFree l (⟨"com/example/tidewater/tidewater/core/ColumnStorage", "of", "(Lcom/example/tidewater/tidewater/core/table/ColumnType;)Lcom/example/tidewater/tidewater/core/ColumnStorage;"⟩ : MethodName) (head1 (Jvm.Cond.code (⟨"com/example/tidewater/tidewater/core/ColumnStorage", "of", "(Lcom/example/tidewater/tidewater/core/table/ColumnType;)Lcom/example/tidewater/tidewater/core/ColumnStorage;"⟩ : MethodName) prog_24_method_4_code 1 (some (.object "com/example/tidewater/tidewater/core/ColumnStorage")) :: ws) ({ frames := 1, cells := 0, slots := 0, locals := 13 } : Room)) (fun a U => a = #[(.ref r0)] ∧ Z.Warmed39 U.vm ∧ U.heap = h0) (fun _ _ _ _ _ => True) (fun _ U o U' => ∃ v L, o = .returned v ∧ Q_rmF5 Z r0 wM u cl h0 n0 v U'.heap L ∧ FrameEnd U o U' L ({ frames := 1, cells := 0, slots := 0, locals := 13 } : Room).cells ({ frames := 1, cells := 0, slots := 0, locals := 13 } : Room).slots) := by
  refine MetFree.of_bodySF (plainFor_of_name pn_com_example_tidewater_tidewater_core_ColumnStorage) hisR ?_
  intro p e s m args below meth c s₁ Bd hml0 hP hK
  obtain ⟨rfl, hZ, hh⟩ := hP
  have hx := Bd.exec
  have hby := Bd.bytes
  have hml : c.maxLocals = 1 := hml0
  have hown : s.vm.findClass "com/example/tidewater/tidewater/core/ColumnStorage" = some m.cls := findClass_of_methodNamed Bd.named
  have hnm := (name_of_methodNamed Bd.named Bd.method).1
  have X0 : Stand p l e ({ frames := 1, cells := 0, slots := 0, locals := 13 } : Room) s m #[(.ref r0)] below meth c s₁ [] 0 0 := Stand.of_body Bd
  have e0 : s₁.heap = h0 := by rw [← hh, Bd.state]; rfl
  have N0 := Fr.nil n0
  have K0 := Keep.refl h0 []
  have pre0 : ∀ t, Steps p.tables e below (s₁.setTop (mkF m 0 #[.val (.ref r0)] [])) t → Steps p.tables e below (s₁.setTop (entryFrame m #[(.ref r0)] 1)) t := fun t k => castTop (ef_rmF5 m r0) k
  obtain ⟨T1, X1, e1, st1⟩ := getS2 X0 hx hZ hown (host := "") (Or.inl (hw _ (List.mem_of_getElem? (i := 12) rfl))) Via.refl e0 S_M (g := (mkF m 0 #[.val (.ref r0)] [])) rfl (hb hby d_prog_24_m4_0)
  obtain ⟨cq2, kq2, q2a, q2b, q2c⟩ := isOf hZ e1 E_0
  obtain ⟨_, _, ⟨T2, L2, k2, n2⟩, -, X2, ⟨Lc2, hQ2, l2, y2, z2⟩, st2⟩ := X1.virtualBackUp hx (x := (⟨"com/example/tidewater/tidewater/core/table/ColumnType", "ordinal", "()I"⟩ : MethodName)) (y := (⟨"java/lang/Enum", "ordinal", "()I"⟩ : MethodName)) hown (mvT hZ (hw _ (List.mem_of_getElem? (i := 15) rfl))) (mvT hZ (hw _ (List.mem_of_getElem? (i := 16) rfl))) (mvT hZ (hw _ (List.mem_of_getElem? (i := 17) rfl))) (by decide) (mvT hZ (hw _ (List.mem_of_getElem? (i := 19) rfl))) (mvT hZ (hw _ (List.mem_of_getElem? (i := 18) rfl))) (backOf (W := 1) (rmE l Z a0 hw [] r0 (5 : Int32) h0 n0 Z0 F) hZ (hw _ (List.mem_of_getElem? (i := 21) rfl)) (hw _ (List.mem_of_getElem? (i := 20) rfl)) (by decide) (by decide)) q2a q2c (g := (mkF m 4 #[.val (.ref r0)] [(.ref r0), (.ref wM)])) rfl (by rw [hml]; rfl) (Steps.refl _) (argsL := []) (rest := [(.ref wM)]) (lenOf pd___I rfl) rfl (by show 2 * 0 + _ ≤ _; exact Nat.le_of_eq rfl) (hb hby d_prog_24_m4_4) (fun _ _ => ⟨rfl, e1, (by decide : 0 + 0 ≤ _), (by decide : 0 + 0 ≤ _)⟩)
  dsimp only [Pt.U, Pt.locs, Pt.cells, Pt.slots] at X2 l2 y2 z2 st2 hQ2
  subst l2 y2 z2
  obtain ⟨rfl, N2q, e2⟩ := hQ2
  have N2 := Fr.app N0 N2q
  obtain ⟨T3, X3, e3, st3⟩ := getS2 X2 hx hZ hown (host := "") (Or.inl (hw _ (List.mem_of_getElem? (i := 33) rfl))) Via.refl e2 S_u (g := (mkF m 70 #[.val (.ref r0)] [])) rfl (hb hby d_prog_24_m4_70)
  obtain ⟨fs, hr, hrun, hended, hW, hsame⟩ := X3.leave (v := some (.ref u)) (fun h => by rw [Bd.returns] at h; cases h)
  refine ⟨_, _, pre0 _ ?_, hrun, hended, _, _, rfl, ?_, ⟨_, rfl⟩, hW, hsame.mono (by decide) (by decide)⟩
  · show Steps p.tables e below (s₁.setTop (mkF m 0 #[.val (.ref r0)] [])) _
    refine st1 _ ?_
    show Steps p.tables e below (T1.setTop (mkF m 3 #[.val (.ref r0)] [(.ref wM)])) _
    refine XS.aloadN X1.here hx rfl (hb hby d_prog_24_m4_3) rfl rfl ?_
    show Steps p.tables e below (T1.setTop (mkF m 4 #[.val (.ref r0)] [(.ref r0), (.ref wM)])) _
    refine st2.trans ?_
    show Steps p.tables e below (T2.setTop (mkF m 7 #[.val (.ref r0)] [(.int (5 : Int32)), (.ref wM)])) _
    refine X2.iaload hx (j := (5 : Int32)) (v := (.int (4 : Int32))) (by rw [e2]; exact A.1) (State.isArrayOf_alike hZ.alike A.2.1) A.2.2 hin hat (g := (mkF m 7 #[.val (.ref r0)] [(.int (5 : Int32)), (.ref wM)])) rfl rfl (hb hby d_prog_24_m4_7) _ ?_
    show Steps p.tables e below (T2.setTop (mkF m 8 #[.val (.ref r0)] [(.int (4 : Int32))])) _
    refine X2.tableswitchIn hx (g := (mkF m 8 #[.val (.ref r0)] [(.int (4 : Int32))])) rfl rfl (hb hby d_prog_24_m4_8) (by decide) (off := 62) (by decide) (by show (0 : Int) ≤ ((8 : Nat) : Int) + 62; decide) _ ?_
    show Steps p.tables e below (T2.setTop (mkF m 70 #[.val (.ref r0)] [])) _
    refine st3 _ ?_
    show Steps p.tables e below (T3.setTop (mkF m 73 #[.val (.ref r0)] [(.ref u)])) _
    refine XS.goto X3.here hx rfl (pc0 := 73) (pc' := 85) rfl (hb hby d_prog_24_m4_73) (by decide) (by decide) ?_
    show Steps p.tables e below (T3.setTop (mkF m 85 #[.val (.ref r0)] [(.ref u)])) _
    jvm_step X3.here [X3.here.top, hx, (hb hby d_prog_24_m4_85), X3.method', Bd.returns, Value.isRef, FieldType.isReference]
    first | (intro acts; rw [hr _ acts rfl rfl rfl]) | rw [hr _ _ rfl rfl rfl]
    exact Steps.refl _
  · show Q_rmF5 Z r0 wM u cl h0 n0 _ T3.heap _
    rw [e3]
    exact ⟨rfl, N2, rfl⟩
theorem d_prog_24_m7_0 : decode prog_24_method_7_code 0 = .ok (.aload_n 0, 1) := by decide +kernel
theorem d_prog_24_m7_1 : decode prog_24_method_7_code 1 = .ok (.getstatic 7, 3) := by decide +kernel
theorem d_prog_24_m7_4 : decode prog_24_method_7_code 4 = .ok (.if_acmp .eq 17, 3) := by decide +kernel
theorem d_prog_24_m7_21 : decode prog_24_method_7_code 21 = .ok (.iconst 1, 1) := by decide +kernel
theorem d_prog_24_m7_22 : decode prog_24_method_7_code 22 = .ok (.goto 4, 3) := by decide +kernel
theorem d_prog_24_m7_26 : decode prog_24_method_7_code 26 = .ok (.ireturn, 1) := by decide +kernel
theorem d_prog_24_m7_7 : decode prog_24_method_7_code 7 = .ok (.aload_n 0, 1) := by decide +kernel
theorem d_prog_24_m7_8 : decode prog_24_method_7_code 8 = .ok (.getstatic 10, 3) := by decide +kernel
theorem d_prog_24_m7_11 : decode prog_24_method_7_code 11 = .ok (.if_acmp .eq 10, 3) := by decide +kernel
theorem d_prog_24_m7_14 : decode prog_24_method_7_code 14 = .ok (.aload_n 0, 1) := by decide +kernel
theorem d_prog_24_m7_15 : decode prog_24_method_7_code 15 = .ok (.getstatic 13, 3) := by decide +kernel
theorem d_prog_24_m7_18 : decode prog_24_method_7_code 18 = .ok (.if_acmp .ne 7, 3) := by decide +kernel
theorem d_prog_24_m7_25 : decode prog_24_method_7_code 25 = .ok (.iconst 0, 1) := by decide +kernel
theorem ef_rmD (m : MethodId) (x0 : Addr) : entryFrame m #[(.ref x0)] 1 = mkF m 0 #[.val (.ref x0)] [] := by first | (simp [entryFrame, mkF, argsToLocals, Value.category]; done) | rfl
def Q_rmD (Z : State) (r0 : Addr) (uI uL uD : Addr) (h0 : Heap) (n0 : Nat) (v : Option Value) (h : Heap) (L : List Loc) : Prop := ∃ r : Int32, v = some (.int r) ∧ Fr n0 L ∧ h = h0 ∧ ((r0 = uI ∨ r0 = uL ∨ r0 = uD) → r = 1) ∧ (¬ (r0 = uI ∨ r0 = uL ∨ r0 = uD) → r = 0)
set_option maxRecDepth 65536 in
set_option maxHeartbeats 40000000 in
theorem rmD (l : Launch) (Z : State) (a0 : Array Value) (hw : ∀ d ∈ tables_1, d.before a0 Z = true) (ws : List Jvm.Cond) (r0 : Addr) (uI uL uD : Addr) (h0 : Heap) (n0 : Nat) (Z0 : n0 ≤ h0.size) (S_I : Sta Z h0 "com/example/tidewater/tidewater/core/ColumnStorage" "INT" "Lcom/example/tidewater/tidewater/core/ColumnStorage;" (.ref uI)) (S_L : Sta Z h0 "com/example/tidewater/tidewater/core/ColumnStorage" "LONG" "Lcom/example/tidewater/tidewater/core/ColumnStorage;" (.ref uL)) (S_D : Sta Z h0 "com/example/tidewater/tidewater/core/ColumnStorage" "DOUBLE" "Lcom/example/tidewater/tidewater/core/ColumnStorage;" (.ref uD)) :
    MetFree l (⟨"com/example/tidewater/tidewater/core/ColumnStorage", "ordered", "()Z"⟩ : MethodName) (head1 (Jvm.Cond.code (⟨"com/example/tidewater/tidewater/core/ColumnStorage", "ordered", "()Z"⟩ : MethodName) prog_24_method_7_code 1 (some .boolean) :: ws) ({ frames := 0, cells := 0, slots := 0, locals := 0 } : Room)) (fun a U => a = #[(.ref r0)] ∧ Z.Warmed39 U.vm ∧ U.heap = h0) (fun _ _ _ _ _ => True) (fun _ U o U' => ∃ v L, o = .returned v ∧ Q_rmD Z r0 uI uL uD h0 n0 v U'.heap L ∧ FrameEnd U o U' L ({ frames := 0, cells := 0, slots := 0, locals := 0 } : Room).cells ({ frames := 0, cells := 0, slots := 0, locals := 0 } : Room).slots) := by
  refine MetFree.of_bodySF (plainFor_of_name pn_com_example_tidewater_tidewater_core_ColumnStorage) hisR ?_
  intro p e s m args below meth c s₁ Bd hml0 hP hK
  obtain ⟨rfl, hZ, hh⟩ := hP
  have hx := Bd.exec
  have hby := Bd.bytes
  have hml : c.maxLocals = 1 := hml0
  have hown : s.vm.findClass "com/example/tidewater/tidewater/core/ColumnStorage" = some m.cls := findClass_of_methodNamed Bd.named
  have hnm := (name_of_methodNamed Bd.named Bd.method).1
  have X0 : Stand p l e ({ frames := 0, cells := 0, slots := 0, locals := 0 } : Room) s m #[(.ref r0)] below meth c s₁ [] 0 0 := Stand.of_body Bd
  have e0 : s₁.heap = h0 := by rw [← hh, Bd.state]; rfl
  have N0 := Fr.nil n0
  have K0 := Keep.refl h0 []
  have pre0 : ∀ t, Steps p.tables e below (s₁.setTop (mkF m 0 #[.val (.ref r0)] [])) t → Steps p.tables e below (s₁.setTop (entryFrame m #[(.ref r0)] 1)) t := fun t k => castTop (ef_rmD m r0) k
  obtain ⟨T1, X1, e1, st1⟩ := getS2 X0 hx hZ hown (host := "") (Or.inl (hw _ (List.mem_of_getElem? (i := 31) rfl))) Via.refl e0 S_I (g := (mkF m 1 #[.val (.ref r0)] [(.ref r0)])) rfl (hb hby d_prog_24_m7_1)
  by_cases ha4 : r0 = uI
  · obtain ⟨fs, hr, hrun, hended, hW, hsame⟩ := X1.leave (v := some (.int (1 : Int32))) (fun h => by rw [Bd.returns] at h; cases h)
    refine ⟨_, _, pre0 _ ?_, hrun, hended, _, _, rfl, ?_, ⟨_, rfl⟩, hW, hsame.mono (by decide) (by decide)⟩
    · show Steps p.tables e below (s₁.setTop (mkF m 0 #[.val (.ref r0)] [])) _
      refine XS.aloadN X0.here hx rfl (hb hby d_prog_24_m7_0) rfl rfl ?_
      show Steps p.tables e below (s₁.setTop (mkF m 1 #[.val (.ref r0)] [(.ref r0)])) _
      refine st1 _ ?_
      show Steps p.tables e below (T1.setTop (mkF m 4 #[.val (.ref r0)] [(.ref uI), (.ref r0)])) _
      refine Jvm.RoadKit.acmp (g := (mkF m 4 #[.val (.ref r0)] [(.ref uI), (.ref r0)])) X1 hx rfl rfl rfl (pc0 := 4) (pc' := 21) (same := true) rfl (hb hby d_prog_24_m7_4) rfl (decide_eq_true (congrArg Value.ref ha4)) (by decide) (by decide) ?_
      show Steps p.tables e below (T1.setTop (mkF m 21 #[.val (.ref r0)] [])) _
      refine XS.iconst X1.here hx rfl (hb hby d_prog_24_m7_21) ?_
      show Steps p.tables e below (T1.setTop (mkF m 22 #[.val (.ref r0)] [(.int (1 : Int32))])) _
      refine XS.goto X1.here hx rfl (pc0 := 22) (pc' := 26) rfl (hb hby d_prog_24_m7_22) (by decide) (by decide) ?_
      show Steps p.tables e below (T1.setTop (mkF m 26 #[.val (.ref r0)] [(.int (1 : Int32))])) _
      exact retN X1 hx (t := .boolean) Bd.returns (by simp) (hb hby d_prog_24_m7_26) hr
    · show Q_rmD Z r0 uI uL uD h0 n0 _ T1.heap _
      rw [e1]
      exact ⟨_, rfl, N0, rfl, fun _ => rfl, fun q => absurd (Or.inl ha4) q⟩
  · obtain ⟨T2, X2, e2, st2⟩ := getS2 X1 hx hZ hown (host := "") (Or.inl (hw _ (List.mem_of_getElem? (i := 33) rfl))) Via.refl e1 S_L (g := (mkF m 8 #[.val (.ref r0)] [(.ref r0)])) rfl (hb hby d_prog_24_m7_8)
    by_cases ha11 : r0 = uL
    · obtain ⟨fs, hr, hrun, hended, hW, hsame⟩ := X2.leave (v := some (.int (1 : Int32))) (fun h => by rw [Bd.returns] at h; cases h)
      refine ⟨_, _, pre0 _ ?_, hrun, hended, _, _, rfl, ?_, ⟨_, rfl⟩, hW, hsame.mono (by decide) (by decide)⟩
      · show Steps p.tables e below (s₁.setTop (mkF m 0 #[.val (.ref r0)] [])) _
        refine XS.aloadN X0.here hx rfl (hb hby d_prog_24_m7_0) rfl rfl ?_
        show Steps p.tables e below (s₁.setTop (mkF m 1 #[.val (.ref r0)] [(.ref r0)])) _
        refine st1 _ ?_
        show Steps p.tables e below (T1.setTop (mkF m 4 #[.val (.ref r0)] [(.ref uI), (.ref r0)])) _
        refine Jvm.RoadKit.acmp (g := (mkF m 4 #[.val (.ref r0)] [(.ref uI), (.ref r0)])) X1 hx rfl rfl rfl (pc0 := 4) (pc' := 7) (same := false) rfl (hb hby d_prog_24_m7_4) rfl (decide_eq_false fun q => ha4 (Value.ref.inj q)) (by decide) (by decide) ?_
        show Steps p.tables e below (T1.setTop (mkF m 7 #[.val (.ref r0)] [])) _
        refine XS.aloadN X1.here hx rfl (hb hby d_prog_24_m7_7) rfl rfl ?_
        show Steps p.tables e below (T1.setTop (mkF m 8 #[.val (.ref r0)] [(.ref r0)])) _
        refine st2 _ ?_
        show Steps p.tables e below (T2.setTop (mkF m 11 #[.val (.ref r0)] [(.ref uL), (.ref r0)])) _
        refine Jvm.RoadKit.acmp (g := (mkF m 11 #[.val (.ref r0)] [(.ref uL), (.ref r0)])) X2 hx rfl rfl rfl (pc0 := 11) (pc' := 21) (same := true) rfl (hb hby d_prog_24_m7_11) rfl (decide_eq_true (congrArg Value.ref ha11)) (by decide) (by decide) ?_
        show Steps p.tables e below (T2.setTop (mkF m 21 #[.val (.ref r0)] [])) _
        refine XS.iconst X2.here hx rfl (hb hby d_prog_24_m7_21) ?_
        show Steps p.tables e below (T2.setTop (mkF m 22 #[.val (.ref r0)] [(.int (1 : Int32))])) _
        refine XS.goto X2.here hx rfl (pc0 := 22) (pc' := 26) rfl (hb hby d_prog_24_m7_22) (by decide) (by decide) ?_
        show Steps p.tables e below (T2.setTop (mkF m 26 #[.val (.ref r0)] [(.int (1 : Int32))])) _
        exact retN X2 hx (t := .boolean) Bd.returns (by simp) (hb hby d_prog_24_m7_26) hr
      · show Q_rmD Z r0 uI uL uD h0 n0 _ T2.heap _
        rw [e2]
        exact ⟨_, rfl, N0, rfl, fun _ => rfl, fun q => absurd (Or.inr (Or.inl ha11)) q⟩
    · obtain ⟨T3, X3, e3, st3⟩ := getS2 X2 hx hZ hown (host := "") (Or.inl (hw _ (List.mem_of_getElem? (i := 35) rfl))) Via.refl e2 S_D (g := (mkF m 15 #[.val (.ref r0)] [(.ref r0)])) rfl (hb hby d_prog_24_m7_15)
      by_cases ha18 : r0 = uD
      · obtain ⟨fs, hr, hrun, hended, hW, hsame⟩ := X3.leave (v := some (.int (1 : Int32))) (fun h => by rw [Bd.returns] at h; cases h)
        refine ⟨_, _, pre0 _ ?_, hrun, hended, _, _, rfl, ?_, ⟨_, rfl⟩, hW, hsame.mono (by decide) (by decide)⟩
        · show Steps p.tables e below (s₁.setTop (mkF m 0 #[.val (.ref r0)] [])) _
          refine XS.aloadN X0.here hx rfl (hb hby d_prog_24_m7_0) rfl rfl ?_
          show Steps p.tables e below (s₁.setTop (mkF m 1 #[.val (.ref r0)] [(.ref r0)])) _
          refine st1 _ ?_
          show Steps p.tables e below (T1.setTop (mkF m 4 #[.val (.ref r0)] [(.ref uI), (.ref r0)])) _
          refine Jvm.RoadKit.acmp (g := (mkF m 4 #[.val (.ref r0)] [(.ref uI), (.ref r0)])) X1 hx rfl rfl rfl (pc0 := 4) (pc' := 7) (same := false) rfl (hb hby d_prog_24_m7_4) rfl (decide_eq_false fun q => ha4 (Value.ref.inj q)) (by decide) (by decide) ?_
          show Steps p.tables e below (T1.setTop (mkF m 7 #[.val (.ref r0)] [])) _
          refine XS.aloadN X1.here hx rfl (hb hby d_prog_24_m7_7) rfl rfl ?_
          show Steps p.tables e below (T1.setTop (mkF m 8 #[.val (.ref r0)] [(.ref r0)])) _
          refine st2 _ ?_
          show Steps p.tables e below (T2.setTop (mkF m 11 #[.val (.ref r0)] [(.ref uL), (.ref r0)])) _
          refine Jvm.RoadKit.acmp (g := (mkF m 11 #[.val (.ref r0)] [(.ref uL), (.ref r0)])) X2 hx rfl rfl rfl (pc0 := 11) (pc' := 14) (same := false) rfl (hb hby d_prog_24_m7_11) rfl (decide_eq_false fun q => ha11 (Value.ref.inj q)) (by decide) (by decide) ?_
          show Steps p.tables e below (T2.setTop (mkF m 14 #[.val (.ref r0)] [])) _
          refine XS.aloadN X2.here hx rfl (hb hby d_prog_24_m7_14) rfl rfl ?_
          show Steps p.tables e below (T2.setTop (mkF m 15 #[.val (.ref r0)] [(.ref r0)])) _
          refine st3 _ ?_
          show Steps p.tables e below (T3.setTop (mkF m 18 #[.val (.ref r0)] [(.ref uD), (.ref r0)])) _
          refine Jvm.RoadKit.acmp (g := (mkF m 18 #[.val (.ref r0)] [(.ref uD), (.ref r0)])) X3 hx rfl rfl rfl (pc0 := 18) (pc' := 21) (same := true) rfl (hb hby d_prog_24_m7_18) rfl (decide_eq_true (congrArg Value.ref ha18)) (by decide) (by decide) ?_
          show Steps p.tables e below (T3.setTop (mkF m 21 #[.val (.ref r0)] [])) _
          refine XS.iconst X3.here hx rfl (hb hby d_prog_24_m7_21) ?_
          show Steps p.tables e below (T3.setTop (mkF m 22 #[.val (.ref r0)] [(.int (1 : Int32))])) _
          refine XS.goto X3.here hx rfl (pc0 := 22) (pc' := 26) rfl (hb hby d_prog_24_m7_22) (by decide) (by decide) ?_
          show Steps p.tables e below (T3.setTop (mkF m 26 #[.val (.ref r0)] [(.int (1 : Int32))])) _
          exact retN X3 hx (t := .boolean) Bd.returns (by simp) (hb hby d_prog_24_m7_26) hr
        · show Q_rmD Z r0 uI uL uD h0 n0 _ T3.heap _
          rw [e3]
          exact ⟨_, rfl, N0, rfl, fun _ => rfl, fun q => absurd (Or.inr (Or.inr ha18)) q⟩
      · obtain ⟨fs, hr, hrun, hended, hW, hsame⟩ := X3.leave (v := some (.int (0 : Int32))) (fun h => by rw [Bd.returns] at h; cases h)
        refine ⟨_, _, pre0 _ ?_, hrun, hended, _, _, rfl, ?_, ⟨_, rfl⟩, hW, hsame.mono (by decide) (by decide)⟩
        · show Steps p.tables e below (s₁.setTop (mkF m 0 #[.val (.ref r0)] [])) _
          refine XS.aloadN X0.here hx rfl (hb hby d_prog_24_m7_0) rfl rfl ?_
          show Steps p.tables e below (s₁.setTop (mkF m 1 #[.val (.ref r0)] [(.ref r0)])) _
          refine st1 _ ?_
          show Steps p.tables e below (T1.setTop (mkF m 4 #[.val (.ref r0)] [(.ref uI), (.ref r0)])) _
          refine Jvm.RoadKit.acmp (g := (mkF m 4 #[.val (.ref r0)] [(.ref uI), (.ref r0)])) X1 hx rfl rfl rfl (pc0 := 4) (pc' := 7) (same := false) rfl (hb hby d_prog_24_m7_4) rfl (decide_eq_false fun q => ha4 (Value.ref.inj q)) (by decide) (by decide) ?_
          show Steps p.tables e below (T1.setTop (mkF m 7 #[.val (.ref r0)] [])) _
          refine XS.aloadN X1.here hx rfl (hb hby d_prog_24_m7_7) rfl rfl ?_
          show Steps p.tables e below (T1.setTop (mkF m 8 #[.val (.ref r0)] [(.ref r0)])) _
          refine st2 _ ?_
          show Steps p.tables e below (T2.setTop (mkF m 11 #[.val (.ref r0)] [(.ref uL), (.ref r0)])) _
          refine Jvm.RoadKit.acmp (g := (mkF m 11 #[.val (.ref r0)] [(.ref uL), (.ref r0)])) X2 hx rfl rfl rfl (pc0 := 11) (pc' := 14) (same := false) rfl (hb hby d_prog_24_m7_11) rfl (decide_eq_false fun q => ha11 (Value.ref.inj q)) (by decide) (by decide) ?_
          show Steps p.tables e below (T2.setTop (mkF m 14 #[.val (.ref r0)] [])) _
          refine XS.aloadN X2.here hx rfl (hb hby d_prog_24_m7_14) rfl rfl ?_
          show Steps p.tables e below (T2.setTop (mkF m 15 #[.val (.ref r0)] [(.ref r0)])) _
          refine st3 _ ?_
          show Steps p.tables e below (T3.setTop (mkF m 18 #[.val (.ref r0)] [(.ref uD), (.ref r0)])) _
          refine Jvm.RoadKit.acmp (g := (mkF m 18 #[.val (.ref r0)] [(.ref uD), (.ref r0)])) X3 hx rfl rfl rfl (pc0 := 18) (pc' := 25) (same := false) rfl (hb hby d_prog_24_m7_18) rfl (decide_eq_false fun q => ha18 (Value.ref.inj q)) (by decide) (by decide) ?_
          show Steps p.tables e below (T3.setTop (mkF m 25 #[.val (.ref r0)] [])) _
          refine XS.iconst X3.here hx rfl (hb hby d_prog_24_m7_25) ?_
          show Steps p.tables e below (T3.setTop (mkF m 26 #[.val (.ref r0)] [(.int (0 : Int32))])) _
          exact retN X3 hx (t := .boolean) Bd.returns (by simp) (hb hby d_prog_24_m7_26) hr
        · show Q_rmD Z r0 uI uL uD h0 n0 _ T3.heap _
          rw [e3]
          exact ⟨_, rfl, N0, rfl, fun q => absurd q (fun q => q.elim ha4 (fun q => q.elim ha11 ha18)), fun _ => rfl⟩
theorem pd__I_Lcom_example_tidewater_tidewater_core_table_ColumnType_ : parseMethodDescriptor "(I)Lcom/example/tidewater/tidewater/core/table/ColumnType;" = some ⟨[.int], some (.object "com/example/tidewater/tidewater/core/table/ColumnType")⟩ := by decide +kernel
theorem pd__Lcom_example_tidewater_tidewater_core_table_ColumnType__Lcom_example_tidewater_tidewater_core_ColumnStorage_ : parseMethodDescriptor "(Lcom/example/tidewater/tidewater/core/table/ColumnType;)Lcom/example/tidewater/tidewater/core/ColumnStorage;" = some ⟨[(.object "com/example/tidewater/tidewater/core/table/ColumnType")], some (.object "com/example/tidewater/tidewater/core/ColumnStorage")⟩ := by decide +kernel
theorem pd___Z : parseMethodDescriptor "()Z" = some ⟨[], some .boolean⟩ := by decide +kernel
theorem ef_rm0 (m : MethodId) (x0 : Int32) : entryFrame m #[(.int x0)] maxLocals = mkF m 0 #[.val (.int x0), .unset, .unset, .unset] [] := by first | (simp [entryFrame, mkF, argsToLocals, Value.category, maxLocals]; done) | rfl
def Q_rm0 (Z : State) (p0 : Int32) (tSTRING tINT tLONG tDOUBLE tBOOLEAN tTIMESTAMP uSTRING uINT uLONG uDOUBLE uBOOLEAN wM : Addr) (cl : Cell) (h0 : Heap) (n0 : Nat) (v : Option Value) (h : Heap) (L : List Loc) : Prop := v = some (.int (1 : Int32)) ∧ Fr n0 L
set_option maxRecDepth 65536 in
set_option maxHeartbeats 40000000 in
theorem rm0 (l : Launch) (Z : State) (a0 : Array Value) (hw : ∀ d ∈ tables_1, d.before a0 Z = true) (ws : List Jvm.Cond) (p0 : Int32) (tSTRING tINT tLONG tDOUBLE tBOOLEAN tTIMESTAMP uSTRING uINT uLONG uDOUBLE uBOOLEAN wM : Addr) (cl : Cell) (h0 : Heap) (n0 : Nat) (Z0 : n0 ≤ h0.size) (S_tSTRING : Sta Z h0 "com/example/tidewater/tidewater/core/table/ColumnType" "STRING" "Lcom/example/tidewater/tidewater/core/table/ColumnType;" (.ref tSTRING)) (S_tINT : Sta Z h0 "com/example/tidewater/tidewater/core/table/ColumnType" "INT" "Lcom/example/tidewater/tidewater/core/table/ColumnType;" (.ref tINT)) (S_tLONG : Sta Z h0 "com/example/tidewater/tidewater/core/table/ColumnType" "LONG" "Lcom/example/tidewater/tidewater/core/table/ColumnType;" (.ref tLONG)) (S_tDOUBLE : Sta Z h0 "com/example/tidewater/tidewater/core/table/ColumnType" "DOUBLE" "Lcom/example/tidewater/tidewater/core/table/ColumnType;" (.ref tDOUBLE)) (S_tBOOLEAN : Sta Z h0 "com/example/tidewater/tidewater/core/table/ColumnType" "BOOLEAN" "Lcom/example/tidewater/tidewater/core/table/ColumnType;" (.ref tBOOLEAN)) (S_tTIMESTAMP : Sta Z h0 "com/example/tidewater/tidewater/core/table/ColumnType" "TIMESTAMP" "Lcom/example/tidewater/tidewater/core/table/ColumnType;" (.ref tTIMESTAMP)) (E_tSTRING : Exa Z h0 tSTRING "com/example/tidewater/tidewater/core/table/ColumnType") (F_tSTRING : Fld Z h0 tSTRING "java/lang/Enum" "ordinal" "I" (.int (0 : Int32))) (E_tINT : Exa Z h0 tINT "com/example/tidewater/tidewater/core/table/ColumnType") (F_tINT : Fld Z h0 tINT "java/lang/Enum" "ordinal" "I" (.int (1 : Int32))) (E_tLONG : Exa Z h0 tLONG "com/example/tidewater/tidewater/core/table/ColumnType") (F_tLONG : Fld Z h0 tLONG "java/lang/Enum" "ordinal" "I" (.int (2 : Int32))) (E_tDOUBLE : Exa Z h0 tDOUBLE "com/example/tidewater/tidewater/core/table/ColumnType") (F_tDOUBLE : Fld Z h0 tDOUBLE "java/lang/Enum" "ordinal" "I" (.int (3 : Int32))) (E_tBOOLEAN : Exa Z h0 tBOOLEAN "com/example/tidewater/tidewater/core/table/ColumnType") (F_tBOOLEAN : Fld Z h0 tBOOLEAN "java/lang/Enum" "ordinal" "I" (.int (4 : Int32))) (E_tTIMESTAMP : Exa Z h0 tTIMESTAMP "com/example/tidewater/tidewater/core/table/ColumnType") (F_tTIMESTAMP : Fld Z h0 tTIMESTAMP "java/lang/Enum" "ordinal" "I" (.int (5 : Int32))) (S_uSTRING : Sta Z h0 "com/example/tidewater/tidewater/core/ColumnStorage" "STRING" "Lcom/example/tidewater/tidewater/core/ColumnStorage;" (.ref uSTRING)) (E_uSTRING : Exa Z h0 uSTRING "com/example/tidewater/tidewater/core/ColumnStorage") (S_uINT : Sta Z h0 "com/example/tidewater/tidewater/core/ColumnStorage" "INT" "Lcom/example/tidewater/tidewater/core/ColumnStorage;" (.ref uINT)) (E_uINT : Exa Z h0 uINT "com/example/tidewater/tidewater/core/ColumnStorage") (S_uLONG : Sta Z h0 "com/example/tidewater/tidewater/core/ColumnStorage" "LONG" "Lcom/example/tidewater/tidewater/core/ColumnStorage;" (.ref uLONG)) (E_uLONG : Exa Z h0 uLONG "com/example/tidewater/tidewater/core/ColumnStorage") (S_uDOUBLE : Sta Z h0 "com/example/tidewater/tidewater/core/ColumnStorage" "DOUBLE" "Lcom/example/tidewater/tidewater/core/ColumnStorage;" (.ref uDOUBLE)) (E_uDOUBLE : Exa Z h0 uDOUBLE "com/example/tidewater/tidewater/core/ColumnStorage") (S_uBOOLEAN : Sta Z h0 "com/example/tidewater/tidewater/core/ColumnStorage" "BOOLEAN" "Lcom/example/tidewater/tidewater/core/ColumnStorage;" (.ref uBOOLEAN)) (E_uBOOLEAN : Exa Z h0 uBOOLEAN "com/example/tidewater/tidewater/core/ColumnStorage") (S_M : Sta Z h0 "com/example/tidewater/tidewater/core/ColumnStorage$1" "$SwitchMap$com$example$tidewater$tidewater$core$table$ColumnType" "[I" (.ref wM)) (A : Arr Z h0 wM cl .int) (hin0 : ¬ ((0 : Int32) < 0 ∨ cl.slots.size ≤ (0 : Int32).toNatClampNeg)) (hat0 : cl.slots[(0 : Int32).toNatClampNeg]? = some (.int (1 : Int32))) (hin1 : ¬ ((1 : Int32) < 0 ∨ cl.slots.size ≤ (1 : Int32).toNatClampNeg)) (hat1 : cl.slots[(1 : Int32).toNatClampNeg]? = some (.int (2 : Int32))) (hin2 : ¬ ((2 : Int32) < 0 ∨ cl.slots.size ≤ (2 : Int32).toNatClampNeg)) (hat2 : cl.slots[(2 : Int32).toNatClampNeg]? = some (.int (3 : Int32))) (hin3 : ¬ ((3 : Int32) < 0 ∨ cl.slots.size ≤ (3 : Int32).toNatClampNeg)) (hat3 : cl.slots[(3 : Int32).toNatClampNeg]? = some (.int (5 : Int32))) (hin4 : ¬ ((4 : Int32) < 0 ∨ cl.slots.size ≤ (4 : Int32).toNatClampNeg)) (hat4 : cl.slots[(4 : Int32).toNatClampNeg]? = some (.int (6 : Int32))) (hin5 : ¬ ((5 : Int32) < 0 ∨ cl.slots.size ≤ (5 : Int32).toNatClampNeg)) (hat5 : cl.slots[(5 : Int32).toNatClampNeg]? = some (.int (4 : Int32))) (neSTRINGINT : ¬ (uSTRING = uINT)) (neSTRINGLONG : ¬ (uSTRING = uLONG)) (neSTRINGDOUBLE : ¬ (uSTRING = uDOUBLE)) (neBOOLEANINT : ¬ (uBOOLEAN = uINT)) (neBOOLEANLONG : ¬ (uBOOLEAN = uLONG)) (neBOOLEANDOUBLE : ¬ (uBOOLEAN = uDOUBLE)) :
    MetFree l x (head1 (Jvm.Cond.code x code maxLocals ret :: ws) room_1) (fun a U => a = #[(.int p0)] ∧ Z.Warmed39 U.vm ∧ U.heap = h0) (fun _ _ _ _ _ => True) (fun _ U o U' => ∃ v L, o = .returned v ∧ Q_rm0 Z p0 tSTRING tINT tLONG tDOUBLE tBOOLEAN tTIMESTAMP uSTRING uINT uLONG uDOUBLE uBOOLEAN wM cl h0 n0 v U'.heap L ∧ FrameEnd U o U' L room_1.cells room_1.slots) := by
  refine MetFree.of_bodySF (plainFor_of_name pn_com_example_tidewater_tidewater_core_ColumnStorageOrderedPinLaw) hisR ?_
  intro p e s m args below meth c s₁ Bd hml0 hP hK
  obtain ⟨rfl, hZ, hh⟩ := hP
  have hx := Bd.exec
  have hby := Bd.bytes
  have hml : c.maxLocals = 4 := hml0
  have hown : s.vm.findClass "com/example/tidewater/tidewater/core/ColumnStorageOrderedPinLaw" = some m.cls := findClass_of_methodNamed Bd.named
  have hnm := (name_of_methodNamed Bd.named Bd.method).1
  have X0 : Stand p l e room_1 s m #[(.int p0)] below meth c s₁ [] 0 0 := Stand.of_body Bd
  have e0 : s₁.heap = h0 := by rw [← hh, Bd.state]; rfl
  have N0 := Fr.nil n0
  have K0 := Keep.refl h0 []
  have pre0 : ∀ t, Steps p.tables e below (s₁.setTop (mkF m 0 #[.val (.int p0), .unset, .unset, .unset] [])) t → Steps p.tables e below (s₁.setTop (entryFrame m #[(.int p0)] maxLocals)) t := fun t k => castTop (ef_rm0 m p0) k
  rcases own_six p0 with hk | hk | hk | hk | hk | hk
  · obtain ⟨_, _, ⟨T1, L1, k1, n1⟩, -, X1, ⟨Lc1, hQ1, l1, y1, z1⟩, st1⟩ := Jvm.LawKit.callS X0 hx (y := (⟨"com/example/tidewater/tidewater/core/ColumnStorageOrderedPinLaw", "pick", "(I)Lcom/example/tidewater/tidewater/core/table/ColumnType;"⟩ : MethodName)) hown (mvT hZ (hw _ (List.mem_of_getElem? (i := 1) rfl))) (mvT hZ (hw _ (List.mem_of_getElem? (i := 2) rfl))) (mvT hZ (hw _ (List.mem_of_getElem? (i := 3) rfl))) (mvT hZ (hw _ (List.mem_of_getElem? (i := 4) rfl))) (by decide) (backOf (W := 0) (rmP l Z a0 hw [] ((p0 &&& (2147483647 : Int32)) % (6 : Int32)) tSTRING tINT tLONG tDOUBLE tBOOLEAN tTIMESTAMP h0 n0 Z0 S_tSTRING S_tINT S_tLONG S_tDOUBLE S_tBOOLEAN S_tTIMESTAMP) hZ (hw _ (List.mem_of_getElem? (i := 4) rfl)) (hw _ (List.mem_of_getElem? (i := 3) rfl)) (by decide) (by decide)) (g := (mkF m 9 #[.val (.int p0), .val (.int ((p0 &&& (2147483647 : Int32)) % (6 : Int32))), .unset, .unset] [(.int ((p0 &&& (2147483647 : Int32)) % (6 : Int32)))])) rfl (by rw [hml]; rfl) (argsL := [(.int ((p0 &&& (2147483647 : Int32)) % (6 : Int32)))]) (rest := []) (lenOf pd__I_Lcom_example_tidewater_tidewater_core_table_ColumnType_ rfl) rfl (by show 2 * 0 + _ ≤ _; exact Nat.le_of_eq rfl) (hb hby at_9) (fun _ _ => ⟨rfl, e0, (by decide : 0 + 0 ≤ _), (by decide : 0 + 0 ≤ _)⟩)
    dsimp only [Pt.U, Pt.locs, Pt.cells, Pt.slots] at X1 l1 y1 z1 st1 hQ1
    subst l1 y1 z1
    obtain ⟨w, rfl, N1q, e1, k0, k1, k2, k3, k4, k5⟩ := hQ1
    have N1 := Fr.app N0 N1q
    obtain rfl := k0 hk
    obtain ⟨_, _, ⟨T2, L2, k2, n2⟩, -, X2, ⟨Lc2, hQ2, l2, y2, z2⟩, st2⟩ := Jvm.LawKit.callS X1 hx (y := (⟨"com/example/tidewater/tidewater/core/ColumnStorage", "of", "(Lcom/example/tidewater/tidewater/core/table/ColumnType;)Lcom/example/tidewater/tidewater/core/ColumnStorage;"⟩ : MethodName)) hown (mvT hZ (hw _ (List.mem_of_getElem? (i := 8) rfl))) (mvT hZ (hw _ (List.mem_of_getElem? (i := 9) rfl))) (mvT hZ (hw _ (List.mem_of_getElem? (i := 10) rfl))) (mvT hZ (hw _ (List.mem_of_getElem? (i := 11) rfl))) (by decide) (backOf (W := 0) (rmF0 l Z a0 hw [] tSTRING wM uSTRING cl h0 n0 Z0 S_M S_uSTRING E_tSTRING F_tSTRING A hin0 hat0) hZ (hw _ (List.mem_of_getElem? (i := 11) rfl)) (hw _ (List.mem_of_getElem? (i := 10) rfl)) (by decide) (by decide)) (g := (mkF m 40 #[.val (.int p0), .val (.int ((p0 &&& (2147483647 : Int32)) % (6 : Int32))), .val (.ref tSTRING), .val (.int (0 : Int32))] [(.ref tSTRING)])) rfl (by rw [hml]; rfl) (argsL := [(.ref tSTRING)]) (rest := []) (lenOf pd__Lcom_example_tidewater_tidewater_core_table_ColumnType__Lcom_example_tidewater_tidewater_core_ColumnStorage_ rfl) rfl (by show 2 * 0 + _ ≤ _; exact Nat.le_of_eq rfl) (hb hby at_40) (fun _ _ => ⟨rfl, e1, (by decide : 0 + 0 ≤ _), (by decide : 0 + 0 ≤ _)⟩)
    dsimp only [Pt.U, Pt.locs, Pt.cells, Pt.slots] at X2 l2 y2 z2 st2 hQ2
    subst l2 y2 z2
    obtain ⟨rfl, N2q, e2⟩ := hQ2
    have N2 := Fr.app N1 N2q
    obtain ⟨cq3, kq3, q3a, q3b, q3c⟩ := isOf hZ e2 E_uSTRING
    obtain ⟨_, _, ⟨T3, L3, k3, n3⟩, -, X3, ⟨Lc3, hQ3, l3, y3, z3⟩, st3⟩ := X2.virtualBack hx (y := (⟨"com/example/tidewater/tidewater/core/ColumnStorage", "ordered", "()Z"⟩ : MethodName)) (z := (⟨"com/example/tidewater/tidewater/core/ColumnStorage", "ordered", "()Z"⟩ : MethodName)) hown (mvT hZ (hw _ (List.mem_of_getElem? (i := 26) rfl))) (mvT hZ (hw _ (List.mem_of_getElem? (i := 27) rfl))) (notFace_of_selects (args := #[]) (mvT hZ (hw _ (List.mem_of_getElem? (i := 29) rfl)))) (mvT hZ (hw _ (List.mem_of_getElem? (i := 29) rfl))) (mvT hZ (hw _ (List.mem_of_getElem? (i := 28) rfl))) (by decide) (backOf (W := 0) (rmD l Z a0 hw [] uSTRING uINT uLONG uDOUBLE h0 n0 Z0 S_uINT S_uLONG S_uDOUBLE) hZ (hw _ (List.mem_of_getElem? (i := 30) rfl)) (hw _ (List.mem_of_getElem? (i := 10) rfl)) (by decide) (by decide)) q3a q3c (g := (mkF m 43 #[.val (.int p0), .val (.int ((p0 &&& (2147483647 : Int32)) % (6 : Int32))), .val (.ref tSTRING), .val (.int (0 : Int32))] [(.ref uSTRING)])) rfl (by rw [hml]; rfl) (Steps.refl _) (argsL := []) (rest := []) (lenOf pd___Z rfl) rfl (by show 2 * 0 + _ ≤ _; exact Nat.le_of_eq rfl) (hb hby at_43) (fun _ _ => ⟨rfl, e2, (by decide : 0 + 0 ≤ _), (by decide : 0 + 0 ≤ _)⟩)
    dsimp only [Pt.U, Pt.locs, Pt.cells, Pt.slots] at X3 l3 y3 z3 st3 hQ3
    subst l3 y3 z3
    obtain ⟨r, rfl, N3q, e3, hy, hn⟩ := hQ3
    have N3 := Fr.app N2 N3q
    obtain ⟨fs, hr, hrun, hended, hW, hsame⟩ := X3.leave (v := some (.int (1 : Int32))) (fun h => by rw [Bd.returns] at h; cases h)
    refine ⟨_, _, pre0 _ ?_, hrun, hended, _, _, rfl, ?_, ⟨_, rfl⟩, hW, hsame.mono (by decide) (by decide)⟩
    · show Steps p.tables e below (s₁.setTop (mkF m 0 #[.val (.int p0), .unset, .unset, .unset] [])) _
      refine XS.iloadN X0.here hx rfl (hb hby at_0) rfl ?_
      show Steps p.tables e below (s₁.setTop (mkF m 1 #[.val (.int p0), .unset, .unset, .unset] [(.int p0)])) _
      refine X0.ldcInt hx hown (mvT hZ (hw _ (List.mem_of_getElem? (i := 0) rfl))) (g := (mkF m 1 #[.val (.int p0), .unset, .unset, .unset] [(.int p0)])) rfl (hb hby at_1) _ ?_
      show Steps p.tables e below (s₁.setTop (mkF m 3 #[.val (.int p0), .unset, .unset, .unset] [(.int (2147483647 : Int32)), (.int p0)])) _
      refine XS.iand X0.here hx rfl (hb hby at_3) rfl ?_
      show Steps p.tables e below (s₁.setTop (mkF m 4 #[.val (.int p0), .unset, .unset, .unset] [(.int (p0 &&& (2147483647 : Int32)))])) _
      refine XS.bipush X0.here hx rfl (hb hby at_4) ?_
      show Steps p.tables e below (s₁.setTop (mkF m 6 #[.val (.int p0), .unset, .unset, .unset] [(.int (6 : Int32)), (.int (p0 &&& (2147483647 : Int32)))])) _
      refine iremM X0 hx (g := (mkF m 6 #[.val (.int p0), .unset, .unset, .unset] [(.int (6 : Int32)), (.int (p0 &&& (2147483647 : Int32)))])) rfl (hb hby at_6) rfl (by decide) ?_
      show Steps p.tables e below (s₁.setTop (mkF m 7 #[.val (.int p0), .unset, .unset, .unset] [(.int ((p0 &&& (2147483647 : Int32)) % (6 : Int32)))])) _
      refine XS.istoreN X0.here hx rfl (hb hby at_7) rfl (l' := #[.val (.int p0), .val (.int ((p0 &&& (2147483647 : Int32)) % (6 : Int32))), .unset, .unset]) rfl ?_
      show Steps p.tables e below (s₁.setTop (mkF m 8 #[.val (.int p0), .val (.int ((p0 &&& (2147483647 : Int32)) % (6 : Int32))), .unset, .unset] [])) _
      refine XS.iloadN X0.here hx rfl (hb hby at_8) rfl ?_
      show Steps p.tables e below (s₁.setTop (mkF m 9 #[.val (.int p0), .val (.int ((p0 &&& (2147483647 : Int32)) % (6 : Int32))), .unset, .unset] [(.int ((p0 &&& (2147483647 : Int32)) % (6 : Int32)))])) _
      refine st1 _ ?_
      show Steps p.tables e below (T1.setTop (mkF m 12 #[.val (.int p0), .val (.int ((p0 &&& (2147483647 : Int32)) % (6 : Int32))), .unset, .unset] [(.ref tSTRING)])) _
      refine XS.astoreN X1.here hx rfl (hb hby at_12) rfl rfl (l' := #[.val (.int p0), .val (.int ((p0 &&& (2147483647 : Int32)) % (6 : Int32))), .val (.ref tSTRING), .unset]) rfl ?_
      show Steps p.tables e below (T1.setTop (mkF m 13 #[.val (.int p0), .val (.int ((p0 &&& (2147483647 : Int32)) % (6 : Int32))), .val (.ref tSTRING), .unset] [])) _
      refine XS.iloadN X1.here hx rfl (hb hby at_13) rfl ?_
      show Steps p.tables e below (T1.setTop (mkF m 14 #[.val (.int p0), .val (.int ((p0 &&& (2147483647 : Int32)) % (6 : Int32))), .val (.ref tSTRING), .unset] [(.int ((p0 &&& (2147483647 : Int32)) % (6 : Int32)))])) _
      refine XS.iconst X1.here hx rfl (hb hby at_14) ?_
      show Steps p.tables e below (T1.setTop (mkF m 15 #[.val (.int p0), .val (.int ((p0 &&& (2147483647 : Int32)) % (6 : Int32))), .val (.ref tSTRING), .unset] [(.int (1 : Int32)), (.int ((p0 &&& (2147483647 : Int32)) % (6 : Int32)))])) _
      refine XS.icmpNo X1.here hx rfl (hb hby at_15) rfl (feq (fun q => absurd (hk.symm.trans q) (by decide))).1 ?_
      show Steps p.tables e below (T1.setTop (mkF m 18 #[.val (.int p0), .val (.int ((p0 &&& (2147483647 : Int32)) % (6 : Int32))), .val (.ref tSTRING), .unset] [])) _
      refine XS.iloadN X1.here hx rfl (hb hby at_18) rfl ?_
      show Steps p.tables e below (T1.setTop (mkF m 19 #[.val (.int p0), .val (.int ((p0 &&& (2147483647 : Int32)) % (6 : Int32))), .val (.ref tSTRING), .unset] [(.int ((p0 &&& (2147483647 : Int32)) % (6 : Int32)))])) _
      refine XS.iconst X1.here hx rfl (hb hby at_19) ?_
      show Steps p.tables e below (T1.setTop (mkF m 20 #[.val (.int p0), .val (.int ((p0 &&& (2147483647 : Int32)) % (6 : Int32))), .val (.ref tSTRING), .unset] [(.int (2 : Int32)), (.int ((p0 &&& (2147483647 : Int32)) % (6 : Int32)))])) _
      refine XS.icmpNo X1.here hx rfl (hb hby at_20) rfl (feq (fun q => absurd (hk.symm.trans q) (by decide))).1 ?_
      show Steps p.tables e below (T1.setTop (mkF m 23 #[.val (.int p0), .val (.int ((p0 &&& (2147483647 : Int32)) % (6 : Int32))), .val (.ref tSTRING), .unset] [])) _
      refine XS.iloadN X1.here hx rfl (hb hby at_23) rfl ?_
      show Steps p.tables e below (T1.setTop (mkF m 24 #[.val (.int p0), .val (.int ((p0 &&& (2147483647 : Int32)) % (6 : Int32))), .val (.ref tSTRING), .unset] [(.int ((p0 &&& (2147483647 : Int32)) % (6 : Int32)))])) _
      refine XS.iconst X1.here hx rfl (hb hby at_24) ?_
      show Steps p.tables e below (T1.setTop (mkF m 25 #[.val (.int p0), .val (.int ((p0 &&& (2147483647 : Int32)) % (6 : Int32))), .val (.ref tSTRING), .unset] [(.int (3 : Int32)), (.int ((p0 &&& (2147483647 : Int32)) % (6 : Int32)))])) _
      refine XS.icmpNo X1.here hx rfl (hb hby at_25) rfl (feq (fun q => absurd (hk.symm.trans q) (by decide))).1 ?_
      show Steps p.tables e below (T1.setTop (mkF m 28 #[.val (.int p0), .val (.int ((p0 &&& (2147483647 : Int32)) % (6 : Int32))), .val (.ref tSTRING), .unset] [])) _
      refine XS.iloadN X1.here hx rfl (hb hby at_28) rfl ?_
      show Steps p.tables e below (T1.setTop (mkF m 29 #[.val (.int p0), .val (.int ((p0 &&& (2147483647 : Int32)) % (6 : Int32))), .val (.ref tSTRING), .unset] [(.int ((p0 &&& (2147483647 : Int32)) % (6 : Int32)))])) _
      refine XS.iconst X1.here hx rfl (hb hby at_29) ?_
      show Steps p.tables e below (T1.setTop (mkF m 30 #[.val (.int p0), .val (.int ((p0 &&& (2147483647 : Int32)) % (6 : Int32))), .val (.ref tSTRING), .unset] [(.int (5 : Int32)), (.int ((p0 &&& (2147483647 : Int32)) % (6 : Int32)))])) _
      refine XS.icmpYes X1.here hx rfl (pc0 := 30) (pc' := 37) rfl (hb hby at_30) rfl (feq (fun q => absurd (hk.symm.trans q) (by decide))).2 (by decide) (by decide) ?_
      show Steps p.tables e below (T1.setTop (mkF m 37 #[.val (.int p0), .val (.int ((p0 &&& (2147483647 : Int32)) % (6 : Int32))), .val (.ref tSTRING), .unset] [])) _
      refine XS.iconst X1.here hx rfl (hb hby at_37) ?_
      show Steps p.tables e below (T1.setTop (mkF m 38 #[.val (.int p0), .val (.int ((p0 &&& (2147483647 : Int32)) % (6 : Int32))), .val (.ref tSTRING), .unset] [(.int (0 : Int32))])) _
      refine XS.istoreN X1.here hx rfl (hb hby at_38) rfl (l' := #[.val (.int p0), .val (.int ((p0 &&& (2147483647 : Int32)) % (6 : Int32))), .val (.ref tSTRING), .val (.int (0 : Int32))]) rfl ?_
      show Steps p.tables e below (T1.setTop (mkF m 39 #[.val (.int p0), .val (.int ((p0 &&& (2147483647 : Int32)) % (6 : Int32))), .val (.ref tSTRING), .val (.int (0 : Int32))] [])) _
      refine XS.aloadN X1.here hx rfl (hb hby at_39) rfl rfl ?_
      show Steps p.tables e below (T1.setTop (mkF m 40 #[.val (.int p0), .val (.int ((p0 &&& (2147483647 : Int32)) % (6 : Int32))), .val (.ref tSTRING), .val (.int (0 : Int32))] [(.ref tSTRING)])) _
      refine st2 _ ?_
      show Steps p.tables e below (T2.setTop (mkF m 43 #[.val (.int p0), .val (.int ((p0 &&& (2147483647 : Int32)) % (6 : Int32))), .val (.ref tSTRING), .val (.int (0 : Int32))] [(.ref uSTRING)])) _
      refine st3.trans ?_
      show Steps p.tables e below (T3.setTop (mkF m 46 #[.val (.int p0), .val (.int ((p0 &&& (2147483647 : Int32)) % (6 : Int32))), .val (.ref tSTRING), .val (.int (0 : Int32))] [(.int r)])) _
      refine XS.iloadN X3.here hx rfl (hb hby at_46) rfl ?_
      show Steps p.tables e below (T3.setTop (mkF m 47 #[.val (.int p0), .val (.int ((p0 &&& (2147483647 : Int32)) % (6 : Int32))), .val (.ref tSTRING), .val (.int (0 : Int32))] [(.int (0 : Int32)), (.int r)])) _
      refine XS.icmpNo X3.here hx rfl (hb hby at_47) rfl (teq (hn (fun q => q.elim neSTRINGINT (fun q => q.elim neSTRINGLONG neSTRINGDOUBLE)))).2 ?_
      show Steps p.tables e below (T3.setTop (mkF m 50 #[.val (.int p0), .val (.int ((p0 &&& (2147483647 : Int32)) % (6 : Int32))), .val (.ref tSTRING), .val (.int (0 : Int32))] [])) _
      refine XS.iconst X3.here hx rfl (hb hby at_50) ?_
      show Steps p.tables e below (T3.setTop (mkF m 51 #[.val (.int p0), .val (.int ((p0 &&& (2147483647 : Int32)) % (6 : Int32))), .val (.ref tSTRING), .val (.int (0 : Int32))] [(.int (1 : Int32))])) _
      refine XS.goto X3.here hx rfl (pc0 := 51) (pc' := 55) rfl (hb hby at_51) (by decide) (by decide) ?_
      show Steps p.tables e below (T3.setTop (mkF m 55 #[.val (.int p0), .val (.int ((p0 &&& (2147483647 : Int32)) % (6 : Int32))), .val (.ref tSTRING), .val (.int (0 : Int32))] [(.int (1 : Int32))])) _
      exact retN X3 hx (t := .boolean) Bd.returns (by simp) (hb hby at_55) hr
    · show Q_rm0 Z p0 tSTRING tINT tLONG tDOUBLE tBOOLEAN tTIMESTAMP uSTRING uINT uLONG uDOUBLE uBOOLEAN wM cl h0 n0 _ T3.heap _
      rw [e3]
      exact ⟨rfl, N3⟩
  · obtain ⟨_, _, ⟨T4, L4, k4, n4⟩, -, X4, ⟨Lc4, hQ4, l4, y4, z4⟩, st4⟩ := Jvm.LawKit.callS X0 hx (y := (⟨"com/example/tidewater/tidewater/core/ColumnStorageOrderedPinLaw", "pick", "(I)Lcom/example/tidewater/tidewater/core/table/ColumnType;"⟩ : MethodName)) hown (mvT hZ (hw _ (List.mem_of_getElem? (i := 1) rfl))) (mvT hZ (hw _ (List.mem_of_getElem? (i := 2) rfl))) (mvT hZ (hw _ (List.mem_of_getElem? (i := 3) rfl))) (mvT hZ (hw _ (List.mem_of_getElem? (i := 4) rfl))) (by decide) (backOf (W := 0) (rmP l Z a0 hw [] ((p0 &&& (2147483647 : Int32)) % (6 : Int32)) tSTRING tINT tLONG tDOUBLE tBOOLEAN tTIMESTAMP h0 n0 Z0 S_tSTRING S_tINT S_tLONG S_tDOUBLE S_tBOOLEAN S_tTIMESTAMP) hZ (hw _ (List.mem_of_getElem? (i := 4) rfl)) (hw _ (List.mem_of_getElem? (i := 3) rfl)) (by decide) (by decide)) (g := (mkF m 9 #[.val (.int p0), .val (.int ((p0 &&& (2147483647 : Int32)) % (6 : Int32))), .unset, .unset] [(.int ((p0 &&& (2147483647 : Int32)) % (6 : Int32)))])) rfl (by rw [hml]; rfl) (argsL := [(.int ((p0 &&& (2147483647 : Int32)) % (6 : Int32)))]) (rest := []) (lenOf pd__I_Lcom_example_tidewater_tidewater_core_table_ColumnType_ rfl) rfl (by show 2 * 0 + _ ≤ _; exact Nat.le_of_eq rfl) (hb hby at_9) (fun _ _ => ⟨rfl, e0, (by decide : 0 + 0 ≤ _), (by decide : 0 + 0 ≤ _)⟩)
    dsimp only [Pt.U, Pt.locs, Pt.cells, Pt.slots] at X4 l4 y4 z4 st4 hQ4
    subst l4 y4 z4
    obtain ⟨w, rfl, N4q, e4, k0, k1, k2, k3, k4, k5⟩ := hQ4
    have N4 := Fr.app N0 N4q
    obtain rfl := k1 hk
    obtain ⟨_, _, ⟨T5, L5, k5, n5⟩, -, X5, ⟨Lc5, hQ5, l5, y5, z5⟩, st5⟩ := Jvm.LawKit.callS X4 hx (y := (⟨"com/example/tidewater/tidewater/core/ColumnStorage", "of", "(Lcom/example/tidewater/tidewater/core/table/ColumnType;)Lcom/example/tidewater/tidewater/core/ColumnStorage;"⟩ : MethodName)) hown (mvT hZ (hw _ (List.mem_of_getElem? (i := 8) rfl))) (mvT hZ (hw _ (List.mem_of_getElem? (i := 9) rfl))) (mvT hZ (hw _ (List.mem_of_getElem? (i := 10) rfl))) (mvT hZ (hw _ (List.mem_of_getElem? (i := 11) rfl))) (by decide) (backOf (W := 0) (rmF1 l Z a0 hw [] tINT wM uINT cl h0 n0 Z0 S_M S_uINT E_tINT F_tINT A hin1 hat1) hZ (hw _ (List.mem_of_getElem? (i := 11) rfl)) (hw _ (List.mem_of_getElem? (i := 10) rfl)) (by decide) (by decide)) (g := (mkF m 40 #[.val (.int p0), .val (.int ((p0 &&& (2147483647 : Int32)) % (6 : Int32))), .val (.ref tINT), .val (.int (1 : Int32))] [(.ref tINT)])) rfl (by rw [hml]; rfl) (argsL := [(.ref tINT)]) (rest := []) (lenOf pd__Lcom_example_tidewater_tidewater_core_table_ColumnType__Lcom_example_tidewater_tidewater_core_ColumnStorage_ rfl) rfl (by show 2 * 0 + _ ≤ _; exact Nat.le_of_eq rfl) (hb hby at_40) (fun _ _ => ⟨rfl, e4, (by decide : 0 + 0 ≤ _), (by decide : 0 + 0 ≤ _)⟩)
    dsimp only [Pt.U, Pt.locs, Pt.cells, Pt.slots] at X5 l5 y5 z5 st5 hQ5
    subst l5 y5 z5
    obtain ⟨rfl, N5q, e5⟩ := hQ5
    have N5 := Fr.app N4 N5q
    obtain ⟨cq6, kq6, q6a, q6b, q6c⟩ := isOf hZ e5 E_uINT
    obtain ⟨_, _, ⟨T6, L6, k6, n6⟩, -, X6, ⟨Lc6, hQ6, l6, y6, z6⟩, st6⟩ := X5.virtualBack hx (y := (⟨"com/example/tidewater/tidewater/core/ColumnStorage", "ordered", "()Z"⟩ : MethodName)) (z := (⟨"com/example/tidewater/tidewater/core/ColumnStorage", "ordered", "()Z"⟩ : MethodName)) hown (mvT hZ (hw _ (List.mem_of_getElem? (i := 26) rfl))) (mvT hZ (hw _ (List.mem_of_getElem? (i := 27) rfl))) (notFace_of_selects (args := #[]) (mvT hZ (hw _ (List.mem_of_getElem? (i := 29) rfl)))) (mvT hZ (hw _ (List.mem_of_getElem? (i := 29) rfl))) (mvT hZ (hw _ (List.mem_of_getElem? (i := 28) rfl))) (by decide) (backOf (W := 0) (rmD l Z a0 hw [] uINT uINT uLONG uDOUBLE h0 n0 Z0 S_uINT S_uLONG S_uDOUBLE) hZ (hw _ (List.mem_of_getElem? (i := 30) rfl)) (hw _ (List.mem_of_getElem? (i := 10) rfl)) (by decide) (by decide)) q6a q6c (g := (mkF m 43 #[.val (.int p0), .val (.int ((p0 &&& (2147483647 : Int32)) % (6 : Int32))), .val (.ref tINT), .val (.int (1 : Int32))] [(.ref uINT)])) rfl (by rw [hml]; rfl) (Steps.refl _) (argsL := []) (rest := []) (lenOf pd___Z rfl) rfl (by show 2 * 0 + _ ≤ _; exact Nat.le_of_eq rfl) (hb hby at_43) (fun _ _ => ⟨rfl, e5, (by decide : 0 + 0 ≤ _), (by decide : 0 + 0 ≤ _)⟩)
    dsimp only [Pt.U, Pt.locs, Pt.cells, Pt.slots] at X6 l6 y6 z6 st6 hQ6
    subst l6 y6 z6
    obtain ⟨r, rfl, N6q, e6, hy, hn⟩ := hQ6
    have N6 := Fr.app N5 N6q
    obtain ⟨fs, hr, hrun, hended, hW, hsame⟩ := X6.leave (v := some (.int (1 : Int32))) (fun h => by rw [Bd.returns] at h; cases h)
    refine ⟨_, _, pre0 _ ?_, hrun, hended, _, _, rfl, ?_, ⟨_, rfl⟩, hW, hsame.mono (by decide) (by decide)⟩
    · show Steps p.tables e below (s₁.setTop (mkF m 0 #[.val (.int p0), .unset, .unset, .unset] [])) _
      refine XS.iloadN X0.here hx rfl (hb hby at_0) rfl ?_
      show Steps p.tables e below (s₁.setTop (mkF m 1 #[.val (.int p0), .unset, .unset, .unset] [(.int p0)])) _
      refine X0.ldcInt hx hown (mvT hZ (hw _ (List.mem_of_getElem? (i := 0) rfl))) (g := (mkF m 1 #[.val (.int p0), .unset, .unset, .unset] [(.int p0)])) rfl (hb hby at_1) _ ?_
      show Steps p.tables e below (s₁.setTop (mkF m 3 #[.val (.int p0), .unset, .unset, .unset] [(.int (2147483647 : Int32)), (.int p0)])) _
      refine XS.iand X0.here hx rfl (hb hby at_3) rfl ?_
      show Steps p.tables e below (s₁.setTop (mkF m 4 #[.val (.int p0), .unset, .unset, .unset] [(.int (p0 &&& (2147483647 : Int32)))])) _
      refine XS.bipush X0.here hx rfl (hb hby at_4) ?_
      show Steps p.tables e below (s₁.setTop (mkF m 6 #[.val (.int p0), .unset, .unset, .unset] [(.int (6 : Int32)), (.int (p0 &&& (2147483647 : Int32)))])) _
      refine iremM X0 hx (g := (mkF m 6 #[.val (.int p0), .unset, .unset, .unset] [(.int (6 : Int32)), (.int (p0 &&& (2147483647 : Int32)))])) rfl (hb hby at_6) rfl (by decide) ?_
      show Steps p.tables e below (s₁.setTop (mkF m 7 #[.val (.int p0), .unset, .unset, .unset] [(.int ((p0 &&& (2147483647 : Int32)) % (6 : Int32)))])) _
      refine XS.istoreN X0.here hx rfl (hb hby at_7) rfl (l' := #[.val (.int p0), .val (.int ((p0 &&& (2147483647 : Int32)) % (6 : Int32))), .unset, .unset]) rfl ?_
      show Steps p.tables e below (s₁.setTop (mkF m 8 #[.val (.int p0), .val (.int ((p0 &&& (2147483647 : Int32)) % (6 : Int32))), .unset, .unset] [])) _
      refine XS.iloadN X0.here hx rfl (hb hby at_8) rfl ?_
      show Steps p.tables e below (s₁.setTop (mkF m 9 #[.val (.int p0), .val (.int ((p0 &&& (2147483647 : Int32)) % (6 : Int32))), .unset, .unset] [(.int ((p0 &&& (2147483647 : Int32)) % (6 : Int32)))])) _
      refine st4 _ ?_
      show Steps p.tables e below (T4.setTop (mkF m 12 #[.val (.int p0), .val (.int ((p0 &&& (2147483647 : Int32)) % (6 : Int32))), .unset, .unset] [(.ref tINT)])) _
      refine XS.astoreN X4.here hx rfl (hb hby at_12) rfl rfl (l' := #[.val (.int p0), .val (.int ((p0 &&& (2147483647 : Int32)) % (6 : Int32))), .val (.ref tINT), .unset]) rfl ?_
      show Steps p.tables e below (T4.setTop (mkF m 13 #[.val (.int p0), .val (.int ((p0 &&& (2147483647 : Int32)) % (6 : Int32))), .val (.ref tINT), .unset] [])) _
      refine XS.iloadN X4.here hx rfl (hb hby at_13) rfl ?_
      show Steps p.tables e below (T4.setTop (mkF m 14 #[.val (.int p0), .val (.int ((p0 &&& (2147483647 : Int32)) % (6 : Int32))), .val (.ref tINT), .unset] [(.int ((p0 &&& (2147483647 : Int32)) % (6 : Int32)))])) _
      refine XS.iconst X4.here hx rfl (hb hby at_14) ?_
      show Steps p.tables e below (T4.setTop (mkF m 15 #[.val (.int p0), .val (.int ((p0 &&& (2147483647 : Int32)) % (6 : Int32))), .val (.ref tINT), .unset] [(.int (1 : Int32)), (.int ((p0 &&& (2147483647 : Int32)) % (6 : Int32)))])) _
      refine XS.icmpYes X4.here hx rfl (pc0 := 15) (pc' := 33) rfl (hb hby at_15) rfl (teq hk).1 (by decide) (by decide) ?_
      show Steps p.tables e below (T4.setTop (mkF m 33 #[.val (.int p0), .val (.int ((p0 &&& (2147483647 : Int32)) % (6 : Int32))), .val (.ref tINT), .unset] [])) _
      refine XS.iconst X4.here hx rfl (hb hby at_33) ?_
      show Steps p.tables e below (T4.setTop (mkF m 34 #[.val (.int p0), .val (.int ((p0 &&& (2147483647 : Int32)) % (6 : Int32))), .val (.ref tINT), .unset] [(.int (1 : Int32))])) _
      refine XS.goto X4.here hx rfl (pc0 := 34) (pc' := 38) rfl (hb hby at_34) (by decide) (by decide) ?_
      show Steps p.tables e below (T4.setTop (mkF m 38 #[.val (.int p0), .val (.int ((p0 &&& (2147483647 : Int32)) % (6 : Int32))), .val (.ref tINT), .unset] [(.int (1 : Int32))])) _
      refine XS.istoreN X4.here hx rfl (hb hby at_38) rfl (l' := #[.val (.int p0), .val (.int ((p0 &&& (2147483647 : Int32)) % (6 : Int32))), .val (.ref tINT), .val (.int (1 : Int32))]) rfl ?_
      show Steps p.tables e below (T4.setTop (mkF m 39 #[.val (.int p0), .val (.int ((p0 &&& (2147483647 : Int32)) % (6 : Int32))), .val (.ref tINT), .val (.int (1 : Int32))] [])) _
      refine XS.aloadN X4.here hx rfl (hb hby at_39) rfl rfl ?_
      show Steps p.tables e below (T4.setTop (mkF m 40 #[.val (.int p0), .val (.int ((p0 &&& (2147483647 : Int32)) % (6 : Int32))), .val (.ref tINT), .val (.int (1 : Int32))] [(.ref tINT)])) _
      refine st5 _ ?_
      show Steps p.tables e below (T5.setTop (mkF m 43 #[.val (.int p0), .val (.int ((p0 &&& (2147483647 : Int32)) % (6 : Int32))), .val (.ref tINT), .val (.int (1 : Int32))] [(.ref uINT)])) _
      refine st6.trans ?_
      show Steps p.tables e below (T6.setTop (mkF m 46 #[.val (.int p0), .val (.int ((p0 &&& (2147483647 : Int32)) % (6 : Int32))), .val (.ref tINT), .val (.int (1 : Int32))] [(.int r)])) _
      refine XS.iloadN X6.here hx rfl (hb hby at_46) rfl ?_
      show Steps p.tables e below (T6.setTop (mkF m 47 #[.val (.int p0), .val (.int ((p0 &&& (2147483647 : Int32)) % (6 : Int32))), .val (.ref tINT), .val (.int (1 : Int32))] [(.int (1 : Int32)), (.int r)])) _
      refine XS.icmpNo X6.here hx rfl (hb hby at_47) rfl (teq (hy (Or.inl rfl))).2 ?_
      show Steps p.tables e below (T6.setTop (mkF m 50 #[.val (.int p0), .val (.int ((p0 &&& (2147483647 : Int32)) % (6 : Int32))), .val (.ref tINT), .val (.int (1 : Int32))] [])) _
      refine XS.iconst X6.here hx rfl (hb hby at_50) ?_
      show Steps p.tables e below (T6.setTop (mkF m 51 #[.val (.int p0), .val (.int ((p0 &&& (2147483647 : Int32)) % (6 : Int32))), .val (.ref tINT), .val (.int (1 : Int32))] [(.int (1 : Int32))])) _
      refine XS.goto X6.here hx rfl (pc0 := 51) (pc' := 55) rfl (hb hby at_51) (by decide) (by decide) ?_
      show Steps p.tables e below (T6.setTop (mkF m 55 #[.val (.int p0), .val (.int ((p0 &&& (2147483647 : Int32)) % (6 : Int32))), .val (.ref tINT), .val (.int (1 : Int32))] [(.int (1 : Int32))])) _
      exact retN X6 hx (t := .boolean) Bd.returns (by simp) (hb hby at_55) hr
    · show Q_rm0 Z p0 tSTRING tINT tLONG tDOUBLE tBOOLEAN tTIMESTAMP uSTRING uINT uLONG uDOUBLE uBOOLEAN wM cl h0 n0 _ T6.heap _
      rw [e6]
      exact ⟨rfl, N6⟩
  · obtain ⟨_, _, ⟨T7, L7, k7, n7⟩, -, X7, ⟨Lc7, hQ7, l7, y7, z7⟩, st7⟩ := Jvm.LawKit.callS X0 hx (y := (⟨"com/example/tidewater/tidewater/core/ColumnStorageOrderedPinLaw", "pick", "(I)Lcom/example/tidewater/tidewater/core/table/ColumnType;"⟩ : MethodName)) hown (mvT hZ (hw _ (List.mem_of_getElem? (i := 1) rfl))) (mvT hZ (hw _ (List.mem_of_getElem? (i := 2) rfl))) (mvT hZ (hw _ (List.mem_of_getElem? (i := 3) rfl))) (mvT hZ (hw _ (List.mem_of_getElem? (i := 4) rfl))) (by decide) (backOf (W := 0) (rmP l Z a0 hw [] ((p0 &&& (2147483647 : Int32)) % (6 : Int32)) tSTRING tINT tLONG tDOUBLE tBOOLEAN tTIMESTAMP h0 n0 Z0 S_tSTRING S_tINT S_tLONG S_tDOUBLE S_tBOOLEAN S_tTIMESTAMP) hZ (hw _ (List.mem_of_getElem? (i := 4) rfl)) (hw _ (List.mem_of_getElem? (i := 3) rfl)) (by decide) (by decide)) (g := (mkF m 9 #[.val (.int p0), .val (.int ((p0 &&& (2147483647 : Int32)) % (6 : Int32))), .unset, .unset] [(.int ((p0 &&& (2147483647 : Int32)) % (6 : Int32)))])) rfl (by rw [hml]; rfl) (argsL := [(.int ((p0 &&& (2147483647 : Int32)) % (6 : Int32)))]) (rest := []) (lenOf pd__I_Lcom_example_tidewater_tidewater_core_table_ColumnType_ rfl) rfl (by show 2 * 0 + _ ≤ _; exact Nat.le_of_eq rfl) (hb hby at_9) (fun _ _ => ⟨rfl, e0, (by decide : 0 + 0 ≤ _), (by decide : 0 + 0 ≤ _)⟩)
    dsimp only [Pt.U, Pt.locs, Pt.cells, Pt.slots] at X7 l7 y7 z7 st7 hQ7
    subst l7 y7 z7
    obtain ⟨w, rfl, N7q, e7, k0, k1, k2, k3, k4, k5⟩ := hQ7
    have N7 := Fr.app N0 N7q
    obtain rfl := k2 hk
    obtain ⟨_, _, ⟨T8, L8, k8, n8⟩, -, X8, ⟨Lc8, hQ8, l8, y8, z8⟩, st8⟩ := Jvm.LawKit.callS X7 hx (y := (⟨"com/example/tidewater/tidewater/core/ColumnStorage", "of", "(Lcom/example/tidewater/tidewater/core/table/ColumnType;)Lcom/example/tidewater/tidewater/core/ColumnStorage;"⟩ : MethodName)) hown (mvT hZ (hw _ (List.mem_of_getElem? (i := 8) rfl))) (mvT hZ (hw _ (List.mem_of_getElem? (i := 9) rfl))) (mvT hZ (hw _ (List.mem_of_getElem? (i := 10) rfl))) (mvT hZ (hw _ (List.mem_of_getElem? (i := 11) rfl))) (by decide) (backOf (W := 0) (rmF2 l Z a0 hw [] tLONG wM uLONG cl h0 n0 Z0 S_M S_uLONG E_tLONG F_tLONG A hin2 hat2) hZ (hw _ (List.mem_of_getElem? (i := 11) rfl)) (hw _ (List.mem_of_getElem? (i := 10) rfl)) (by decide) (by decide)) (g := (mkF m 40 #[.val (.int p0), .val (.int ((p0 &&& (2147483647 : Int32)) % (6 : Int32))), .val (.ref tLONG), .val (.int (1 : Int32))] [(.ref tLONG)])) rfl (by rw [hml]; rfl) (argsL := [(.ref tLONG)]) (rest := []) (lenOf pd__Lcom_example_tidewater_tidewater_core_table_ColumnType__Lcom_example_tidewater_tidewater_core_ColumnStorage_ rfl) rfl (by show 2 * 0 + _ ≤ _; exact Nat.le_of_eq rfl) (hb hby at_40) (fun _ _ => ⟨rfl, e7, (by decide : 0 + 0 ≤ _), (by decide : 0 + 0 ≤ _)⟩)
    dsimp only [Pt.U, Pt.locs, Pt.cells, Pt.slots] at X8 l8 y8 z8 st8 hQ8
    subst l8 y8 z8
    obtain ⟨rfl, N8q, e8⟩ := hQ8
    have N8 := Fr.app N7 N8q
    obtain ⟨cq9, kq9, q9a, q9b, q9c⟩ := isOf hZ e8 E_uLONG
    obtain ⟨_, _, ⟨T9, L9, k9, n9⟩, -, X9, ⟨Lc9, hQ9, l9, y9, z9⟩, st9⟩ := X8.virtualBack hx (y := (⟨"com/example/tidewater/tidewater/core/ColumnStorage", "ordered", "()Z"⟩ : MethodName)) (z := (⟨"com/example/tidewater/tidewater/core/ColumnStorage", "ordered", "()Z"⟩ : MethodName)) hown (mvT hZ (hw _ (List.mem_of_getElem? (i := 26) rfl))) (mvT hZ (hw _ (List.mem_of_getElem? (i := 27) rfl))) (notFace_of_selects (args := #[]) (mvT hZ (hw _ (List.mem_of_getElem? (i := 29) rfl)))) (mvT hZ (hw _ (List.mem_of_getElem? (i := 29) rfl))) (mvT hZ (hw _ (List.mem_of_getElem? (i := 28) rfl))) (by decide) (backOf (W := 0) (rmD l Z a0 hw [] uLONG uINT uLONG uDOUBLE h0 n0 Z0 S_uINT S_uLONG S_uDOUBLE) hZ (hw _ (List.mem_of_getElem? (i := 30) rfl)) (hw _ (List.mem_of_getElem? (i := 10) rfl)) (by decide) (by decide)) q9a q9c (g := (mkF m 43 #[.val (.int p0), .val (.int ((p0 &&& (2147483647 : Int32)) % (6 : Int32))), .val (.ref tLONG), .val (.int (1 : Int32))] [(.ref uLONG)])) rfl (by rw [hml]; rfl) (Steps.refl _) (argsL := []) (rest := []) (lenOf pd___Z rfl) rfl (by show 2 * 0 + _ ≤ _; exact Nat.le_of_eq rfl) (hb hby at_43) (fun _ _ => ⟨rfl, e8, (by decide : 0 + 0 ≤ _), (by decide : 0 + 0 ≤ _)⟩)
    dsimp only [Pt.U, Pt.locs, Pt.cells, Pt.slots] at X9 l9 y9 z9 st9 hQ9
    subst l9 y9 z9
    obtain ⟨r, rfl, N9q, e9, hy, hn⟩ := hQ9
    have N9 := Fr.app N8 N9q
    obtain ⟨fs, hr, hrun, hended, hW, hsame⟩ := X9.leave (v := some (.int (1 : Int32))) (fun h => by rw [Bd.returns] at h; cases h)
    refine ⟨_, _, pre0 _ ?_, hrun, hended, _, _, rfl, ?_, ⟨_, rfl⟩, hW, hsame.mono (by decide) (by decide)⟩
    · show Steps p.tables e below (s₁.setTop (mkF m 0 #[.val (.int p0), .unset, .unset, .unset] [])) _
      refine XS.iloadN X0.here hx rfl (hb hby at_0) rfl ?_
      show Steps p.tables e below (s₁.setTop (mkF m 1 #[.val (.int p0), .unset, .unset, .unset] [(.int p0)])) _
      refine X0.ldcInt hx hown (mvT hZ (hw _ (List.mem_of_getElem? (i := 0) rfl))) (g := (mkF m 1 #[.val (.int p0), .unset, .unset, .unset] [(.int p0)])) rfl (hb hby at_1) _ ?_
      show Steps p.tables e below (s₁.setTop (mkF m 3 #[.val (.int p0), .unset, .unset, .unset] [(.int (2147483647 : Int32)), (.int p0)])) _
      refine XS.iand X0.here hx rfl (hb hby at_3) rfl ?_
      show Steps p.tables e below (s₁.setTop (mkF m 4 #[.val (.int p0), .unset, .unset, .unset] [(.int (p0 &&& (2147483647 : Int32)))])) _
      refine XS.bipush X0.here hx rfl (hb hby at_4) ?_
      show Steps p.tables e below (s₁.setTop (mkF m 6 #[.val (.int p0), .unset, .unset, .unset] [(.int (6 : Int32)), (.int (p0 &&& (2147483647 : Int32)))])) _
      refine iremM X0 hx (g := (mkF m 6 #[.val (.int p0), .unset, .unset, .unset] [(.int (6 : Int32)), (.int (p0 &&& (2147483647 : Int32)))])) rfl (hb hby at_6) rfl (by decide) ?_
      show Steps p.tables e below (s₁.setTop (mkF m 7 #[.val (.int p0), .unset, .unset, .unset] [(.int ((p0 &&& (2147483647 : Int32)) % (6 : Int32)))])) _
      refine XS.istoreN X0.here hx rfl (hb hby at_7) rfl (l' := #[.val (.int p0), .val (.int ((p0 &&& (2147483647 : Int32)) % (6 : Int32))), .unset, .unset]) rfl ?_
      show Steps p.tables e below (s₁.setTop (mkF m 8 #[.val (.int p0), .val (.int ((p0 &&& (2147483647 : Int32)) % (6 : Int32))), .unset, .unset] [])) _
      refine XS.iloadN X0.here hx rfl (hb hby at_8) rfl ?_
      show Steps p.tables e below (s₁.setTop (mkF m 9 #[.val (.int p0), .val (.int ((p0 &&& (2147483647 : Int32)) % (6 : Int32))), .unset, .unset] [(.int ((p0 &&& (2147483647 : Int32)) % (6 : Int32)))])) _
      refine st7 _ ?_
      show Steps p.tables e below (T7.setTop (mkF m 12 #[.val (.int p0), .val (.int ((p0 &&& (2147483647 : Int32)) % (6 : Int32))), .unset, .unset] [(.ref tLONG)])) _
      refine XS.astoreN X7.here hx rfl (hb hby at_12) rfl rfl (l' := #[.val (.int p0), .val (.int ((p0 &&& (2147483647 : Int32)) % (6 : Int32))), .val (.ref tLONG), .unset]) rfl ?_
      show Steps p.tables e below (T7.setTop (mkF m 13 #[.val (.int p0), .val (.int ((p0 &&& (2147483647 : Int32)) % (6 : Int32))), .val (.ref tLONG), .unset] [])) _
      refine XS.iloadN X7.here hx rfl (hb hby at_13) rfl ?_
      show Steps p.tables e below (T7.setTop (mkF m 14 #[.val (.int p0), .val (.int ((p0 &&& (2147483647 : Int32)) % (6 : Int32))), .val (.ref tLONG), .unset] [(.int ((p0 &&& (2147483647 : Int32)) % (6 : Int32)))])) _
      refine XS.iconst X7.here hx rfl (hb hby at_14) ?_
      show Steps p.tables e below (T7.setTop (mkF m 15 #[.val (.int p0), .val (.int ((p0 &&& (2147483647 : Int32)) % (6 : Int32))), .val (.ref tLONG), .unset] [(.int (1 : Int32)), (.int ((p0 &&& (2147483647 : Int32)) % (6 : Int32)))])) _
      refine XS.icmpNo X7.here hx rfl (hb hby at_15) rfl (feq (fun q => absurd (hk.symm.trans q) (by decide))).1 ?_
      show Steps p.tables e below (T7.setTop (mkF m 18 #[.val (.int p0), .val (.int ((p0 &&& (2147483647 : Int32)) % (6 : Int32))), .val (.ref tLONG), .unset] [])) _
      refine XS.iloadN X7.here hx rfl (hb hby at_18) rfl ?_
      show Steps p.tables e below (T7.setTop (mkF m 19 #[.val (.int p0), .val (.int ((p0 &&& (2147483647 : Int32)) % (6 : Int32))), .val (.ref tLONG), .unset] [(.int ((p0 &&& (2147483647 : Int32)) % (6 : Int32)))])) _
      refine XS.iconst X7.here hx rfl (hb hby at_19) ?_
      show Steps p.tables e below (T7.setTop (mkF m 20 #[.val (.int p0), .val (.int ((p0 &&& (2147483647 : Int32)) % (6 : Int32))), .val (.ref tLONG), .unset] [(.int (2 : Int32)), (.int ((p0 &&& (2147483647 : Int32)) % (6 : Int32)))])) _
      refine XS.icmpYes X7.here hx rfl (pc0 := 20) (pc' := 33) rfl (hb hby at_20) rfl (teq hk).1 (by decide) (by decide) ?_
      show Steps p.tables e below (T7.setTop (mkF m 33 #[.val (.int p0), .val (.int ((p0 &&& (2147483647 : Int32)) % (6 : Int32))), .val (.ref tLONG), .unset] [])) _
      refine XS.iconst X7.here hx rfl (hb hby at_33) ?_
      show Steps p.tables e below (T7.setTop (mkF m 34 #[.val (.int p0), .val (.int ((p0 &&& (2147483647 : Int32)) % (6 : Int32))), .val (.ref tLONG), .unset] [(.int (1 : Int32))])) _
      refine XS.goto X7.here hx rfl (pc0 := 34) (pc' := 38) rfl (hb hby at_34) (by decide) (by decide) ?_
      show Steps p.tables e below (T7.setTop (mkF m 38 #[.val (.int p0), .val (.int ((p0 &&& (2147483647 : Int32)) % (6 : Int32))), .val (.ref tLONG), .unset] [(.int (1 : Int32))])) _
      refine XS.istoreN X7.here hx rfl (hb hby at_38) rfl (l' := #[.val (.int p0), .val (.int ((p0 &&& (2147483647 : Int32)) % (6 : Int32))), .val (.ref tLONG), .val (.int (1 : Int32))]) rfl ?_
      show Steps p.tables e below (T7.setTop (mkF m 39 #[.val (.int p0), .val (.int ((p0 &&& (2147483647 : Int32)) % (6 : Int32))), .val (.ref tLONG), .val (.int (1 : Int32))] [])) _
      refine XS.aloadN X7.here hx rfl (hb hby at_39) rfl rfl ?_
      show Steps p.tables e below (T7.setTop (mkF m 40 #[.val (.int p0), .val (.int ((p0 &&& (2147483647 : Int32)) % (6 : Int32))), .val (.ref tLONG), .val (.int (1 : Int32))] [(.ref tLONG)])) _
      refine st8 _ ?_
      show Steps p.tables e below (T8.setTop (mkF m 43 #[.val (.int p0), .val (.int ((p0 &&& (2147483647 : Int32)) % (6 : Int32))), .val (.ref tLONG), .val (.int (1 : Int32))] [(.ref uLONG)])) _
      refine st9.trans ?_
      show Steps p.tables e below (T9.setTop (mkF m 46 #[.val (.int p0), .val (.int ((p0 &&& (2147483647 : Int32)) % (6 : Int32))), .val (.ref tLONG), .val (.int (1 : Int32))] [(.int r)])) _
      refine XS.iloadN X9.here hx rfl (hb hby at_46) rfl ?_
      show Steps p.tables e below (T9.setTop (mkF m 47 #[.val (.int p0), .val (.int ((p0 &&& (2147483647 : Int32)) % (6 : Int32))), .val (.ref tLONG), .val (.int (1 : Int32))] [(.int (1 : Int32)), (.int r)])) _
      refine XS.icmpNo X9.here hx rfl (hb hby at_47) rfl (teq (hy (Or.inr (Or.inl rfl)))).2 ?_
      show Steps p.tables e below (T9.setTop (mkF m 50 #[.val (.int p0), .val (.int ((p0 &&& (2147483647 : Int32)) % (6 : Int32))), .val (.ref tLONG), .val (.int (1 : Int32))] [])) _
      refine XS.iconst X9.here hx rfl (hb hby at_50) ?_
      show Steps p.tables e below (T9.setTop (mkF m 51 #[.val (.int p0), .val (.int ((p0 &&& (2147483647 : Int32)) % (6 : Int32))), .val (.ref tLONG), .val (.int (1 : Int32))] [(.int (1 : Int32))])) _
      refine XS.goto X9.here hx rfl (pc0 := 51) (pc' := 55) rfl (hb hby at_51) (by decide) (by decide) ?_
      show Steps p.tables e below (T9.setTop (mkF m 55 #[.val (.int p0), .val (.int ((p0 &&& (2147483647 : Int32)) % (6 : Int32))), .val (.ref tLONG), .val (.int (1 : Int32))] [(.int (1 : Int32))])) _
      exact retN X9 hx (t := .boolean) Bd.returns (by simp) (hb hby at_55) hr
    · show Q_rm0 Z p0 tSTRING tINT tLONG tDOUBLE tBOOLEAN tTIMESTAMP uSTRING uINT uLONG uDOUBLE uBOOLEAN wM cl h0 n0 _ T9.heap _
      rw [e9]
      exact ⟨rfl, N9⟩
  · obtain ⟨_, _, ⟨T10, L10, k10, n10⟩, -, X10, ⟨Lc10, hQ10, l10, y10, z10⟩, st10⟩ := Jvm.LawKit.callS X0 hx (y := (⟨"com/example/tidewater/tidewater/core/ColumnStorageOrderedPinLaw", "pick", "(I)Lcom/example/tidewater/tidewater/core/table/ColumnType;"⟩ : MethodName)) hown (mvT hZ (hw _ (List.mem_of_getElem? (i := 1) rfl))) (mvT hZ (hw _ (List.mem_of_getElem? (i := 2) rfl))) (mvT hZ (hw _ (List.mem_of_getElem? (i := 3) rfl))) (mvT hZ (hw _ (List.mem_of_getElem? (i := 4) rfl))) (by decide) (backOf (W := 0) (rmP l Z a0 hw [] ((p0 &&& (2147483647 : Int32)) % (6 : Int32)) tSTRING tINT tLONG tDOUBLE tBOOLEAN tTIMESTAMP h0 n0 Z0 S_tSTRING S_tINT S_tLONG S_tDOUBLE S_tBOOLEAN S_tTIMESTAMP) hZ (hw _ (List.mem_of_getElem? (i := 4) rfl)) (hw _ (List.mem_of_getElem? (i := 3) rfl)) (by decide) (by decide)) (g := (mkF m 9 #[.val (.int p0), .val (.int ((p0 &&& (2147483647 : Int32)) % (6 : Int32))), .unset, .unset] [(.int ((p0 &&& (2147483647 : Int32)) % (6 : Int32)))])) rfl (by rw [hml]; rfl) (argsL := [(.int ((p0 &&& (2147483647 : Int32)) % (6 : Int32)))]) (rest := []) (lenOf pd__I_Lcom_example_tidewater_tidewater_core_table_ColumnType_ rfl) rfl (by show 2 * 0 + _ ≤ _; exact Nat.le_of_eq rfl) (hb hby at_9) (fun _ _ => ⟨rfl, e0, (by decide : 0 + 0 ≤ _), (by decide : 0 + 0 ≤ _)⟩)
    dsimp only [Pt.U, Pt.locs, Pt.cells, Pt.slots] at X10 l10 y10 z10 st10 hQ10
    subst l10 y10 z10
    obtain ⟨w, rfl, N10q, e10, k0, k1, k2, k3, k4, k5⟩ := hQ10
    have N10 := Fr.app N0 N10q
    obtain rfl := k3 hk
    obtain ⟨_, _, ⟨T11, L11, k11, n11⟩, -, X11, ⟨Lc11, hQ11, l11, y11, z11⟩, st11⟩ := Jvm.LawKit.callS X10 hx (y := (⟨"com/example/tidewater/tidewater/core/ColumnStorage", "of", "(Lcom/example/tidewater/tidewater/core/table/ColumnType;)Lcom/example/tidewater/tidewater/core/ColumnStorage;"⟩ : MethodName)) hown (mvT hZ (hw _ (List.mem_of_getElem? (i := 8) rfl))) (mvT hZ (hw _ (List.mem_of_getElem? (i := 9) rfl))) (mvT hZ (hw _ (List.mem_of_getElem? (i := 10) rfl))) (mvT hZ (hw _ (List.mem_of_getElem? (i := 11) rfl))) (by decide) (backOf (W := 0) (rmF3 l Z a0 hw [] tDOUBLE wM uDOUBLE cl h0 n0 Z0 S_M S_uDOUBLE E_tDOUBLE F_tDOUBLE A hin3 hat3) hZ (hw _ (List.mem_of_getElem? (i := 11) rfl)) (hw _ (List.mem_of_getElem? (i := 10) rfl)) (by decide) (by decide)) (g := (mkF m 40 #[.val (.int p0), .val (.int ((p0 &&& (2147483647 : Int32)) % (6 : Int32))), .val (.ref tDOUBLE), .val (.int (1 : Int32))] [(.ref tDOUBLE)])) rfl (by rw [hml]; rfl) (argsL := [(.ref tDOUBLE)]) (rest := []) (lenOf pd__Lcom_example_tidewater_tidewater_core_table_ColumnType__Lcom_example_tidewater_tidewater_core_ColumnStorage_ rfl) rfl (by show 2 * 0 + _ ≤ _; exact Nat.le_of_eq rfl) (hb hby at_40) (fun _ _ => ⟨rfl, e10, (by decide : 0 + 0 ≤ _), (by decide : 0 + 0 ≤ _)⟩)
    dsimp only [Pt.U, Pt.locs, Pt.cells, Pt.slots] at X11 l11 y11 z11 st11 hQ11
    subst l11 y11 z11
    obtain ⟨rfl, N11q, e11⟩ := hQ11
    have N11 := Fr.app N10 N11q
    obtain ⟨cq12, kq12, q12a, q12b, q12c⟩ := isOf hZ e11 E_uDOUBLE
    obtain ⟨_, _, ⟨T12, L12, k12, n12⟩, -, X12, ⟨Lc12, hQ12, l12, y12, z12⟩, st12⟩ := X11.virtualBack hx (y := (⟨"com/example/tidewater/tidewater/core/ColumnStorage", "ordered", "()Z"⟩ : MethodName)) (z := (⟨"com/example/tidewater/tidewater/core/ColumnStorage", "ordered", "()Z"⟩ : MethodName)) hown (mvT hZ (hw _ (List.mem_of_getElem? (i := 26) rfl))) (mvT hZ (hw _ (List.mem_of_getElem? (i := 27) rfl))) (notFace_of_selects (args := #[]) (mvT hZ (hw _ (List.mem_of_getElem? (i := 29) rfl)))) (mvT hZ (hw _ (List.mem_of_getElem? (i := 29) rfl))) (mvT hZ (hw _ (List.mem_of_getElem? (i := 28) rfl))) (by decide) (backOf (W := 0) (rmD l Z a0 hw [] uDOUBLE uINT uLONG uDOUBLE h0 n0 Z0 S_uINT S_uLONG S_uDOUBLE) hZ (hw _ (List.mem_of_getElem? (i := 30) rfl)) (hw _ (List.mem_of_getElem? (i := 10) rfl)) (by decide) (by decide)) q12a q12c (g := (mkF m 43 #[.val (.int p0), .val (.int ((p0 &&& (2147483647 : Int32)) % (6 : Int32))), .val (.ref tDOUBLE), .val (.int (1 : Int32))] [(.ref uDOUBLE)])) rfl (by rw [hml]; rfl) (Steps.refl _) (argsL := []) (rest := []) (lenOf pd___Z rfl) rfl (by show 2 * 0 + _ ≤ _; exact Nat.le_of_eq rfl) (hb hby at_43) (fun _ _ => ⟨rfl, e11, (by decide : 0 + 0 ≤ _), (by decide : 0 + 0 ≤ _)⟩)
    dsimp only [Pt.U, Pt.locs, Pt.cells, Pt.slots] at X12 l12 y12 z12 st12 hQ12
    subst l12 y12 z12
    obtain ⟨r, rfl, N12q, e12, hy, hn⟩ := hQ12
    have N12 := Fr.app N11 N12q
    obtain ⟨fs, hr, hrun, hended, hW, hsame⟩ := X12.leave (v := some (.int (1 : Int32))) (fun h => by rw [Bd.returns] at h; cases h)
    refine ⟨_, _, pre0 _ ?_, hrun, hended, _, _, rfl, ?_, ⟨_, rfl⟩, hW, hsame.mono (by decide) (by decide)⟩
    · show Steps p.tables e below (s₁.setTop (mkF m 0 #[.val (.int p0), .unset, .unset, .unset] [])) _
      refine XS.iloadN X0.here hx rfl (hb hby at_0) rfl ?_
      show Steps p.tables e below (s₁.setTop (mkF m 1 #[.val (.int p0), .unset, .unset, .unset] [(.int p0)])) _
      refine X0.ldcInt hx hown (mvT hZ (hw _ (List.mem_of_getElem? (i := 0) rfl))) (g := (mkF m 1 #[.val (.int p0), .unset, .unset, .unset] [(.int p0)])) rfl (hb hby at_1) _ ?_
      show Steps p.tables e below (s₁.setTop (mkF m 3 #[.val (.int p0), .unset, .unset, .unset] [(.int (2147483647 : Int32)), (.int p0)])) _
      refine XS.iand X0.here hx rfl (hb hby at_3) rfl ?_
      show Steps p.tables e below (s₁.setTop (mkF m 4 #[.val (.int p0), .unset, .unset, .unset] [(.int (p0 &&& (2147483647 : Int32)))])) _
      refine XS.bipush X0.here hx rfl (hb hby at_4) ?_
      show Steps p.tables e below (s₁.setTop (mkF m 6 #[.val (.int p0), .unset, .unset, .unset] [(.int (6 : Int32)), (.int (p0 &&& (2147483647 : Int32)))])) _
      refine iremM X0 hx (g := (mkF m 6 #[.val (.int p0), .unset, .unset, .unset] [(.int (6 : Int32)), (.int (p0 &&& (2147483647 : Int32)))])) rfl (hb hby at_6) rfl (by decide) ?_
      show Steps p.tables e below (s₁.setTop (mkF m 7 #[.val (.int p0), .unset, .unset, .unset] [(.int ((p0 &&& (2147483647 : Int32)) % (6 : Int32)))])) _
      refine XS.istoreN X0.here hx rfl (hb hby at_7) rfl (l' := #[.val (.int p0), .val (.int ((p0 &&& (2147483647 : Int32)) % (6 : Int32))), .unset, .unset]) rfl ?_
      show Steps p.tables e below (s₁.setTop (mkF m 8 #[.val (.int p0), .val (.int ((p0 &&& (2147483647 : Int32)) % (6 : Int32))), .unset, .unset] [])) _
      refine XS.iloadN X0.here hx rfl (hb hby at_8) rfl ?_
      show Steps p.tables e below (s₁.setTop (mkF m 9 #[.val (.int p0), .val (.int ((p0 &&& (2147483647 : Int32)) % (6 : Int32))), .unset, .unset] [(.int ((p0 &&& (2147483647 : Int32)) % (6 : Int32)))])) _
      refine st10 _ ?_
      show Steps p.tables e below (T10.setTop (mkF m 12 #[.val (.int p0), .val (.int ((p0 &&& (2147483647 : Int32)) % (6 : Int32))), .unset, .unset] [(.ref tDOUBLE)])) _
      refine XS.astoreN X10.here hx rfl (hb hby at_12) rfl rfl (l' := #[.val (.int p0), .val (.int ((p0 &&& (2147483647 : Int32)) % (6 : Int32))), .val (.ref tDOUBLE), .unset]) rfl ?_
      show Steps p.tables e below (T10.setTop (mkF m 13 #[.val (.int p0), .val (.int ((p0 &&& (2147483647 : Int32)) % (6 : Int32))), .val (.ref tDOUBLE), .unset] [])) _
      refine XS.iloadN X10.here hx rfl (hb hby at_13) rfl ?_
      show Steps p.tables e below (T10.setTop (mkF m 14 #[.val (.int p0), .val (.int ((p0 &&& (2147483647 : Int32)) % (6 : Int32))), .val (.ref tDOUBLE), .unset] [(.int ((p0 &&& (2147483647 : Int32)) % (6 : Int32)))])) _
      refine XS.iconst X10.here hx rfl (hb hby at_14) ?_
      show Steps p.tables e below (T10.setTop (mkF m 15 #[.val (.int p0), .val (.int ((p0 &&& (2147483647 : Int32)) % (6 : Int32))), .val (.ref tDOUBLE), .unset] [(.int (1 : Int32)), (.int ((p0 &&& (2147483647 : Int32)) % (6 : Int32)))])) _
      refine XS.icmpNo X10.here hx rfl (hb hby at_15) rfl (feq (fun q => absurd (hk.symm.trans q) (by decide))).1 ?_
      show Steps p.tables e below (T10.setTop (mkF m 18 #[.val (.int p0), .val (.int ((p0 &&& (2147483647 : Int32)) % (6 : Int32))), .val (.ref tDOUBLE), .unset] [])) _
      refine XS.iloadN X10.here hx rfl (hb hby at_18) rfl ?_
      show Steps p.tables e below (T10.setTop (mkF m 19 #[.val (.int p0), .val (.int ((p0 &&& (2147483647 : Int32)) % (6 : Int32))), .val (.ref tDOUBLE), .unset] [(.int ((p0 &&& (2147483647 : Int32)) % (6 : Int32)))])) _
      refine XS.iconst X10.here hx rfl (hb hby at_19) ?_
      show Steps p.tables e below (T10.setTop (mkF m 20 #[.val (.int p0), .val (.int ((p0 &&& (2147483647 : Int32)) % (6 : Int32))), .val (.ref tDOUBLE), .unset] [(.int (2 : Int32)), (.int ((p0 &&& (2147483647 : Int32)) % (6 : Int32)))])) _
      refine XS.icmpNo X10.here hx rfl (hb hby at_20) rfl (feq (fun q => absurd (hk.symm.trans q) (by decide))).1 ?_
      show Steps p.tables e below (T10.setTop (mkF m 23 #[.val (.int p0), .val (.int ((p0 &&& (2147483647 : Int32)) % (6 : Int32))), .val (.ref tDOUBLE), .unset] [])) _
      refine XS.iloadN X10.here hx rfl (hb hby at_23) rfl ?_
      show Steps p.tables e below (T10.setTop (mkF m 24 #[.val (.int p0), .val (.int ((p0 &&& (2147483647 : Int32)) % (6 : Int32))), .val (.ref tDOUBLE), .unset] [(.int ((p0 &&& (2147483647 : Int32)) % (6 : Int32)))])) _
      refine XS.iconst X10.here hx rfl (hb hby at_24) ?_
      show Steps p.tables e below (T10.setTop (mkF m 25 #[.val (.int p0), .val (.int ((p0 &&& (2147483647 : Int32)) % (6 : Int32))), .val (.ref tDOUBLE), .unset] [(.int (3 : Int32)), (.int ((p0 &&& (2147483647 : Int32)) % (6 : Int32)))])) _
      refine XS.icmpYes X10.here hx rfl (pc0 := 25) (pc' := 33) rfl (hb hby at_25) rfl (teq hk).1 (by decide) (by decide) ?_
      show Steps p.tables e below (T10.setTop (mkF m 33 #[.val (.int p0), .val (.int ((p0 &&& (2147483647 : Int32)) % (6 : Int32))), .val (.ref tDOUBLE), .unset] [])) _
      refine XS.iconst X10.here hx rfl (hb hby at_33) ?_
      show Steps p.tables e below (T10.setTop (mkF m 34 #[.val (.int p0), .val (.int ((p0 &&& (2147483647 : Int32)) % (6 : Int32))), .val (.ref tDOUBLE), .unset] [(.int (1 : Int32))])) _
      refine XS.goto X10.here hx rfl (pc0 := 34) (pc' := 38) rfl (hb hby at_34) (by decide) (by decide) ?_
      show Steps p.tables e below (T10.setTop (mkF m 38 #[.val (.int p0), .val (.int ((p0 &&& (2147483647 : Int32)) % (6 : Int32))), .val (.ref tDOUBLE), .unset] [(.int (1 : Int32))])) _
      refine XS.istoreN X10.here hx rfl (hb hby at_38) rfl (l' := #[.val (.int p0), .val (.int ((p0 &&& (2147483647 : Int32)) % (6 : Int32))), .val (.ref tDOUBLE), .val (.int (1 : Int32))]) rfl ?_
      show Steps p.tables e below (T10.setTop (mkF m 39 #[.val (.int p0), .val (.int ((p0 &&& (2147483647 : Int32)) % (6 : Int32))), .val (.ref tDOUBLE), .val (.int (1 : Int32))] [])) _
      refine XS.aloadN X10.here hx rfl (hb hby at_39) rfl rfl ?_
      show Steps p.tables e below (T10.setTop (mkF m 40 #[.val (.int p0), .val (.int ((p0 &&& (2147483647 : Int32)) % (6 : Int32))), .val (.ref tDOUBLE), .val (.int (1 : Int32))] [(.ref tDOUBLE)])) _
      refine st11 _ ?_
      show Steps p.tables e below (T11.setTop (mkF m 43 #[.val (.int p0), .val (.int ((p0 &&& (2147483647 : Int32)) % (6 : Int32))), .val (.ref tDOUBLE), .val (.int (1 : Int32))] [(.ref uDOUBLE)])) _
      refine st12.trans ?_
      show Steps p.tables e below (T12.setTop (mkF m 46 #[.val (.int p0), .val (.int ((p0 &&& (2147483647 : Int32)) % (6 : Int32))), .val (.ref tDOUBLE), .val (.int (1 : Int32))] [(.int r)])) _
      refine XS.iloadN X12.here hx rfl (hb hby at_46) rfl ?_
      show Steps p.tables e below (T12.setTop (mkF m 47 #[.val (.int p0), .val (.int ((p0 &&& (2147483647 : Int32)) % (6 : Int32))), .val (.ref tDOUBLE), .val (.int (1 : Int32))] [(.int (1 : Int32)), (.int r)])) _
      refine XS.icmpNo X12.here hx rfl (hb hby at_47) rfl (teq (hy (Or.inr (Or.inr rfl)))).2 ?_
      show Steps p.tables e below (T12.setTop (mkF m 50 #[.val (.int p0), .val (.int ((p0 &&& (2147483647 : Int32)) % (6 : Int32))), .val (.ref tDOUBLE), .val (.int (1 : Int32))] [])) _
      refine XS.iconst X12.here hx rfl (hb hby at_50) ?_
      show Steps p.tables e below (T12.setTop (mkF m 51 #[.val (.int p0), .val (.int ((p0 &&& (2147483647 : Int32)) % (6 : Int32))), .val (.ref tDOUBLE), .val (.int (1 : Int32))] [(.int (1 : Int32))])) _
      refine XS.goto X12.here hx rfl (pc0 := 51) (pc' := 55) rfl (hb hby at_51) (by decide) (by decide) ?_
      show Steps p.tables e below (T12.setTop (mkF m 55 #[.val (.int p0), .val (.int ((p0 &&& (2147483647 : Int32)) % (6 : Int32))), .val (.ref tDOUBLE), .val (.int (1 : Int32))] [(.int (1 : Int32))])) _
      exact retN X12 hx (t := .boolean) Bd.returns (by simp) (hb hby at_55) hr
    · show Q_rm0 Z p0 tSTRING tINT tLONG tDOUBLE tBOOLEAN tTIMESTAMP uSTRING uINT uLONG uDOUBLE uBOOLEAN wM cl h0 n0 _ T12.heap _
      rw [e12]
      exact ⟨rfl, N12⟩
  · obtain ⟨_, _, ⟨T13, L13, k13, n13⟩, -, X13, ⟨Lc13, hQ13, l13, y13, z13⟩, st13⟩ := Jvm.LawKit.callS X0 hx (y := (⟨"com/example/tidewater/tidewater/core/ColumnStorageOrderedPinLaw", "pick", "(I)Lcom/example/tidewater/tidewater/core/table/ColumnType;"⟩ : MethodName)) hown (mvT hZ (hw _ (List.mem_of_getElem? (i := 1) rfl))) (mvT hZ (hw _ (List.mem_of_getElem? (i := 2) rfl))) (mvT hZ (hw _ (List.mem_of_getElem? (i := 3) rfl))) (mvT hZ (hw _ (List.mem_of_getElem? (i := 4) rfl))) (by decide) (backOf (W := 0) (rmP l Z a0 hw [] ((p0 &&& (2147483647 : Int32)) % (6 : Int32)) tSTRING tINT tLONG tDOUBLE tBOOLEAN tTIMESTAMP h0 n0 Z0 S_tSTRING S_tINT S_tLONG S_tDOUBLE S_tBOOLEAN S_tTIMESTAMP) hZ (hw _ (List.mem_of_getElem? (i := 4) rfl)) (hw _ (List.mem_of_getElem? (i := 3) rfl)) (by decide) (by decide)) (g := (mkF m 9 #[.val (.int p0), .val (.int ((p0 &&& (2147483647 : Int32)) % (6 : Int32))), .unset, .unset] [(.int ((p0 &&& (2147483647 : Int32)) % (6 : Int32)))])) rfl (by rw [hml]; rfl) (argsL := [(.int ((p0 &&& (2147483647 : Int32)) % (6 : Int32)))]) (rest := []) (lenOf pd__I_Lcom_example_tidewater_tidewater_core_table_ColumnType_ rfl) rfl (by show 2 * 0 + _ ≤ _; exact Nat.le_of_eq rfl) (hb hby at_9) (fun _ _ => ⟨rfl, e0, (by decide : 0 + 0 ≤ _), (by decide : 0 + 0 ≤ _)⟩)
    dsimp only [Pt.U, Pt.locs, Pt.cells, Pt.slots] at X13 l13 y13 z13 st13 hQ13
    subst l13 y13 z13
    obtain ⟨w, rfl, N13q, e13, k0, k1, k2, k3, k4, k5⟩ := hQ13
    have N13 := Fr.app N0 N13q
    obtain rfl := k4 hk
    obtain ⟨_, _, ⟨T14, L14, k14, n14⟩, -, X14, ⟨Lc14, hQ14, l14, y14, z14⟩, st14⟩ := Jvm.LawKit.callS X13 hx (y := (⟨"com/example/tidewater/tidewater/core/ColumnStorage", "of", "(Lcom/example/tidewater/tidewater/core/table/ColumnType;)Lcom/example/tidewater/tidewater/core/ColumnStorage;"⟩ : MethodName)) hown (mvT hZ (hw _ (List.mem_of_getElem? (i := 8) rfl))) (mvT hZ (hw _ (List.mem_of_getElem? (i := 9) rfl))) (mvT hZ (hw _ (List.mem_of_getElem? (i := 10) rfl))) (mvT hZ (hw _ (List.mem_of_getElem? (i := 11) rfl))) (by decide) (backOf (W := 0) (rmF4 l Z a0 hw [] tBOOLEAN wM uBOOLEAN cl h0 n0 Z0 S_M S_uBOOLEAN E_tBOOLEAN F_tBOOLEAN A hin4 hat4) hZ (hw _ (List.mem_of_getElem? (i := 11) rfl)) (hw _ (List.mem_of_getElem? (i := 10) rfl)) (by decide) (by decide)) (g := (mkF m 40 #[.val (.int p0), .val (.int ((p0 &&& (2147483647 : Int32)) % (6 : Int32))), .val (.ref tBOOLEAN), .val (.int (0 : Int32))] [(.ref tBOOLEAN)])) rfl (by rw [hml]; rfl) (argsL := [(.ref tBOOLEAN)]) (rest := []) (lenOf pd__Lcom_example_tidewater_tidewater_core_table_ColumnType__Lcom_example_tidewater_tidewater_core_ColumnStorage_ rfl) rfl (by show 2 * 0 + _ ≤ _; exact Nat.le_of_eq rfl) (hb hby at_40) (fun _ _ => ⟨rfl, e13, (by decide : 0 + 0 ≤ _), (by decide : 0 + 0 ≤ _)⟩)
    dsimp only [Pt.U, Pt.locs, Pt.cells, Pt.slots] at X14 l14 y14 z14 st14 hQ14
    subst l14 y14 z14
    obtain ⟨rfl, N14q, e14⟩ := hQ14
    have N14 := Fr.app N13 N14q
    obtain ⟨cq15, kq15, q15a, q15b, q15c⟩ := isOf hZ e14 E_uBOOLEAN
    obtain ⟨_, _, ⟨T15, L15, k15, n15⟩, -, X15, ⟨Lc15, hQ15, l15, y15, z15⟩, st15⟩ := X14.virtualBack hx (y := (⟨"com/example/tidewater/tidewater/core/ColumnStorage", "ordered", "()Z"⟩ : MethodName)) (z := (⟨"com/example/tidewater/tidewater/core/ColumnStorage", "ordered", "()Z"⟩ : MethodName)) hown (mvT hZ (hw _ (List.mem_of_getElem? (i := 26) rfl))) (mvT hZ (hw _ (List.mem_of_getElem? (i := 27) rfl))) (notFace_of_selects (args := #[]) (mvT hZ (hw _ (List.mem_of_getElem? (i := 29) rfl)))) (mvT hZ (hw _ (List.mem_of_getElem? (i := 29) rfl))) (mvT hZ (hw _ (List.mem_of_getElem? (i := 28) rfl))) (by decide) (backOf (W := 0) (rmD l Z a0 hw [] uBOOLEAN uINT uLONG uDOUBLE h0 n0 Z0 S_uINT S_uLONG S_uDOUBLE) hZ (hw _ (List.mem_of_getElem? (i := 30) rfl)) (hw _ (List.mem_of_getElem? (i := 10) rfl)) (by decide) (by decide)) q15a q15c (g := (mkF m 43 #[.val (.int p0), .val (.int ((p0 &&& (2147483647 : Int32)) % (6 : Int32))), .val (.ref tBOOLEAN), .val (.int (0 : Int32))] [(.ref uBOOLEAN)])) rfl (by rw [hml]; rfl) (Steps.refl _) (argsL := []) (rest := []) (lenOf pd___Z rfl) rfl (by show 2 * 0 + _ ≤ _; exact Nat.le_of_eq rfl) (hb hby at_43) (fun _ _ => ⟨rfl, e14, (by decide : 0 + 0 ≤ _), (by decide : 0 + 0 ≤ _)⟩)
    dsimp only [Pt.U, Pt.locs, Pt.cells, Pt.slots] at X15 l15 y15 z15 st15 hQ15
    subst l15 y15 z15
    obtain ⟨r, rfl, N15q, e15, hy, hn⟩ := hQ15
    have N15 := Fr.app N14 N15q
    obtain ⟨fs, hr, hrun, hended, hW, hsame⟩ := X15.leave (v := some (.int (1 : Int32))) (fun h => by rw [Bd.returns] at h; cases h)
    refine ⟨_, _, pre0 _ ?_, hrun, hended, _, _, rfl, ?_, ⟨_, rfl⟩, hW, hsame.mono (by decide) (by decide)⟩
    · show Steps p.tables e below (s₁.setTop (mkF m 0 #[.val (.int p0), .unset, .unset, .unset] [])) _
      refine XS.iloadN X0.here hx rfl (hb hby at_0) rfl ?_
      show Steps p.tables e below (s₁.setTop (mkF m 1 #[.val (.int p0), .unset, .unset, .unset] [(.int p0)])) _
      refine X0.ldcInt hx hown (mvT hZ (hw _ (List.mem_of_getElem? (i := 0) rfl))) (g := (mkF m 1 #[.val (.int p0), .unset, .unset, .unset] [(.int p0)])) rfl (hb hby at_1) _ ?_
      show Steps p.tables e below (s₁.setTop (mkF m 3 #[.val (.int p0), .unset, .unset, .unset] [(.int (2147483647 : Int32)), (.int p0)])) _
      refine XS.iand X0.here hx rfl (hb hby at_3) rfl ?_
      show Steps p.tables e below (s₁.setTop (mkF m 4 #[.val (.int p0), .unset, .unset, .unset] [(.int (p0 &&& (2147483647 : Int32)))])) _
      refine XS.bipush X0.here hx rfl (hb hby at_4) ?_
      show Steps p.tables e below (s₁.setTop (mkF m 6 #[.val (.int p0), .unset, .unset, .unset] [(.int (6 : Int32)), (.int (p0 &&& (2147483647 : Int32)))])) _
      refine iremM X0 hx (g := (mkF m 6 #[.val (.int p0), .unset, .unset, .unset] [(.int (6 : Int32)), (.int (p0 &&& (2147483647 : Int32)))])) rfl (hb hby at_6) rfl (by decide) ?_
      show Steps p.tables e below (s₁.setTop (mkF m 7 #[.val (.int p0), .unset, .unset, .unset] [(.int ((p0 &&& (2147483647 : Int32)) % (6 : Int32)))])) _
      refine XS.istoreN X0.here hx rfl (hb hby at_7) rfl (l' := #[.val (.int p0), .val (.int ((p0 &&& (2147483647 : Int32)) % (6 : Int32))), .unset, .unset]) rfl ?_
      show Steps p.tables e below (s₁.setTop (mkF m 8 #[.val (.int p0), .val (.int ((p0 &&& (2147483647 : Int32)) % (6 : Int32))), .unset, .unset] [])) _
      refine XS.iloadN X0.here hx rfl (hb hby at_8) rfl ?_
      show Steps p.tables e below (s₁.setTop (mkF m 9 #[.val (.int p0), .val (.int ((p0 &&& (2147483647 : Int32)) % (6 : Int32))), .unset, .unset] [(.int ((p0 &&& (2147483647 : Int32)) % (6 : Int32)))])) _
      refine st13 _ ?_
      show Steps p.tables e below (T13.setTop (mkF m 12 #[.val (.int p0), .val (.int ((p0 &&& (2147483647 : Int32)) % (6 : Int32))), .unset, .unset] [(.ref tBOOLEAN)])) _
      refine XS.astoreN X13.here hx rfl (hb hby at_12) rfl rfl (l' := #[.val (.int p0), .val (.int ((p0 &&& (2147483647 : Int32)) % (6 : Int32))), .val (.ref tBOOLEAN), .unset]) rfl ?_
      show Steps p.tables e below (T13.setTop (mkF m 13 #[.val (.int p0), .val (.int ((p0 &&& (2147483647 : Int32)) % (6 : Int32))), .val (.ref tBOOLEAN), .unset] [])) _
      refine XS.iloadN X13.here hx rfl (hb hby at_13) rfl ?_
      show Steps p.tables e below (T13.setTop (mkF m 14 #[.val (.int p0), .val (.int ((p0 &&& (2147483647 : Int32)) % (6 : Int32))), .val (.ref tBOOLEAN), .unset] [(.int ((p0 &&& (2147483647 : Int32)) % (6 : Int32)))])) _
      refine XS.iconst X13.here hx rfl (hb hby at_14) ?_
      show Steps p.tables e below (T13.setTop (mkF m 15 #[.val (.int p0), .val (.int ((p0 &&& (2147483647 : Int32)) % (6 : Int32))), .val (.ref tBOOLEAN), .unset] [(.int (1 : Int32)), (.int ((p0 &&& (2147483647 : Int32)) % (6 : Int32)))])) _
      refine XS.icmpNo X13.here hx rfl (hb hby at_15) rfl (feq (fun q => absurd (hk.symm.trans q) (by decide))).1 ?_
      show Steps p.tables e below (T13.setTop (mkF m 18 #[.val (.int p0), .val (.int ((p0 &&& (2147483647 : Int32)) % (6 : Int32))), .val (.ref tBOOLEAN), .unset] [])) _
      refine XS.iloadN X13.here hx rfl (hb hby at_18) rfl ?_
      show Steps p.tables e below (T13.setTop (mkF m 19 #[.val (.int p0), .val (.int ((p0 &&& (2147483647 : Int32)) % (6 : Int32))), .val (.ref tBOOLEAN), .unset] [(.int ((p0 &&& (2147483647 : Int32)) % (6 : Int32)))])) _
      refine XS.iconst X13.here hx rfl (hb hby at_19) ?_
      show Steps p.tables e below (T13.setTop (mkF m 20 #[.val (.int p0), .val (.int ((p0 &&& (2147483647 : Int32)) % (6 : Int32))), .val (.ref tBOOLEAN), .unset] [(.int (2 : Int32)), (.int ((p0 &&& (2147483647 : Int32)) % (6 : Int32)))])) _
      refine XS.icmpNo X13.here hx rfl (hb hby at_20) rfl (feq (fun q => absurd (hk.symm.trans q) (by decide))).1 ?_
      show Steps p.tables e below (T13.setTop (mkF m 23 #[.val (.int p0), .val (.int ((p0 &&& (2147483647 : Int32)) % (6 : Int32))), .val (.ref tBOOLEAN), .unset] [])) _
      refine XS.iloadN X13.here hx rfl (hb hby at_23) rfl ?_
      show Steps p.tables e below (T13.setTop (mkF m 24 #[.val (.int p0), .val (.int ((p0 &&& (2147483647 : Int32)) % (6 : Int32))), .val (.ref tBOOLEAN), .unset] [(.int ((p0 &&& (2147483647 : Int32)) % (6 : Int32)))])) _
      refine XS.iconst X13.here hx rfl (hb hby at_24) ?_
      show Steps p.tables e below (T13.setTop (mkF m 25 #[.val (.int p0), .val (.int ((p0 &&& (2147483647 : Int32)) % (6 : Int32))), .val (.ref tBOOLEAN), .unset] [(.int (3 : Int32)), (.int ((p0 &&& (2147483647 : Int32)) % (6 : Int32)))])) _
      refine XS.icmpNo X13.here hx rfl (hb hby at_25) rfl (feq (fun q => absurd (hk.symm.trans q) (by decide))).1 ?_
      show Steps p.tables e below (T13.setTop (mkF m 28 #[.val (.int p0), .val (.int ((p0 &&& (2147483647 : Int32)) % (6 : Int32))), .val (.ref tBOOLEAN), .unset] [])) _
      refine XS.iloadN X13.here hx rfl (hb hby at_28) rfl ?_
      show Steps p.tables e below (T13.setTop (mkF m 29 #[.val (.int p0), .val (.int ((p0 &&& (2147483647 : Int32)) % (6 : Int32))), .val (.ref tBOOLEAN), .unset] [(.int ((p0 &&& (2147483647 : Int32)) % (6 : Int32)))])) _
      refine XS.iconst X13.here hx rfl (hb hby at_29) ?_
      show Steps p.tables e below (T13.setTop (mkF m 30 #[.val (.int p0), .val (.int ((p0 &&& (2147483647 : Int32)) % (6 : Int32))), .val (.ref tBOOLEAN), .unset] [(.int (5 : Int32)), (.int ((p0 &&& (2147483647 : Int32)) % (6 : Int32)))])) _
      refine XS.icmpYes X13.here hx rfl (pc0 := 30) (pc' := 37) rfl (hb hby at_30) rfl (feq (fun q => absurd (hk.symm.trans q) (by decide))).2 (by decide) (by decide) ?_
      show Steps p.tables e below (T13.setTop (mkF m 37 #[.val (.int p0), .val (.int ((p0 &&& (2147483647 : Int32)) % (6 : Int32))), .val (.ref tBOOLEAN), .unset] [])) _
      refine XS.iconst X13.here hx rfl (hb hby at_37) ?_
      show Steps p.tables e below (T13.setTop (mkF m 38 #[.val (.int p0), .val (.int ((p0 &&& (2147483647 : Int32)) % (6 : Int32))), .val (.ref tBOOLEAN), .unset] [(.int (0 : Int32))])) _
      refine XS.istoreN X13.here hx rfl (hb hby at_38) rfl (l' := #[.val (.int p0), .val (.int ((p0 &&& (2147483647 : Int32)) % (6 : Int32))), .val (.ref tBOOLEAN), .val (.int (0 : Int32))]) rfl ?_
      show Steps p.tables e below (T13.setTop (mkF m 39 #[.val (.int p0), .val (.int ((p0 &&& (2147483647 : Int32)) % (6 : Int32))), .val (.ref tBOOLEAN), .val (.int (0 : Int32))] [])) _
      refine XS.aloadN X13.here hx rfl (hb hby at_39) rfl rfl ?_
      show Steps p.tables e below (T13.setTop (mkF m 40 #[.val (.int p0), .val (.int ((p0 &&& (2147483647 : Int32)) % (6 : Int32))), .val (.ref tBOOLEAN), .val (.int (0 : Int32))] [(.ref tBOOLEAN)])) _
      refine st14 _ ?_
      show Steps p.tables e below (T14.setTop (mkF m 43 #[.val (.int p0), .val (.int ((p0 &&& (2147483647 : Int32)) % (6 : Int32))), .val (.ref tBOOLEAN), .val (.int (0 : Int32))] [(.ref uBOOLEAN)])) _
      refine st15.trans ?_
      show Steps p.tables e below (T15.setTop (mkF m 46 #[.val (.int p0), .val (.int ((p0 &&& (2147483647 : Int32)) % (6 : Int32))), .val (.ref tBOOLEAN), .val (.int (0 : Int32))] [(.int r)])) _
      refine XS.iloadN X15.here hx rfl (hb hby at_46) rfl ?_
      show Steps p.tables e below (T15.setTop (mkF m 47 #[.val (.int p0), .val (.int ((p0 &&& (2147483647 : Int32)) % (6 : Int32))), .val (.ref tBOOLEAN), .val (.int (0 : Int32))] [(.int (0 : Int32)), (.int r)])) _
      refine XS.icmpNo X15.here hx rfl (hb hby at_47) rfl (teq (hn (fun q => q.elim neBOOLEANINT (fun q => q.elim neBOOLEANLONG neBOOLEANDOUBLE)))).2 ?_
      show Steps p.tables e below (T15.setTop (mkF m 50 #[.val (.int p0), .val (.int ((p0 &&& (2147483647 : Int32)) % (6 : Int32))), .val (.ref tBOOLEAN), .val (.int (0 : Int32))] [])) _
      refine XS.iconst X15.here hx rfl (hb hby at_50) ?_
      show Steps p.tables e below (T15.setTop (mkF m 51 #[.val (.int p0), .val (.int ((p0 &&& (2147483647 : Int32)) % (6 : Int32))), .val (.ref tBOOLEAN), .val (.int (0 : Int32))] [(.int (1 : Int32))])) _
      refine XS.goto X15.here hx rfl (pc0 := 51) (pc' := 55) rfl (hb hby at_51) (by decide) (by decide) ?_
      show Steps p.tables e below (T15.setTop (mkF m 55 #[.val (.int p0), .val (.int ((p0 &&& (2147483647 : Int32)) % (6 : Int32))), .val (.ref tBOOLEAN), .val (.int (0 : Int32))] [(.int (1 : Int32))])) _
      exact retN X15 hx (t := .boolean) Bd.returns (by simp) (hb hby at_55) hr
    · show Q_rm0 Z p0 tSTRING tINT tLONG tDOUBLE tBOOLEAN tTIMESTAMP uSTRING uINT uLONG uDOUBLE uBOOLEAN wM cl h0 n0 _ T15.heap _
      rw [e15]
      exact ⟨rfl, N15⟩
  · obtain ⟨_, _, ⟨T16, L16, k16, n16⟩, -, X16, ⟨Lc16, hQ16, l16, y16, z16⟩, st16⟩ := Jvm.LawKit.callS X0 hx (y := (⟨"com/example/tidewater/tidewater/core/ColumnStorageOrderedPinLaw", "pick", "(I)Lcom/example/tidewater/tidewater/core/table/ColumnType;"⟩ : MethodName)) hown (mvT hZ (hw _ (List.mem_of_getElem? (i := 1) rfl))) (mvT hZ (hw _ (List.mem_of_getElem? (i := 2) rfl))) (mvT hZ (hw _ (List.mem_of_getElem? (i := 3) rfl))) (mvT hZ (hw _ (List.mem_of_getElem? (i := 4) rfl))) (by decide) (backOf (W := 0) (rmP l Z a0 hw [] ((p0 &&& (2147483647 : Int32)) % (6 : Int32)) tSTRING tINT tLONG tDOUBLE tBOOLEAN tTIMESTAMP h0 n0 Z0 S_tSTRING S_tINT S_tLONG S_tDOUBLE S_tBOOLEAN S_tTIMESTAMP) hZ (hw _ (List.mem_of_getElem? (i := 4) rfl)) (hw _ (List.mem_of_getElem? (i := 3) rfl)) (by decide) (by decide)) (g := (mkF m 9 #[.val (.int p0), .val (.int ((p0 &&& (2147483647 : Int32)) % (6 : Int32))), .unset, .unset] [(.int ((p0 &&& (2147483647 : Int32)) % (6 : Int32)))])) rfl (by rw [hml]; rfl) (argsL := [(.int ((p0 &&& (2147483647 : Int32)) % (6 : Int32)))]) (rest := []) (lenOf pd__I_Lcom_example_tidewater_tidewater_core_table_ColumnType_ rfl) rfl (by show 2 * 0 + _ ≤ _; exact Nat.le_of_eq rfl) (hb hby at_9) (fun _ _ => ⟨rfl, e0, (by decide : 0 + 0 ≤ _), (by decide : 0 + 0 ≤ _)⟩)
    dsimp only [Pt.U, Pt.locs, Pt.cells, Pt.slots] at X16 l16 y16 z16 st16 hQ16
    subst l16 y16 z16
    obtain ⟨w, rfl, N16q, e16, k0, k1, k2, k3, k4, k5⟩ := hQ16
    have N16 := Fr.app N0 N16q
    obtain rfl := k5 hk
    obtain ⟨_, _, ⟨T17, L17, k17, n17⟩, -, X17, ⟨Lc17, hQ17, l17, y17, z17⟩, st17⟩ := Jvm.LawKit.callS X16 hx (y := (⟨"com/example/tidewater/tidewater/core/ColumnStorage", "of", "(Lcom/example/tidewater/tidewater/core/table/ColumnType;)Lcom/example/tidewater/tidewater/core/ColumnStorage;"⟩ : MethodName)) hown (mvT hZ (hw _ (List.mem_of_getElem? (i := 8) rfl))) (mvT hZ (hw _ (List.mem_of_getElem? (i := 9) rfl))) (mvT hZ (hw _ (List.mem_of_getElem? (i := 10) rfl))) (mvT hZ (hw _ (List.mem_of_getElem? (i := 11) rfl))) (by decide) (backOf (W := 0) (rmF5 l Z a0 hw [] tTIMESTAMP wM uLONG cl h0 n0 Z0 S_M S_uLONG E_tTIMESTAMP F_tTIMESTAMP A hin5 hat5) hZ (hw _ (List.mem_of_getElem? (i := 11) rfl)) (hw _ (List.mem_of_getElem? (i := 10) rfl)) (by decide) (by decide)) (g := (mkF m 40 #[.val (.int p0), .val (.int ((p0 &&& (2147483647 : Int32)) % (6 : Int32))), .val (.ref tTIMESTAMP), .val (.int (1 : Int32))] [(.ref tTIMESTAMP)])) rfl (by rw [hml]; rfl) (argsL := [(.ref tTIMESTAMP)]) (rest := []) (lenOf pd__Lcom_example_tidewater_tidewater_core_table_ColumnType__Lcom_example_tidewater_tidewater_core_ColumnStorage_ rfl) rfl (by show 2 * 0 + _ ≤ _; exact Nat.le_of_eq rfl) (hb hby at_40) (fun _ _ => ⟨rfl, e16, (by decide : 0 + 0 ≤ _), (by decide : 0 + 0 ≤ _)⟩)
    dsimp only [Pt.U, Pt.locs, Pt.cells, Pt.slots] at X17 l17 y17 z17 st17 hQ17
    subst l17 y17 z17
    obtain ⟨rfl, N17q, e17⟩ := hQ17
    have N17 := Fr.app N16 N17q
    obtain ⟨cq18, kq18, q18a, q18b, q18c⟩ := isOf hZ e17 E_uLONG
    obtain ⟨_, _, ⟨T18, L18, k18, n18⟩, -, X18, ⟨Lc18, hQ18, l18, y18, z18⟩, st18⟩ := X17.virtualBack hx (y := (⟨"com/example/tidewater/tidewater/core/ColumnStorage", "ordered", "()Z"⟩ : MethodName)) (z := (⟨"com/example/tidewater/tidewater/core/ColumnStorage", "ordered", "()Z"⟩ : MethodName)) hown (mvT hZ (hw _ (List.mem_of_getElem? (i := 26) rfl))) (mvT hZ (hw _ (List.mem_of_getElem? (i := 27) rfl))) (notFace_of_selects (args := #[]) (mvT hZ (hw _ (List.mem_of_getElem? (i := 29) rfl)))) (mvT hZ (hw _ (List.mem_of_getElem? (i := 29) rfl))) (mvT hZ (hw _ (List.mem_of_getElem? (i := 28) rfl))) (by decide) (backOf (W := 0) (rmD l Z a0 hw [] uLONG uINT uLONG uDOUBLE h0 n0 Z0 S_uINT S_uLONG S_uDOUBLE) hZ (hw _ (List.mem_of_getElem? (i := 30) rfl)) (hw _ (List.mem_of_getElem? (i := 10) rfl)) (by decide) (by decide)) q18a q18c (g := (mkF m 43 #[.val (.int p0), .val (.int ((p0 &&& (2147483647 : Int32)) % (6 : Int32))), .val (.ref tTIMESTAMP), .val (.int (1 : Int32))] [(.ref uLONG)])) rfl (by rw [hml]; rfl) (Steps.refl _) (argsL := []) (rest := []) (lenOf pd___Z rfl) rfl (by show 2 * 0 + _ ≤ _; exact Nat.le_of_eq rfl) (hb hby at_43) (fun _ _ => ⟨rfl, e17, (by decide : 0 + 0 ≤ _), (by decide : 0 + 0 ≤ _)⟩)
    dsimp only [Pt.U, Pt.locs, Pt.cells, Pt.slots] at X18 l18 y18 z18 st18 hQ18
    subst l18 y18 z18
    obtain ⟨r, rfl, N18q, e18, hy, hn⟩ := hQ18
    have N18 := Fr.app N17 N18q
    obtain ⟨fs, hr, hrun, hended, hW, hsame⟩ := X18.leave (v := some (.int (1 : Int32))) (fun h => by rw [Bd.returns] at h; cases h)
    refine ⟨_, _, pre0 _ ?_, hrun, hended, _, _, rfl, ?_, ⟨_, rfl⟩, hW, hsame.mono (by decide) (by decide)⟩
    · show Steps p.tables e below (s₁.setTop (mkF m 0 #[.val (.int p0), .unset, .unset, .unset] [])) _
      refine XS.iloadN X0.here hx rfl (hb hby at_0) rfl ?_
      show Steps p.tables e below (s₁.setTop (mkF m 1 #[.val (.int p0), .unset, .unset, .unset] [(.int p0)])) _
      refine X0.ldcInt hx hown (mvT hZ (hw _ (List.mem_of_getElem? (i := 0) rfl))) (g := (mkF m 1 #[.val (.int p0), .unset, .unset, .unset] [(.int p0)])) rfl (hb hby at_1) _ ?_
      show Steps p.tables e below (s₁.setTop (mkF m 3 #[.val (.int p0), .unset, .unset, .unset] [(.int (2147483647 : Int32)), (.int p0)])) _
      refine XS.iand X0.here hx rfl (hb hby at_3) rfl ?_
      show Steps p.tables e below (s₁.setTop (mkF m 4 #[.val (.int p0), .unset, .unset, .unset] [(.int (p0 &&& (2147483647 : Int32)))])) _
      refine XS.bipush X0.here hx rfl (hb hby at_4) ?_
      show Steps p.tables e below (s₁.setTop (mkF m 6 #[.val (.int p0), .unset, .unset, .unset] [(.int (6 : Int32)), (.int (p0 &&& (2147483647 : Int32)))])) _
      refine iremM X0 hx (g := (mkF m 6 #[.val (.int p0), .unset, .unset, .unset] [(.int (6 : Int32)), (.int (p0 &&& (2147483647 : Int32)))])) rfl (hb hby at_6) rfl (by decide) ?_
      show Steps p.tables e below (s₁.setTop (mkF m 7 #[.val (.int p0), .unset, .unset, .unset] [(.int ((p0 &&& (2147483647 : Int32)) % (6 : Int32)))])) _
      refine XS.istoreN X0.here hx rfl (hb hby at_7) rfl (l' := #[.val (.int p0), .val (.int ((p0 &&& (2147483647 : Int32)) % (6 : Int32))), .unset, .unset]) rfl ?_
      show Steps p.tables e below (s₁.setTop (mkF m 8 #[.val (.int p0), .val (.int ((p0 &&& (2147483647 : Int32)) % (6 : Int32))), .unset, .unset] [])) _
      refine XS.iloadN X0.here hx rfl (hb hby at_8) rfl ?_
      show Steps p.tables e below (s₁.setTop (mkF m 9 #[.val (.int p0), .val (.int ((p0 &&& (2147483647 : Int32)) % (6 : Int32))), .unset, .unset] [(.int ((p0 &&& (2147483647 : Int32)) % (6 : Int32)))])) _
      refine st16 _ ?_
      show Steps p.tables e below (T16.setTop (mkF m 12 #[.val (.int p0), .val (.int ((p0 &&& (2147483647 : Int32)) % (6 : Int32))), .unset, .unset] [(.ref tTIMESTAMP)])) _
      refine XS.astoreN X16.here hx rfl (hb hby at_12) rfl rfl (l' := #[.val (.int p0), .val (.int ((p0 &&& (2147483647 : Int32)) % (6 : Int32))), .val (.ref tTIMESTAMP), .unset]) rfl ?_
      show Steps p.tables e below (T16.setTop (mkF m 13 #[.val (.int p0), .val (.int ((p0 &&& (2147483647 : Int32)) % (6 : Int32))), .val (.ref tTIMESTAMP), .unset] [])) _
      refine XS.iloadN X16.here hx rfl (hb hby at_13) rfl ?_
      show Steps p.tables e below (T16.setTop (mkF m 14 #[.val (.int p0), .val (.int ((p0 &&& (2147483647 : Int32)) % (6 : Int32))), .val (.ref tTIMESTAMP), .unset] [(.int ((p0 &&& (2147483647 : Int32)) % (6 : Int32)))])) _
      refine XS.iconst X16.here hx rfl (hb hby at_14) ?_
      show Steps p.tables e below (T16.setTop (mkF m 15 #[.val (.int p0), .val (.int ((p0 &&& (2147483647 : Int32)) % (6 : Int32))), .val (.ref tTIMESTAMP), .unset] [(.int (1 : Int32)), (.int ((p0 &&& (2147483647 : Int32)) % (6 : Int32)))])) _
      refine XS.icmpNo X16.here hx rfl (hb hby at_15) rfl (feq (fun q => absurd (hk.symm.trans q) (by decide))).1 ?_
      show Steps p.tables e below (T16.setTop (mkF m 18 #[.val (.int p0), .val (.int ((p0 &&& (2147483647 : Int32)) % (6 : Int32))), .val (.ref tTIMESTAMP), .unset] [])) _
      refine XS.iloadN X16.here hx rfl (hb hby at_18) rfl ?_
      show Steps p.tables e below (T16.setTop (mkF m 19 #[.val (.int p0), .val (.int ((p0 &&& (2147483647 : Int32)) % (6 : Int32))), .val (.ref tTIMESTAMP), .unset] [(.int ((p0 &&& (2147483647 : Int32)) % (6 : Int32)))])) _
      refine XS.iconst X16.here hx rfl (hb hby at_19) ?_
      show Steps p.tables e below (T16.setTop (mkF m 20 #[.val (.int p0), .val (.int ((p0 &&& (2147483647 : Int32)) % (6 : Int32))), .val (.ref tTIMESTAMP), .unset] [(.int (2 : Int32)), (.int ((p0 &&& (2147483647 : Int32)) % (6 : Int32)))])) _
      refine XS.icmpNo X16.here hx rfl (hb hby at_20) rfl (feq (fun q => absurd (hk.symm.trans q) (by decide))).1 ?_
      show Steps p.tables e below (T16.setTop (mkF m 23 #[.val (.int p0), .val (.int ((p0 &&& (2147483647 : Int32)) % (6 : Int32))), .val (.ref tTIMESTAMP), .unset] [])) _
      refine XS.iloadN X16.here hx rfl (hb hby at_23) rfl ?_
      show Steps p.tables e below (T16.setTop (mkF m 24 #[.val (.int p0), .val (.int ((p0 &&& (2147483647 : Int32)) % (6 : Int32))), .val (.ref tTIMESTAMP), .unset] [(.int ((p0 &&& (2147483647 : Int32)) % (6 : Int32)))])) _
      refine XS.iconst X16.here hx rfl (hb hby at_24) ?_
      show Steps p.tables e below (T16.setTop (mkF m 25 #[.val (.int p0), .val (.int ((p0 &&& (2147483647 : Int32)) % (6 : Int32))), .val (.ref tTIMESTAMP), .unset] [(.int (3 : Int32)), (.int ((p0 &&& (2147483647 : Int32)) % (6 : Int32)))])) _
      refine XS.icmpNo X16.here hx rfl (hb hby at_25) rfl (feq (fun q => absurd (hk.symm.trans q) (by decide))).1 ?_
      show Steps p.tables e below (T16.setTop (mkF m 28 #[.val (.int p0), .val (.int ((p0 &&& (2147483647 : Int32)) % (6 : Int32))), .val (.ref tTIMESTAMP), .unset] [])) _
      refine XS.iloadN X16.here hx rfl (hb hby at_28) rfl ?_
      show Steps p.tables e below (T16.setTop (mkF m 29 #[.val (.int p0), .val (.int ((p0 &&& (2147483647 : Int32)) % (6 : Int32))), .val (.ref tTIMESTAMP), .unset] [(.int ((p0 &&& (2147483647 : Int32)) % (6 : Int32)))])) _
      refine XS.iconst X16.here hx rfl (hb hby at_29) ?_
      show Steps p.tables e below (T16.setTop (mkF m 30 #[.val (.int p0), .val (.int ((p0 &&& (2147483647 : Int32)) % (6 : Int32))), .val (.ref tTIMESTAMP), .unset] [(.int (5 : Int32)), (.int ((p0 &&& (2147483647 : Int32)) % (6 : Int32)))])) _
      refine XS.icmpNo X16.here hx rfl (hb hby at_30) rfl (teq hk).2 ?_
      show Steps p.tables e below (T16.setTop (mkF m 33 #[.val (.int p0), .val (.int ((p0 &&& (2147483647 : Int32)) % (6 : Int32))), .val (.ref tTIMESTAMP), .unset] [])) _
      refine XS.iconst X16.here hx rfl (hb hby at_33) ?_
      show Steps p.tables e below (T16.setTop (mkF m 34 #[.val (.int p0), .val (.int ((p0 &&& (2147483647 : Int32)) % (6 : Int32))), .val (.ref tTIMESTAMP), .unset] [(.int (1 : Int32))])) _
      refine XS.goto X16.here hx rfl (pc0 := 34) (pc' := 38) rfl (hb hby at_34) (by decide) (by decide) ?_
      show Steps p.tables e below (T16.setTop (mkF m 38 #[.val (.int p0), .val (.int ((p0 &&& (2147483647 : Int32)) % (6 : Int32))), .val (.ref tTIMESTAMP), .unset] [(.int (1 : Int32))])) _
      refine XS.istoreN X16.here hx rfl (hb hby at_38) rfl (l' := #[.val (.int p0), .val (.int ((p0 &&& (2147483647 : Int32)) % (6 : Int32))), .val (.ref tTIMESTAMP), .val (.int (1 : Int32))]) rfl ?_
      show Steps p.tables e below (T16.setTop (mkF m 39 #[.val (.int p0), .val (.int ((p0 &&& (2147483647 : Int32)) % (6 : Int32))), .val (.ref tTIMESTAMP), .val (.int (1 : Int32))] [])) _
      refine XS.aloadN X16.here hx rfl (hb hby at_39) rfl rfl ?_
      show Steps p.tables e below (T16.setTop (mkF m 40 #[.val (.int p0), .val (.int ((p0 &&& (2147483647 : Int32)) % (6 : Int32))), .val (.ref tTIMESTAMP), .val (.int (1 : Int32))] [(.ref tTIMESTAMP)])) _
      refine st17 _ ?_
      show Steps p.tables e below (T17.setTop (mkF m 43 #[.val (.int p0), .val (.int ((p0 &&& (2147483647 : Int32)) % (6 : Int32))), .val (.ref tTIMESTAMP), .val (.int (1 : Int32))] [(.ref uLONG)])) _
      refine st18.trans ?_
      show Steps p.tables e below (T18.setTop (mkF m 46 #[.val (.int p0), .val (.int ((p0 &&& (2147483647 : Int32)) % (6 : Int32))), .val (.ref tTIMESTAMP), .val (.int (1 : Int32))] [(.int r)])) _
      refine XS.iloadN X18.here hx rfl (hb hby at_46) rfl ?_
      show Steps p.tables e below (T18.setTop (mkF m 47 #[.val (.int p0), .val (.int ((p0 &&& (2147483647 : Int32)) % (6 : Int32))), .val (.ref tTIMESTAMP), .val (.int (1 : Int32))] [(.int (1 : Int32)), (.int r)])) _
      refine XS.icmpNo X18.here hx rfl (hb hby at_47) rfl (teq (hy (Or.inr (Or.inl rfl)))).2 ?_
      show Steps p.tables e below (T18.setTop (mkF m 50 #[.val (.int p0), .val (.int ((p0 &&& (2147483647 : Int32)) % (6 : Int32))), .val (.ref tTIMESTAMP), .val (.int (1 : Int32))] [])) _
      refine XS.iconst X18.here hx rfl (hb hby at_50) ?_
      show Steps p.tables e below (T18.setTop (mkF m 51 #[.val (.int p0), .val (.int ((p0 &&& (2147483647 : Int32)) % (6 : Int32))), .val (.ref tTIMESTAMP), .val (.int (1 : Int32))] [(.int (1 : Int32))])) _
      refine XS.goto X18.here hx rfl (pc0 := 51) (pc' := 55) rfl (hb hby at_51) (by decide) (by decide) ?_
      show Steps p.tables e below (T18.setTop (mkF m 55 #[.val (.int p0), .val (.int ((p0 &&& (2147483647 : Int32)) % (6 : Int32))), .val (.ref tTIMESTAMP), .val (.int (1 : Int32))] [(.int (1 : Int32))])) _
      exact retN X18 hx (t := .boolean) Bd.returns (by simp) (hb hby at_55) hr
    · show Q_rm0 Z p0 tSTRING tINT tLONG tDOUBLE tBOOLEAN tTIMESTAMP uSTRING uINT uLONG uDOUBLE uBOOLEAN wM cl h0 n0 _ T18.heap _
      rw [e18]
      exact ⟨rfl, N18⟩
theorem own_elem {args : Array Value} {s : State} {t : Term} {x : Addr} {cl : Cell} {ty : FieldType} {i j : Int32} (e : t.eval args s none [] s = some (.ref x)) (A : Arr s s.heap x cl ty) (h : (Jvm.Cond.eq (.elem t (.int i)) (.int j)).value args s none s [] = some true) : ¬ (i < 0 ∨ cl.slots.size ≤ i.toNatClampNeg) ∧ cl.slots[i.toNatClampNeg]? = some (.int j) := by
  obtain ⟨u, v, a1, a2, -, k2⟩ := cmp_v (Or.inl h)
  have a3 := a2
  rw [Term.int_eval] at a3
  obtain rfl := Option.some.inj a3
  obtain ⟨z, rfl⟩ := k2
  have q : z = j := by simpa [Cond.value, a1, Term.int_eval] using h
  obtain ⟨b1, b2⟩ := elem_in a1 e (Term.int_eval _) A.1
  exact ⟨b1, by rw [b2, q]⟩
set_option maxRecDepth 65536 in
set_option maxHeartbeats 40000000 in
theorem comes_1 {Post : Tables → Env → Array Value → State → Outcome → State → Prop} (hpost : ∀ tb e args s v u, (limb_1_1.after args s (.returned v) u = true ∧ limb_1_2.after args s (.returned v) u = true ∧ True) → FrameEnd s (.returned v) u (Jvm.fieldLocs frame_1_writes args s ++ Jvm.arrayLocs frame_1_arrays args s ++ Jvm.staticLocs frame_1_statics s) 0 0 → Post tb e args s (.returned v) u) :
    ArmFor flags0 classFile x code maxLocals ret World_1 tables_1 room_1 Calls_1 rest_1 Pre_1 Post := by
  intro l hfl _ _ p e ha hc hk s m args below hf hA hF happ hP
  obtain ⟨hcalls, hrest, hpre⟩ := hP
  obtain ⟨-, -, -, hnamed, -, -, -, hat⟩ := (Spec.applies_iff hf).mp happ
  obtain ⟨hg, hn⟩ := and_e (Cond.before_iff.mp (show (Jvm.Cond.and given_1 narrow_1).before args s = true from hpre))
  obtain ⟨gc, gr⟩ := and_e hg
  obtain ⟨w0, rfl⟩ : ∃ w0 : Value, args = #[w0] := by
    have hs : args.size = 1 := by simpa [Cond.value, given_1] using gc
    obtain ⟨L⟩ := args
    match L, hs with
    | [w0], _ => exact ⟨w0, rfl⟩
  have hw := fun d (hd : d ∈ tables_1) => atoms_spec (ws := Jvm.Cond.code x code maxLocals ret :: tables_1) hat d (List.mem_cons_of_mem _ hd)
  have hfit : Fit s := fun {y c} hc i hi => by
    obtain ⟨ha, rfl⟩ := Array.getElem?_eq_some_iff.mp hc
    have q := List.all_eq_true.mp ((Array.all_eq_true_iff_forall_mem.mp hF) _ (Array.getElem_mem ha)) i (List.mem_range.mpr hi)
    simpa [Array.getElem?_eq_getElem hi] using q
  obtain ⟨i0, ei0⟩ := is_v gr
  obtain rfl : w0 = (.int i0) := Option.some.inj ei0
  obtain ⟨xtSTRING, hn⟩ := and_e hn
  obtain ⟨xM, hn⟩ := and_e hn
  obtain ⟨xlen, hn⟩ := and_e hn
  obtain ⟨otSTRING, hn⟩ := and_e hn
  obtain ⟨xuSTRING, hn⟩ := and_e hn
  obtain ⟨xuINT, hn⟩ := and_e hn
  obtain ⟨ouSTRING, hn⟩ := and_e hn
  obtain ⟨ouINT, hn⟩ := and_e hn
  obtain ⟨xuLONG, hn⟩ := and_e hn
  obtain ⟨ouLONG, hn⟩ := and_e hn
  obtain ⟨xuDOUBLE, hn⟩ := and_e hn
  obtain ⟨ouDOUBLE, hn⟩ := and_e hn
  obtain ⟨xtDOUBLE, hn⟩ := and_e hn
  obtain ⟨otDOUBLE, hn⟩ := and_e hn
  obtain ⟨xtLONG, hn⟩ := and_e hn
  obtain ⟨otLONG, hn⟩ := and_e hn
  obtain ⟨xtINT, hn⟩ := and_e hn
  obtain ⟨otINT, hn⟩ := and_e hn
  obtain ⟨xtTIMESTAMP, hn⟩ := and_e hn
  obtain ⟨otTIMESTAMP, hn⟩ := and_e hn
  obtain ⟨xtBOOLEAN, hn⟩ := and_e hn
  obtain ⟨otBOOLEAN, hn⟩ := and_e hn
  obtain ⟨xuBOOLEAN, hn⟩ := and_e hn
  obtain ⟨ouBOOLEAN, hn⟩ := and_e hn
  obtain ⟨m0, hn⟩ := and_e hn
  obtain ⟨m1, hn⟩ := and_e hn
  obtain ⟨m2, hn⟩ := and_e hn
  obtain ⟨m3, hn⟩ := and_e hn
  obtain ⟨m4, hn⟩ := and_e hn
  have m5 := hn
  obtain ⟨tSTRING, etSTRING⟩ := exa_v xtSTRING
  have S_tSTRING := Sta.start etSTRING (Or.inr ⟨hw _ (List.mem_of_getElem? (i := 6) rfl), hw _ (List.mem_of_getElem? (i := 7) rfl)⟩)
  have E_tSTRING := Exa.start etSTRING xtSTRING
  have F_tSTRING := Fld.start (own_fld etSTRING otSTRING)
  obtain ⟨tINT, etINT⟩ := exa_v xtINT
  have S_tINT := Sta.start etINT (Or.inr ⟨hw _ (List.mem_of_getElem? (i := 6) rfl), hw _ (List.mem_of_getElem? (i := 42) rfl)⟩)
  have E_tINT := Exa.start etINT xtINT
  have F_tINT := Fld.start (own_fld etINT otINT)
  obtain ⟨tLONG, etLONG⟩ := exa_v xtLONG
  have S_tLONG := Sta.start etLONG (Or.inr ⟨hw _ (List.mem_of_getElem? (i := 6) rfl), hw _ (List.mem_of_getElem? (i := 40) rfl)⟩)
  have E_tLONG := Exa.start etLONG xtLONG
  have F_tLONG := Fld.start (own_fld etLONG otLONG)
  obtain ⟨tDOUBLE, etDOUBLE⟩ := exa_v xtDOUBLE
  have S_tDOUBLE := Sta.start etDOUBLE (Or.inr ⟨hw _ (List.mem_of_getElem? (i := 6) rfl), hw _ (List.mem_of_getElem? (i := 38) rfl)⟩)
  have E_tDOUBLE := Exa.start etDOUBLE xtDOUBLE
  have F_tDOUBLE := Fld.start (own_fld etDOUBLE otDOUBLE)
  obtain ⟨tBOOLEAN, etBOOLEAN⟩ := exa_v xtBOOLEAN
  have S_tBOOLEAN := Sta.start etBOOLEAN (Or.inr ⟨hw _ (List.mem_of_getElem? (i := 6) rfl), hw _ (List.mem_of_getElem? (i := 46) rfl)⟩)
  have E_tBOOLEAN := Exa.start etBOOLEAN xtBOOLEAN
  have F_tBOOLEAN := Fld.start (own_fld etBOOLEAN otBOOLEAN)
  obtain ⟨tTIMESTAMP, etTIMESTAMP⟩ := exa_v xtTIMESTAMP
  have S_tTIMESTAMP := Sta.start etTIMESTAMP (Or.inr ⟨hw _ (List.mem_of_getElem? (i := 6) rfl), hw _ (List.mem_of_getElem? (i := 44) rfl)⟩)
  have E_tTIMESTAMP := Exa.start etTIMESTAMP xtTIMESTAMP
  have F_tTIMESTAMP := Fld.start (own_fld etTIMESTAMP otTIMESTAMP)
  obtain ⟨uSTRING, euSTRING⟩ := exa_v xuSTRING
  have S_uSTRING := Sta.start euSTRING (Or.inr ⟨hw _ (List.mem_of_getElem? (i := 10) rfl), hw _ (List.mem_of_getElem? (i := 25) rfl)⟩)
  have E_uSTRING := Exa.start euSTRING xuSTRING
  have F_uSTRING := Fld.start (own_fld euSTRING ouSTRING)
  obtain ⟨uINT, euINT⟩ := exa_v xuINT
  have S_uINT := Sta.start euINT (Or.inr ⟨hw _ (List.mem_of_getElem? (i := 10) rfl), hw _ (List.mem_of_getElem? (i := 32) rfl)⟩)
  have E_uINT := Exa.start euINT xuINT
  have F_uINT := Fld.start (own_fld euINT ouINT)
  obtain ⟨uLONG, euLONG⟩ := exa_v xuLONG
  have S_uLONG := Sta.start euLONG (Or.inr ⟨hw _ (List.mem_of_getElem? (i := 10) rfl), hw _ (List.mem_of_getElem? (i := 34) rfl)⟩)
  have E_uLONG := Exa.start euLONG xuLONG
  have F_uLONG := Fld.start (own_fld euLONG ouLONG)
  obtain ⟨uDOUBLE, euDOUBLE⟩ := exa_v xuDOUBLE
  have S_uDOUBLE := Sta.start euDOUBLE (Or.inr ⟨hw _ (List.mem_of_getElem? (i := 10) rfl), hw _ (List.mem_of_getElem? (i := 36) rfl)⟩)
  have E_uDOUBLE := Exa.start euDOUBLE xuDOUBLE
  have F_uDOUBLE := Fld.start (own_fld euDOUBLE ouDOUBLE)
  obtain ⟨uBOOLEAN, euBOOLEAN⟩ := exa_v xuBOOLEAN
  have S_uBOOLEAN := Sta.start euBOOLEAN (Or.inr ⟨hw _ (List.mem_of_getElem? (i := 10) rfl), hw _ (List.mem_of_getElem? (i := 48) rfl)⟩)
  have E_uBOOLEAN := Exa.start euBOOLEAN xuBOOLEAN
  have F_uBOOLEAN := Fld.start (own_fld euBOOLEAN ouBOOLEAN)
  obtain ⟨wM, eM⟩ := arr_v xM
  have S_M := Sta.start eM (Or.inr ⟨hw _ (List.mem_of_getElem? (i := 13) rfl), hw _ (List.mem_of_getElem? (i := 14) rfl)⟩)
  obtain ⟨cl, A⟩ := Arr.start eM xM
  obtain ⟨hin0, hat0⟩ := own_elem eM A m0
  obtain ⟨hin1, hat1⟩ := own_elem eM A m1
  obtain ⟨hin2, hat2⟩ := own_elem eM A m2
  obtain ⟨hin3, hat3⟩ := own_elem eM A m3
  obtain ⟨hin4, hat4⟩ := own_elem eM A m4
  obtain ⟨hin5, hat5⟩ := own_elem eM A m5
  have neSTRINGINT : ¬ (uSTRING = uINT) := Fld.ne F_uSTRING F_uINT (by decide)
  have neSTRINGLONG : ¬ (uSTRING = uLONG) := Fld.ne F_uSTRING F_uLONG (by decide)
  have neSTRINGDOUBLE : ¬ (uSTRING = uDOUBLE) := Fld.ne F_uSTRING F_uDOUBLE (by decide)
  have neBOOLEANINT : ¬ (uBOOLEAN = uINT) := Fld.ne F_uBOOLEAN F_uINT (by decide)
  have neBOOLEANLONG : ¬ (uBOOLEAN = uLONG) := Fld.ne F_uBOOLEAN F_uLONG (by decide)
  have neBOOLEANDOUBLE : ¬ (uBOOLEAN = uDOUBLE) := Fld.ne F_uBOOLEAN F_uDOUBLE (by decide)
  obtain ⟨n, o, h1, h2, h3, _, L, rfl, ⟨rfl, N⟩, hq⟩ := rm0 l s _ hw tables_1 i0 tSTRING tINT tLONG tDOUBLE tBOOLEAN tTIMESTAMP uSTRING uINT uLONG uDOUBLE uBOOLEAN wM cl s.heap s.heap.size (Nat.le_refl _) S_tSTRING S_tINT S_tLONG S_tDOUBLE S_tBOOLEAN S_tTIMESTAMP E_tSTRING F_tSTRING E_tINT F_tINT E_tLONG F_tLONG E_tDOUBLE F_tDOUBLE E_tBOOLEAN F_tBOOLEAN E_tTIMESTAMP F_tTIMESTAMP S_uSTRING E_uSTRING S_uINT E_uINT S_uLONG E_uLONG S_uDOUBLE E_uDOUBLE S_uBOOLEAN E_uBOOLEAN S_M A hin0 hat0 hin1 hat1 hin2 hat2 hin3 hat3 hin4 hat4 hin5 hat5 neSTRINGINT neSTRINGLONG neSTRINGDOUBLE neBOOLEANINT neBOOLEANLONG neBOOLEANDOUBLE p e ha hc hk s m _ below hf ((Spec.applies_iff_loose hf).mp happ).1 ⟨rfl, State.Warmed39.refl s, rfl⟩ trivial
  refine ⟨n, _, h1, h2, h3, hpost _ _ _ _ _ _ ⟨Cond.after_iff.mpr rfl, Cond.after_iff.mpr (eq_i res_at (Term.int_eval (1)) rfl), trivial⟩ ⟨hq.1, hq.2.1, (hq.2.2.sift fun y hy => Or.inr (N y hy)).mono (by decide) (by decide)⟩⟩
theorem main_1_1 : Claimed_1_1 := comes_1 fun _ _ _ _ _ _ h hF => ⟨h.1, hF⟩
theorem main_1_2 : Claimed_1_2 := comes_1 fun _ _ _ _ _ _ h hF => ⟨h.2.1, hF⟩
end Jvm.Pilot.@@N@@
namespace Jvm.Pilot.@@N@@
open Jvm Jvm.ClassFile Sem Op Lib Jvm.Free Jvm.Stand Jvm.Pilot.@@N@@.Jvm.D
/-! MADE BY PROGRAM (witnessworld.py) out of the Statement's table words and the real class files: 14 classes; the members and pool entries that the words name. The judged class is class 1, her method 2. -/
namespace start1
open Jvm.ClassFile
def u (s : String) : CpInfo := .utf8 (stringToUtf16 s)
/-- a pool by its gaps: so many unusable entries, then the entry; so many at the end -/
def gap : Nat → List CpInfo → List CpInfo
  | 0, r => r
  | n + 1, r => .unusable :: gap n r
def poolList (es : List (Nat × CpInfo)) (last : Nat) : List CpInfo := es.foldr (fun e r => gap e.1 (e.2 :: r)) (gap last [])
def pool (es : List (Nat × CpInfo)) (last : Nat) : Array CpInfo := ⟨poolList es last⟩
def fileOf (pool : Array CpInfo) (this : Nat) (attrs : Array Attribute := #[]) (ms : Array MethodInfo := #[]) (fl : Nat := 33) (sup : Nat := 0) (ifs : Array Nat := #[]) (fds : Array FieldInfo := #[]) : ClassFile where
  minorVersion := 0
  majorVersion := 65
  constantPool := pool
  accessFlags := fl
  thisClass := this
  superClass := sup
  interfaces := ifs
  fields := fds
  methods := ms
  attributes := attrs
def plain (name : String) (sup : Option ClassId) : Class where
  name := name
  kind := .ordinary
  loader := none
  accessFlags := 33
  super := sup
  interfaces := #[]
  cf := none
  fields := #[]
  methods := #[]
  instanceTypes := #[]
  staticTypes := #[]
  resolved := #[]
  callSites := []
  init := .initialized
  statics := none
  mirror := none

def pool0 : Array CpInfo := pool [(5, u "<init>"), (0, u "()V"), (1, .class_ 10), (1, u "java/lang/Object")] 113

def k0m0 : Method := { name := "<init>", desc := "()V", sig := { parameters := [], returnType := none }, accessFlags := 1, code := none }
/-- java/lang/Object -/
def k0 : Class := { plain "java/lang/Object" none with
  accessFlags := 33
  interfaces := #[]
  cf := some (fileOf pool0 8 #[] #[{ accessFlags := 1, nameIndex := 5, descriptorIndex := 6, attributes := #[] }] 33 0 #[] #[])
  fields := #[]
  methods := #[k0m0]
  instanceTypes := #[]
  staticTypes := #[]
  resolved := Array.replicate 124 none
  statics := none }

def pool1 : Array CpInfo := pool [(2, .class_ 4), (1, u "java/lang/Object"), (0, u "<init>"), (0, u "()V"), (0, .fieldref 8 9), (0, .class_ 10), (0, .nameAndType 11 12), (0, u "com/example/tidewater/tidewater/core/table/ColumnType"), (0, u "STRING"), (0, u "Lcom/example/tidewater/tidewater/core/table/ColumnType;"), (0, .fieldref 8 14), (0, .nameAndType 15 12), (0, u "INT"), (0, .fieldref 8 17), (0, .nameAndType 18 12), (0, u "LONG"), (0, .fieldref 8 20), (0, .nameAndType 21 12), (0, u "DOUBLE"), (0, .fieldref 8 23), (0, .nameAndType 24 12), (0, u "BOOLEAN"), (0, .fieldref 8 26), (0, .nameAndType 27 12), (0, u "TIMESTAMP"), (0, .integer 2147483647), (0, .methodref 30 31), (0, .class_ 32), (0, .nameAndType 33 34), (0, u "com/example/tidewater/tidewater/core/ColumnStorageOrderedPinLaw"), (0, u "pick"), (0, u "(I)Lcom/example/tidewater/tidewater/core/table/ColumnType;"), (0, .methodref 36 37), (0, .class_ 38), (0, .nameAndType 39 40), (0, u "com/example/tidewater/tidewater/core/ColumnStorage"), (0, u "of"), (0, u "(Lcom/example/tidewater/tidewater/core/table/ColumnType;)Lcom/example/tidewater/tidewater/core/ColumnStorage;"), (0, .methodref 36 42), (0, .nameAndType 43 44), (0, u "ordered"), (0, u "()Z"), (3, u "law"), (0, u "(I)Z")] 2

def k1m0 : Method := { name := "<init>", desc := "()V", sig := { parameters := [], returnType := none }, accessFlags := 2, code := none }
def k1c1 : Code := { maxStack := 2, maxLocals := 1, code := method_2_code, exceptionTable := #[], attributes := #[] }
def k1m1 : Method := { name := "pick", desc := "(I)Lcom/example/tidewater/tidewater/core/table/ColumnType;", sig := { parameters := [.int], returnType := some (.object "com/example/tidewater/tidewater/core/table/ColumnType") }, accessFlags := 10, code := some k1c1 }
def k1c2 : Code := { maxStack := 2, maxLocals := 4, code := code, exceptionTable := #[], attributes := #[] }
def k1m2 : Method := { name := "law", desc := "(I)Z", sig := { parameters := [.int], returnType := some .boolean }, accessFlags := 9, code := some k1c2 }
/-- com/example/tidewater/tidewater/core/ColumnStorageOrderedPinLaw -/
def k1 : Class := { plain "com/example/tidewater/tidewater/core/ColumnStorageOrderedPinLaw" (some 0) with
  accessFlags := 49
  interfaces := #[]
  cf := some (fileOf pool1 30 #[] #[{ accessFlags := 2, nameIndex := 5, descriptorIndex := 6, attributes := #[] }, { accessFlags := 10, nameIndex := 33, descriptorIndex := 34, attributes := #[] }, { accessFlags := 9, nameIndex := 48, descriptorIndex := 49, attributes := #[] }] 49 2 #[] #[])
  fields := #[]
  methods := #[k1m0, k1m1, k1m2]
  instanceTypes := #[]
  staticTypes := #[]
  resolved := Array.replicate 52 none
  statics := none }

def pool2 : Array CpInfo := pool [(1, .class_ 2), (0, u "java/lang/constant/Constable"), (0, .class_ 4), (0, u "java/lang/Object")] 6

/-- java/lang/constant/Constable -/
def k2 : Class := { plain "java/lang/constant/Constable" (some 0) with
  accessFlags := 1537
  interfaces := #[]
  cf := some (fileOf pool2 1 #[] #[] 1537 3 #[] #[])
  fields := #[]
  methods := #[]
  instanceTypes := #[]
  staticTypes := #[]
  resolved := Array.replicate 11 none
  statics := none }

def pool3 : Array CpInfo := pool [(1, .class_ 2), (0, u "java/lang/Comparable"), (0, .class_ 4), (0, u "java/lang/Object")] 7

/-- java/lang/Comparable -/
def k3 : Class := { plain "java/lang/Comparable" (some 0) with
  accessFlags := 1537
  interfaces := #[]
  cf := some (fileOf pool3 1 #[] #[] 1537 3 #[] #[])
  fields := #[]
  methods := #[]
  instanceTypes := #[]
  staticTypes := #[]
  resolved := Array.replicate 12 none
  statics := none }

def pool4 : Array CpInfo := pool [(1, .class_ 2), (0, u "java/io/Serializable"), (0, .class_ 4), (0, u "java/lang/Object")] 2

/-- java/io/Serializable -/
def k4 : Class := { plain "java/io/Serializable" (some 0) with
  accessFlags := 1537
  interfaces := #[]
  cf := some (fileOf pool4 1 #[] #[] 1537 3 #[] #[])
  fields := #[]
  methods := #[]
  instanceTypes := #[]
  staticTypes := #[]
  resolved := Array.replicate 7 none
  statics := none }

def pool5 : Array CpInfo := pool [(2, .class_ 4), (1, u "java/lang/Enum"), (0, u "name"), (0, u "Ljava/lang/String;"), (0, .fieldref 2 8), (0, .nameAndType 9 10), (0, u "ordinal"), (0, u "I"), (1, .class_ 14), (1, u "java/lang/Object"), (4, u "hash"), (86, .class_ 108), (1, u "java/lang/Enum$EnumDesc"), (2, .class_ 112), (0, u "java/lang/constant/Constable"), (0, .class_ 114), (0, u "java/lang/Comparable"), (0, .class_ 116), (0, u "java/io/Serializable"), (9, u "()I")] 77

def k5c0 : Code := { maxStack := 1, maxLocals := 1, code := jdk_37_method_2_code, exceptionTable := #[], attributes := #[] }
def k5m0 : Method := { name := "ordinal", desc := "()I", sig := { parameters := [], returnType := some .int }, accessFlags := 17, code := some k5c0 }
/-- java/lang/Enum -/
def k5 : Class := { plain "java/lang/Enum" (some 0) with
  accessFlags := 1057
  interfaces := #[2, 3, 4]
  cf := some (fileOf pool5 2 #[.nestMembers #[106]] #[{ accessFlags := 17, nameIndex := 9, descriptorIndex := 126, attributes := #[] }] 1057 12 #[111, 113, 115] #[{ accessFlags := 18, nameIndex := 5, descriptorIndex := 6, attributes := #[] }, { accessFlags := 18, nameIndex := 9, descriptorIndex := 10, attributes := #[] }, { accessFlags := 2, nameIndex := 19, descriptorIndex := 10, attributes := #[] }])
  fields := #[{ name := "name", type := (.object "java/lang/String"), accessFlags := 18, slot := 0, constantValue := 0 }, { name := "ordinal", type := .int, accessFlags := 18, slot := 1, constantValue := 0 }, { name := "hash", type := .int, accessFlags := 2, slot := 2, constantValue := 0 }]
  methods := #[k5m0]
  instanceTypes := #[(.object "java/lang/String"), .int, .int]
  staticTypes := #[]
  resolved := Array.replicate 204 none
  statics := none }

def pool6 : Array CpInfo := pool [(1, .class_ 2), (0, u "com/example/tidewater/tidewater/core/table/ColumnType"), (2, u "STRING"), (0, u "Lcom/example/tidewater/tidewater/core/table/ColumnType;"), (2, u "INT"), (2, u "LONG"), (2, u "DOUBLE"), (2, u "BOOLEAN"), (2, u "TIMESTAMP"), (2, u "$VALUES"), (0, u "[Lcom/example/tidewater/tidewater/core/table/ColumnType;"), (6, .class_ 34), (1, u "java/lang/Enum"), (8, u "parser"), (0, u "Ljava/util/function/Function;"), (2, u "numeric"), (0, u "Z"), (97, u "DECIMAL"), (0, u "Ljava/util/regex/Pattern;")] 162

/-- com/example/tidewater/tidewater/core/table/ColumnType -/
def k6 : Class := { plain "com/example/tidewater/tidewater/core/table/ColumnType" (some 5) with
  accessFlags := 16433
  interfaces := #[]
  cf := some (fileOf pool6 1 #[] #[] 16433 32 #[] #[{ accessFlags := 16409, nameIndex := 5, descriptorIndex := 6, attributes := #[] }, { accessFlags := 16409, nameIndex := 9, descriptorIndex := 6, attributes := #[] }, { accessFlags := 16409, nameIndex := 12, descriptorIndex := 6, attributes := #[] }, { accessFlags := 16409, nameIndex := 15, descriptorIndex := 6, attributes := #[] }, { accessFlags := 16409, nameIndex := 18, descriptorIndex := 6, attributes := #[] }, { accessFlags := 16409, nameIndex := 21, descriptorIndex := 6, attributes := #[] }, { accessFlags := 26, nameIndex := 146, descriptorIndex := 147, attributes := #[] }, { accessFlags := 18, nameIndex := 43, descriptorIndex := 44, attributes := #[] }, { accessFlags := 18, nameIndex := 47, descriptorIndex := 48, attributes := #[] }, { accessFlags := 4122, nameIndex := 24, descriptorIndex := 25, attributes := #[] }])
  fields := #[{ name := "STRING", type := (.object "com/example/tidewater/tidewater/core/table/ColumnType"), accessFlags := 16409, slot := 0, constantValue := 0 }, { name := "INT", type := (.object "com/example/tidewater/tidewater/core/table/ColumnType"), accessFlags := 16409, slot := 1, constantValue := 0 }, { name := "LONG", type := (.object "com/example/tidewater/tidewater/core/table/ColumnType"), accessFlags := 16409, slot := 2, constantValue := 0 }, { name := "DOUBLE", type := (.object "com/example/tidewater/tidewater/core/table/ColumnType"), accessFlags := 16409, slot := 3, constantValue := 0 }, { name := "BOOLEAN", type := (.object "com/example/tidewater/tidewater/core/table/ColumnType"), accessFlags := 16409, slot := 4, constantValue := 0 }, { name := "TIMESTAMP", type := (.object "com/example/tidewater/tidewater/core/table/ColumnType"), accessFlags := 16409, slot := 5, constantValue := 0 }, { name := "DECIMAL", type := (.object "java/util/regex/Pattern"), accessFlags := 26, slot := 6, constantValue := 0 }, { name := "parser", type := (.object "java/util/function/Function"), accessFlags := 18, slot := 3, constantValue := 0 }, { name := "numeric", type := .boolean, accessFlags := 18, slot := 4, constantValue := 0 }, { name := "$VALUES", type := (.array (.object "com/example/tidewater/tidewater/core/table/ColumnType")), accessFlags := 4122, slot := 7, constantValue := 0 }]
  methods := #[]
  instanceTypes := #[(.object "java/lang/String"), .int, .int, (.object "java/util/function/Function"), .boolean]
  staticTypes := #[(.object "com/example/tidewater/tidewater/core/table/ColumnType"), (.object "com/example/tidewater/tidewater/core/table/ColumnType"), (.object "com/example/tidewater/tidewater/core/table/ColumnType"), (.object "com/example/tidewater/tidewater/core/table/ColumnType"), (.object "com/example/tidewater/tidewater/core/table/ColumnType"), (.object "com/example/tidewater/tidewater/core/table/ColumnType"), (.object "java/util/regex/Pattern"), (.array (.object "com/example/tidewater/tidewater/core/table/ColumnType"))]
  resolved := Array.replicate 310 none
  statics := some 0 }

def pool7 : Array CpInfo := pool [(1, .class_ 2), (0, u "com/example/tidewater/tidewater/core/ColumnStorage"), (0, .fieldref 1 4), (0, .nameAndType 5 6), (0, u "STRING"), (0, u "Lcom/example/tidewater/tidewater/core/ColumnStorage;"), (0, .fieldref 1 8), (0, .nameAndType 9 6), (0, u "INT"), (0, .fieldref 1 11), (0, .nameAndType 12 6), (0, u "LONG"), (0, .fieldref 1 14), (0, .nameAndType 15 6), (0, u "DOUBLE"), (0, .fieldref 1 17), (0, .nameAndType 18 6), (0, u "BOOLEAN"), (2, u "$VALUES"), (0, u "[Lcom/example/tidewater/tidewater/core/ColumnStorage;"), (6, .class_ 31), (1, u "java/lang/Enum"), (8, u "builders"), (0, u "Ljava/util/function/IntFunction;"), (0, .fieldref 43 44), (0, .class_ 45), (0, .nameAndType 46 47), (0, u "com/example/tidewater/tidewater/core/ColumnStorage$1"), (0, u "$SwitchMap$com$example$tidewater$tidewater$core$table$ColumnType"), (0, u "[I"), (0, .methodref 49 50), (0, .class_ 51), (0, .nameAndType 52 53), (0, u "com/example/tidewater/tidewater/core/table/ColumnType"), (0, u "ordinal"), (0, u "()I"), (85, u "of"), (0, u "(Lcom/example/tidewater/tidewater/core/table/ColumnType;)Lcom/example/tidewater/tidewater/core/ColumnStorage;"), (2, u "ordered"), (0, u "()Z")] 66

def k7c0 : Code := { maxStack := 4, maxLocals := 1, code := prog_24_method_4_code, exceptionTable := #[], attributes := #[] }
def k7m0 : Method := { name := "of", desc := "(Lcom/example/tidewater/tidewater/core/table/ColumnType;)Lcom/example/tidewater/tidewater/core/ColumnStorage;", sig := { parameters := [(.object "com/example/tidewater/tidewater/core/table/ColumnType")], returnType := some (.object "com/example/tidewater/tidewater/core/ColumnStorage") }, accessFlags := 8, code := some k7c0 }
def k7c1 : Code := { maxStack := 2, maxLocals := 1, code := prog_24_method_7_code, exceptionTable := #[], attributes := #[] }
def k7m1 : Method := { name := "ordered", desc := "()Z", sig := { parameters := [], returnType := some .boolean }, accessFlags := 0, code := some k7c1 }
/-- com/example/tidewater/tidewater/core/ColumnStorage -/
def k7 : Class := { plain "com/example/tidewater/tidewater/core/ColumnStorage" (some 5) with
  accessFlags := 16432
  interfaces := #[]
  cf := some (fileOf pool7 1 #[.nestMembers #[43]] #[{ accessFlags := 8, nameIndex := 139, descriptorIndex := 140, attributes := #[] }, { accessFlags := 0, nameIndex := 143, descriptorIndex := 144, attributes := #[] }] 16432 29 #[] #[{ accessFlags := 16409, nameIndex := 5, descriptorIndex := 6, attributes := #[] }, { accessFlags := 16409, nameIndex := 9, descriptorIndex := 6, attributes := #[] }, { accessFlags := 16409, nameIndex := 12, descriptorIndex := 6, attributes := #[] }, { accessFlags := 16409, nameIndex := 15, descriptorIndex := 6, attributes := #[] }, { accessFlags := 16409, nameIndex := 18, descriptorIndex := 6, attributes := #[] }, { accessFlags := 18, nameIndex := 40, descriptorIndex := 41, attributes := #[] }, { accessFlags := 4122, nameIndex := 21, descriptorIndex := 22, attributes := #[] }])
  fields := #[{ name := "STRING", type := (.object "com/example/tidewater/tidewater/core/ColumnStorage"), accessFlags := 16409, slot := 0, constantValue := 0 }, { name := "INT", type := (.object "com/example/tidewater/tidewater/core/ColumnStorage"), accessFlags := 16409, slot := 1, constantValue := 0 }, { name := "LONG", type := (.object "com/example/tidewater/tidewater/core/ColumnStorage"), accessFlags := 16409, slot := 2, constantValue := 0 }, { name := "DOUBLE", type := (.object "com/example/tidewater/tidewater/core/ColumnStorage"), accessFlags := 16409, slot := 3, constantValue := 0 }, { name := "BOOLEAN", type := (.object "com/example/tidewater/tidewater/core/ColumnStorage"), accessFlags := 16409, slot := 4, constantValue := 0 }, { name := "builders", type := (.object "java/util/function/IntFunction"), accessFlags := 18, slot := 3, constantValue := 0 }, { name := "$VALUES", type := (.array (.object "com/example/tidewater/tidewater/core/ColumnStorage")), accessFlags := 4122, slot := 5, constantValue := 0 }]
  methods := #[k7m0, k7m1]
  instanceTypes := #[(.object "java/lang/String"), .int, .int, (.object "java/util/function/IntFunction")]
  staticTypes := #[(.object "com/example/tidewater/tidewater/core/ColumnStorage"), (.object "com/example/tidewater/tidewater/core/ColumnStorage"), (.object "com/example/tidewater/tidewater/core/ColumnStorage"), (.object "com/example/tidewater/tidewater/core/ColumnStorage"), (.object "com/example/tidewater/tidewater/core/ColumnStorage"), (.array (.object "com/example/tidewater/tidewater/core/ColumnStorage"))]
  resolved := Array.replicate 211 none
  statics := some 1 }

def pool8 : Array CpInfo := pool [(8, .class_ 10), (1, u "com/example/tidewater/tidewater/core/ColumnStorage$1"), (0, u "$SwitchMap$com$example$tidewater$tidewater$core$table$ColumnType"), (0, u "[I"), (25, .class_ 39), (0, u "java/lang/Object"), (8, .class_ 49), (0, u "com/example/tidewater/tidewater/core/ColumnStorage")] 2

/-- com/example/tidewater/tidewater/core/ColumnStorage$1 -/
def k8 : Class := { plain "com/example/tidewater/tidewater/core/ColumnStorage$1" (some 0) with
  accessFlags := 4128
  interfaces := #[]
  cf := some (fileOf pool8 8 #[.nestHost 48] #[] 4128 38 #[] #[{ accessFlags := 4120, nameIndex := 11, descriptorIndex := 12, attributes := #[] }])
  fields := #[{ name := "$SwitchMap$com$example$tidewater$tidewater$core$table$ColumnType", type := (.array .int), accessFlags := 4120, slot := 0, constantValue := 0 }]
  methods := #[]
  instanceTypes := #[]
  staticTypes := #[(.array .int)]
  resolved := Array.replicate 52 none
  statics := some 2 }

def pool9 : Array CpInfo := pool [(1, u "java/lang/Cloneable"), (0, .class_ 1), (0, u "java/lang/Object"), (0, .class_ 3)] 3

/-- java/lang/Cloneable -/
def k9 : Class := { plain "java/lang/Cloneable" (some 0) with
  accessFlags := 1537
  interfaces := #[]
  cf := some (fileOf pool9 2 #[] #[] 1537 4 #[] #[])
  fields := #[]
  methods := #[]
  instanceTypes := #[]
  staticTypes := #[]
  resolved := Array.replicate 8 none
  statics := none }

/-- the primitive byte -/
def k10 : Class := { plain "byte" none with kind := .primitive 'B', accessFlags := 0x411 }
/-- [B -/
def k11 : Class := { plain "[B" (some 0) with kind := .array 10 .byte, interfaces := #[9, 4], accessFlags := 1041 }

/-- the primitive int -/
def k12 : Class := { plain "int" none with kind := .primitive 'I', accessFlags := 0x411 }
/-- [I -/
def k13 : Class := { plain "[I" (some 0) with kind := .array 12 .int, interfaces := #[9, 4], accessFlags := 1041 }

def heap : Heap := #[{ cls := 6, slots := #[.ref 3, .ref 4, .ref 5, .ref 6, .ref 7, .ref 8, .null, .null], vm := .statics 6 },
  { cls := 7, slots := #[.ref 9, .ref 10, .ref 11, .ref 12, .ref 13, .null], vm := .statics 7 },
  { cls := 8, slots := #[.ref 14], vm := .statics 8 },
  { cls := 6, slots := #[.null, .int 0, .int 0, .null, .int 0], vm := .none },
  { cls := 6, slots := #[.null, .int 1, .int 0, .null, .int 0], vm := .none },
  { cls := 6, slots := #[.null, .int 2, .int 0, .null, .int 0], vm := .none },
  { cls := 6, slots := #[.null, .int 3, .int 0, .null, .int 0], vm := .none },
  { cls := 6, slots := #[.null, .int 4, .int 0, .null, .int 0], vm := .none },
  { cls := 6, slots := #[.null, .int 5, .int 0, .null, .int 0], vm := .none },
  { cls := 7, slots := #[.null, .int 0, .int 0, .null], vm := .none },
  { cls := 7, slots := #[.null, .int 1, .int 0, .null], vm := .none },
  { cls := 7, slots := #[.null, .int 2, .int 0, .null], vm := .none },
  { cls := 7, slots := #[.null, .int 3, .int 0, .null], vm := .none },
  { cls := 7, slots := #[.null, .int 4, .int 0, .null], vm := .none },
  { cls := 13, slots := #[.int 1, .int 2, .int 3, .int 5, .int 6, .int 4], vm := .none }]
def classes : Array Class := #[k0, k1, k2, k3, k4, k5, k6, k7, k8, k9, k10, k11, k12, k13]
def interned : List (Array UInt16 × Addr) := []
def slotsUsed : Nat := 71
def theMethod : MethodId := ⟨1, 2⟩
def args0 : Array Value := #[.int 5]
def aboutOver (below : List Frame) : State where
  vm := { classes := classes, interned := interned.toArray }
  heap := heap
  slotsUsed := slotsUsed
  threads := #[{ frames := .invoking theMethod args0 :: below }]
def below0 : List Frame := [.native { method := ⟨0, 0⟩, args := #[] }]
def about1 : State := aboutOver below0
def p0 : Program := .bare "" "" ""
def e0 : Env := launch0.env 0 0 0
theorem w_frames : about1.frames = Frame.invoking theMethod args0 :: below0 := rfl
set_option maxRecDepth 65536 in
theorem w_args : argsFit about1.vm theMethod args0 = true := by decide +kernel
set_option maxRecDepth 65536 in
theorem w_heap : heapFits about1 = true := by decide +kernel
set_option maxRecDepth 65536 in
theorem w_runnable : about1.curStatus? = some .runnable := by decide +kernel
set_option maxRecDepth 65536 in
theorem w_alone : about1.alone = true := by decide +kernel
set_option maxRecDepth 65536 in
theorem w_named : about1.methodNamed? x = some theMethod := by decide +kernel
set_option maxRecDepth 65536 in
theorem w_hears : about1.hears theMethod below0 = true := by decide +kernel
set_option maxRecDepth 65536 in
theorem w_ripe : about1.ripe theMethod args0 below0 = true := by decide +kernel
theorem w_running : about1.status = .running := rfl
set_option maxRecDepth 65536 in
theorem w_room : about1.hasRoom e0.platform room_1 = true :=
  launch0.hasRoom_least _ room_1 (by decide +kernel) (by decide +kernel) (by decide +kernel) (by decide +kernel) (by decide +kernel) (by decide +kernel)
theorem allAtoms_all (ts : List Jvm.Cond) (a : Array Jvm.Value) (st : Jvm.State) : (allAtoms ts).before a st = ts.all (fun c => c.before a st) := by
  induction ts with
  | nil => rfl
  | cons c t ih =>
    show (Jvm.Cond.and c (allAtoms t)).before a st = _
    rw [Jvm.Cond.before_and, ih, List.all_cons]
def words1 : List Jvm.Cond := Jvm.Cond.code x code maxLocals ret :: tables_1
/-- a 'code' word, met by the world's own term for the bytes: nothing is compared byte by byte -/
theorem code_word {y : MethodName} {bytes : ByteArray} {mx : Nat} {rt : Option FieldType} {a : Array Value} {s : State} {m : MethodId} {meth : Method} {c : Code} (h1 : s.methodNamed? y = some m) (h2 : s.vm.method? m = some meth) (h3 : meth.code = some c) (h4 : c.code = bytes)
    (h5 : (c.maxLocals == mx && c.exceptionTable.isEmpty && decide (c.maxStack ≤ mostOperands) && decide (meth.sig.returnType = rt) && !meth.locks && decide (parseMethodDescriptor y.desc = some meth.sig)) = true) : (Jvm.Cond.code y bytes mx rt).before a s = true := by
  simp only [Bool.and_eq_true, beq_iff_eq, Bool.not_eq_true', decide_eq_true_eq] at h5
  obtain ⟨⟨⟨⟨⟨g1, g2⟩, g3⟩, g4⟩, g5⟩, g6⟩ := h5
  simp [Cond.before, Cond.holds, Cond.value, h1, h2, h3, h4, g1, g2, g3, g4, g5, g6]
def isCode : Jvm.Cond → Bool
  | .code _ _ _ _ => true
  | _ => false
theorem all_split {L : List Jvm.Cond} {P : Jvm.Cond → Bool} (h1 : L.all (fun c => isCode c || P c) = true) (h2 : ∀ c ∈ L.filter isCode, P c = true) : L.all P = true := by
  refine List.all_eq_true.mpr fun c hc => ?_
  have h := List.all_eq_true.mp h1 c hc
  rcases Bool.eq_false_or_eq_true (isCode c) with hi | hi
  · exact h2 c (List.mem_filter.mpr ⟨hc, hi⟩)
  · simpa [hi] using h
set_option maxRecDepth 65536 in
theorem w_c0 : (Jvm.Cond.code x code maxLocals ret).before args0 about1 = true := code_word (m := ⟨1, 2⟩) (meth := k1m2) (c := k1c2) (by decide +kernel) rfl rfl rfl (by decide +kernel)
set_option maxRecDepth 65536 in
theorem w_c1 : (Jvm.Cond.code ({ cls := "com/example/tidewater/tidewater/core/ColumnStorageOrderedPinLaw", name := "pick", desc := "(I)Lcom/example/tidewater/tidewater/core/table/ColumnType;" } : Jvm.MethodName) method_2_code (1 : Nat) (Option.some (Jvm.ClassFile.FieldType.object "com/example/tidewater/tidewater/core/table/ColumnType"))).before args0 about1 = true := code_word (m := ⟨1, 1⟩) (meth := k1m1) (c := k1c1) (by decide +kernel) rfl rfl rfl (by decide +kernel)
set_option maxRecDepth 65536 in
theorem w_c2 : (Jvm.Cond.code ({ cls := "com/example/tidewater/tidewater/core/ColumnStorage", name := "of", desc := "(Lcom/example/tidewater/tidewater/core/table/ColumnType;)Lcom/example/tidewater/tidewater/core/ColumnStorage;" } : Jvm.MethodName) prog_24_method_4_code (1 : Nat) (Option.some (Jvm.ClassFile.FieldType.object "com/example/tidewater/tidewater/core/ColumnStorage"))).before args0 about1 = true := code_word (m := ⟨7, 0⟩) (meth := k7m0) (c := k7c0) (by decide +kernel) rfl rfl rfl (by decide +kernel)
set_option maxRecDepth 65536 in
theorem w_c3 : (Jvm.Cond.code ({ cls := "java/lang/Enum", name := "ordinal", desc := "()I" } : Jvm.MethodName) jdk_37_method_2_code (1 : Nat) (Option.some Jvm.ClassFile.FieldType.int)).before args0 about1 = true := code_word (m := ⟨5, 0⟩) (meth := k5m0) (c := k5c0) (by decide +kernel) rfl rfl rfl (by decide +kernel)
set_option maxRecDepth 65536 in
theorem w_c4 : (Jvm.Cond.code ({ cls := "com/example/tidewater/tidewater/core/ColumnStorage", name := "ordered", desc := "()Z" } : Jvm.MethodName) prog_24_method_7_code (1 : Nat) (Option.some Jvm.ClassFile.FieldType.boolean)).before args0 about1 = true := code_word (m := ⟨7, 1⟩) (meth := k7m1) (c := k7c1) (by decide +kernel) rfl rfl rfl (by decide +kernel)
def codes1 : List Jvm.Cond := [Jvm.Cond.code x code maxLocals ret, Jvm.Cond.code ({ cls := "com/example/tidewater/tidewater/core/ColumnStorageOrderedPinLaw", name := "pick", desc := "(I)Lcom/example/tidewater/tidewater/core/table/ColumnType;" } : Jvm.MethodName) method_2_code (1 : Nat) (Option.some (Jvm.ClassFile.FieldType.object "com/example/tidewater/tidewater/core/table/ColumnType")), Jvm.Cond.code ({ cls := "com/example/tidewater/tidewater/core/ColumnStorage", name := "of", desc := "(Lcom/example/tidewater/tidewater/core/table/ColumnType;)Lcom/example/tidewater/tidewater/core/ColumnStorage;" } : Jvm.MethodName) prog_24_method_4_code (1 : Nat) (Option.some (Jvm.ClassFile.FieldType.object "com/example/tidewater/tidewater/core/ColumnStorage")), Jvm.Cond.code ({ cls := "java/lang/Enum", name := "ordinal", desc := "()I" } : Jvm.MethodName) jdk_37_method_2_code (1 : Nat) (Option.some Jvm.ClassFile.FieldType.int), Jvm.Cond.code ({ cls := "com/example/tidewater/tidewater/core/ColumnStorage", name := "ordered", desc := "()Z" } : Jvm.MethodName) prog_24_method_7_code (1 : Nat) (Option.some Jvm.ClassFile.FieldType.boolean)]
set_option maxRecDepth 65536 in
theorem codes_eq : words1.filter isCode = codes1 := rfl
theorem w_codes : ∀ c ∈ words1.filter isCode, c.before args0 about1 = true := by
  rw [codes_eq]
  intro c hc
  simp only [codes1, List.mem_cons, List.not_mem_nil, or_false] at hc
  rcases hc with rfl | rfl | rfl | rfl | rfl
  · exact w_c0
  · exact w_c1
  · exact w_c2
  · exact w_c3
  · exact w_c4
set_option maxRecDepth 65536 in
theorem w_t1 : (words1.take 24).all (fun c => isCode c || c.before args0 about1) = true := by decide +kernel
set_option maxRecDepth 65536 in
theorem w_t2 : ((words1.drop 24).take 24).all (fun c => isCode c || c.before args0 about1) = true := by decide +kernel
set_option maxRecDepth 65536 in
theorem w_t3 : ((words1.drop 24).drop 24).all (fun c => isCode c || c.before args0 about1) = true := by decide +kernel
theorem w_tables : (allAtoms (Jvm.Cond.code x code maxLocals ret :: tables_1)).before args0 about1 = true := by
  rw [allAtoms_all]
  show words1.all (fun c => c.before args0 about1) = true
  refine all_split ?_ w_codes
  rw [← List.take_append_drop 24 words1, List.all_append, w_t1, ← List.take_append_drop 24 (words1.drop 24), List.all_append, w_t2, w_t3]
  rfl
set_option maxRecDepth 65536 in
theorem w_case : (Jvm.Cond.and given_1 narrow_1).before args0 about1 = true := by decide +kernel
theorem w_applies : (headSpec (Jvm.Cond.code x code maxLocals ret :: tables_1) room_1).applies x e0.platform about1 = true :=
  (Spec.applies_iff w_frames).mpr ⟨w_running, w_runnable, w_alone, w_named, w_hears, w_ripe, w_room, w_tables⟩
theorem atStart : AtStart classFile x code maxLocals ret World_1 tables_1 room_1 Calls_1 rest_1 Pre_1 launch0 p0 e0 about1 theMethod args0 below0 :=
  ⟨lists_1, trivial, launch0.admits_env _ _ _, launch0.least_env, fairChoices_fair.cas, fairChoices_fair.clock, w_frames, w_args, w_heap, w_applies, trivial, trivial, w_case⟩
end start1
theorem witness_1 : WitnessClaimed_1 := ⟨start1.p0, start1.e0, start1.about1, start1.theMethod, start1.args0, start1.below0, start1.atStart⟩
end Jvm.Pilot.@@N@@
