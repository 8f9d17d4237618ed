import JvmDerived
import JvmDerived.Pilot.@@N@@Statement
import JvmDerived.Pilot.@@N@@Code
set_option linter.unusedVariables false
set_option linter.unusedSimpArgs false
namespace Jvm.RoadKit
open Sem ClassFile Op Lib Jvm.Stand Jvm.Free Jvm.LawKit
section New
variable {p : Program} {l : Launch} {e : Env} {R : Room} {s : State} {m : MethodId} {args : Array Value} {below : List Frame} {meth : Method} {c : Code} {T : State} {locs : List Loc} {cells slots : Nat}
theorem retI (X : Stand p l e R s m args below meth c T locs cells slots) (hx : p.tables.exec = Jvm.exec) {pc : Nat} {Ls : Array Slot} {z : Int32} {rest : List Value} (hret : meth.sig.returnType = some .int) (hd : decode c.code pc = .ok (.ireturn, 1)) {fs : List Frame}
    (hl : ∀ (f : JFrame) (acts : List Action), f.method = m → f.locked = none → f.entered = [] → (doReturn e (T.setTop f) acts (some (.int z))).1 = T.setFrames fs) : Steps p.tables e below (T.setTop (mkF m pc Ls (.int z :: rest))) (T.setFrames fs) := by
  have hm' : T.vm.method? m = some meth := X.method'
  have hn : narrow .int (.int z) = .int z := rfl
  show Steps p.tables e below (T.setTop { method := m, pc := pc, locals := Ls, stack := _ :: rest, locked := none }) _
  jvm_step X.here [X.here.top, hx, hd, hm', hret, hn]
  first | (intro acts; rw [hl _ acts rfl rfl rfl]) | rw [hl _ _ rfl rfl rfl]
  exact Steps.refl _
end New
end Jvm.RoadKit
namespace Jvm.Pilot.@@N@@
open Jvm Jvm.ClassFile Sem Op Lib Jvm.Free Jvm.Stand Jvm.LawKit Jvm.RoadKit Bundle Jvm.Pilot.@@N@@.Jvm.D
theorem own_ext {h0 h : Heap} (K : Keep h0 h []) : Ext h0 h := ⟨K.1, fun x c q => K.2.1 x c q nin0⟩
theorem own_fld {args : Array Value} {s : State} {t : Term} {x : Addr} {C n d : String} {i : Int32} (e : t.eval args s none [] s = some (.ref x)) (h : (Jvm.Cond.eq (.field t C n d) (.int i)).value args s none s [] = some true) : s.fieldOf? x C n d = some (.int i) := by
  obtain ⟨u, v, a1, a2, -, k2⟩ := cmp_v (Or.inl h)
  have a3 := a2
  rw [Term.int_eval] at a3
  obtain rfl := Option.some.inj a3
  obtain ⟨z, rfl⟩ := k2
  rw [fld_at e] at a1
  rw [a1]
  have q : z = i := by simpa [Cond.value, fld_at e, a1, Term.int_eval] using h
  rw [q]
theorem own_rng (p : Int32) : 0 ≤ ((p &&& (2147483647 : Int32)) % (22 : Int32)).toInt ∧ ((p &&& (2147483647 : Int32)) % (22 : Int32)).toInt < 22 := by
  have a := (c_and p (2147483647 : Int32) (by decide)).1
  have b := (c_irem (p &&& (2147483647 : Int32)) (22 : Int32) 22 rfl).1 a
  omega
theorem own_22 (z : Int32) (h : 0 ≤ z.toInt ∧ z.toInt < 22) : z = (0 : Int32) ∨ z = (1 : Int32) ∨ z = (2 : Int32) ∨ z = (3 : Int32) ∨ z = (4 : Int32) ∨ z = (5 : Int32) ∨ z = (6 : Int32) ∨ z = (7 : Int32) ∨ z = (8 : Int32) ∨ z = (9 : Int32) ∨ z = (10 : Int32) ∨ z = (11 : Int32) ∨ z = (12 : Int32) ∨ z = (13 : Int32) ∨ z = (14 : Int32) ∨ z = (15 : Int32) ∨ z = (16 : Int32) ∨ z = (17 : Int32) ∨ z = (18 : Int32) ∨ z = (19 : Int32) ∨ z = (20 : Int32) ∨ z = (21 : Int32) := by
  simp only [← Int32.toInt_inj]
  show z.toInt = (0 : Int) ∨ z.toInt = (1 : Int) ∨ z.toInt = (2 : Int) ∨ z.toInt = (3 : Int) ∨ z.toInt = (4 : Int) ∨ z.toInt = (5 : Int) ∨ z.toInt = (6 : Int) ∨ z.toInt = (7 : Int) ∨ z.toInt = (8 : Int) ∨ z.toInt = (9 : Int) ∨ z.toInt = (10 : Int) ∨ z.toInt = (11 : Int) ∨ z.toInt = (12 : Int) ∨ z.toInt = (13 : Int) ∨ z.toInt = (14 : Int) ∨ z.toInt = (15 : Int) ∨ z.toInt = (16 : Int) ∨ z.toInt = (17 : Int) ∨ z.toInt = (18 : Int) ∨ z.toInt = (19 : Int) ∨ z.toInt = (20 : Int) ∨ z.toInt = (21 : Int)
  omega
theorem pn_com_example_camelfold_camelfold_reading_TokenKind : plainName "com/example/camelfold/camelfold/reading/TokenKind" = true := by first | (simp [plainName, overriddenIn]; done) | decide +kernel
theorem d_prog_25_m5_0 : decode prog_25_method_5_code 0 = .ok (.aload_n 0, 1) := by decide +kernel
theorem d_prog_25_m5_1 : decode prog_25_method_5_code 1 = .ok (.getstatic 10, 3) := by decide +kernel
theorem d_prog_25_m5_4 : decode prog_25_method_5_code 4 = .ok (.if_acmp .eq 17, 3) := by decide +kernel
theorem d_prog_25_m5_21 : decode prog_25_method_5_code 21 = .ok (.iconst 1, 1) := by decide +kernel
theorem d_prog_25_m5_22 : decode prog_25_method_5_code 22 = .ok (.goto 4, 3) := by decide +kernel
theorem d_prog_25_m5_26 : decode prog_25_method_5_code 26 = .ok (.ireturn, 1) := by decide +kernel
theorem d_prog_25_m5_7 : decode prog_25_method_5_code 7 = .ok (.aload_n 0, 1) := by decide +kernel
theorem d_prog_25_m5_8 : decode prog_25_method_5_code 8 = .ok (.getstatic 13, 3) := by decide +kernel
theorem d_prog_25_m5_11 : decode prog_25_method_5_code 11 = .ok (.if_acmp .eq 10, 3) := by decide +kernel
theorem d_prog_25_m5_14 : decode prog_25_method_5_code 14 = .ok (.aload_n 0, 1) := by decide +kernel
theorem d_prog_25_m5_15 : decode prog_25_method_5_code 15 = .ok (.getstatic 16, 3) := by decide +kernel
theorem d_prog_25_m5_18 : decode prog_25_method_5_code 18 = .ok (.if_acmp .ne 7, 3) := by decide +kernel
theorem d_prog_25_m5_25 : decode prog_25_method_5_code 25 = .ok (.iconst 0, 1) := by decide +kernel
theorem ef_rmI (m : MethodId) (x0 : Addr) : entryFrame m #[(.ref x0)] 1 = mkF m 0 #[.val (.ref x0)] [] := by first | (simp [entryFrame, mkF, argsToLocals, Value.category]; done) | rfl
def Q_rmI (Z : State) (r0 : Addr) (t2 t3 t4 : Addr) (h0 : Heap) (n0 : Nat) (v : Option Value) (h : Heap) (L : List Loc) : Prop := ∃ r : Int32, v = some (.int r) ∧ Fr n0 L ∧ h = h0 ∧ ((r0 = t2 ∨ r0 = t3 ∨ r0 = t4) → r = 1) ∧ (¬ (r0 = t2 ∨ r0 = t3 ∨ r0 = t4) → r = 0)
set_option maxRecDepth 65536 in
set_option maxHeartbeats 40000000 in
theorem rmI (l : Launch) (Z : State) (a0 : Array Value) (hw : ∀ d ∈ tables_1, d.before a0 Z = true) (ws : List Jvm.Cond) (r0 : Addr) (t2 t3 t4 : Addr) (h0 : Heap) (n0 : Nat) (Z0 : n0 ≤ h0.size) (S_t2 : Sta Z h0 "com/example/camelfold/camelfold/reading/TokenKind" "VERSION_DIRECTIVE" "Lcom/example/camelfold/camelfold/reading/TokenKind;" (.ref t2)) (S_t3 : Sta Z h0 "com/example/camelfold/camelfold/reading/TokenKind" "TAG_DIRECTIVE" "Lcom/example/camelfold/camelfold/reading/TokenKind;" (.ref t3)) (S_t4 : Sta Z h0 "com/example/camelfold/camelfold/reading/TokenKind" "RESERVED_DIRECTIVE" "Lcom/example/camelfold/camelfold/reading/TokenKind;" (.ref t4)) :
    MetFree l (⟨"com/example/camelfold/camelfold/reading/TokenKind", "isDirective", "()Z"⟩ : MethodName) (head1 (Jvm.Cond.code (⟨"com/example/camelfold/camelfold/reading/TokenKind", "isDirective", "()Z"⟩ : MethodName) prog_25_method_5_code 1 (some .boolean) :: ws) ({ frames := 0, cells := 0, slots := 0, locals := 0 } : Room)) (fun a U => a = #[(.ref r0)] ∧ Z.Warmed39 U.vm ∧ U.heap = h0) (fun _ _ _ _ _ => True) (fun _ U o U' => ∃ v L, o = .returned v ∧ Q_rmI Z r0 t2 t3 t4 h0 n0 v U'.heap L ∧ FrameEnd U o U' L ({ frames := 0, cells := 0, slots := 0, locals := 0 } : Room).cells ({ frames := 0, cells := 0, slots := 0, locals := 0 } : Room).slots) := by
  refine MetFree.of_bodySF (plainFor_of_name pn_com_example_camelfold_camelfold_reading_TokenKind) hisR ?_
  intro p e s m args below meth c s₁ Bd hml0 hP hK
  obtain ⟨rfl, hZ, hh⟩ := hP
  have hx := Bd.exec
  have hby := Bd.bytes
  have hml : c.maxLocals = 1 := hml0
  have hown : s.vm.findClass "com/example/camelfold/camelfold/reading/TokenKind" = some m.cls := findClass_of_methodNamed Bd.named
  have hnm := (name_of_methodNamed Bd.named Bd.method).1
  have X0 : Stand p l e ({ frames := 0, cells := 0, slots := 0, locals := 0 } : Room) s m #[(.ref r0)] below meth c s₁ [] 0 0 := Stand.of_body Bd
  have e0 : s₁.heap = h0 := by rw [← hh, Bd.state]; rfl
  have N0 := Fr.nil n0
  have K0 := Keep.refl h0 []
  have pre0 : ∀ t, Steps p.tables e below (s₁.setTop (mkF m 0 #[.val (.ref r0)] [])) t → Steps p.tables e below (s₁.setTop (entryFrame m #[(.ref r0)] 1)) t := fun t k => castTop (ef_rmI m r0) k
  obtain ⟨T1, X1, e1, st1⟩ := getS2 X0 hx hZ hown (host := "") (Or.inl (hw _ (List.mem_of_getElem? (i := 54) rfl))) Via.refl e0 S_t2 (g := (mkF m 1 #[.val (.ref r0)] [(.ref r0)])) rfl (hb hby d_prog_25_m5_1)
  by_cases ha4 : r0 = t2
  · obtain ⟨fs, hr, hrun, hended, hW, hsame⟩ := X1.leave (v := some (.int (1 : Int32))) (fun h => by rw [Bd.returns] at h; cases h)
    refine ⟨_, _, pre0 _ ?_, hrun, hended, _, _, rfl, ?_, ⟨_, rfl⟩, hW, hsame.mono (by decide) (by decide)⟩
    · show Steps p.tables e below (s₁.setTop (mkF m 0 #[.val (.ref r0)] [])) _
      refine XS.aloadN X0.here hx rfl (hb hby d_prog_25_m5_0) rfl rfl ?_
      show Steps p.tables e below (s₁.setTop (mkF m 1 #[.val (.ref r0)] [(.ref r0)])) _
      refine st1 _ ?_
      show Steps p.tables e below (T1.setTop (mkF m 4 #[.val (.ref r0)] [(.ref t2), (.ref r0)])) _
      refine Jvm.RoadKit.acmp (g := (mkF m 4 #[.val (.ref r0)] [(.ref t2), (.ref r0)])) X1 hx rfl rfl rfl (pc0 := 4) (pc' := 21) (same := true) rfl (hb hby d_prog_25_m5_4) rfl (decide_eq_true (congrArg Value.ref ha4)) (by decide) (by decide) ?_
      show Steps p.tables e below (T1.setTop (mkF m 21 #[.val (.ref r0)] [])) _
      refine XS.iconst X1.here hx rfl (hb hby d_prog_25_m5_21) ?_
      show Steps p.tables e below (T1.setTop (mkF m 22 #[.val (.ref r0)] [(.int (1 : Int32))])) _
      refine XS.goto X1.here hx rfl (pc0 := 22) (pc' := 26) rfl (hb hby d_prog_25_m5_22) (by decide) (by decide) ?_
      show Steps p.tables e below (T1.setTop (mkF m 26 #[.val (.ref r0)] [(.int (1 : Int32))])) _
      exact retN X1 hx (t := .boolean) Bd.returns (by simp) (hb hby d_prog_25_m5_26) hr
    · show Q_rmI Z r0 t2 t3 t4 h0 n0 _ T1.heap _
      rw [e1]
      exact ⟨_, rfl, N0, rfl, fun _ => rfl, fun q => absurd (Or.inl ha4) q⟩
  · obtain ⟨T2, X2, e2, st2⟩ := getS2 X1 hx hZ hown (host := "") (Or.inl (hw _ (List.mem_of_getElem? (i := 55) rfl))) Via.refl e1 S_t3 (g := (mkF m 8 #[.val (.ref r0)] [(.ref r0)])) rfl (hb hby d_prog_25_m5_8)
    by_cases ha11 : r0 = t3
    · obtain ⟨fs, hr, hrun, hended, hW, hsame⟩ := X2.leave (v := some (.int (1 : Int32))) (fun h => by rw [Bd.returns] at h; cases h)
      refine ⟨_, _, pre0 _ ?_, hrun, hended, _, _, rfl, ?_, ⟨_, rfl⟩, hW, hsame.mono (by decide) (by decide)⟩
      · show Steps p.tables e below (s₁.setTop (mkF m 0 #[.val (.ref r0)] [])) _
        refine XS.aloadN X0.here hx rfl (hb hby d_prog_25_m5_0) rfl rfl ?_
        show Steps p.tables e below (s₁.setTop (mkF m 1 #[.val (.ref r0)] [(.ref r0)])) _
        refine st1 _ ?_
        show Steps p.tables e below (T1.setTop (mkF m 4 #[.val (.ref r0)] [(.ref t2), (.ref r0)])) _
        refine Jvm.RoadKit.acmp (g := (mkF m 4 #[.val (.ref r0)] [(.ref t2), (.ref r0)])) X1 hx rfl rfl rfl (pc0 := 4) (pc' := 7) (same := false) rfl (hb hby d_prog_25_m5_4) rfl (decide_eq_false fun q => ha4 (Value.ref.inj q)) (by decide) (by decide) ?_
        show Steps p.tables e below (T1.setTop (mkF m 7 #[.val (.ref r0)] [])) _
        refine XS.aloadN X1.here hx rfl (hb hby d_prog_25_m5_7) rfl rfl ?_
        show Steps p.tables e below (T1.setTop (mkF m 8 #[.val (.ref r0)] [(.ref r0)])) _
        refine st2 _ ?_
        show Steps p.tables e below (T2.setTop (mkF m 11 #[.val (.ref r0)] [(.ref t3), (.ref r0)])) _
        refine Jvm.RoadKit.acmp (g := (mkF m 11 #[.val (.ref r0)] [(.ref t3), (.ref r0)])) X2 hx rfl rfl rfl (pc0 := 11) (pc' := 21) (same := true) rfl (hb hby d_prog_25_m5_11) rfl (decide_eq_true (congrArg Value.ref ha11)) (by decide) (by decide) ?_
        show Steps p.tables e below (T2.setTop (mkF m 21 #[.val (.ref r0)] [])) _
        refine XS.iconst X2.here hx rfl (hb hby d_prog_25_m5_21) ?_
        show Steps p.tables e below (T2.setTop (mkF m 22 #[.val (.ref r0)] [(.int (1 : Int32))])) _
        refine XS.goto X2.here hx rfl (pc0 := 22) (pc' := 26) rfl (hb hby d_prog_25_m5_22) (by decide) (by decide) ?_
        show Steps p.tables e below (T2.setTop (mkF m 26 #[.val (.ref r0)] [(.int (1 : Int32))])) _
        exact retN X2 hx (t := .boolean) Bd.returns (by simp) (hb hby d_prog_25_m5_26) hr
      · show Q_rmI Z r0 t2 t3 t4 h0 n0 _ T2.heap _
        rw [e2]
        exact ⟨_, rfl, N0, rfl, fun _ => rfl, fun q => absurd (Or.inr (Or.inl ha11)) q⟩
    · obtain ⟨T3, X3, e3, st3⟩ := getS2 X2 hx hZ hown (host := "") (Or.inl (hw _ (List.mem_of_getElem? (i := 56) rfl))) Via.refl e2 S_t4 (g := (mkF m 15 #[.val (.ref r0)] [(.ref r0)])) rfl (hb hby d_prog_25_m5_15)
      by_cases ha18 : r0 = t4
      · obtain ⟨fs, hr, hrun, hended, hW, hsame⟩ := X3.leave (v := some (.int (1 : Int32))) (fun h => by rw [Bd.returns] at h; cases h)
        refine ⟨_, _, pre0 _ ?_, hrun, hended, _, _, rfl, ?_, ⟨_, rfl⟩, hW, hsame.mono (by decide) (by decide)⟩
        · show Steps p.tables e below (s₁.setTop (mkF m 0 #[.val (.ref r0)] [])) _
          refine XS.aloadN X0.here hx rfl (hb hby d_prog_25_m5_0) rfl rfl ?_
          show Steps p.tables e below (s₁.setTop (mkF m 1 #[.val (.ref r0)] [(.ref r0)])) _
          refine st1 _ ?_
          show Steps p.tables e below (T1.setTop (mkF m 4 #[.val (.ref r0)] [(.ref t2), (.ref r0)])) _
          refine Jvm.RoadKit.acmp (g := (mkF m 4 #[.val (.ref r0)] [(.ref t2), (.ref r0)])) X1 hx rfl rfl rfl (pc0 := 4) (pc' := 7) (same := false) rfl (hb hby d_prog_25_m5_4) rfl (decide_eq_false fun q => ha4 (Value.ref.inj q)) (by decide) (by decide) ?_
          show Steps p.tables e below (T1.setTop (mkF m 7 #[.val (.ref r0)] [])) _
          refine XS.aloadN X1.here hx rfl (hb hby d_prog_25_m5_7) rfl rfl ?_
          show Steps p.tables e below (T1.setTop (mkF m 8 #[.val (.ref r0)] [(.ref r0)])) _
          refine st2 _ ?_
          show Steps p.tables e below (T2.setTop (mkF m 11 #[.val (.ref r0)] [(.ref t3), (.ref r0)])) _
          refine Jvm.RoadKit.acmp (g := (mkF m 11 #[.val (.ref r0)] [(.ref t3), (.ref r0)])) X2 hx rfl rfl rfl (pc0 := 11) (pc' := 14) (same := false) rfl (hb hby d_prog_25_m5_11) rfl (decide_eq_false fun q => ha11 (Value.ref.inj q)) (by decide) (by decide) ?_
          show Steps p.tables e below (T2.setTop (mkF m 14 #[.val (.ref r0)] [])) _
          refine XS.aloadN X2.here hx rfl (hb hby d_prog_25_m5_14) rfl rfl ?_
          show Steps p.tables e below (T2.setTop (mkF m 15 #[.val (.ref r0)] [(.ref r0)])) _
          refine st3 _ ?_
          show Steps p.tables e below (T3.setTop (mkF m 18 #[.val (.ref r0)] [(.ref t4), (.ref r0)])) _
          refine Jvm.RoadKit.acmp (g := (mkF m 18 #[.val (.ref r0)] [(.ref t4), (.ref r0)])) X3 hx rfl rfl rfl (pc0 := 18) (pc' := 21) (same := true) rfl (hb hby d_prog_25_m5_18) rfl (decide_eq_true (congrArg Value.ref ha18)) (by decide) (by decide) ?_
          show Steps p.tables e below (T3.setTop (mkF m 21 #[.val (.ref r0)] [])) _
          refine XS.iconst X3.here hx rfl (hb hby d_prog_25_m5_21) ?_
          show Steps p.tables e below (T3.setTop (mkF m 22 #[.val (.ref r0)] [(.int (1 : Int32))])) _
          refine XS.goto X3.here hx rfl (pc0 := 22) (pc' := 26) rfl (hb hby d_prog_25_m5_22) (by decide) (by decide) ?_
          show Steps p.tables e below (T3.setTop (mkF m 26 #[.val (.ref r0)] [(.int (1 : Int32))])) _
          exact retN X3 hx (t := .boolean) Bd.returns (by simp) (hb hby d_prog_25_m5_26) hr
        · show Q_rmI Z r0 t2 t3 t4 h0 n0 _ T3.heap _
          rw [e3]
          exact ⟨_, rfl, N0, rfl, fun _ => rfl, fun q => absurd (Or.inr (Or.inr ha18)) q⟩
      · obtain ⟨fs, hr, hrun, hended, hW, hsame⟩ := X3.leave (v := some (.int (0 : Int32))) (fun h => by rw [Bd.returns] at h; cases h)
        refine ⟨_, _, pre0 _ ?_, hrun, hended, _, _, rfl, ?_, ⟨_, rfl⟩, hW, hsame.mono (by decide) (by decide)⟩
        · show Steps p.tables e below (s₁.setTop (mkF m 0 #[.val (.ref r0)] [])) _
          refine XS.aloadN X0.here hx rfl (hb hby d_prog_25_m5_0) rfl rfl ?_
          show Steps p.tables e below (s₁.setTop (mkF m 1 #[.val (.ref r0)] [(.ref r0)])) _
          refine st1 _ ?_
          show Steps p.tables e below (T1.setTop (mkF m 4 #[.val (.ref r0)] [(.ref t2), (.ref r0)])) _
          refine Jvm.RoadKit.acmp (g := (mkF m 4 #[.val (.ref r0)] [(.ref t2), (.ref r0)])) X1 hx rfl rfl rfl (pc0 := 4) (pc' := 7) (same := false) rfl (hb hby d_prog_25_m5_4) rfl (decide_eq_false fun q => ha4 (Value.ref.inj q)) (by decide) (by decide) ?_
          show Steps p.tables e below (T1.setTop (mkF m 7 #[.val (.ref r0)] [])) _
          refine XS.aloadN X1.here hx rfl (hb hby d_prog_25_m5_7) rfl rfl ?_
          show Steps p.tables e below (T1.setTop (mkF m 8 #[.val (.ref r0)] [(.ref r0)])) _
          refine st2 _ ?_
          show Steps p.tables e below (T2.setTop (mkF m 11 #[.val (.ref r0)] [(.ref t3), (.ref r0)])) _
          refine Jvm.RoadKit.acmp (g := (mkF m 11 #[.val (.ref r0)] [(.ref t3), (.ref r0)])) X2 hx rfl rfl rfl (pc0 := 11) (pc' := 14) (same := false) rfl (hb hby d_prog_25_m5_11) rfl (decide_eq_false fun q => ha11 (Value.ref.inj q)) (by decide) (by decide) ?_
          show Steps p.tables e below (T2.setTop (mkF m 14 #[.val (.ref r0)] [])) _
          refine XS.aloadN X2.here hx rfl (hb hby d_prog_25_m5_14) rfl rfl ?_
          show Steps p.tables e below (T2.setTop (mkF m 15 #[.val (.ref r0)] [(.ref r0)])) _
          refine st3 _ ?_
          show Steps p.tables e below (T3.setTop (mkF m 18 #[.val (.ref r0)] [(.ref t4), (.ref r0)])) _
          refine Jvm.RoadKit.acmp (g := (mkF m 18 #[.val (.ref r0)] [(.ref t4), (.ref r0)])) X3 hx rfl rfl rfl (pc0 := 18) (pc' := 25) (same := false) rfl (hb hby d_prog_25_m5_18) rfl (decide_eq_false fun q => ha18 (Value.ref.inj q)) (by decide) (by decide) ?_
          show Steps p.tables e below (T3.setTop (mkF m 25 #[.val (.ref r0)] [])) _
          refine XS.iconst X3.here hx rfl (hb hby d_prog_25_m5_25) ?_
          show Steps p.tables e below (T3.setTop (mkF m 26 #[.val (.ref r0)] [(.int (0 : Int32))])) _
          exact retN X3 hx (t := .boolean) Bd.returns (by simp) (hb hby d_prog_25_m5_26) hr
        · show Q_rmI Z r0 t2 t3 t4 h0 n0 _ T3.heap _
          rw [e3]
          exact ⟨_, rfl, N0, rfl, fun q => absurd q (fun q => q.elim ha4 (fun q => q.elim ha11 ha18)), fun _ => rfl⟩
theorem pn_com_example_camelfold_camelfold_reading_TokenKindIsDirectivePinLaw : plainName "com/example/camelfold/camelfold/reading/TokenKindIsDirectivePinLaw" = true := by first | (simp [plainName, overriddenIn]; done) | decide +kernel
theorem pd___Z : parseMethodDescriptor "()Z" = some ⟨[], some .boolean⟩ := by decide +kernel
theorem ef_rm0 (m : MethodId) (x0 : Int32) : entryFrame m #[(.int x0)] maxLocals = mkF m 0 #[.val (.int x0), .unset, .unset, .unset] [] := by first | (simp [entryFrame, mkF, argsToLocals, Value.category, maxLocals]; done) | rfl
def Q_rm0 (Z : State) (p0 : Int32) (t0 t1 t2 t3 t4 t5 t6 t7 t8 t9 t10 t11 t12 t13 t14 t15 t16 t17 t18 t19 t20 t21 w : Addr) (h0 : Heap) (n0 : Nat) (v : Option Value) (h : Heap) (L : List Loc) : Prop := v = some (.int (1 : Int32)) ∧ Fr n0 L
set_option maxRecDepth 65536 in
set_option maxHeartbeats 40000000 in
theorem rm0 (l : Launch) (Z : State) (a0 : Array Value) (hw : ∀ d ∈ tables_1, d.before a0 Z = true) (ws : List Jvm.Cond) (p0 : Int32) (t0 t1 t2 t3 t4 t5 t6 t7 t8 t9 t10 t11 t12 t13 t14 t15 t16 t17 t18 t19 t20 t21 w : Addr) (h0 : Heap) (n0 : Nat) (Z0 : n0 ≤ h0.size) (S_t0 : Sta Z h0 "com/example/camelfold/camelfold/reading/TokenKind" "STREAM_START" "Lcom/example/camelfold/camelfold/reading/TokenKind;" (.ref t0)) (E_t0 : Exa Z h0 t0 "com/example/camelfold/camelfold/reading/TokenKind") (S_t1 : Sta Z h0 "com/example/camelfold/camelfold/reading/TokenKind" "STREAM_END" "Lcom/example/camelfold/camelfold/reading/TokenKind;" (.ref t1)) (E_t1 : Exa Z h0 t1 "com/example/camelfold/camelfold/reading/TokenKind") (S_t2 : Sta Z h0 "com/example/camelfold/camelfold/reading/TokenKind" "VERSION_DIRECTIVE" "Lcom/example/camelfold/camelfold/reading/TokenKind;" (.ref t2)) (E_t2 : Exa Z h0 t2 "com/example/camelfold/camelfold/reading/TokenKind") (S_t3 : Sta Z h0 "com/example/camelfold/camelfold/reading/TokenKind" "TAG_DIRECTIVE" "Lcom/example/camelfold/camelfold/reading/TokenKind;" (.ref t3)) (E_t3 : Exa Z h0 t3 "com/example/camelfold/camelfold/reading/TokenKind") (S_t4 : Sta Z h0 "com/example/camelfold/camelfold/reading/TokenKind" "RESERVED_DIRECTIVE" "Lcom/example/camelfold/camelfold/reading/TokenKind;" (.ref t4)) (E_t4 : Exa Z h0 t4 "com/example/camelfold/camelfold/reading/TokenKind") (S_t5 : Sta Z h0 "com/example/camelfold/camelfold/reading/TokenKind" "DOCUMENT_START" "Lcom/example/camelfold/camelfold/reading/TokenKind;" (.ref t5)) (E_t5 : Exa Z h0 t5 "com/example/camelfold/camelfold/reading/TokenKind") (S_t6 : Sta Z h0 "com/example/camelfold/camelfold/reading/TokenKind" "DOCUMENT_END" "Lcom/example/camelfold/camelfold/reading/TokenKind;" (.ref t6)) (E_t6 : Exa Z h0 t6 "com/example/camelfold/camelfold/reading/TokenKind") (S_t7 : Sta Z h0 "com/example/camelfold/camelfold/reading/TokenKind" "BLOCK_SEQUENCE_START" "Lcom/example/camelfold/camelfold/reading/TokenKind;" (.ref t7)) (E_t7 : Exa Z h0 t7 "com/example/camelfold/camelfold/reading/TokenKind") (S_t8 : Sta Z h0 "com/example/camelfold/camelfold/reading/TokenKind" "BLOCK_MAPPING_START" "Lcom/example/camelfold/camelfold/reading/TokenKind;" (.ref t8)) (E_t8 : Exa Z h0 t8 "com/example/camelfold/camelfold/reading/TokenKind") (S_t9 : Sta Z h0 "com/example/camelfold/camelfold/reading/TokenKind" "BLOCK_END" "Lcom/example/camelfold/camelfold/reading/TokenKind;" (.ref t9)) (E_t9 : Exa Z h0 t9 "com/example/camelfold/camelfold/reading/TokenKind") (S_t10 : Sta Z h0 "com/example/camelfold/camelfold/reading/TokenKind" "BLOCK_ENTRY" "Lcom/example/camelfold/camelfold/reading/TokenKind;" (.ref t10)) (E_t10 : Exa Z h0 t10 "com/example/camelfold/camelfold/reading/TokenKind") (S_t11 : Sta Z h0 "com/example/camelfold/camelfold/reading/TokenKind" "FLOW_SEQUENCE_START" "Lcom/example/camelfold/camelfold/reading/TokenKind;" (.ref t11)) (E_t11 : Exa Z h0 t11 "com/example/camelfold/camelfold/reading/TokenKind") (S_t12 : Sta Z h0 "com/example/camelfold/camelfold/reading/TokenKind" "FLOW_SEQUENCE_END" "Lcom/example/camelfold/camelfold/reading/TokenKind;" (.ref t12)) (E_t12 : Exa Z h0 t12 "com/example/camelfold/camelfold/reading/TokenKind") (S_t13 : Sta Z h0 "com/example/camelfold/camelfold/reading/TokenKind" "FLOW_MAPPING_START" "Lcom/example/camelfold/camelfold/reading/TokenKind;" (.ref t13)) (E_t13 : Exa Z h0 t13 "com/example/camelfold/camelfold/reading/TokenKind") (S_t14 : Sta Z h0 "com/example/camelfold/camelfold/reading/TokenKind" "FLOW_MAPPING_END" "Lcom/example/camelfold/camelfold/reading/TokenKind;" (.ref t14)) (E_t14 : Exa Z h0 t14 "com/example/camelfold/camelfold/reading/TokenKind") (S_t15 : Sta Z h0 "com/example/camelfold/camelfold/reading/TokenKind" "FLOW_ENTRY" "Lcom/example/camelfold/camelfold/reading/TokenKind;" (.ref t15)) (E_t15 : Exa Z h0 t15 "com/example/camelfold/camelfold/reading/TokenKind") (S_t16 : Sta Z h0 "com/example/camelfold/camelfold/reading/TokenKind" "KEY" "Lcom/example/camelfold/camelfold/reading/TokenKind;" (.ref t16)) (E_t16 : Exa Z h0 t16 "com/example/camelfold/camelfold/reading/TokenKind") (S_t17 : Sta Z h0 "com/example/camelfold/camelfold/reading/TokenKind" "VALUE" "Lcom/example/camelfold/camelfold/reading/TokenKind;" (.ref t17)) (E_t17 : Exa Z h0 t17 "com/example/camelfold/camelfold/reading/TokenKind") (S_t18 : Sta Z h0 "com/example/camelfold/camelfold/reading/TokenKind" "ANCHOR" "Lcom/example/camelfold/camelfold/reading/TokenKind;" (.ref t18)) (E_t18 : Exa Z h0 t18 "com/example/camelfold/camelfold/reading/TokenKind") (S_t19 : Sta Z h0 "com/example/camelfold/camelfold/reading/TokenKind" "TAG" "Lcom/example/camelfold/camelfold/reading/TokenKind;" (.ref t19)) (E_t19 : Exa Z h0 t19 "com/example/camelfold/camelfold/reading/TokenKind") (S_t20 : Sta Z h0 "com/example/camelfold/camelfold/reading/TokenKind" "ALIAS" "Lcom/example/camelfold/camelfold/reading/TokenKind;" (.ref t20)) (E_t20 : Exa Z h0 t20 "com/example/camelfold/camelfold/reading/TokenKind") (S_t21 : Sta Z h0 "com/example/camelfold/camelfold/reading/TokenKind" "SCALAR" "Lcom/example/camelfold/camelfold/reading/TokenKind;" (.ref t21)) (E_t21 : Exa Z h0 t21 "com/example/camelfold/camelfold/reading/TokenKind") (E_w : Exa Z h0 w "com/example/camelfold/camelfold/reading/TokenKind") (hwi : ([(.ref t0), (.ref t1), (.ref t2), (.ref t3), (.ref t4), (.ref t5), (.ref t6), (.ref t7), (.ref t8), (.ref t9), (.ref t10), (.ref t11), (.ref t12), (.ref t13), (.ref t14), (.ref t15), (.ref t16), (.ref t17), (.ref t18), (.ref t19), (.ref t20), (.ref t21)] : List Value).getD ((p0 &&& (2147483647 : Int32)) % (22 : Int32)).toNatClampNeg .null = .ref w) (hi0 : ¬ ((p0 &&& (2147483647 : Int32)) % (22 : Int32)) < 0) (hi1 : ((p0 &&& (2147483647 : Int32)) % (22 : Int32)) < 22) (hd1 : (((p0 &&& (2147483647 : Int32)) % (22 : Int32)) < (2 : Int32) ∨ (4 : Int32) < ((p0 &&& (2147483647 : Int32)) % (22 : Int32))) → ¬ (w = t2 ∨ w = t3 ∨ w = t4)) (hd2 : ¬ (((p0 &&& (2147483647 : Int32)) % (22 : Int32)) < (2 : Int32)) → ¬ ((4 : Int32) < ((p0 &&& (2147483647 : Int32)) % (22 : Int32))) → (w = t2 ∨ w = t3 ∨ w = t4)) :
    MetFree l x (head1 (Jvm.Cond.code x code maxLocals ret :: ws) room_1) (fun a U => a = #[(.int p0)] ∧ Z.Warmed39 U.vm ∧ U.heap = h0) (fun _ _ _ _ _ => True) (fun _ U o U' => ∃ v L, o = .returned v ∧ Q_rm0 Z p0 t0 t1 t2 t3 t4 t5 t6 t7 t8 t9 t10 t11 t12 t13 t14 t15 t16 t17 t18 t19 t20 t21 w h0 n0 v U'.heap L ∧ FrameEnd U o U' L room_1.cells room_1.slots) := by
  refine MetFree.of_bodySF (plainFor_of_name pn_com_example_camelfold_camelfold_reading_TokenKindIsDirectivePinLaw) hisR ?_
  intro p e s m args below meth c s₁ Bd hml0 hP hK
  obtain ⟨rfl, hZ, hh⟩ := hP
  have hx := Bd.exec
  have hby := Bd.bytes
  have hml : c.maxLocals = 4 := hml0
  have hown : s.vm.findClass "com/example/camelfold/camelfold/reading/TokenKindIsDirectivePinLaw" = some m.cls := findClass_of_methodNamed Bd.named
  have hnm := (name_of_methodNamed Bd.named Bd.method).1
  have X0 : Stand p l e room_1 s m #[(.int p0)] below meth c s₁ [] 0 0 := Stand.of_body Bd
  have e0 : s₁.heap = h0 := by rw [← hh, Bd.state]; rfl
  have N0 := Fr.nil n0
  have K0 := Keep.refl h0 []
  have pre0 : ∀ t, Steps p.tables e below (s₁.setTop (mkF m 0 #[.val (.int p0), .unset, .unset, .unset] [])) t → Steps p.tables e below (s₁.setTop (entryFrame m #[(.int p0)] maxLocals)) t := fun t k => castTop (ef_rm0 m p0) k
  obtain ⟨T1, h1, k1, X1, e1, E1, A1, O1, st1⟩ := newR X0 hx hZ hown (hw _ (List.mem_of_getElem? (i := 0) rfl)) (hw _ (List.mem_of_getElem? (i := 1) rfl)) e0 (g := (mkF m 2 #[.val (.int p0), .unset, .unset, .unset] [(.int (22 : Int32))])) rfl (hb hby at_2) rfl (by decide) (cap := 22) (by decide) (by decide) (by decide) (by decide)
  obtain ⟨b1, g1⟩ : ∃ z, z = h0.size := ⟨_, rfl⟩
  rw [← g1] at A1 st1
  have V1 : Arv Z h1 b1 k1 (.object "com/example/camelfold/camelfold/reading/TokenKind") (22 : Int32) [.null, .null, .null, .null, .null, .null, .null, .null, .null, .null, .null, .null, .null, .null, .null, .null, .null, .null, .null, .null, .null, .null] .null := (Arv.new A1 (by decide)).pad (pad_rep [] .null 22)
  have sz_b1 : h0.size ≤ b1 := Nat.le_trans K0.1 (Nat.le_of_eq g1.symm)
  have g_b1 : n0 ≤ b1 := Nat.le_trans Z0 sz_b1
  have K1 : Keep h0 h1 [] := K0.ext E1
  obtain ⟨T2, X2, e2, st2⟩ := getS2 X1 hx hZ hown (host := "") (Or.inl (hw _ (List.mem_of_getElem? (i := 2) rfl))) Via.refl e1 (Sta.ext (own_ext K1) S_t0) (g := (mkF m 7 #[.val (.int p0), .unset, .unset, .unset] [(.int (0 : Int32)), (.ref b1), (.ref b1)])) rfl (hb hby at_7)
  obtain ⟨cl10, Ar10, q10, S10, M10, H10, G10⟩ := V1
  have hin10 : ¬ ((0 : Int32) < 0 ∨ cl10.slots.size ≤ ((0 : Int32)).toNatClampNeg) := inb_of S10 ⟨by decide, by decide⟩
  obtain ⟨T3, h3, X3, e3, W3, st3⟩ := stR X2 hx hZ e2 Ar10 (j := (0 : Int32)) hin10 rfl (Sto.ofV Ar10 q10 O1 (Ins.self (E_t0.ext (own_ext K1)))) (g := (mkF m 10 #[.val (.int p0), .unset, .unset, .unset] [(.ref t0), (.int (0 : Int32)), (.ref b1), (.ref b1)])) rfl rfl (hb hby at_10)
  have V3 : Arv Z h3 b1 k1 (.object "com/example/camelfold/camelfold/reading/TokenKind") (22 : Int32) [(.ref t0), .null, .null, .null, .null, .null, .null, .null, .null, .null, .null, .null, .null, .null, .null, .null, .null, .null, .null, .null, .null, .null] .null := Arv.set Ar10 q10 S10 M10 H10 G10 rfl W3 0 rfl (Nat.le_of_ble_eq_true rfl)
  have N3 := Fr.snoc X3 N0 g_b1
  have K3 : Keep h0 h3 [] := K1.wr W3 (Or.inr sz_b1)
  obtain ⟨T4, X4, e4, st4⟩ := getS2 X3 hx hZ hown (host := "") (Or.inl (hw _ (List.mem_of_getElem? (i := 6) rfl))) Via.refl e3 (Sta.ext (own_ext K3) S_t1) (g := (mkF m 13 #[.val (.int p0), .unset, .unset, .unset] [(.int (1 : Int32)), (.ref b1), (.ref b1)])) rfl (hb hby at_13)
  obtain ⟨cl16, Ar16, q16, S16, M16, H16, G16⟩ := V3
  have hin16 : ¬ ((1 : Int32) < 0 ∨ cl16.slots.size ≤ ((1 : Int32)).toNatClampNeg) := inb_of S16 ⟨by decide, by decide⟩
  obtain ⟨T5, h5, X5, e5, W5, st5⟩ := stR X4 hx hZ e4 Ar16 (j := (1 : Int32)) hin16 rfl (Sto.ofV Ar16 q16 O1 (Ins.self (E_t1.ext (own_ext K3)))) (g := (mkF m 16 #[.val (.int p0), .unset, .unset, .unset] [(.ref t1), (.int (1 : Int32)), (.ref b1), (.ref b1)])) rfl rfl (hb hby at_16)
  have V5 : Arv Z h5 b1 k1 (.object "com/example/camelfold/camelfold/reading/TokenKind") (22 : Int32) [(.ref t0), (.ref t1), .null, .null, .null, .null, .null, .null, .null, .null, .null, .null, .null, .null, .null, .null, .null, .null, .null, .null, .null, .null] .null := Arv.set Ar16 q16 S16 M16 H16 G16 rfl W5 1 rfl (Nat.le_of_ble_eq_true rfl)
  have N5 := Fr.snoc X5 N3 g_b1
  have K5 : Keep h0 h5 [] := K3.wr W5 (Or.inr sz_b1)
  obtain ⟨T6, X6, e6, st6⟩ := getS2 X5 hx hZ hown (host := "") (Or.inl (hw _ (List.mem_of_getElem? (i := 8) rfl))) Via.refl e5 (Sta.ext (own_ext K5) S_t2) (g := (mkF m 19 #[.val (.int p0), .unset, .unset, .unset] [(.int (2 : Int32)), (.ref b1), (.ref b1)])) rfl (hb hby at_19)
  obtain ⟨cl22, Ar22, q22, S22, M22, H22, G22⟩ := V5
  have hin22 : ¬ ((2 : Int32) < 0 ∨ cl22.slots.size ≤ ((2 : Int32)).toNatClampNeg) := inb_of S22 ⟨by decide, by decide⟩
  obtain ⟨T7, h7, X7, e7, W7, st7⟩ := stR X6 hx hZ e6 Ar22 (j := (2 : Int32)) hin22 rfl (Sto.ofV Ar22 q22 O1 (Ins.self (E_t2.ext (own_ext K5)))) (g := (mkF m 22 #[.val (.int p0), .unset, .unset, .unset] [(.ref t2), (.int (2 : Int32)), (.ref b1), (.ref b1)])) rfl rfl (hb hby at_22)
  have V7 : Arv Z h7 b1 k1 (.object "com/example/camelfold/camelfold/reading/TokenKind") (22 : Int32) [(.ref t0), (.ref t1), (.ref t2), .null, .null, .null, .null, .null, .null, .null, .null, .null, .null, .null, .null, .null, .null, .null, .null, .null, .null, .null] .null := Arv.set Ar22 q22 S22 M22 H22 G22 rfl W7 2 rfl (Nat.le_of_ble_eq_true rfl)
  have N7 := Fr.snoc X7 N5 g_b1
  have K7 : Keep h0 h7 [] := K5.wr W7 (Or.inr sz_b1)
  obtain ⟨T8, X8, e8, st8⟩ := getS2 X7 hx hZ hown (host := "") (Or.inl (hw _ (List.mem_of_getElem? (i := 10) rfl))) Via.refl e7 (Sta.ext (own_ext K7) S_t3) (g := (mkF m 25 #[.val (.int p0), .unset, .unset, .unset] [(.int (3 : Int32)), (.ref b1), (.ref b1)])) rfl (hb hby at_25)
  obtain ⟨cl28, Ar28, q28, S28, M28, H28, G28⟩ := V7
  have hin28 : ¬ ((3 : Int32) < 0 ∨ cl28.slots.size ≤ ((3 : Int32)).toNatClampNeg) := inb_of S28 ⟨by decide, by decide⟩
  obtain ⟨T9, h9, X9, e9, W9, st9⟩ := stR X8 hx hZ e8 Ar28 (j := (3 : Int32)) hin28 rfl (Sto.ofV Ar28 q28 O1 (Ins.self (E_t3.ext (own_ext K7)))) (g := (mkF m 28 #[.val (.int p0), .unset, .unset, .unset] [(.ref t3), (.int (3 : Int32)), (.ref b1), (.ref b1)])) rfl rfl (hb hby at_28)
  have V9 : Arv Z h9 b1 k1 (.object "com/example/camelfold/camelfold/reading/TokenKind") (22 : Int32) [(.ref t0), (.ref t1), (.ref t2), (.ref t3), .null, .null, .null, .null, .null, .null, .null, .null, .null, .null, .null, .null, .null, .null, .null, .null, .null, .null] .null := Arv.set Ar28 q28 S28 M28 H28 G28 rfl W9 3 rfl (Nat.le_of_ble_eq_true rfl)
  have N9 := Fr.snoc X9 N7 g_b1
  have K9 : Keep h0 h9 [] := K7.wr W9 (Or.inr sz_b1)
  obtain ⟨T10, X10, e10, st10⟩ := getS2 X9 hx hZ hown (host := "") (Or.inl (hw _ (List.mem_of_getElem? (i := 12) rfl))) Via.refl e9 (Sta.ext (own_ext K9) S_t4) (g := (mkF m 31 #[.val (.int p0), .unset, .unset, .unset] [(.int (4 : Int32)), (.ref b1), (.ref b1)])) rfl (hb hby at_31)
  obtain ⟨cl34, Ar34, q34, S34, M34, H34, G34⟩ := V9
  have hin34 : ¬ ((4 : Int32) < 0 ∨ cl34.slots.size ≤ ((4 : Int32)).toNatClampNeg) := inb_of S34 ⟨by decide, by decide⟩
  obtain ⟨T11, h11, X11, e11, W11, st11⟩ := stR X10 hx hZ e10 Ar34 (j := (4 : Int32)) hin34 rfl (Sto.ofV Ar34 q34 O1 (Ins.self (E_t4.ext (own_ext K9)))) (g := (mkF m 34 #[.val (.int p0), .unset, .unset, .unset] [(.ref t4), (.int (4 : Int32)), (.ref b1), (.ref b1)])) rfl rfl (hb hby at_34)
  have V11 : Arv Z h11 b1 k1 (.object "com/example/camelfold/camelfold/reading/TokenKind") (22 : Int32) [(.ref t0), (.ref t1), (.ref t2), (.ref t3), (.ref t4), .null, .null, .null, .null, .null, .null, .null, .null, .null, .null, .null, .null, .null, .null, .null, .null, .null] .null := Arv.set Ar34 q34 S34 M34 H34 G34 rfl W11 4 rfl (Nat.le_of_ble_eq_true rfl)
  have N11 := Fr.snoc X11 N9 g_b1
  have K11 : Keep h0 h11 [] := K9.wr W11 (Or.inr sz_b1)
  obtain ⟨T12, X12, e12, st12⟩ := getS2 X11 hx hZ hown (host := "") (Or.inl (hw _ (List.mem_of_getElem? (i := 14) rfl))) Via.refl e11 (Sta.ext (own_ext K11) S_t5) (g := (mkF m 37 #[.val (.int p0), .unset, .unset, .unset] [(.int (5 : Int32)), (.ref b1), (.ref b1)])) rfl (hb hby at_37)
  obtain ⟨cl40, Ar40, q40, S40, M40, H40, G40⟩ := V11
  have hin40 : ¬ ((5 : Int32) < 0 ∨ cl40.slots.size ≤ ((5 : Int32)).toNatClampNeg) := inb_of S40 ⟨by decide, by decide⟩
  obtain ⟨T13, h13, X13, e13, W13, st13⟩ := stR X12 hx hZ e12 Ar40 (j := (5 : Int32)) hin40 rfl (Sto.ofV Ar40 q40 O1 (Ins.self (E_t5.ext (own_ext K11)))) (g := (mkF m 40 #[.val (.int p0), .unset, .unset, .unset] [(.ref t5), (.int (5 : Int32)), (.ref b1), (.ref b1)])) rfl rfl (hb hby at_40)
  have V13 : Arv Z h13 b1 k1 (.object "com/example/camelfold/camelfold/reading/TokenKind") (22 : Int32) [(.ref t0), (.ref t1), (.ref t2), (.ref t3), (.ref t4), (.ref t5), .null, .null, .null, .null, .null, .null, .null, .null, .null, .null, .null, .null, .null, .null, .null, .null] .null := Arv.set Ar40 q40 S40 M40 H40 G40 rfl W13 5 rfl (Nat.le_of_ble_eq_true rfl)
  have N13 := Fr.snoc X13 N11 g_b1
  have K13 : Keep h0 h13 [] := K11.wr W13 (Or.inr sz_b1)
  obtain ⟨T14, X14, e14, st14⟩ := getS2 X13 hx hZ hown (host := "") (Or.inl (hw _ (List.mem_of_getElem? (i := 16) rfl))) Via.refl e13 (Sta.ext (own_ext K13) S_t6) (g := (mkF m 44 #[.val (.int p0), .unset, .unset, .unset] [(.int (6 : Int32)), (.ref b1), (.ref b1)])) rfl (hb hby at_44)
  obtain ⟨cl47, Ar47, q47, S47, M47, H47, G47⟩ := V13
  have hin47 : ¬ ((6 : Int32) < 0 ∨ cl47.slots.size ≤ ((6 : Int32)).toNatClampNeg) := inb_of S47 ⟨by decide, by decide⟩
  obtain ⟨T15, h15, X15, e15, W15, st15⟩ := stR X14 hx hZ e14 Ar47 (j := (6 : Int32)) hin47 rfl (Sto.ofV Ar47 q47 O1 (Ins.self (E_t6.ext (own_ext K13)))) (g := (mkF m 47 #[.val (.int p0), .unset, .unset, .unset] [(.ref t6), (.int (6 : Int32)), (.ref b1), (.ref b1)])) rfl rfl (hb hby at_47)
  have V15 : Arv Z h15 b1 k1 (.object "com/example/camelfold/camelfold/reading/TokenKind") (22 : Int32) [(.ref t0), (.ref t1), (.ref t2), (.ref t3), (.ref t4), (.ref t5), (.ref t6), .null, .null, .null, .null, .null, .null, .null, .null, .null, .null, .null, .null, .null, .null, .null] .null := Arv.set Ar47 q47 S47 M47 H47 G47 rfl W15 6 rfl (Nat.le_of_ble_eq_true rfl)
  have N15 := Fr.snoc X15 N13 g_b1
  have K15 : Keep h0 h15 [] := K13.wr W15 (Or.inr sz_b1)
  obtain ⟨T16, X16, e16, st16⟩ := getS2 X15 hx hZ hown (host := "") (Or.inl (hw _ (List.mem_of_getElem? (i := 18) rfl))) Via.refl e15 (Sta.ext (own_ext K15) S_t7) (g := (mkF m 51 #[.val (.int p0), .unset, .unset, .unset] [(.int (7 : Int32)), (.ref b1), (.ref b1)])) rfl (hb hby at_51)
  obtain ⟨cl54, Ar54, q54, S54, M54, H54, G54⟩ := V15
  have hin54 : ¬ ((7 : Int32) < 0 ∨ cl54.slots.size ≤ ((7 : Int32)).toNatClampNeg) := inb_of S54 ⟨by decide, by decide⟩
  obtain ⟨T17, h17, X17, e17, W17, st17⟩ := stR X16 hx hZ e16 Ar54 (j := (7 : Int32)) hin54 rfl (Sto.ofV Ar54 q54 O1 (Ins.self (E_t7.ext (own_ext K15)))) (g := (mkF m 54 #[.val (.int p0), .unset, .unset, .unset] [(.ref t7), (.int (7 : Int32)), (.ref b1), (.ref b1)])) rfl rfl (hb hby at_54)
  have V17 : Arv Z h17 b1 k1 (.object "com/example/camelfold/camelfold/reading/TokenKind") (22 : Int32) [(.ref t0), (.ref t1), (.ref t2), (.ref t3), (.ref t4), (.ref t5), (.ref t6), (.ref t7), .null, .null, .null, .null, .null, .null, .null, .null, .null, .null, .null, .null, .null, .null] .null := Arv.set Ar54 q54 S54 M54 H54 G54 rfl W17 7 rfl (Nat.le_of_ble_eq_true rfl)
  have N17 := Fr.snoc X17 N15 g_b1
  have K17 : Keep h0 h17 [] := K15.wr W17 (Or.inr sz_b1)
  obtain ⟨T18, X18, e18, st18⟩ := getS2 X17 hx hZ hown (host := "") (Or.inl (hw _ (List.mem_of_getElem? (i := 20) rfl))) Via.refl e17 (Sta.ext (own_ext K17) S_t8) (g := (mkF m 58 #[.val (.int p0), .unset, .unset, .unset] [(.int (8 : Int32)), (.ref b1), (.ref b1)])) rfl (hb hby at_58)
  obtain ⟨cl61, Ar61, q61, S61, M61, H61, G61⟩ := V17
  have hin61 : ¬ ((8 : Int32) < 0 ∨ cl61.slots.size ≤ ((8 : Int32)).toNatClampNeg) := inb_of S61 ⟨by decide, by decide⟩
  obtain ⟨T19, h19, X19, e19, W19, st19⟩ := stR X18 hx hZ e18 Ar61 (j := (8 : Int32)) hin61 rfl (Sto.ofV Ar61 q61 O1 (Ins.self (E_t8.ext (own_ext K17)))) (g := (mkF m 61 #[.val (.int p0), .unset, .unset, .unset] [(.ref t8), (.int (8 : Int32)), (.ref b1), (.ref b1)])) rfl rfl (hb hby at_61)
  have V19 : Arv Z h19 b1 k1 (.object "com/example/camelfold/camelfold/reading/TokenKind") (22 : Int32) [(.ref t0), (.ref t1), (.ref t2), (.ref t3), (.ref t4), (.ref t5), (.ref t6), (.ref t7), (.ref t8), .null, .null, .null, .null, .null, .null, .null, .null, .null, .null, .null, .null, .null] .null := Arv.set Ar61 q61 S61 M61 H61 G61 rfl W19 8 rfl (Nat.le_of_ble_eq_true rfl)
  have N19 := Fr.snoc X19 N17 g_b1
  have K19 : Keep h0 h19 [] := K17.wr W19 (Or.inr sz_b1)
  obtain ⟨T20, X20, e20, st20⟩ := getS2 X19 hx hZ hown (host := "") (Or.inl (hw _ (List.mem_of_getElem? (i := 22) rfl))) Via.refl e19 (Sta.ext (own_ext K19) S_t9) (g := (mkF m 65 #[.val (.int p0), .unset, .unset, .unset] [(.int (9 : Int32)), (.ref b1), (.ref b1)])) rfl (hb hby at_65)
  obtain ⟨cl68, Ar68, q68, S68, M68, H68, G68⟩ := V19
  have hin68 : ¬ ((9 : Int32) < 0 ∨ cl68.slots.size ≤ ((9 : Int32)).toNatClampNeg) := inb_of S68 ⟨by decide, by decide⟩
  obtain ⟨T21, h21, X21, e21, W21, st21⟩ := stR X20 hx hZ e20 Ar68 (j := (9 : Int32)) hin68 rfl (Sto.ofV Ar68 q68 O1 (Ins.self (E_t9.ext (own_ext K19)))) (g := (mkF m 68 #[.val (.int p0), .unset, .unset, .unset] [(.ref t9), (.int (9 : Int32)), (.ref b1), (.ref b1)])) rfl rfl (hb hby at_68)
  have V21 : Arv Z h21 b1 k1 (.object "com/example/camelfold/camelfold/reading/TokenKind") (22 : Int32) [(.ref t0), (.ref t1), (.ref t2), (.ref t3), (.ref t4), (.ref t5), (.ref t6), (.ref t7), (.ref t8), (.ref t9), .null, .null, .null, .null, .null, .null, .null, .null, .null, .null, .null, .null] .null := Arv.set Ar68 q68 S68 M68 H68 G68 rfl W21 9 rfl (Nat.le_of_ble_eq_true rfl)
  have N21 := Fr.snoc X21 N19 g_b1
  have K21 : Keep h0 h21 [] := K19.wr W21 (Or.inr sz_b1)
  obtain ⟨T22, X22, e22, st22⟩ := getS2 X21 hx hZ hown (host := "") (Or.inl (hw _ (List.mem_of_getElem? (i := 24) rfl))) Via.refl e21 (Sta.ext (own_ext K21) S_t10) (g := (mkF m 72 #[.val (.int p0), .unset, .unset, .unset] [(.int (10 : Int32)), (.ref b1), (.ref b1)])) rfl (hb hby at_72)
  obtain ⟨cl75, Ar75, q75, S75, M75, H75, G75⟩ := V21
  have hin75 : ¬ ((10 : Int32) < 0 ∨ cl75.slots.size ≤ ((10 : Int32)).toNatClampNeg) := inb_of S75 ⟨by decide, by decide⟩
  obtain ⟨T23, h23, X23, e23, W23, st23⟩ := stR X22 hx hZ e22 Ar75 (j := (10 : Int32)) hin75 rfl (Sto.ofV Ar75 q75 O1 (Ins.self (E_t10.ext (own_ext K21)))) (g := (mkF m 75 #[.val (.int p0), .unset, .unset, .unset] [(.ref t10), (.int (10 : Int32)), (.ref b1), (.ref b1)])) rfl rfl (hb hby at_75)
  have V23 : Arv Z h23 b1 k1 (.object "com/example/camelfold/camelfold/reading/TokenKind") (22 : Int32) [(.ref t0), (.ref t1), (.ref t2), (.ref t3), (.ref t4), (.ref t5), (.ref t6), (.ref t7), (.ref t8), (.ref t9), (.ref t10), .null, .null, .null, .null, .null, .null, .null, .null, .null, .null, .null] .null := Arv.set Ar75 q75 S75 M75 H75 G75 rfl W23 10 rfl (Nat.le_of_ble_eq_true rfl)
  have N23 := Fr.snoc X23 N21 g_b1
  have K23 : Keep h0 h23 [] := K21.wr W23 (Or.inr sz_b1)
  obtain ⟨T24, X24, e24, st24⟩ := getS2 X23 hx hZ hown (host := "") (Or.inl (hw _ (List.mem_of_getElem? (i := 26) rfl))) Via.refl e23 (Sta.ext (own_ext K23) S_t11) (g := (mkF m 79 #[.val (.int p0), .unset, .unset, .unset] [(.int (11 : Int32)), (.ref b1), (.ref b1)])) rfl (hb hby at_79)
  obtain ⟨cl82, Ar82, q82, S82, M82, H82, G82⟩ := V23
  have hin82 : ¬ ((11 : Int32) < 0 ∨ cl82.slots.size ≤ ((11 : Int32)).toNatClampNeg) := inb_of S82 ⟨by decide, by decide⟩
  obtain ⟨T25, h25, X25, e25, W25, st25⟩ := stR X24 hx hZ e24 Ar82 (j := (11 : Int32)) hin82 rfl (Sto.ofV Ar82 q82 O1 (Ins.self (E_t11.ext (own_ext K23)))) (g := (mkF m 82 #[.val (.int p0), .unset, .unset, .unset] [(.ref t11), (.int (11 : Int32)), (.ref b1), (.ref b1)])) rfl rfl (hb hby at_82)
  have V25 : Arv Z h25 b1 k1 (.object "com/example/camelfold/camelfold/reading/TokenKind") (22 : Int32) [(.ref t0), (.ref t1), (.ref t2), (.ref t3), (.ref t4), (.ref t5), (.ref t6), (.ref t7), (.ref t8), (.ref t9), (.ref t10), (.ref t11), .null, .null, .null, .null, .null, .null, .null, .null, .null, .null] .null := Arv.set Ar82 q82 S82 M82 H82 G82 rfl W25 11 rfl (Nat.le_of_ble_eq_true rfl)
  have N25 := Fr.snoc X25 N23 g_b1
  have K25 : Keep h0 h25 [] := K23.wr W25 (Or.inr sz_b1)
  obtain ⟨T26, X26, e26, st26⟩ := getS2 X25 hx hZ hown (host := "") (Or.inl (hw _ (List.mem_of_getElem? (i := 28) rfl))) Via.refl e25 (Sta.ext (own_ext K25) S_t12) (g := (mkF m 86 #[.val (.int p0), .unset, .unset, .unset] [(.int (12 : Int32)), (.ref b1), (.ref b1)])) rfl (hb hby at_86)
  obtain ⟨cl89, Ar89, q89, S89, M89, H89, G89⟩ := V25
  have hin89 : ¬ ((12 : Int32) < 0 ∨ cl89.slots.size ≤ ((12 : Int32)).toNatClampNeg) := inb_of S89 ⟨by decide, by decide⟩
  obtain ⟨T27, h27, X27, e27, W27, st27⟩ := stR X26 hx hZ e26 Ar89 (j := (12 : Int32)) hin89 rfl (Sto.ofV Ar89 q89 O1 (Ins.self (E_t12.ext (own_ext K25)))) (g := (mkF m 89 #[.val (.int p0), .unset, .unset, .unset] [(.ref t12), (.int (12 : Int32)), (.ref b1), (.ref b1)])) rfl rfl (hb hby at_89)
  have V27 : Arv Z h27 b1 k1 (.object "com/example/camelfold/camelfold/reading/TokenKind") (22 : Int32) [(.ref t0), (.ref t1), (.ref t2), (.ref t3), (.ref t4), (.ref t5), (.ref t6), (.ref t7), (.ref t8), (.ref t9), (.ref t10), (.ref t11), (.ref t12), .null, .null, .null, .null, .null, .null, .null, .null, .null] .null := Arv.set Ar89 q89 S89 M89 H89 G89 rfl W27 12 rfl (Nat.le_of_ble_eq_true rfl)
  have N27 := Fr.snoc X27 N25 g_b1
  have K27 : Keep h0 h27 [] := K25.wr W27 (Or.inr sz_b1)
  obtain ⟨T28, X28, e28, st28⟩ := getS2 X27 hx hZ hown (host := "") (Or.inl (hw _ (List.mem_of_getElem? (i := 30) rfl))) Via.refl e27 (Sta.ext (own_ext K27) S_t13) (g := (mkF m 93 #[.val (.int p0), .unset, .unset, .unset] [(.int (13 : Int32)), (.ref b1), (.ref b1)])) rfl (hb hby at_93)
  obtain ⟨cl96, Ar96, q96, S96, M96, H96, G96⟩ := V27
  have hin96 : ¬ ((13 : Int32) < 0 ∨ cl96.slots.size ≤ ((13 : Int32)).toNatClampNeg) := inb_of S96 ⟨by decide, by decide⟩
  obtain ⟨T29, h29, X29, e29, W29, st29⟩ := stR X28 hx hZ e28 Ar96 (j := (13 : Int32)) hin96 rfl (Sto.ofV Ar96 q96 O1 (Ins.self (E_t13.ext (own_ext K27)))) (g := (mkF m 96 #[.val (.int p0), .unset, .unset, .unset] [(.ref t13), (.int (13 : Int32)), (.ref b1), (.ref b1)])) rfl rfl (hb hby at_96)
  have V29 : Arv Z h29 b1 k1 (.object "com/example/camelfold/camelfold/reading/TokenKind") (22 : Int32) [(.ref t0), (.ref t1), (.ref t2), (.ref t3), (.ref t4), (.ref t5), (.ref t6), (.ref t7), (.ref t8), (.ref t9), (.ref t10), (.ref t11), (.ref t12), (.ref t13), .null, .null, .null, .null, .null, .null, .null, .null] .null := Arv.set Ar96 q96 S96 M96 H96 G96 rfl W29 13 rfl (Nat.le_of_ble_eq_true rfl)
  have N29 := Fr.snoc X29 N27 g_b1
  have K29 : Keep h0 h29 [] := K27.wr W29 (Or.inr sz_b1)
  obtain ⟨T30, X30, e30, st30⟩ := getS2 X29 hx hZ hown (host := "") (Or.inl (hw _ (List.mem_of_getElem? (i := 32) rfl))) Via.refl e29 (Sta.ext (own_ext K29) S_t14) (g := (mkF m 100 #[.val (.int p0), .unset, .unset, .unset] [(.int (14 : Int32)), (.ref b1), (.ref b1)])) rfl (hb hby at_100)
  obtain ⟨cl103, Ar103, q103, S103, M103, H103, G103⟩ := V29
  have hin103 : ¬ ((14 : Int32) < 0 ∨ cl103.slots.size ≤ ((14 : Int32)).toNatClampNeg) := inb_of S103 ⟨by decide, by decide⟩
  obtain ⟨T31, h31, X31, e31, W31, st31⟩ := stR X30 hx hZ e30 Ar103 (j := (14 : Int32)) hin103 rfl (Sto.ofV Ar103 q103 O1 (Ins.self (E_t14.ext (own_ext K29)))) (g := (mkF m 103 #[.val (.int p0), .unset, .unset, .unset] [(.ref t14), (.int (14 : Int32)), (.ref b1), (.ref b1)])) rfl rfl (hb hby at_103)
  have V31 : Arv Z h31 b1 k1 (.object "com/example/camelfold/camelfold/reading/TokenKind") (22 : Int32) [(.ref t0), (.ref t1), (.ref t2), (.ref t3), (.ref t4), (.ref t5), (.ref t6), (.ref t7), (.ref t8), (.ref t9), (.ref t10), (.ref t11), (.ref t12), (.ref t13), (.ref t14), .null, .null, .null, .null, .null, .null, .null] .null := Arv.set Ar103 q103 S103 M103 H103 G103 rfl W31 14 rfl (Nat.le_of_ble_eq_true rfl)
  have N31 := Fr.snoc X31 N29 g_b1
  have K31 : Keep h0 h31 [] := K29.wr W31 (Or.inr sz_b1)
  obtain ⟨T32, X32, e32, st32⟩ := getS2 X31 hx hZ hown (host := "") (Or.inl (hw _ (List.mem_of_getElem? (i := 34) rfl))) Via.refl e31 (Sta.ext (own_ext K31) S_t15) (g := (mkF m 107 #[.val (.int p0), .unset, .unset, .unset] [(.int (15 : Int32)), (.ref b1), (.ref b1)])) rfl (hb hby at_107)
  obtain ⟨cl110, Ar110, q110, S110, M110, H110, G110⟩ := V31
  have hin110 : ¬ ((15 : Int32) < 0 ∨ cl110.slots.size ≤ ((15 : Int32)).toNatClampNeg) := inb_of S110 ⟨by decide, by decide⟩
  obtain ⟨T33, h33, X33, e33, W33, st33⟩ := stR X32 hx hZ e32 Ar110 (j := (15 : Int32)) hin110 rfl (Sto.ofV Ar110 q110 O1 (Ins.self (E_t15.ext (own_ext K31)))) (g := (mkF m 110 #[.val (.int p0), .unset, .unset, .unset] [(.ref t15), (.int (15 : Int32)), (.ref b1), (.ref b1)])) rfl rfl (hb hby at_110)
  have V33 : Arv Z h33 b1 k1 (.object "com/example/camelfold/camelfold/reading/TokenKind") (22 : Int32) [(.ref t0), (.ref t1), (.ref t2), (.ref t3), (.ref t4), (.ref t5), (.ref t6), (.ref t7), (.ref t8), (.ref t9), (.ref t10), (.ref t11), (.ref t12), (.ref t13), (.ref t14), (.ref t15), .null, .null, .null, .null, .null, .null] .null := Arv.set Ar110 q110 S110 M110 H110 G110 rfl W33 15 rfl (Nat.le_of_ble_eq_true rfl)
  have N33 := Fr.snoc X33 N31 g_b1
  have K33 : Keep h0 h33 [] := K31.wr W33 (Or.inr sz_b1)
  obtain ⟨T34, X34, e34, st34⟩ := getS2 X33 hx hZ hown (host := "") (Or.inl (hw _ (List.mem_of_getElem? (i := 36) rfl))) Via.refl e33 (Sta.ext (own_ext K33) S_t16) (g := (mkF m 114 #[.val (.int p0), .unset, .unset, .unset] [(.int (16 : Int32)), (.ref b1), (.ref b1)])) rfl (hb hby at_114)
  obtain ⟨cl117, Ar117, q117, S117, M117, H117, G117⟩ := V33
  have hin117 : ¬ ((16 : Int32) < 0 ∨ cl117.slots.size ≤ ((16 : Int32)).toNatClampNeg) := inb_of S117 ⟨by decide, by decide⟩
  obtain ⟨T35, h35, X35, e35, W35, st35⟩ := stR X34 hx hZ e34 Ar117 (j := (16 : Int32)) hin117 rfl (Sto.ofV Ar117 q117 O1 (Ins.self (E_t16.ext (own_ext K33)))) (g := (mkF m 117 #[.val (.int p0), .unset, .unset, .unset] [(.ref t16), (.int (16 : Int32)), (.ref b1), (.ref b1)])) rfl rfl (hb hby at_117)
  have V35 : Arv Z h35 b1 k1 (.object "com/example/camelfold/camelfold/reading/TokenKind") (22 : Int32) [(.ref t0), (.ref t1), (.ref t2), (.ref t3), (.ref t4), (.ref t5), (.ref t6), (.ref t7), (.ref t8), (.ref t9), (.ref t10), (.ref t11), (.ref t12), (.ref t13), (.ref t14), (.ref t15), (.ref t16), .null, .null, .null, .null, .null] .null := Arv.set Ar117 q117 S117 M117 H117 G117 rfl W35 16 rfl (Nat.le_of_ble_eq_true rfl)
  have N35 := Fr.snoc X35 N33 g_b1
  have K35 : Keep h0 h35 [] := K33.wr W35 (Or.inr sz_b1)
  obtain ⟨T36, X36, e36, st36⟩ := getS2 X35 hx hZ hown (host := "") (Or.inl (hw _ (List.mem_of_getElem? (i := 38) rfl))) Via.refl e35 (Sta.ext (own_ext K35) S_t17) (g := (mkF m 121 #[.val (.int p0), .unset, .unset, .unset] [(.int (17 : Int32)), (.ref b1), (.ref b1)])) rfl (hb hby at_121)
  obtain ⟨cl124, Ar124, q124, S124, M124, H124, G124⟩ := V35
  have hin124 : ¬ ((17 : Int32) < 0 ∨ cl124.slots.size ≤ ((17 : Int32)).toNatClampNeg) := inb_of S124 ⟨by decide, by decide⟩
  obtain ⟨T37, h37, X37, e37, W37, st37⟩ := stR X36 hx hZ e36 Ar124 (j := (17 : Int32)) hin124 rfl (Sto.ofV Ar124 q124 O1 (Ins.self (E_t17.ext (own_ext K35)))) (g := (mkF m 124 #[.val (.int p0), .unset, .unset, .unset] [(.ref t17), (.int (17 : Int32)), (.ref b1), (.ref b1)])) rfl rfl (hb hby at_124)
  have V37 : Arv Z h37 b1 k1 (.object "com/example/camelfold/camelfold/reading/TokenKind") (22 : Int32) [(.ref t0), (.ref t1), (.ref t2), (.ref t3), (.ref t4), (.ref t5), (.ref t6), (.ref t7), (.ref t8), (.ref t9), (.ref t10), (.ref t11), (.ref t12), (.ref t13), (.ref t14), (.ref t15), (.ref t16), (.ref t17), .null, .null, .null, .null] .null := Arv.set Ar124 q124 S124 M124 H124 G124 rfl W37 17 rfl (Nat.le_of_ble_eq_true rfl)
  have N37 := Fr.snoc X37 N35 g_b1
  have K37 : Keep h0 h37 [] := K35.wr W37 (Or.inr sz_b1)
  obtain ⟨T38, X38, e38, st38⟩ := getS2 X37 hx hZ hown (host := "") (Or.inl (hw _ (List.mem_of_getElem? (i := 40) rfl))) Via.refl e37 (Sta.ext (own_ext K37) S_t18) (g := (mkF m 128 #[.val (.int p0), .unset, .unset, .unset] [(.int (18 : Int32)), (.ref b1), (.ref b1)])) rfl (hb hby at_128)
  obtain ⟨cl131, Ar131, q131, S131, M131, H131, G131⟩ := V37
  have hin131 : ¬ ((18 : Int32) < 0 ∨ cl131.slots.size ≤ ((18 : Int32)).toNatClampNeg) := inb_of S131 ⟨by decide, by decide⟩
  obtain ⟨T39, h39, X39, e39, W39, st39⟩ := stR X38 hx hZ e38 Ar131 (j := (18 : Int32)) hin131 rfl (Sto.ofV Ar131 q131 O1 (Ins.self (E_t18.ext (own_ext K37)))) (g := (mkF m 131 #[.val (.int p0), .unset, .unset, .unset] [(.ref t18), (.int (18 : Int32)), (.ref b1), (.ref b1)])) rfl rfl (hb hby at_131)
  have V39 : Arv Z h39 b1 k1 (.object "com/example/camelfold/camelfold/reading/TokenKind") (22 : Int32) [(.ref t0), (.ref t1), (.ref t2), (.ref t3), (.ref t4), (.ref t5), (.ref t6), (.ref t7), (.ref t8), (.ref t9), (.ref t10), (.ref t11), (.ref t12), (.ref t13), (.ref t14), (.ref t15), (.ref t16), (.ref t17), (.ref t18), .null, .null, .null] .null := Arv.set Ar131 q131 S131 M131 H131 G131 rfl W39 18 rfl (Nat.le_of_ble_eq_true rfl)
  have N39 := Fr.snoc X39 N37 g_b1
  have K39 : Keep h0 h39 [] := K37.wr W39 (Or.inr sz_b1)
  obtain ⟨T40, X40, e40, st40⟩ := getS2 X39 hx hZ hown (host := "") (Or.inl (hw _ (List.mem_of_getElem? (i := 42) rfl))) Via.refl e39 (Sta.ext (own_ext K39) S_t19) (g := (mkF m 135 #[.val (.int p0), .unset, .unset, .unset] [(.int (19 : Int32)), (.ref b1), (.ref b1)])) rfl (hb hby at_135)
  obtain ⟨cl138, Ar138, q138, S138, M138, H138, G138⟩ := V39
  have hin138 : ¬ ((19 : Int32) < 0 ∨ cl138.slots.size ≤ ((19 : Int32)).toNatClampNeg) := inb_of S138 ⟨by decide, by decide⟩
  obtain ⟨T41, h41, X41, e41, W41, st41⟩ := stR X40 hx hZ e40 Ar138 (j := (19 : Int32)) hin138 rfl (Sto.ofV Ar138 q138 O1 (Ins.self (E_t19.ext (own_ext K39)))) (g := (mkF m 138 #[.val (.int p0), .unset, .unset, .unset] [(.ref t19), (.int (19 : Int32)), (.ref b1), (.ref b1)])) rfl rfl (hb hby at_138)
  have V41 : Arv Z h41 b1 k1 (.object "com/example/camelfold/camelfold/reading/TokenKind") (22 : Int32) [(.ref t0), (.ref t1), (.ref t2), (.ref t3), (.ref t4), (.ref t5), (.ref t6), (.ref t7), (.ref t8), (.ref t9), (.ref t10), (.ref t11), (.ref t12), (.ref t13), (.ref t14), (.ref t15), (.ref t16), (.ref t17), (.ref t18), (.ref t19), .null, .null] .null := Arv.set Ar138 q138 S138 M138 H138 G138 rfl W41 19 rfl (Nat.le_of_ble_eq_true rfl)
  have N41 := Fr.snoc X41 N39 g_b1
  have K41 : Keep h0 h41 [] := K39.wr W41 (Or.inr sz_b1)
  obtain ⟨T42, X42, e42, st42⟩ := getS2 X41 hx hZ hown (host := "") (Or.inl (hw _ (List.mem_of_getElem? (i := 44) rfl))) Via.refl e41 (Sta.ext (own_ext K41) S_t20) (g := (mkF m 142 #[.val (.int p0), .unset, .unset, .unset] [(.int (20 : Int32)), (.ref b1), (.ref b1)])) rfl (hb hby at_142)
  obtain ⟨cl145, Ar145, q145, S145, M145, H145, G145⟩ := V41
  have hin145 : ¬ ((20 : Int32) < 0 ∨ cl145.slots.size ≤ ((20 : Int32)).toNatClampNeg) := inb_of S145 ⟨by decide, by decide⟩
  obtain ⟨T43, h43, X43, e43, W43, st43⟩ := stR X42 hx hZ e42 Ar145 (j := (20 : Int32)) hin145 rfl (Sto.ofV Ar145 q145 O1 (Ins.self (E_t20.ext (own_ext K41)))) (g := (mkF m 145 #[.val (.int p0), .unset, .unset, .unset] [(.ref t20), (.int (20 : Int32)), (.ref b1), (.ref b1)])) rfl rfl (hb hby at_145)
  have V43 : Arv Z h43 b1 k1 (.object "com/example/camelfold/camelfold/reading/TokenKind") (22 : Int32) [(.ref t0), (.ref t1), (.ref t2), (.ref t3), (.ref t4), (.ref t5), (.ref t6), (.ref t7), (.ref t8), (.ref t9), (.ref t10), (.ref t11), (.ref t12), (.ref t13), (.ref t14), (.ref t15), (.ref t16), (.ref t17), (.ref t18), (.ref t19), (.ref t20), .null] .null := Arv.set Ar145 q145 S145 M145 H145 G145 rfl W43 20 rfl (Nat.le_of_ble_eq_true rfl)
  have N43 := Fr.snoc X43 N41 g_b1
  have K43 : Keep h0 h43 [] := K41.wr W43 (Or.inr sz_b1)
  obtain ⟨T44, X44, e44, st44⟩ := getS2 X43 hx hZ hown (host := "") (Or.inl (hw _ (List.mem_of_getElem? (i := 46) rfl))) Via.refl e43 (Sta.ext (own_ext K43) S_t21) (g := (mkF m 149 #[.val (.int p0), .unset, .unset, .unset] [(.int (21 : Int32)), (.ref b1), (.ref b1)])) rfl (hb hby at_149)
  obtain ⟨cl152, Ar152, q152, S152, M152, H152, G152⟩ := V43
  have hin152 : ¬ ((21 : Int32) < 0 ∨ cl152.slots.size ≤ ((21 : Int32)).toNatClampNeg) := inb_of S152 ⟨by decide, by decide⟩
  obtain ⟨T45, h45, X45, e45, W45, st45⟩ := stR X44 hx hZ e44 Ar152 (j := (21 : Int32)) hin152 rfl (Sto.ofV Ar152 q152 O1 (Ins.self (E_t21.ext (own_ext K43)))) (g := (mkF m 152 #[.val (.int p0), .unset, .unset, .unset] [(.ref t21), (.int (21 : Int32)), (.ref b1), (.ref b1)])) rfl rfl (hb hby at_152)
  have V45 : Arv Z h45 b1 k1 (.object "com/example/camelfold/camelfold/reading/TokenKind") (22 : Int32) [(.ref t0), (.ref t1), (.ref t2), (.ref t3), (.ref t4), (.ref t5), (.ref t6), (.ref t7), (.ref t8), (.ref t9), (.ref t10), (.ref t11), (.ref t12), (.ref t13), (.ref t14), (.ref t15), (.ref t16), (.ref t17), (.ref t18), (.ref t19), (.ref t20), (.ref t21)] .null := Arv.set Ar152 q152 S152 M152 H152 G152 rfl W45 21 rfl (Nat.le_of_ble_eq_true rfl)
  have N45 := Fr.snoc X45 N43 g_b1
  have K45 : Keep h0 h45 [] := K43.wr W45 (Or.inr sz_b1)
  obtain ⟨lcs, XL, NL⟩ : ∃ lcs, Stand p l e room_1 s m #[(.int p0)] below meth c T45 lcs 1 22 ∧ Fr n0 lcs := ⟨_, X45, N45⟩
  by_cases hc164 : ((p0 &&& (2147483647 : Int32)) % (22 : Int32)) < (2 : Int32)
  · obtain ⟨cl, Ar, qk, qS, qM, qH, qG⟩ := V45
    have hin : ¬ (((p0 &&& (2147483647 : Int32)) % (22 : Int32)) < 0 ∨ cl.slots.size ≤ (((p0 &&& (2147483647 : Int32)) % (22 : Int32))).toNatClampNeg) := inb_of qS ⟨hi0, hi1⟩
    have hat := qH.at hin hwi
    obtain ⟨cq46, kq46, q46a, q46b, q46c⟩ := isOf hZ e45 (E_w.ext (own_ext K45))
    obtain ⟨_, _, ⟨T46, L46, k46, n46⟩, -, X46, ⟨Lc46, hQ46, l46, y46, z46⟩, st46⟩ := XL.virtualBack hx (y := (⟨"com/example/camelfold/camelfold/reading/TokenKind", "isDirective", "()Z"⟩ : MethodName)) (z := (⟨"com/example/camelfold/camelfold/reading/TokenKind", "isDirective", "()Z"⟩ : MethodName)) hown (mvT hZ (hw _ (List.mem_of_getElem? (i := 49) rfl))) (mvT hZ (hw _ (List.mem_of_getElem? (i := 50) rfl))) (notFace_of_selects (args := #[]) (mvT hZ (hw _ (List.mem_of_getElem? (i := 52) rfl)))) (mvT hZ (hw _ (List.mem_of_getElem? (i := 52) rfl))) (mvT hZ (hw _ (List.mem_of_getElem? (i := 51) rfl))) (by decide) (backOf (W := 0) (rmI l Z a0 hw [] w t2 t3 t4 h45 n0 (Nat.le_trans Z0 K45.1) (Sta.ext (own_ext K45) S_t2) (Sta.ext (own_ext K45) S_t3) (Sta.ext (own_ext K45) S_t4)) hZ (hw _ (List.mem_of_getElem? (i := 53) rfl)) (hw _ (List.mem_of_getElem? (i := 3) rfl)) (by decide) (by decide)) q46a q46c (g := (mkF m 181 #[.val (.int p0), .val (.ref b1), .val (.int ((p0 &&& (2147483647 : Int32)) % (22 : Int32))), .val (.int (0 : Int32))] [(.ref w)])) rfl (by rw [hml]; rfl) (Steps.refl _) (argsL := []) (rest := []) (lenOf pd___Z rfl) rfl (by show 2 * 0 + _ ≤ _; exact Nat.le_of_eq rfl) (hb hby at_181) (fun _ _ => ⟨rfl, e45, (by decide : 1 + 0 ≤ _), (by decide : 22 + 0 ≤ _)⟩)
    dsimp only [Pt.U, Pt.locs, Pt.cells, Pt.slots] at X46 l46 y46 z46 st46 hQ46
    subst l46 y46 z46
    obtain ⟨r, rfl, N46q, e46, hy, hn⟩ := hQ46
    have N46 := Fr.app NL N46q
    obtain ⟨fs, hr, hrun, hended, hW, hsame⟩ := X46.leave (v := some (.int (1 : Int32))) (fun h => by rw [Bd.returns] at h; cases h)
    refine ⟨_, _, pre0 _ ?_, hrun, hended, _, _, rfl, ?_, ⟨_, rfl⟩, hW, hsame.mono (by decide) (by decide)⟩
    · show Steps p.tables e below (s₁.setTop (mkF m 0 #[.val (.int p0), .unset, .unset, .unset] [])) _
      refine XS.bipush X0.here hx rfl (hb hby at_0) ?_
      show Steps p.tables e below (s₁.setTop (mkF m 2 #[.val (.int p0), .unset, .unset, .unset] [(.int (22 : Int32))])) _
      refine st1 _ ?_
      show Steps p.tables e below (T1.setTop (mkF m 5 #[.val (.int p0), .unset, .unset, .unset] [(.ref b1)])) _
      refine XS.dup X1.here hx rfl (hb hby at_5) rfl rfl ?_
      show Steps p.tables e below (T1.setTop (mkF m 6 #[.val (.int p0), .unset, .unset, .unset] [(.ref b1), (.ref b1)])) _
      refine XS.iconst X1.here hx rfl (hb hby at_6) ?_
      show Steps p.tables e below (T1.setTop (mkF m 7 #[.val (.int p0), .unset, .unset, .unset] [(.int (0 : Int32)), (.ref b1), (.ref b1)])) _
      refine st2 _ ?_
      show Steps p.tables e below (T2.setTop (mkF m 10 #[.val (.int p0), .unset, .unset, .unset] [(.ref t0), (.int (0 : Int32)), (.ref b1), (.ref b1)])) _
      refine st3 _ ?_
      show Steps p.tables e below (T3.setTop (mkF m 11 #[.val (.int p0), .unset, .unset, .unset] [(.ref b1)])) _
      refine XS.dup X3.here hx rfl (hb hby at_11) rfl rfl ?_
      show Steps p.tables e below (T3.setTop (mkF m 12 #[.val (.int p0), .unset, .unset, .unset] [(.ref b1), (.ref b1)])) _
      refine XS.iconst X3.here hx rfl (hb hby at_12) ?_
      show Steps p.tables e below (T3.setTop (mkF m 13 #[.val (.int p0), .unset, .unset, .unset] [(.int (1 : Int32)), (.ref b1), (.ref b1)])) _
      refine st4 _ ?_
      show Steps p.tables e below (T4.setTop (mkF m 16 #[.val (.int p0), .unset, .unset, .unset] [(.ref t1), (.int (1 : Int32)), (.ref b1), (.ref b1)])) _
      refine st5 _ ?_
      show Steps p.tables e below (T5.setTop (mkF m 17 #[.val (.int p0), .unset, .unset, .unset] [(.ref b1)])) _
      refine XS.dup X5.here hx rfl (hb hby at_17) rfl rfl ?_
      show Steps p.tables e below (T5.setTop (mkF m 18 #[.val (.int p0), .unset, .unset, .unset] [(.ref b1), (.ref b1)])) _
      refine XS.iconst X5.here hx rfl (hb hby at_18) ?_
      show Steps p.tables e below (T5.setTop (mkF m 19 #[.val (.int p0), .unset, .unset, .unset] [(.int (2 : Int32)), (.ref b1), (.ref b1)])) _
      refine st6 _ ?_
      show Steps p.tables e below (T6.setTop (mkF m 22 #[.val (.int p0), .unset, .unset, .unset] [(.ref t2), (.int (2 : Int32)), (.ref b1), (.ref b1)])) _
      refine st7 _ ?_
      show Steps p.tables e below (T7.setTop (mkF m 23 #[.val (.int p0), .unset, .unset, .unset] [(.ref b1)])) _
      refine XS.dup X7.here hx rfl (hb hby at_23) rfl rfl ?_
      show Steps p.tables e below (T7.setTop (mkF m 24 #[.val (.int p0), .unset, .unset, .unset] [(.ref b1), (.ref b1)])) _
      refine XS.iconst X7.here hx rfl (hb hby at_24) ?_
      show Steps p.tables e below (T7.setTop (mkF m 25 #[.val (.int p0), .unset, .unset, .unset] [(.int (3 : Int32)), (.ref b1), (.ref b1)])) _
      refine st8 _ ?_
      show Steps p.tables e below (T8.setTop (mkF m 28 #[.val (.int p0), .unset, .unset, .unset] [(.ref t3), (.int (3 : Int32)), (.ref b1), (.ref b1)])) _
      refine st9 _ ?_
      show Steps p.tables e below (T9.setTop (mkF m 29 #[.val (.int p0), .unset, .unset, .unset] [(.ref b1)])) _
      refine XS.dup X9.here hx rfl (hb hby at_29) rfl rfl ?_
      show Steps p.tables e below (T9.setTop (mkF m 30 #[.val (.int p0), .unset, .unset, .unset] [(.ref b1), (.ref b1)])) _
      refine XS.iconst X9.here hx rfl (hb hby at_30) ?_
      show Steps p.tables e below (T9.setTop (mkF m 31 #[.val (.int p0), .unset, .unset, .unset] [(.int (4 : Int32)), (.ref b1), (.ref b1)])) _
      refine st10 _ ?_
      show Steps p.tables e below (T10.setTop (mkF m 34 #[.val (.int p0), .unset, .unset, .unset] [(.ref t4), (.int (4 : Int32)), (.ref b1), (.ref b1)])) _
      refine st11 _ ?_
      show Steps p.tables e below (T11.setTop (mkF m 35 #[.val (.int p0), .unset, .unset, .unset] [(.ref b1)])) _
      refine XS.dup X11.here hx rfl (hb hby at_35) rfl rfl ?_
      show Steps p.tables e below (T11.setTop (mkF m 36 #[.val (.int p0), .unset, .unset, .unset] [(.ref b1), (.ref b1)])) _
      refine XS.iconst X11.here hx rfl (hb hby at_36) ?_
      show Steps p.tables e below (T11.setTop (mkF m 37 #[.val (.int p0), .unset, .unset, .unset] [(.int (5 : Int32)), (.ref b1), (.ref b1)])) _
      refine st12 _ ?_
      show Steps p.tables e below (T12.setTop (mkF m 40 #[.val (.int p0), .unset, .unset, .unset] [(.ref t5), (.int (5 : Int32)), (.ref b1), (.ref b1)])) _
      refine st13 _ ?_
      show Steps p.tables e below (T13.setTop (mkF m 41 #[.val (.int p0), .unset, .unset, .unset] [(.ref b1)])) _
      refine XS.dup X13.here hx rfl (hb hby at_41) rfl rfl ?_
      show Steps p.tables e below (T13.setTop (mkF m 42 #[.val (.int p0), .unset, .unset, .unset] [(.ref b1), (.ref b1)])) _
      refine XS.bipush X13.here hx rfl (hb hby at_42) ?_
      show Steps p.tables e below (T13.setTop (mkF m 44 #[.val (.int p0), .unset, .unset, .unset] [(.int (6 : Int32)), (.ref b1), (.ref b1)])) _
      refine st14 _ ?_
      show Steps p.tables e below (T14.setTop (mkF m 47 #[.val (.int p0), .unset, .unset, .unset] [(.ref t6), (.int (6 : Int32)), (.ref b1), (.ref b1)])) _
      refine st15 _ ?_
      show Steps p.tables e below (T15.setTop (mkF m 48 #[.val (.int p0), .unset, .unset, .unset] [(.ref b1)])) _
      refine XS.dup X15.here hx rfl (hb hby at_48) rfl rfl ?_
      show Steps p.tables e below (T15.setTop (mkF m 49 #[.val (.int p0), .unset, .unset, .unset] [(.ref b1), (.ref b1)])) _
      refine XS.bipush X15.here hx rfl (hb hby at_49) ?_
      show Steps p.tables e below (T15.setTop (mkF m 51 #[.val (.int p0), .unset, .unset, .unset] [(.int (7 : Int32)), (.ref b1), (.ref b1)])) _
      refine st16 _ ?_
      show Steps p.tables e below (T16.setTop (mkF m 54 #[.val (.int p0), .unset, .unset, .unset] [(.ref t7), (.int (7 : Int32)), (.ref b1), (.ref b1)])) _
      refine st17 _ ?_
      show Steps p.tables e below (T17.setTop (mkF m 55 #[.val (.int p0), .unset, .unset, .unset] [(.ref b1)])) _
      refine XS.dup X17.here hx rfl (hb hby at_55) rfl rfl ?_
      show Steps p.tables e below (T17.setTop (mkF m 56 #[.val (.int p0), .unset, .unset, .unset] [(.ref b1), (.ref b1)])) _
      refine XS.bipush X17.here hx rfl (hb hby at_56) ?_
      show Steps p.tables e below (T17.setTop (mkF m 58 #[.val (.int p0), .unset, .unset, .unset] [(.int (8 : Int32)), (.ref b1), (.ref b1)])) _
      refine st18 _ ?_
      show Steps p.tables e below (T18.setTop (mkF m 61 #[.val (.int p0), .unset, .unset, .unset] [(.ref t8), (.int (8 : Int32)), (.ref b1), (.ref b1)])) _
      refine st19 _ ?_
      show Steps p.tables e below (T19.setTop (mkF m 62 #[.val (.int p0), .unset, .unset, .unset] [(.ref b1)])) _
      refine XS.dup X19.here hx rfl (hb hby at_62) rfl rfl ?_
      show Steps p.tables e below (T19.setTop (mkF m 63 #[.val (.int p0), .unset, .unset, .unset] [(.ref b1), (.ref b1)])) _
      refine XS.bipush X19.here hx rfl (hb hby at_63) ?_
      show Steps p.tables e below (T19.setTop (mkF m 65 #[.val (.int p0), .unset, .unset, .unset] [(.int (9 : Int32)), (.ref b1), (.ref b1)])) _
      refine st20 _ ?_
      show Steps p.tables e below (T20.setTop (mkF m 68 #[.val (.int p0), .unset, .unset, .unset] [(.ref t9), (.int (9 : Int32)), (.ref b1), (.ref b1)])) _
      refine st21 _ ?_
      show Steps p.tables e below (T21.setTop (mkF m 69 #[.val (.int p0), .unset, .unset, .unset] [(.ref b1)])) _
      refine XS.dup X21.here hx rfl (hb hby at_69) rfl rfl ?_
      show Steps p.tables e below (T21.setTop (mkF m 70 #[.val (.int p0), .unset, .unset, .unset] [(.ref b1), (.ref b1)])) _
      refine XS.bipush X21.here hx rfl (hb hby at_70) ?_
      show Steps p.tables e below (T21.setTop (mkF m 72 #[.val (.int p0), .unset, .unset, .unset] [(.int (10 : Int32)), (.ref b1), (.ref b1)])) _
      refine st22 _ ?_
      show Steps p.tables e below (T22.setTop (mkF m 75 #[.val (.int p0), .unset, .unset, .unset] [(.ref t10), (.int (10 : Int32)), (.ref b1), (.ref b1)])) _
      refine st23 _ ?_
      show Steps p.tables e below (T23.setTop (mkF m 76 #[.val (.int p0), .unset, .unset, .unset] [(.ref b1)])) _
      refine XS.dup X23.here hx rfl (hb hby at_76) rfl rfl ?_
      show Steps p.tables e below (T23.setTop (mkF m 77 #[.val (.int p0), .unset, .unset, .unset] [(.ref b1), (.ref b1)])) _
      refine XS.bipush X23.here hx rfl (hb hby at_77) ?_
      show Steps p.tables e below (T23.setTop (mkF m 79 #[.val (.int p0), .unset, .unset, .unset] [(.int (11 : Int32)), (.ref b1), (.ref b1)])) _
      refine st24 _ ?_
      show Steps p.tables e below (T24.setTop (mkF m 82 #[.val (.int p0), .unset, .unset, .unset] [(.ref t11), (.int (11 : Int32)), (.ref b1), (.ref b1)])) _
      refine st25 _ ?_
      show Steps p.tables e below (T25.setTop (mkF m 83 #[.val (.int p0), .unset, .unset, .unset] [(.ref b1)])) _
      refine XS.dup X25.here hx rfl (hb hby at_83) rfl rfl ?_
      show Steps p.tables e below (T25.setTop (mkF m 84 #[.val (.int p0), .unset, .unset, .unset] [(.ref b1), (.ref b1)])) _
      refine XS.bipush X25.here hx rfl (hb hby at_84) ?_
      show Steps p.tables e below (T25.setTop (mkF m 86 #[.val (.int p0), .unset, .unset, .unset] [(.int (12 : Int32)), (.ref b1), (.ref b1)])) _
      refine st26 _ ?_
      show Steps p.tables e below (T26.setTop (mkF m 89 #[.val (.int p0), .unset, .unset, .unset] [(.ref t12), (.int (12 : Int32)), (.ref b1), (.ref b1)])) _
      refine st27 _ ?_
      show Steps p.tables e below (T27.setTop (mkF m 90 #[.val (.int p0), .unset, .unset, .unset] [(.ref b1)])) _
      refine XS.dup X27.here hx rfl (hb hby at_90) rfl rfl ?_
      show Steps p.tables e below (T27.setTop (mkF m 91 #[.val (.int p0), .unset, .unset, .unset] [(.ref b1), (.ref b1)])) _
      refine XS.bipush X27.here hx rfl (hb hby at_91) ?_
      show Steps p.tables e below (T27.setTop (mkF m 93 #[.val (.int p0), .unset, .unset, .unset] [(.int (13 : Int32)), (.ref b1), (.ref b1)])) _
      refine st28 _ ?_
      show Steps p.tables e below (T28.setTop (mkF m 96 #[.val (.int p0), .unset, .unset, .unset] [(.ref t13), (.int (13 : Int32)), (.ref b1), (.ref b1)])) _
      refine st29 _ ?_
      show Steps p.tables e below (T29.setTop (mkF m 97 #[.val (.int p0), .unset, .unset, .unset] [(.ref b1)])) _
      refine XS.dup X29.here hx rfl (hb hby at_97) rfl rfl ?_
      show Steps p.tables e below (T29.setTop (mkF m 98 #[.val (.int p0), .unset, .unset, .unset] [(.ref b1), (.ref b1)])) _
      refine XS.bipush X29.here hx rfl (hb hby at_98) ?_
      show Steps p.tables e below (T29.setTop (mkF m 100 #[.val (.int p0), .unset, .unset, .unset] [(.int (14 : Int32)), (.ref b1), (.ref b1)])) _
      refine st30 _ ?_
      show Steps p.tables e below (T30.setTop (mkF m 103 #[.val (.int p0), .unset, .unset, .unset] [(.ref t14), (.int (14 : Int32)), (.ref b1), (.ref b1)])) _
      refine st31 _ ?_
      show Steps p.tables e below (T31.setTop (mkF m 104 #[.val (.int p0), .unset, .unset, .unset] [(.ref b1)])) _
      refine XS.dup X31.here hx rfl (hb hby at_104) rfl rfl ?_
      show Steps p.tables e below (T31.setTop (mkF m 105 #[.val (.int p0), .unset, .unset, .unset] [(.ref b1), (.ref b1)])) _
      refine XS.bipush X31.here hx rfl (hb hby at_105) ?_
      show Steps p.tables e below (T31.setTop (mkF m 107 #[.val (.int p0), .unset, .unset, .unset] [(.int (15 : Int32)), (.ref b1), (.ref b1)])) _
      refine st32 _ ?_
      show Steps p.tables e below (T32.setTop (mkF m 110 #[.val (.int p0), .unset, .unset, .unset] [(.ref t15), (.int (15 : Int32)), (.ref b1), (.ref b1)])) _
      refine st33 _ ?_
      show Steps p.tables e below (T33.setTop (mkF m 111 #[.val (.int p0), .unset, .unset, .unset] [(.ref b1)])) _
      refine XS.dup X33.here hx rfl (hb hby at_111) rfl rfl ?_
      show Steps p.tables e below (T33.setTop (mkF m 112 #[.val (.int p0), .unset, .unset, .unset] [(.ref b1), (.ref b1)])) _
      refine XS.bipush X33.here hx rfl (hb hby at_112) ?_
      show Steps p.tables e below (T33.setTop (mkF m 114 #[.val (.int p0), .unset, .unset, .unset] [(.int (16 : Int32)), (.ref b1), (.ref b1)])) _
      refine st34 _ ?_
      show Steps p.tables e below (T34.setTop (mkF m 117 #[.val (.int p0), .unset, .unset, .unset] [(.ref t16), (.int (16 : Int32)), (.ref b1), (.ref b1)])) _
      refine st35 _ ?_
      show Steps p.tables e below (T35.setTop (mkF m 118 #[.val (.int p0), .unset, .unset, .unset] [(.ref b1)])) _
      refine XS.dup X35.here hx rfl (hb hby at_118) rfl rfl ?_
      show Steps p.tables e below (T35.setTop (mkF m 119 #[.val (.int p0), .unset, .unset, .unset] [(.ref b1), (.ref b1)])) _
      refine XS.bipush X35.here hx rfl (hb hby at_119) ?_
      show Steps p.tables e below (T35.setTop (mkF m 121 #[.val (.int p0), .unset, .unset, .unset] [(.int (17 : Int32)), (.ref b1), (.ref b1)])) _
      refine st36 _ ?_
      show Steps p.tables e below (T36.setTop (mkF m 124 #[.val (.int p0), .unset, .unset, .unset] [(.ref t17), (.int (17 : Int32)), (.ref b1), (.ref b1)])) _
      refine st37 _ ?_
      show Steps p.tables e below (T37.setTop (mkF m 125 #[.val (.int p0), .unset, .unset, .unset] [(.ref b1)])) _
      refine XS.dup X37.here hx rfl (hb hby at_125) rfl rfl ?_
      show Steps p.tables e below (T37.setTop (mkF m 126 #[.val (.int p0), .unset, .unset, .unset] [(.ref b1), (.ref b1)])) _
      refine XS.bipush X37.here hx rfl (hb hby at_126) ?_
      show Steps p.tables e below (T37.setTop (mkF m 128 #[.val (.int p0), .unset, .unset, .unset] [(.int (18 : Int32)), (.ref b1), (.ref b1)])) _
      refine st38 _ ?_
      show Steps p.tables e below (T38.setTop (mkF m 131 #[.val (.int p0), .unset, .unset, .unset] [(.ref t18), (.int (18 : Int32)), (.ref b1), (.ref b1)])) _
      refine st39 _ ?_
      show Steps p.tables e below (T39.setTop (mkF m 132 #[.val (.int p0), .unset, .unset, .unset] [(.ref b1)])) _
      refine XS.dup X39.here hx rfl (hb hby at_132) rfl rfl ?_
      show Steps p.tables e below (T39.setTop (mkF m 133 #[.val (.int p0), .unset, .unset, .unset] [(.ref b1), (.ref b1)])) _
      refine XS.bipush X39.here hx rfl (hb hby at_133) ?_
      show Steps p.tables e below (T39.setTop (mkF m 135 #[.val (.int p0), .unset, .unset, .unset] [(.int (19 : Int32)), (.ref b1), (.ref b1)])) _
      refine st40 _ ?_
      show Steps p.tables e below (T40.setTop (mkF m 138 #[.val (.int p0), .unset, .unset, .unset] [(.ref t19), (.int (19 : Int32)), (.ref b1), (.ref b1)])) _
      refine st41 _ ?_
      show Steps p.tables e below (T41.setTop (mkF m 139 #[.val (.int p0), .unset, .unset, .unset] [(.ref b1)])) _
      refine XS.dup X41.here hx rfl (hb hby at_139) rfl rfl ?_
      show Steps p.tables e below (T41.setTop (mkF m 140 #[.val (.int p0), .unset, .unset, .unset] [(.ref b1), (.ref b1)])) _
      refine XS.bipush X41.here hx rfl (hb hby at_140) ?_
      show Steps p.tables e below (T41.setTop (mkF m 142 #[.val (.int p0), .unset, .unset, .unset] [(.int (20 : Int32)), (.ref b1), (.ref b1)])) _
      refine st42 _ ?_
      show Steps p.tables e below (T42.setTop (mkF m 145 #[.val (.int p0), .unset, .unset, .unset] [(.ref t20), (.int (20 : Int32)), (.ref b1), (.ref b1)])) _
      refine st43 _ ?_
      show Steps p.tables e below (T43.setTop (mkF m 146 #[.val (.int p0), .unset, .unset, .unset] [(.ref b1)])) _
      refine XS.dup X43.here hx rfl (hb hby at_146) rfl rfl ?_
      show Steps p.tables e below (T43.setTop (mkF m 147 #[.val (.int p0), .unset, .unset, .unset] [(.ref b1), (.ref b1)])) _
      refine XS.bipush X43.here hx rfl (hb hby at_147) ?_
      show Steps p.tables e below (T43.setTop (mkF m 149 #[.val (.int p0), .unset, .unset, .unset] [(.int (21 : Int32)), (.ref b1), (.ref b1)])) _
      refine st44 _ ?_
      show Steps p.tables e below (T44.setTop (mkF m 152 #[.val (.int p0), .unset, .unset, .unset] [(.ref t21), (.int (21 : Int32)), (.ref b1), (.ref b1)])) _
      refine st45 _ ?_
      show Steps p.tables e below (T45.setTop (mkF m 153 #[.val (.int p0), .unset, .unset, .unset] [(.ref b1)])) _
      refine XS.astoreN X45.here hx rfl (hb hby at_153) rfl rfl (l' := #[.val (.int p0), .val (.ref b1), .unset, .unset]) rfl ?_
      show Steps p.tables e below (T45.setTop (mkF m 154 #[.val (.int p0), .val (.ref b1), .unset, .unset] [])) _
      refine XS.iloadN X45.here hx rfl (hb hby at_154) rfl ?_
      show Steps p.tables e below (T45.setTop (mkF m 155 #[.val (.int p0), .val (.ref b1), .unset, .unset] [(.int p0)])) _
      refine XL.ldcInt hx hown (mvT hZ (hw _ (List.mem_of_getElem? (i := 48) rfl))) (g := (mkF m 155 #[.val (.int p0), .val (.ref b1), .unset, .unset] [(.int p0)])) rfl (hb hby at_155) _ ?_
      show Steps p.tables e below (T45.setTop (mkF m 157 #[.val (.int p0), .val (.ref b1), .unset, .unset] [(.int (2147483647 : Int32)), (.int p0)])) _
      refine XS.iand XL.here hx rfl (hb hby at_157) rfl ?_
      show Steps p.tables e below (T45.setTop (mkF m 158 #[.val (.int p0), .val (.ref b1), .unset, .unset] [(.int (p0 &&& (2147483647 : Int32)))])) _
      refine XS.bipush XL.here hx rfl (hb hby at_158) ?_
      show Steps p.tables e below (T45.setTop (mkF m 160 #[.val (.int p0), .val (.ref b1), .unset, .unset] [(.int (22 : Int32)), (.int (p0 &&& (2147483647 : Int32)))])) _
      refine iremM XL hx (g := (mkF m 160 #[.val (.int p0), .val (.ref b1), .unset, .unset] [(.int (22 : Int32)), (.int (p0 &&& (2147483647 : Int32)))])) rfl (hb hby at_160) rfl (by decide) ?_
      show Steps p.tables e below (T45.setTop (mkF m 161 #[.val (.int p0), .val (.ref b1), .unset, .unset] [(.int ((p0 &&& (2147483647 : Int32)) % (22 : Int32)))])) _
      refine XS.istoreN XL.here hx rfl (hb hby at_161) rfl (l' := #[.val (.int p0), .val (.ref b1), .val (.int ((p0 &&& (2147483647 : Int32)) % (22 : Int32))), .unset]) rfl ?_
      show Steps p.tables e below (T45.setTop (mkF m 162 #[.val (.int p0), .val (.ref b1), .val (.int ((p0 &&& (2147483647 : Int32)) % (22 : Int32))), .unset] [])) _
      refine XS.iloadN XL.here hx rfl (hb hby at_162) rfl ?_
      show Steps p.tables e below (T45.setTop (mkF m 163 #[.val (.int p0), .val (.ref b1), .val (.int ((p0 &&& (2147483647 : Int32)) % (22 : Int32))), .unset] [(.int ((p0 &&& (2147483647 : Int32)) % (22 : Int32)))])) _
      refine XS.iconst XL.here hx rfl (hb hby at_163) ?_
      show Steps p.tables e below (T45.setTop (mkF m 164 #[.val (.int p0), .val (.ref b1), .val (.int ((p0 &&& (2147483647 : Int32)) % (22 : Int32))), .unset] [(.int (2 : Int32)), (.int ((p0 &&& (2147483647 : Int32)) % (22 : Int32)))])) _
      refine XS.icmpYes XL.here hx rfl (pc0 := 164) (pc' := 176) rfl (hb hby at_164) rfl (tlt hc164).1 (by decide) (by decide) ?_
      show Steps p.tables e below (T45.setTop (mkF m 176 #[.val (.int p0), .val (.ref b1), .val (.int ((p0 &&& (2147483647 : Int32)) % (22 : Int32))), .unset] [])) _
      refine XS.iconst XL.here hx rfl (hb hby at_176) ?_
      show Steps p.tables e below (T45.setTop (mkF m 177 #[.val (.int p0), .val (.ref b1), .val (.int ((p0 &&& (2147483647 : Int32)) % (22 : Int32))), .unset] [(.int (0 : Int32))])) _
      refine XS.istoreN XL.here hx rfl (hb hby at_177) rfl (l' := #[.val (.int p0), .val (.ref b1), .val (.int ((p0 &&& (2147483647 : Int32)) % (22 : Int32))), .val (.int (0 : Int32))]) rfl ?_
      show Steps p.tables e below (T45.setTop (mkF m 178 #[.val (.int p0), .val (.ref b1), .val (.int ((p0 &&& (2147483647 : Int32)) % (22 : Int32))), .val (.int (0 : Int32))] [])) _
      refine XS.aloadN XL.here hx rfl (hb hby at_178) rfl rfl ?_
      show Steps p.tables e below (T45.setTop (mkF m 179 #[.val (.int p0), .val (.ref b1), .val (.int ((p0 &&& (2147483647 : Int32)) % (22 : Int32))), .val (.int (0 : Int32))] [(.ref b1)])) _
      refine XS.iloadN XL.here hx rfl (hb hby at_179) rfl ?_
      show Steps p.tables e below (T45.setTop (mkF m 180 #[.val (.int p0), .val (.ref b1), .val (.int ((p0 &&& (2147483647 : Int32)) % (22 : Int32))), .val (.int (0 : Int32))] [(.int ((p0 &&& (2147483647 : Int32)) % (22 : Int32))), (.ref b1)])) _
      refine XL.aaload hx (j := ((p0 &&& (2147483647 : Int32)) % (22 : Int32))) (v := (.ref w)) (by rw [e45]; exact Ar.1) (State.isArrayOf_alike hZ.alike Ar.2.1) rfl Ar.2.2 hin hat (g := (mkF m 180 #[.val (.int p0), .val (.ref b1), .val (.int ((p0 &&& (2147483647 : Int32)) % (22 : Int32))), .val (.int (0 : Int32))] [(.int ((p0 &&& (2147483647 : Int32)) % (22 : Int32))), (.ref b1)])) rfl rfl (hb hby at_180) _ ?_
      show Steps p.tables e below (T45.setTop (mkF m 181 #[.val (.int p0), .val (.ref b1), .val (.int ((p0 &&& (2147483647 : Int32)) % (22 : Int32))), .val (.int (0 : Int32))] [(.ref w)])) _
      refine st46.trans ?_
      show Steps p.tables e below (T46.setTop (mkF m 184 #[.val (.int p0), .val (.ref b1), .val (.int ((p0 &&& (2147483647 : Int32)) % (22 : Int32))), .val (.int (0 : Int32))] [(.int r)])) _
      refine XS.iloadN X46.here hx rfl (hb hby at_184) rfl ?_
      show Steps p.tables e below (T46.setTop (mkF m 185 #[.val (.int p0), .val (.ref b1), .val (.int ((p0 &&& (2147483647 : Int32)) % (22 : Int32))), .val (.int (0 : Int32))] [(.int (0 : Int32)), (.int r)])) _
      refine XS.icmpNo X46.here hx rfl (hb hby at_185) rfl (teq (hn (hd1 (Or.inl hc164)))).2 ?_
      show Steps p.tables e below (T46.setTop (mkF m 188 #[.val (.int p0), .val (.ref b1), .val (.int ((p0 &&& (2147483647 : Int32)) % (22 : Int32))), .val (.int (0 : Int32))] [])) _
      refine XS.iconst X46.here hx rfl (hb hby at_188) ?_
      show Steps p.tables e below (T46.setTop (mkF m 189 #[.val (.int p0), .val (.ref b1), .val (.int ((p0 &&& (2147483647 : Int32)) % (22 : Int32))), .val (.int (0 : Int32))] [(.int (1 : Int32))])) _
      refine XS.goto X46.here hx rfl (pc0 := 189) (pc' := 193) rfl (hb hby at_189) (by decide) (by decide) ?_
      show Steps p.tables e below (T46.setTop (mkF m 193 #[.val (.int p0), .val (.ref b1), .val (.int ((p0 &&& (2147483647 : Int32)) % (22 : Int32))), .val (.int (0 : Int32))] [(.int (1 : Int32))])) _
      exact retN X46 hx (t := .boolean) Bd.returns (by simp) (hb hby at_193) hr
    · show Q_rm0 Z p0 t0 t1 t2 t3 t4 t5 t6 t7 t8 t9 t10 t11 t12 t13 t14 t15 t16 t17 t18 t19 t20 t21 w h0 n0 _ T46.heap _
      rw [e46]
      exact ⟨rfl, N46⟩
  · by_cases hc169 : (4 : Int32) < ((p0 &&& (2147483647 : Int32)) % (22 : Int32))
    · obtain ⟨cl, Ar, qk, qS, qM, qH, qG⟩ := V45
      have hin : ¬ (((p0 &&& (2147483647 : Int32)) % (22 : Int32)) < 0 ∨ cl.slots.size ≤ (((p0 &&& (2147483647 : Int32)) % (22 : Int32))).toNatClampNeg) := inb_of qS ⟨hi0, hi1⟩
      have hat := qH.at hin hwi
      obtain ⟨cq47, kq47, q47a, q47b, q47c⟩ := isOf hZ e45 (E_w.ext (own_ext K45))
      obtain ⟨_, _, ⟨T47, L47, k47, n47⟩, -, X47, ⟨Lc47, hQ47, l47, y47, z47⟩, st47⟩ := XL.virtualBack hx (y := (⟨"com/example/camelfold/camelfold/reading/TokenKind", "isDirective", "()Z"⟩ : MethodName)) (z := (⟨"com/example/camelfold/camelfold/reading/TokenKind", "isDirective", "()Z"⟩ : MethodName)) hown (mvT hZ (hw _ (List.mem_of_getElem? (i := 49) rfl))) (mvT hZ (hw _ (List.mem_of_getElem? (i := 50) rfl))) (notFace_of_selects (args := #[]) (mvT hZ (hw _ (List.mem_of_getElem? (i := 52) rfl)))) (mvT hZ (hw _ (List.mem_of_getElem? (i := 52) rfl))) (mvT hZ (hw _ (List.mem_of_getElem? (i := 51) rfl))) (by decide) (backOf (W := 0) (rmI l Z a0 hw [] w t2 t3 t4 h45 n0 (Nat.le_trans Z0 K45.1) (Sta.ext (own_ext K45) S_t2) (Sta.ext (own_ext K45) S_t3) (Sta.ext (own_ext K45) S_t4)) hZ (hw _ (List.mem_of_getElem? (i := 53) rfl)) (hw _ (List.mem_of_getElem? (i := 3) rfl)) (by decide) (by decide)) q47a q47c (g := (mkF m 181 #[.val (.int p0), .val (.ref b1), .val (.int ((p0 &&& (2147483647 : Int32)) % (22 : Int32))), .val (.int (0 : Int32))] [(.ref w)])) rfl (by rw [hml]; rfl) (Steps.refl _) (argsL := []) (rest := []) (lenOf pd___Z rfl) rfl (by show 2 * 0 + _ ≤ _; exact Nat.le_of_eq rfl) (hb hby at_181) (fun _ _ => ⟨rfl, e45, (by decide : 1 + 0 ≤ _), (by decide : 22 + 0 ≤ _)⟩)
      dsimp only [Pt.U, Pt.locs, Pt.cells, Pt.slots] at X47 l47 y47 z47 st47 hQ47
      subst l47 y47 z47
      obtain ⟨r, rfl, N47q, e47, hy, hn⟩ := hQ47
      have N47 := Fr.app NL N47q
      obtain ⟨fs, hr, hrun, hended, hW, hsame⟩ := X47.leave (v := some (.int (1 : Int32))) (fun h => by rw [Bd.returns] at h; cases h)
      refine ⟨_, _, pre0 _ ?_, hrun, hended, _, _, rfl, ?_, ⟨_, rfl⟩, hW, hsame.mono (by decide) (by decide)⟩
      · show Steps p.tables e below (s₁.setTop (mkF m 0 #[.val (.int p0), .unset, .unset, .unset] [])) _
        refine XS.bipush X0.here hx rfl (hb hby at_0) ?_
        show Steps p.tables e below (s₁.setTop (mkF m 2 #[.val (.int p0), .unset, .unset, .unset] [(.int (22 : Int32))])) _
        refine st1 _ ?_
        show Steps p.tables e below (T1.setTop (mkF m 5 #[.val (.int p0), .unset, .unset, .unset] [(.ref b1)])) _
        refine XS.dup X1.here hx rfl (hb hby at_5) rfl rfl ?_
        show Steps p.tables e below (T1.setTop (mkF m 6 #[.val (.int p0), .unset, .unset, .unset] [(.ref b1), (.ref b1)])) _
        refine XS.iconst X1.here hx rfl (hb hby at_6) ?_
        show Steps p.tables e below (T1.setTop (mkF m 7 #[.val (.int p0), .unset, .unset, .unset] [(.int (0 : Int32)), (.ref b1), (.ref b1)])) _
        refine st2 _ ?_
        show Steps p.tables e below (T2.setTop (mkF m 10 #[.val (.int p0), .unset, .unset, .unset] [(.ref t0), (.int (0 : Int32)), (.ref b1), (.ref b1)])) _
        refine st3 _ ?_
        show Steps p.tables e below (T3.setTop (mkF m 11 #[.val (.int p0), .unset, .unset, .unset] [(.ref b1)])) _
        refine XS.dup X3.here hx rfl (hb hby at_11) rfl rfl ?_
        show Steps p.tables e below (T3.setTop (mkF m 12 #[.val (.int p0), .unset, .unset, .unset] [(.ref b1), (.ref b1)])) _
        refine XS.iconst X3.here hx rfl (hb hby at_12) ?_
        show Steps p.tables e below (T3.setTop (mkF m 13 #[.val (.int p0), .unset, .unset, .unset] [(.int (1 : Int32)), (.ref b1), (.ref b1)])) _
        refine st4 _ ?_
        show Steps p.tables e below (T4.setTop (mkF m 16 #[.val (.int p0), .unset, .unset, .unset] [(.ref t1), (.int (1 : Int32)), (.ref b1), (.ref b1)])) _
        refine st5 _ ?_
        show Steps p.tables e below (T5.setTop (mkF m 17 #[.val (.int p0), .unset, .unset, .unset] [(.ref b1)])) _
        refine XS.dup X5.here hx rfl (hb hby at_17) rfl rfl ?_
        show Steps p.tables e below (T5.setTop (mkF m 18 #[.val (.int p0), .unset, .unset, .unset] [(.ref b1), (.ref b1)])) _
        refine XS.iconst X5.here hx rfl (hb hby at_18) ?_
        show Steps p.tables e below (T5.setTop (mkF m 19 #[.val (.int p0), .unset, .unset, .unset] [(.int (2 : Int32)), (.ref b1), (.ref b1)])) _
        refine st6 _ ?_
        show Steps p.tables e below (T6.setTop (mkF m 22 #[.val (.int p0), .unset, .unset, .unset] [(.ref t2), (.int (2 : Int32)), (.ref b1), (.ref b1)])) _
        refine st7 _ ?_
        show Steps p.tables e below (T7.setTop (mkF m 23 #[.val (.int p0), .unset, .unset, .unset] [(.ref b1)])) _
        refine XS.dup X7.here hx rfl (hb hby at_23) rfl rfl ?_
        show Steps p.tables e below (T7.setTop (mkF m 24 #[.val (.int p0), .unset, .unset, .unset] [(.ref b1), (.ref b1)])) _
        refine XS.iconst X7.here hx rfl (hb hby at_24) ?_
        show Steps p.tables e below (T7.setTop (mkF m 25 #[.val (.int p0), .unset, .unset, .unset] [(.int (3 : Int32)), (.ref b1), (.ref b1)])) _
        refine st8 _ ?_
        show Steps p.tables e below (T8.setTop (mkF m 28 #[.val (.int p0), .unset, .unset, .unset] [(.ref t3), (.int (3 : Int32)), (.ref b1), (.ref b1)])) _
        refine st9 _ ?_
        show Steps p.tables e below (T9.setTop (mkF m 29 #[.val (.int p0), .unset, .unset, .unset] [(.ref b1)])) _
        refine XS.dup X9.here hx rfl (hb hby at_29) rfl rfl ?_
        show Steps p.tables e below (T9.setTop (mkF m 30 #[.val (.int p0), .unset, .unset, .unset] [(.ref b1), (.ref b1)])) _
        refine XS.iconst X9.here hx rfl (hb hby at_30) ?_
        show Steps p.tables e below (T9.setTop (mkF m 31 #[.val (.int p0), .unset, .unset, .unset] [(.int (4 : Int32)), (.ref b1), (.ref b1)])) _
        refine st10 _ ?_
        show Steps p.tables e below (T10.setTop (mkF m 34 #[.val (.int p0), .unset, .unset, .unset] [(.ref t4), (.int (4 : Int32)), (.ref b1), (.ref b1)])) _
        refine st11 _ ?_
        show Steps p.tables e below (T11.setTop (mkF m 35 #[.val (.int p0), .unset, .unset, .unset] [(.ref b1)])) _
        refine XS.dup X11.here hx rfl (hb hby at_35) rfl rfl ?_
        show Steps p.tables e below (T11.setTop (mkF m 36 #[.val (.int p0), .unset, .unset, .unset] [(.ref b1), (.ref b1)])) _
        refine XS.iconst X11.here hx rfl (hb hby at_36) ?_
        show Steps p.tables e below (T11.setTop (mkF m 37 #[.val (.int p0), .unset, .unset, .unset] [(.int (5 : Int32)), (.ref b1), (.ref b1)])) _
        refine st12 _ ?_
        show Steps p.tables e below (T12.setTop (mkF m 40 #[.val (.int p0), .unset, .unset, .unset] [(.ref t5), (.int (5 : Int32)), (.ref b1), (.ref b1)])) _
        refine st13 _ ?_
        show Steps p.tables e below (T13.setTop (mkF m 41 #[.val (.int p0), .unset, .unset, .unset] [(.ref b1)])) _
        refine XS.dup X13.here hx rfl (hb hby at_41) rfl rfl ?_
        show Steps p.tables e below (T13.setTop (mkF m 42 #[.val (.int p0), .unset, .unset, .unset] [(.ref b1), (.ref b1)])) _
        refine XS.bipush X13.here hx rfl (hb hby at_42) ?_
        show Steps p.tables e below (T13.setTop (mkF m 44 #[.val (.int p0), .unset, .unset, .unset] [(.int (6 : Int32)), (.ref b1), (.ref b1)])) _
        refine st14 _ ?_
        show Steps p.tables e below (T14.setTop (mkF m 47 #[.val (.int p0), .unset, .unset, .unset] [(.ref t6), (.int (6 : Int32)), (.ref b1), (.ref b1)])) _
        refine st15 _ ?_
        show Steps p.tables e below (T15.setTop (mkF m 48 #[.val (.int p0), .unset, .unset, .unset] [(.ref b1)])) _
        refine XS.dup X15.here hx rfl (hb hby at_48) rfl rfl ?_
        show Steps p.tables e below (T15.setTop (mkF m 49 #[.val (.int p0), .unset, .unset, .unset] [(.ref b1), (.ref b1)])) _
        refine XS.bipush X15.here hx rfl (hb hby at_49) ?_
        show Steps p.tables e below (T15.setTop (mkF m 51 #[.val (.int p0), .unset, .unset, .unset] [(.int (7 : Int32)), (.ref b1), (.ref b1)])) _
        refine st16 _ ?_
        show Steps p.tables e below (T16.setTop (mkF m 54 #[.val (.int p0), .unset, .unset, .unset] [(.ref t7), (.int (7 : Int32)), (.ref b1), (.ref b1)])) _
        refine st17 _ ?_
        show Steps p.tables e below (T17.setTop (mkF m 55 #[.val (.int p0), .unset, .unset, .unset] [(.ref b1)])) _
        refine XS.dup X17.here hx rfl (hb hby at_55) rfl rfl ?_
        show Steps p.tables e below (T17.setTop (mkF m 56 #[.val (.int p0), .unset, .unset, .unset] [(.ref b1), (.ref b1)])) _
        refine XS.bipush X17.here hx rfl (hb hby at_56) ?_
        show Steps p.tables e below (T17.setTop (mkF m 58 #[.val (.int p0), .unset, .unset, .unset] [(.int (8 : Int32)), (.ref b1), (.ref b1)])) _
        refine st18 _ ?_
        show Steps p.tables e below (T18.setTop (mkF m 61 #[.val (.int p0), .unset, .unset, .unset] [(.ref t8), (.int (8 : Int32)), (.ref b1), (.ref b1)])) _
        refine st19 _ ?_
        show Steps p.tables e below (T19.setTop (mkF m 62 #[.val (.int p0), .unset, .unset, .unset] [(.ref b1)])) _
        refine XS.dup X19.here hx rfl (hb hby at_62) rfl rfl ?_
        show Steps p.tables e below (T19.setTop (mkF m 63 #[.val (.int p0), .unset, .unset, .unset] [(.ref b1), (.ref b1)])) _
        refine XS.bipush X19.here hx rfl (hb hby at_63) ?_
        show Steps p.tables e below (T19.setTop (mkF m 65 #[.val (.int p0), .unset, .unset, .unset] [(.int (9 : Int32)), (.ref b1), (.ref b1)])) _
        refine st20 _ ?_
        show Steps p.tables e below (T20.setTop (mkF m 68 #[.val (.int p0), .unset, .unset, .unset] [(.ref t9), (.int (9 : Int32)), (.ref b1), (.ref b1)])) _
        refine st21 _ ?_
        show Steps p.tables e below (T21.setTop (mkF m 69 #[.val (.int p0), .unset, .unset, .unset] [(.ref b1)])) _
        refine XS.dup X21.here hx rfl (hb hby at_69) rfl rfl ?_
        show Steps p.tables e below (T21.setTop (mkF m 70 #[.val (.int p0), .unset, .unset, .unset] [(.ref b1), (.ref b1)])) _
        refine XS.bipush X21.here hx rfl (hb hby at_70) ?_
        show Steps p.tables e below (T21.setTop (mkF m 72 #[.val (.int p0), .unset, .unset, .unset] [(.int (10 : Int32)), (.ref b1), (.ref b1)])) _
        refine st22 _ ?_
        show Steps p.tables e below (T22.setTop (mkF m 75 #[.val (.int p0), .unset, .unset, .unset] [(.ref t10), (.int (10 : Int32)), (.ref b1), (.ref b1)])) _
        refine st23 _ ?_
        show Steps p.tables e below (T23.setTop (mkF m 76 #[.val (.int p0), .unset, .unset, .unset] [(.ref b1)])) _
        refine XS.dup X23.here hx rfl (hb hby at_76) rfl rfl ?_
        show Steps p.tables e below (T23.setTop (mkF m 77 #[.val (.int p0), .unset, .unset, .unset] [(.ref b1), (.ref b1)])) _
        refine XS.bipush X23.here hx rfl (hb hby at_77) ?_
        show Steps p.tables e below (T23.setTop (mkF m 79 #[.val (.int p0), .unset, .unset, .unset] [(.int (11 : Int32)), (.ref b1), (.ref b1)])) _
        refine st24 _ ?_
        show Steps p.tables e below (T24.setTop (mkF m 82 #[.val (.int p0), .unset, .unset, .unset] [(.ref t11), (.int (11 : Int32)), (.ref b1), (.ref b1)])) _
        refine st25 _ ?_
        show Steps p.tables e below (T25.setTop (mkF m 83 #[.val (.int p0), .unset, .unset, .unset] [(.ref b1)])) _
        refine XS.dup X25.here hx rfl (hb hby at_83) rfl rfl ?_
        show Steps p.tables e below (T25.setTop (mkF m 84 #[.val (.int p0), .unset, .unset, .unset] [(.ref b1), (.ref b1)])) _
        refine XS.bipush X25.here hx rfl (hb hby at_84) ?_
        show Steps p.tables e below (T25.setTop (mkF m 86 #[.val (.int p0), .unset, .unset, .unset] [(.int (12 : Int32)), (.ref b1), (.ref b1)])) _
        refine st26 _ ?_
        show Steps p.tables e below (T26.setTop (mkF m 89 #[.val (.int p0), .unset, .unset, .unset] [(.ref t12), (.int (12 : Int32)), (.ref b1), (.ref b1)])) _
        refine st27 _ ?_
        show Steps p.tables e below (T27.setTop (mkF m 90 #[.val (.int p0), .unset, .unset, .unset] [(.ref b1)])) _
        refine XS.dup X27.here hx rfl (hb hby at_90) rfl rfl ?_
        show Steps p.tables e below (T27.setTop (mkF m 91 #[.val (.int p0), .unset, .unset, .unset] [(.ref b1), (.ref b1)])) _
        refine XS.bipush X27.here hx rfl (hb hby at_91) ?_
        show Steps p.tables e below (T27.setTop (mkF m 93 #[.val (.int p0), .unset, .unset, .unset] [(.int (13 : Int32)), (.ref b1), (.ref b1)])) _
        refine st28 _ ?_
        show Steps p.tables e below (T28.setTop (mkF m 96 #[.val (.int p0), .unset, .unset, .unset] [(.ref t13), (.int (13 : Int32)), (.ref b1), (.ref b1)])) _
        refine st29 _ ?_
        show Steps p.tables e below (T29.setTop (mkF m 97 #[.val (.int p0), .unset, .unset, .unset] [(.ref b1)])) _
        refine XS.dup X29.here hx rfl (hb hby at_97) rfl rfl ?_
        show Steps p.tables e below (T29.setTop (mkF m 98 #[.val (.int p0), .unset, .unset, .unset] [(.ref b1), (.ref b1)])) _
        refine XS.bipush X29.here hx rfl (hb hby at_98) ?_
        show Steps p.tables e below (T29.setTop (mkF m 100 #[.val (.int p0), .unset, .unset, .unset] [(.int (14 : Int32)), (.ref b1), (.ref b1)])) _
        refine st30 _ ?_
        show Steps p.tables e below (T30.setTop (mkF m 103 #[.val (.int p0), .unset, .unset, .unset] [(.ref t14), (.int (14 : Int32)), (.ref b1), (.ref b1)])) _
        refine st31 _ ?_
        show Steps p.tables e below (T31.setTop (mkF m 104 #[.val (.int p0), .unset, .unset, .unset] [(.ref b1)])) _
        refine XS.dup X31.here hx rfl (hb hby at_104) rfl rfl ?_
        show Steps p.tables e below (T31.setTop (mkF m 105 #[.val (.int p0), .unset, .unset, .unset] [(.ref b1), (.ref b1)])) _
        refine XS.bipush X31.here hx rfl (hb hby at_105) ?_
        show Steps p.tables e below (T31.setTop (mkF m 107 #[.val (.int p0), .unset, .unset, .unset] [(.int (15 : Int32)), (.ref b1), (.ref b1)])) _
        refine st32 _ ?_
        show Steps p.tables e below (T32.setTop (mkF m 110 #[.val (.int p0), .unset, .unset, .unset] [(.ref t15), (.int (15 : Int32)), (.ref b1), (.ref b1)])) _
        refine st33 _ ?_
        show Steps p.tables e below (T33.setTop (mkF m 111 #[.val (.int p0), .unset, .unset, .unset] [(.ref b1)])) _
        refine XS.dup X33.here hx rfl (hb hby at_111) rfl rfl ?_
        show Steps p.tables e below (T33.setTop (mkF m 112 #[.val (.int p0), .unset, .unset, .unset] [(.ref b1), (.ref b1)])) _
        refine XS.bipush X33.here hx rfl (hb hby at_112) ?_
        show Steps p.tables e below (T33.setTop (mkF m 114 #[.val (.int p0), .unset, .unset, .unset] [(.int (16 : Int32)), (.ref b1), (.ref b1)])) _
        refine st34 _ ?_
        show Steps p.tables e below (T34.setTop (mkF m 117 #[.val (.int p0), .unset, .unset, .unset] [(.ref t16), (.int (16 : Int32)), (.ref b1), (.ref b1)])) _
        refine st35 _ ?_
        show Steps p.tables e below (T35.setTop (mkF m 118 #[.val (.int p0), .unset, .unset, .unset] [(.ref b1)])) _
        refine XS.dup X35.here hx rfl (hb hby at_118) rfl rfl ?_
        show Steps p.tables e below (T35.setTop (mkF m 119 #[.val (.int p0), .unset, .unset, .unset] [(.ref b1), (.ref b1)])) _
        refine XS.bipush X35.here hx rfl (hb hby at_119) ?_
        show Steps p.tables e below (T35.setTop (mkF m 121 #[.val (.int p0), .unset, .unset, .unset] [(.int (17 : Int32)), (.ref b1), (.ref b1)])) _
        refine st36 _ ?_
        show Steps p.tables e below (T36.setTop (mkF m 124 #[.val (.int p0), .unset, .unset, .unset] [(.ref t17), (.int (17 : Int32)), (.ref b1), (.ref b1)])) _
        refine st37 _ ?_
        show Steps p.tables e below (T37.setTop (mkF m 125 #[.val (.int p0), .unset, .unset, .unset] [(.ref b1)])) _
        refine XS.dup X37.here hx rfl (hb hby at_125) rfl rfl ?_
        show Steps p.tables e below (T37.setTop (mkF m 126 #[.val (.int p0), .unset, .unset, .unset] [(.ref b1), (.ref b1)])) _
        refine XS.bipush X37.here hx rfl (hb hby at_126) ?_
        show Steps p.tables e below (T37.setTop (mkF m 128 #[.val (.int p0), .unset, .unset, .unset] [(.int (18 : Int32)), (.ref b1), (.ref b1)])) _
        refine st38 _ ?_
        show Steps p.tables e below (T38.setTop (mkF m 131 #[.val (.int p0), .unset, .unset, .unset] [(.ref t18), (.int (18 : Int32)), (.ref b1), (.ref b1)])) _
        refine st39 _ ?_
        show Steps p.tables e below (T39.setTop (mkF m 132 #[.val (.int p0), .unset, .unset, .unset] [(.ref b1)])) _
        refine XS.dup X39.here hx rfl (hb hby at_132) rfl rfl ?_
        show Steps p.tables e below (T39.setTop (mkF m 133 #[.val (.int p0), .unset, .unset, .unset] [(.ref b1), (.ref b1)])) _
        refine XS.bipush X39.here hx rfl (hb hby at_133) ?_
        show Steps p.tables e below (T39.setTop (mkF m 135 #[.val (.int p0), .unset, .unset, .unset] [(.int (19 : Int32)), (.ref b1), (.ref b1)])) _
        refine st40 _ ?_
        show Steps p.tables e below (T40.setTop (mkF m 138 #[.val (.int p0), .unset, .unset, .unset] [(.ref t19), (.int (19 : Int32)), (.ref b1), (.ref b1)])) _
        refine st41 _ ?_
        show Steps p.tables e below (T41.setTop (mkF m 139 #[.val (.int p0), .unset, .unset, .unset] [(.ref b1)])) _
        refine XS.dup X41.here hx rfl (hb hby at_139) rfl rfl ?_
        show Steps p.tables e below (T41.setTop (mkF m 140 #[.val (.int p0), .unset, .unset, .unset] [(.ref b1), (.ref b1)])) _
        refine XS.bipush X41.here hx rfl (hb hby at_140) ?_
        show Steps p.tables e below (T41.setTop (mkF m 142 #[.val (.int p0), .unset, .unset, .unset] [(.int (20 : Int32)), (.ref b1), (.ref b1)])) _
        refine st42 _ ?_
        show Steps p.tables e below (T42.setTop (mkF m 145 #[.val (.int p0), .unset, .unset, .unset] [(.ref t20), (.int (20 : Int32)), (.ref b1), (.ref b1)])) _
        refine st43 _ ?_
        show Steps p.tables e below (T43.setTop (mkF m 146 #[.val (.int p0), .unset, .unset, .unset] [(.ref b1)])) _
        refine XS.dup X43.here hx rfl (hb hby at_146) rfl rfl ?_
        show Steps p.tables e below (T43.setTop (mkF m 147 #[.val (.int p0), .unset, .unset, .unset] [(.ref b1), (.ref b1)])) _
        refine XS.bipush X43.here hx rfl (hb hby at_147) ?_
        show Steps p.tables e below (T43.setTop (mkF m 149 #[.val (.int p0), .unset, .unset, .unset] [(.int (21 : Int32)), (.ref b1), (.ref b1)])) _
        refine st44 _ ?_
        show Steps p.tables e below (T44.setTop (mkF m 152 #[.val (.int p0), .unset, .unset, .unset] [(.ref t21), (.int (21 : Int32)), (.ref b1), (.ref b1)])) _
        refine st45 _ ?_
        show Steps p.tables e below (T45.setTop (mkF m 153 #[.val (.int p0), .unset, .unset, .unset] [(.ref b1)])) _
        refine XS.astoreN X45.here hx rfl (hb hby at_153) rfl rfl (l' := #[.val (.int p0), .val (.ref b1), .unset, .unset]) rfl ?_
        show Steps p.tables e below (T45.setTop (mkF m 154 #[.val (.int p0), .val (.ref b1), .unset, .unset] [])) _
        refine XS.iloadN X45.here hx rfl (hb hby at_154) rfl ?_
        show Steps p.tables e below (T45.setTop (mkF m 155 #[.val (.int p0), .val (.ref b1), .unset, .unset] [(.int p0)])) _
        refine XL.ldcInt hx hown (mvT hZ (hw _ (List.mem_of_getElem? (i := 48) rfl))) (g := (mkF m 155 #[.val (.int p0), .val (.ref b1), .unset, .unset] [(.int p0)])) rfl (hb hby at_155) _ ?_
        show Steps p.tables e below (T45.setTop (mkF m 157 #[.val (.int p0), .val (.ref b1), .unset, .unset] [(.int (2147483647 : Int32)), (.int p0)])) _
        refine XS.iand XL.here hx rfl (hb hby at_157) rfl ?_
        show Steps p.tables e below (T45.setTop (mkF m 158 #[.val (.int p0), .val (.ref b1), .unset, .unset] [(.int (p0 &&& (2147483647 : Int32)))])) _
        refine XS.bipush XL.here hx rfl (hb hby at_158) ?_
        show Steps p.tables e below (T45.setTop (mkF m 160 #[.val (.int p0), .val (.ref b1), .unset, .unset] [(.int (22 : Int32)), (.int (p0 &&& (2147483647 : Int32)))])) _
        refine iremM XL hx (g := (mkF m 160 #[.val (.int p0), .val (.ref b1), .unset, .unset] [(.int (22 : Int32)), (.int (p0 &&& (2147483647 : Int32)))])) rfl (hb hby at_160) rfl (by decide) ?_
        show Steps p.tables e below (T45.setTop (mkF m 161 #[.val (.int p0), .val (.ref b1), .unset, .unset] [(.int ((p0 &&& (2147483647 : Int32)) % (22 : Int32)))])) _
        refine XS.istoreN XL.here hx rfl (hb hby at_161) rfl (l' := #[.val (.int p0), .val (.ref b1), .val (.int ((p0 &&& (2147483647 : Int32)) % (22 : Int32))), .unset]) rfl ?_
        show Steps p.tables e below (T45.setTop (mkF m 162 #[.val (.int p0), .val (.ref b1), .val (.int ((p0 &&& (2147483647 : Int32)) % (22 : Int32))), .unset] [])) _
        refine XS.iloadN XL.here hx rfl (hb hby at_162) rfl ?_
        show Steps p.tables e below (T45.setTop (mkF m 163 #[.val (.int p0), .val (.ref b1), .val (.int ((p0 &&& (2147483647 : Int32)) % (22 : Int32))), .unset] [(.int ((p0 &&& (2147483647 : Int32)) % (22 : Int32)))])) _
        refine XS.iconst XL.here hx rfl (hb hby at_163) ?_
        show Steps p.tables e below (T45.setTop (mkF m 164 #[.val (.int p0), .val (.ref b1), .val (.int ((p0 &&& (2147483647 : Int32)) % (22 : Int32))), .unset] [(.int (2 : Int32)), (.int ((p0 &&& (2147483647 : Int32)) % (22 : Int32)))])) _
        refine XS.icmpNo XL.here hx rfl (hb hby at_164) rfl (flt hc164).1 ?_
        show Steps p.tables e below (T45.setTop (mkF m 167 #[.val (.int p0), .val (.ref b1), .val (.int ((p0 &&& (2147483647 : Int32)) % (22 : Int32))), .unset] [])) _
        refine XS.iloadN XL.here hx rfl (hb hby at_167) rfl ?_
        show Steps p.tables e below (T45.setTop (mkF m 168 #[.val (.int p0), .val (.ref b1), .val (.int ((p0 &&& (2147483647 : Int32)) % (22 : Int32))), .unset] [(.int ((p0 &&& (2147483647 : Int32)) % (22 : Int32)))])) _
        refine XS.iconst XL.here hx rfl (hb hby at_168) ?_
        show Steps p.tables e below (T45.setTop (mkF m 169 #[.val (.int p0), .val (.ref b1), .val (.int ((p0 &&& (2147483647 : Int32)) % (22 : Int32))), .unset] [(.int (4 : Int32)), (.int ((p0 &&& (2147483647 : Int32)) % (22 : Int32)))])) _
        refine XS.icmpYes XL.here hx rfl (pc0 := 169) (pc' := 176) rfl (hb hby at_169) rfl (tlt hc169).2.2.1 (by decide) (by decide) ?_
        show Steps p.tables e below (T45.setTop (mkF m 176 #[.val (.int p0), .val (.ref b1), .val (.int ((p0 &&& (2147483647 : Int32)) % (22 : Int32))), .unset] [])) _
        refine XS.iconst XL.here hx rfl (hb hby at_176) ?_
        show Steps p.tables e below (T45.setTop (mkF m 177 #[.val (.int p0), .val (.ref b1), .val (.int ((p0 &&& (2147483647 : Int32)) % (22 : Int32))), .unset] [(.int (0 : Int32))])) _
        refine XS.istoreN XL.here hx rfl (hb hby at_177) rfl (l' := #[.val (.int p0), .val (.ref b1), .val (.int ((p0 &&& (2147483647 : Int32)) % (22 : Int32))), .val (.int (0 : Int32))]) rfl ?_
        show Steps p.tables e below (T45.setTop (mkF m 178 #[.val (.int p0), .val (.ref b1), .val (.int ((p0 &&& (2147483647 : Int32)) % (22 : Int32))), .val (.int (0 : Int32))] [])) _
        refine XS.aloadN XL.here hx rfl (hb hby at_178) rfl rfl ?_
        show Steps p.tables e below (T45.setTop (mkF m 179 #[.val (.int p0), .val (.ref b1), .val (.int ((p0 &&& (2147483647 : Int32)) % (22 : Int32))), .val (.int (0 : Int32))] [(.ref b1)])) _
        refine XS.iloadN XL.here hx rfl (hb hby at_179) rfl ?_
        show Steps p.tables e below (T45.setTop (mkF m 180 #[.val (.int p0), .val (.ref b1), .val (.int ((p0 &&& (2147483647 : Int32)) % (22 : Int32))), .val (.int (0 : Int32))] [(.int ((p0 &&& (2147483647 : Int32)) % (22 : Int32))), (.ref b1)])) _
        refine XL.aaload hx (j := ((p0 &&& (2147483647 : Int32)) % (22 : Int32))) (v := (.ref w)) (by rw [e45]; exact Ar.1) (State.isArrayOf_alike hZ.alike Ar.2.1) rfl Ar.2.2 hin hat (g := (mkF m 180 #[.val (.int p0), .val (.ref b1), .val (.int ((p0 &&& (2147483647 : Int32)) % (22 : Int32))), .val (.int (0 : Int32))] [(.int ((p0 &&& (2147483647 : Int32)) % (22 : Int32))), (.ref b1)])) rfl rfl (hb hby at_180) _ ?_
        show Steps p.tables e below (T45.setTop (mkF m 181 #[.val (.int p0), .val (.ref b1), .val (.int ((p0 &&& (2147483647 : Int32)) % (22 : Int32))), .val (.int (0 : Int32))] [(.ref w)])) _
        refine st47.trans ?_
        show Steps p.tables e below (T47.setTop (mkF m 184 #[.val (.int p0), .val (.ref b1), .val (.int ((p0 &&& (2147483647 : Int32)) % (22 : Int32))), .val (.int (0 : Int32))] [(.int r)])) _
        refine XS.iloadN X47.here hx rfl (hb hby at_184) rfl ?_
        show Steps p.tables e below (T47.setTop (mkF m 185 #[.val (.int p0), .val (.ref b1), .val (.int ((p0 &&& (2147483647 : Int32)) % (22 : Int32))), .val (.int (0 : Int32))] [(.int (0 : Int32)), (.int r)])) _
        refine XS.icmpNo X47.here hx rfl (hb hby at_185) rfl (teq (hn (hd1 (Or.inr hc169)))).2 ?_
        show Steps p.tables e below (T47.setTop (mkF m 188 #[.val (.int p0), .val (.ref b1), .val (.int ((p0 &&& (2147483647 : Int32)) % (22 : Int32))), .val (.int (0 : Int32))] [])) _
        refine XS.iconst X47.here hx rfl (hb hby at_188) ?_
        show Steps p.tables e below (T47.setTop (mkF m 189 #[.val (.int p0), .val (.ref b1), .val (.int ((p0 &&& (2147483647 : Int32)) % (22 : Int32))), .val (.int (0 : Int32))] [(.int (1 : Int32))])) _
        refine XS.goto X47.here hx rfl (pc0 := 189) (pc' := 193) rfl (hb hby at_189) (by decide) (by decide) ?_
        show Steps p.tables e below (T47.setTop (mkF m 193 #[.val (.int p0), .val (.ref b1), .val (.int ((p0 &&& (2147483647 : Int32)) % (22 : Int32))), .val (.int (0 : Int32))] [(.int (1 : Int32))])) _
        exact retN X47 hx (t := .boolean) Bd.returns (by simp) (hb hby at_193) hr
      · show Q_rm0 Z p0 t0 t1 t2 t3 t4 t5 t6 t7 t8 t9 t10 t11 t12 t13 t14 t15 t16 t17 t18 t19 t20 t21 w h0 n0 _ T47.heap _
        rw [e47]
        exact ⟨rfl, N47⟩
    · obtain ⟨cl, Ar, qk, qS, qM, qH, qG⟩ := V45
      have hin : ¬ (((p0 &&& (2147483647 : Int32)) % (22 : Int32)) < 0 ∨ cl.slots.size ≤ (((p0 &&& (2147483647 : Int32)) % (22 : Int32))).toNatClampNeg) := inb_of qS ⟨hi0, hi1⟩
      have hat := qH.at hin hwi
      obtain ⟨cq48, kq48, q48a, q48b, q48c⟩ := isOf hZ e45 (E_w.ext (own_ext K45))
      obtain ⟨_, _, ⟨T48, L48, k48, n48⟩, -, X48, ⟨Lc48, hQ48, l48, y48, z48⟩, st48⟩ := XL.virtualBack hx (y := (⟨"com/example/camelfold/camelfold/reading/TokenKind", "isDirective", "()Z"⟩ : MethodName)) (z := (⟨"com/example/camelfold/camelfold/reading/TokenKind", "isDirective", "()Z"⟩ : MethodName)) hown (mvT hZ (hw _ (List.mem_of_getElem? (i := 49) rfl))) (mvT hZ (hw _ (List.mem_of_getElem? (i := 50) rfl))) (notFace_of_selects (args := #[]) (mvT hZ (hw _ (List.mem_of_getElem? (i := 52) rfl)))) (mvT hZ (hw _ (List.mem_of_getElem? (i := 52) rfl))) (mvT hZ (hw _ (List.mem_of_getElem? (i := 51) rfl))) (by decide) (backOf (W := 0) (rmI l Z a0 hw [] w t2 t3 t4 h45 n0 (Nat.le_trans Z0 K45.1) (Sta.ext (own_ext K45) S_t2) (Sta.ext (own_ext K45) S_t3) (Sta.ext (own_ext K45) S_t4)) hZ (hw _ (List.mem_of_getElem? (i := 53) rfl)) (hw _ (List.mem_of_getElem? (i := 3) rfl)) (by decide) (by decide)) q48a q48c (g := (mkF m 181 #[.val (.int p0), .val (.ref b1), .val (.int ((p0 &&& (2147483647 : Int32)) % (22 : Int32))), .val (.int (1 : Int32))] [(.ref w)])) rfl (by rw [hml]; rfl) (Steps.refl _) (argsL := []) (rest := []) (lenOf pd___Z rfl) rfl (by show 2 * 0 + _ ≤ _; exact Nat.le_of_eq rfl) (hb hby at_181) (fun _ _ => ⟨rfl, e45, (by decide : 1 + 0 ≤ _), (by decide : 22 + 0 ≤ _)⟩)
      dsimp only [Pt.U, Pt.locs, Pt.cells, Pt.slots] at X48 l48 y48 z48 st48 hQ48
      subst l48 y48 z48
      obtain ⟨r, rfl, N48q, e48, hy, hn⟩ := hQ48
      have N48 := Fr.app NL N48q
      obtain ⟨fs, hr, hrun, hended, hW, hsame⟩ := X48.leave (v := some (.int (1 : Int32))) (fun h => by rw [Bd.returns] at h; cases h)
      refine ⟨_, _, pre0 _ ?_, hrun, hended, _, _, rfl, ?_, ⟨_, rfl⟩, hW, hsame.mono (by decide) (by decide)⟩
      · show Steps p.tables e below (s₁.setTop (mkF m 0 #[.val (.int p0), .unset, .unset, .unset] [])) _
        refine XS.bipush X0.here hx rfl (hb hby at_0) ?_
        show Steps p.tables e below (s₁.setTop (mkF m 2 #[.val (.int p0), .unset, .unset, .unset] [(.int (22 : Int32))])) _
        refine st1 _ ?_
        show Steps p.tables e below (T1.setTop (mkF m 5 #[.val (.int p0), .unset, .unset, .unset] [(.ref b1)])) _
        refine XS.dup X1.here hx rfl (hb hby at_5) rfl rfl ?_
        show Steps p.tables e below (T1.setTop (mkF m 6 #[.val (.int p0), .unset, .unset, .unset] [(.ref b1), (.ref b1)])) _
        refine XS.iconst X1.here hx rfl (hb hby at_6) ?_
        show Steps p.tables e below (T1.setTop (mkF m 7 #[.val (.int p0), .unset, .unset, .unset] [(.int (0 : Int32)), (.ref b1), (.ref b1)])) _
        refine st2 _ ?_
        show Steps p.tables e below (T2.setTop (mkF m 10 #[.val (.int p0), .unset, .unset, .unset] [(.ref t0), (.int (0 : Int32)), (.ref b1), (.ref b1)])) _
        refine st3 _ ?_
        show Steps p.tables e below (T3.setTop (mkF m 11 #[.val (.int p0), .unset, .unset, .unset] [(.ref b1)])) _
        refine XS.dup X3.here hx rfl (hb hby at_11) rfl rfl ?_
        show Steps p.tables e below (T3.setTop (mkF m 12 #[.val (.int p0), .unset, .unset, .unset] [(.ref b1), (.ref b1)])) _
        refine XS.iconst X3.here hx rfl (hb hby at_12) ?_
        show Steps p.tables e below (T3.setTop (mkF m 13 #[.val (.int p0), .unset, .unset, .unset] [(.int (1 : Int32)), (.ref b1), (.ref b1)])) _
        refine st4 _ ?_
        show Steps p.tables e below (T4.setTop (mkF m 16 #[.val (.int p0), .unset, .unset, .unset] [(.ref t1), (.int (1 : Int32)), (.ref b1), (.ref b1)])) _
        refine st5 _ ?_
        show Steps p.tables e below (T5.setTop (mkF m 17 #[.val (.int p0), .unset, .unset, .unset] [(.ref b1)])) _
        refine XS.dup X5.here hx rfl (hb hby at_17) rfl rfl ?_
        show Steps p.tables e below (T5.setTop (mkF m 18 #[.val (.int p0), .unset, .unset, .unset] [(.ref b1), (.ref b1)])) _
        refine XS.iconst X5.here hx rfl (hb hby at_18) ?_
        show Steps p.tables e below (T5.setTop (mkF m 19 #[.val (.int p0), .unset, .unset, .unset] [(.int (2 : Int32)), (.ref b1), (.ref b1)])) _
        refine st6 _ ?_
        show Steps p.tables e below (T6.setTop (mkF m 22 #[.val (.int p0), .unset, .unset, .unset] [(.ref t2), (.int (2 : Int32)), (.ref b1), (.ref b1)])) _
        refine st7 _ ?_
        show Steps p.tables e below (T7.setTop (mkF m 23 #[.val (.int p0), .unset, .unset, .unset] [(.ref b1)])) _
        refine XS.dup X7.here hx rfl (hb hby at_23) rfl rfl ?_
        show Steps p.tables e below (T7.setTop (mkF m 24 #[.val (.int p0), .unset, .unset, .unset] [(.ref b1), (.ref b1)])) _
        refine XS.iconst X7.here hx rfl (hb hby at_24) ?_
        show Steps p.tables e below (T7.setTop (mkF m 25 #[.val (.int p0), .unset, .unset, .unset] [(.int (3 : Int32)), (.ref b1), (.ref b1)])) _
        refine st8 _ ?_
        show Steps p.tables e below (T8.setTop (mkF m 28 #[.val (.int p0), .unset, .unset, .unset] [(.ref t3), (.int (3 : Int32)), (.ref b1), (.ref b1)])) _
        refine st9 _ ?_
        show Steps p.tables e below (T9.setTop (mkF m 29 #[.val (.int p0), .unset, .unset, .unset] [(.ref b1)])) _
        refine XS.dup X9.here hx rfl (hb hby at_29) rfl rfl ?_
        show Steps p.tables e below (T9.setTop (mkF m 30 #[.val (.int p0), .unset, .unset, .unset] [(.ref b1), (.ref b1)])) _
        refine XS.iconst X9.here hx rfl (hb hby at_30) ?_
        show Steps p.tables e below (T9.setTop (mkF m 31 #[.val (.int p0), .unset, .unset, .unset] [(.int (4 : Int32)), (.ref b1), (.ref b1)])) _
        refine st10 _ ?_
        show Steps p.tables e below (T10.setTop (mkF m 34 #[.val (.int p0), .unset, .unset, .unset] [(.ref t4), (.int (4 : Int32)), (.ref b1), (.ref b1)])) _
        refine st11 _ ?_
        show Steps p.tables e below (T11.setTop (mkF m 35 #[.val (.int p0), .unset, .unset, .unset] [(.ref b1)])) _
        refine XS.dup X11.here hx rfl (hb hby at_35) rfl rfl ?_
        show Steps p.tables e below (T11.setTop (mkF m 36 #[.val (.int p0), .unset, .unset, .unset] [(.ref b1), (.ref b1)])) _
        refine XS.iconst X11.here hx rfl (hb hby at_36) ?_
        show Steps p.tables e below (T11.setTop (mkF m 37 #[.val (.int p0), .unset, .unset, .unset] [(.int (5 : Int32)), (.ref b1), (.ref b1)])) _
        refine st12 _ ?_
        show Steps p.tables e below (T12.setTop (mkF m 40 #[.val (.int p0), .unset, .unset, .unset] [(.ref t5), (.int (5 : Int32)), (.ref b1), (.ref b1)])) _
        refine st13 _ ?_
        show Steps p.tables e below (T13.setTop (mkF m 41 #[.val (.int p0), .unset, .unset, .unset] [(.ref b1)])) _
        refine XS.dup X13.here hx rfl (hb hby at_41) rfl rfl ?_
        show Steps p.tables e below (T13.setTop (mkF m 42 #[.val (.int p0), .unset, .unset, .unset] [(.ref b1), (.ref b1)])) _
        refine XS.bipush X13.here hx rfl (hb hby at_42) ?_
        show Steps p.tables e below (T13.setTop (mkF m 44 #[.val (.int p0), .unset, .unset, .unset] [(.int (6 : Int32)), (.ref b1), (.ref b1)])) _
        refine st14 _ ?_
        show Steps p.tables e below (T14.setTop (mkF m 47 #[.val (.int p0), .unset, .unset, .unset] [(.ref t6), (.int (6 : Int32)), (.ref b1), (.ref b1)])) _
        refine st15 _ ?_
        show Steps p.tables e below (T15.setTop (mkF m 48 #[.val (.int p0), .unset, .unset, .unset] [(.ref b1)])) _
        refine XS.dup X15.here hx rfl (hb hby at_48) rfl rfl ?_
        show Steps p.tables e below (T15.setTop (mkF m 49 #[.val (.int p0), .unset, .unset, .unset] [(.ref b1), (.ref b1)])) _
        refine XS.bipush X15.here hx rfl (hb hby at_49) ?_
        show Steps p.tables e below (T15.setTop (mkF m 51 #[.val (.int p0), .unset, .unset, .unset] [(.int (7 : Int32)), (.ref b1), (.ref b1)])) _
        refine st16 _ ?_
        show Steps p.tables e below (T16.setTop (mkF m 54 #[.val (.int p0), .unset, .unset, .unset] [(.ref t7), (.int (7 : Int32)), (.ref b1), (.ref b1)])) _
        refine st17 _ ?_
        show Steps p.tables e below (T17.setTop (mkF m 55 #[.val (.int p0), .unset, .unset, .unset] [(.ref b1)])) _
        refine XS.dup X17.here hx rfl (hb hby at_55) rfl rfl ?_
        show Steps p.tables e below (T17.setTop (mkF m 56 #[.val (.int p0), .unset, .unset, .unset] [(.ref b1), (.ref b1)])) _
        refine XS.bipush X17.here hx rfl (hb hby at_56) ?_
        show Steps p.tables e below (T17.setTop (mkF m 58 #[.val (.int p0), .unset, .unset, .unset] [(.int (8 : Int32)), (.ref b1), (.ref b1)])) _
        refine st18 _ ?_
        show Steps p.tables e below (T18.setTop (mkF m 61 #[.val (.int p0), .unset, .unset, .unset] [(.ref t8), (.int (8 : Int32)), (.ref b1), (.ref b1)])) _
        refine st19 _ ?_
        show Steps p.tables e below (T19.setTop (mkF m 62 #[.val (.int p0), .unset, .unset, .unset] [(.ref b1)])) _
        refine XS.dup X19.here hx rfl (hb hby at_62) rfl rfl ?_
        show Steps p.tables e below (T19.setTop (mkF m 63 #[.val (.int p0), .unset, .unset, .unset] [(.ref b1), (.ref b1)])) _
        refine XS.bipush X19.here hx rfl (hb hby at_63) ?_
        show Steps p.tables e below (T19.setTop (mkF m 65 #[.val (.int p0), .unset, .unset, .unset] [(.int (9 : Int32)), (.ref b1), (.ref b1)])) _
        refine st20 _ ?_
        show Steps p.tables e below (T20.setTop (mkF m 68 #[.val (.int p0), .unset, .unset, .unset] [(.ref t9), (.int (9 : Int32)), (.ref b1), (.ref b1)])) _
        refine st21 _ ?_
        show Steps p.tables e below (T21.setTop (mkF m 69 #[.val (.int p0), .unset, .unset, .unset] [(.ref b1)])) _
        refine XS.dup X21.here hx rfl (hb hby at_69) rfl rfl ?_
        show Steps p.tables e below (T21.setTop (mkF m 70 #[.val (.int p0), .unset, .unset, .unset] [(.ref b1), (.ref b1)])) _
        refine XS.bipush X21.here hx rfl (hb hby at_70) ?_
        show Steps p.tables e below (T21.setTop (mkF m 72 #[.val (.int p0), .unset, .unset, .unset] [(.int (10 : Int32)), (.ref b1), (.ref b1)])) _
        refine st22 _ ?_
        show Steps p.tables e below (T22.setTop (mkF m 75 #[.val (.int p0), .unset, .unset, .unset] [(.ref t10), (.int (10 : Int32)), (.ref b1), (.ref b1)])) _
        refine st23 _ ?_
        show Steps p.tables e below (T23.setTop (mkF m 76 #[.val (.int p0), .unset, .unset, .unset] [(.ref b1)])) _
        refine XS.dup X23.here hx rfl (hb hby at_76) rfl rfl ?_
        show Steps p.tables e below (T23.setTop (mkF m 77 #[.val (.int p0), .unset, .unset, .unset] [(.ref b1), (.ref b1)])) _
        refine XS.bipush X23.here hx rfl (hb hby at_77) ?_
        show Steps p.tables e below (T23.setTop (mkF m 79 #[.val (.int p0), .unset, .unset, .unset] [(.int (11 : Int32)), (.ref b1), (.ref b1)])) _
        refine st24 _ ?_
        show Steps p.tables e below (T24.setTop (mkF m 82 #[.val (.int p0), .unset, .unset, .unset] [(.ref t11), (.int (11 : Int32)), (.ref b1), (.ref b1)])) _
        refine st25 _ ?_
        show Steps p.tables e below (T25.setTop (mkF m 83 #[.val (.int p0), .unset, .unset, .unset] [(.ref b1)])) _
        refine XS.dup X25.here hx rfl (hb hby at_83) rfl rfl ?_
        show Steps p.tables e below (T25.setTop (mkF m 84 #[.val (.int p0), .unset, .unset, .unset] [(.ref b1), (.ref b1)])) _
        refine XS.bipush X25.here hx rfl (hb hby at_84) ?_
        show Steps p.tables e below (T25.setTop (mkF m 86 #[.val (.int p0), .unset, .unset, .unset] [(.int (12 : Int32)), (.ref b1), (.ref b1)])) _
        refine st26 _ ?_
        show Steps p.tables e below (T26.setTop (mkF m 89 #[.val (.int p0), .unset, .unset, .unset] [(.ref t12), (.int (12 : Int32)), (.ref b1), (.ref b1)])) _
        refine st27 _ ?_
        show Steps p.tables e below (T27.setTop (mkF m 90 #[.val (.int p0), .unset, .unset, .unset] [(.ref b1)])) _
        refine XS.dup X27.here hx rfl (hb hby at_90) rfl rfl ?_
        show Steps p.tables e below (T27.setTop (mkF m 91 #[.val (.int p0), .unset, .unset, .unset] [(.ref b1), (.ref b1)])) _
        refine XS.bipush X27.here hx rfl (hb hby at_91) ?_
        show Steps p.tables e below (T27.setTop (mkF m 93 #[.val (.int p0), .unset, .unset, .unset] [(.int (13 : Int32)), (.ref b1), (.ref b1)])) _
        refine st28 _ ?_
        show Steps p.tables e below (T28.setTop (mkF m 96 #[.val (.int p0), .unset, .unset, .unset] [(.ref t13), (.int (13 : Int32)), (.ref b1), (.ref b1)])) _
        refine st29 _ ?_
        show Steps p.tables e below (T29.setTop (mkF m 97 #[.val (.int p0), .unset, .unset, .unset] [(.ref b1)])) _
        refine XS.dup X29.here hx rfl (hb hby at_97) rfl rfl ?_
        show Steps p.tables e below (T29.setTop (mkF m 98 #[.val (.int p0), .unset, .unset, .unset] [(.ref b1), (.ref b1)])) _
        refine XS.bipush X29.here hx rfl (hb hby at_98) ?_
        show Steps p.tables e below (T29.setTop (mkF m 100 #[.val (.int p0), .unset, .unset, .unset] [(.int (14 : Int32)), (.ref b1), (.ref b1)])) _
        refine st30 _ ?_
        show Steps p.tables e below (T30.setTop (mkF m 103 #[.val (.int p0), .unset, .unset, .unset] [(.ref t14), (.int (14 : Int32)), (.ref b1), (.ref b1)])) _
        refine st31 _ ?_
        show Steps p.tables e below (T31.setTop (mkF m 104 #[.val (.int p0), .unset, .unset, .unset] [(.ref b1)])) _
        refine XS.dup X31.here hx rfl (hb hby at_104) rfl rfl ?_
        show Steps p.tables e below (T31.setTop (mkF m 105 #[.val (.int p0), .unset, .unset, .unset] [(.ref b1), (.ref b1)])) _
        refine XS.bipush X31.here hx rfl (hb hby at_105) ?_
        show Steps p.tables e below (T31.setTop (mkF m 107 #[.val (.int p0), .unset, .unset, .unset] [(.int (15 : Int32)), (.ref b1), (.ref b1)])) _
        refine st32 _ ?_
        show Steps p.tables e below (T32.setTop (mkF m 110 #[.val (.int p0), .unset, .unset, .unset] [(.ref t15), (.int (15 : Int32)), (.ref b1), (.ref b1)])) _
        refine st33 _ ?_
        show Steps p.tables e below (T33.setTop (mkF m 111 #[.val (.int p0), .unset, .unset, .unset] [(.ref b1)])) _
        refine XS.dup X33.here hx rfl (hb hby at_111) rfl rfl ?_
        show Steps p.tables e below (T33.setTop (mkF m 112 #[.val (.int p0), .unset, .unset, .unset] [(.ref b1), (.ref b1)])) _
        refine XS.bipush X33.here hx rfl (hb hby at_112) ?_
        show Steps p.tables e below (T33.setTop (mkF m 114 #[.val (.int p0), .unset, .unset, .unset] [(.int (16 : Int32)), (.ref b1), (.ref b1)])) _
        refine st34 _ ?_
        show Steps p.tables e below (T34.setTop (mkF m 117 #[.val (.int p0), .unset, .unset, .unset] [(.ref t16), (.int (16 : Int32)), (.ref b1), (.ref b1)])) _
        refine st35 _ ?_
        show Steps p.tables e below (T35.setTop (mkF m 118 #[.val (.int p0), .unset, .unset, .unset] [(.ref b1)])) _
        refine XS.dup X35.here hx rfl (hb hby at_118) rfl rfl ?_
        show Steps p.tables e below (T35.setTop (mkF m 119 #[.val (.int p0), .unset, .unset, .unset] [(.ref b1), (.ref b1)])) _
        refine XS.bipush X35.here hx rfl (hb hby at_119) ?_
        show Steps p.tables e below (T35.setTop (mkF m 121 #[.val (.int p0), .unset, .unset, .unset] [(.int (17 : Int32)), (.ref b1), (.ref b1)])) _
        refine st36 _ ?_
        show Steps p.tables e below (T36.setTop (mkF m 124 #[.val (.int p0), .unset, .unset, .unset] [(.ref t17), (.int (17 : Int32)), (.ref b1), (.ref b1)])) _
        refine st37 _ ?_
        show Steps p.tables e below (T37.setTop (mkF m 125 #[.val (.int p0), .unset, .unset, .unset] [(.ref b1)])) _
        refine XS.dup X37.here hx rfl (hb hby at_125) rfl rfl ?_
        show Steps p.tables e below (T37.setTop (mkF m 126 #[.val (.int p0), .unset, .unset, .unset] [(.ref b1), (.ref b1)])) _
        refine XS.bipush X37.here hx rfl (hb hby at_126) ?_
        show Steps p.tables e below (T37.setTop (mkF m 128 #[.val (.int p0), .unset, .unset, .unset] [(.int (18 : Int32)), (.ref b1), (.ref b1)])) _
        refine st38 _ ?_
        show Steps p.tables e below (T38.setTop (mkF m 131 #[.val (.int p0), .unset, .unset, .unset] [(.ref t18), (.int (18 : Int32)), (.ref b1), (.ref b1)])) _
        refine st39 _ ?_
        show Steps p.tables e below (T39.setTop (mkF m 132 #[.val (.int p0), .unset, .unset, .unset] [(.ref b1)])) _
        refine XS.dup X39.here hx rfl (hb hby at_132) rfl rfl ?_
        show Steps p.tables e below (T39.setTop (mkF m 133 #[.val (.int p0), .unset, .unset, .unset] [(.ref b1), (.ref b1)])) _
        refine XS.bipush X39.here hx rfl (hb hby at_133) ?_
        show Steps p.tables e below (T39.setTop (mkF m 135 #[.val (.int p0), .unset, .unset, .unset] [(.int (19 : Int32)), (.ref b1), (.ref b1)])) _
        refine st40 _ ?_
        show Steps p.tables e below (T40.setTop (mkF m 138 #[.val (.int p0), .unset, .unset, .unset] [(.ref t19), (.int (19 : Int32)), (.ref b1), (.ref b1)])) _
        refine st41 _ ?_
        show Steps p.tables e below (T41.setTop (mkF m 139 #[.val (.int p0), .unset, .unset, .unset] [(.ref b1)])) _
        refine XS.dup X41.here hx rfl (hb hby at_139) rfl rfl ?_
        show Steps p.tables e below (T41.setTop (mkF m 140 #[.val (.int p0), .unset, .unset, .unset] [(.ref b1), (.ref b1)])) _
        refine XS.bipush X41.here hx rfl (hb hby at_140) ?_
        show Steps p.tables e below (T41.setTop (mkF m 142 #[.val (.int p0), .unset, .unset, .unset] [(.int (20 : Int32)), (.ref b1), (.ref b1)])) _
        refine st42 _ ?_
        show Steps p.tables e below (T42.setTop (mkF m 145 #[.val (.int p0), .unset, .unset, .unset] [(.ref t20), (.int (20 : Int32)), (.ref b1), (.ref b1)])) _
        refine st43 _ ?_
        show Steps p.tables e below (T43.setTop (mkF m 146 #[.val (.int p0), .unset, .unset, .unset] [(.ref b1)])) _
        refine XS.dup X43.here hx rfl (hb hby at_146) rfl rfl ?_
        show Steps p.tables e below (T43.setTop (mkF m 147 #[.val (.int p0), .unset, .unset, .unset] [(.ref b1), (.ref b1)])) _
        refine XS.bipush X43.here hx rfl (hb hby at_147) ?_
        show Steps p.tables e below (T43.setTop (mkF m 149 #[.val (.int p0), .unset, .unset, .unset] [(.int (21 : Int32)), (.ref b1), (.ref b1)])) _
        refine st44 _ ?_
        show Steps p.tables e below (T44.setTop (mkF m 152 #[.val (.int p0), .unset, .unset, .unset] [(.ref t21), (.int (21 : Int32)), (.ref b1), (.ref b1)])) _
        refine st45 _ ?_
        show Steps p.tables e below (T45.setTop (mkF m 153 #[.val (.int p0), .unset, .unset, .unset] [(.ref b1)])) _
        refine XS.astoreN X45.here hx rfl (hb hby at_153) rfl rfl (l' := #[.val (.int p0), .val (.ref b1), .unset, .unset]) rfl ?_
        show Steps p.tables e below (T45.setTop (mkF m 154 #[.val (.int p0), .val (.ref b1), .unset, .unset] [])) _
        refine XS.iloadN X45.here hx rfl (hb hby at_154) rfl ?_
        show Steps p.tables e below (T45.setTop (mkF m 155 #[.val (.int p0), .val (.ref b1), .unset, .unset] [(.int p0)])) _
        refine XL.ldcInt hx hown (mvT hZ (hw _ (List.mem_of_getElem? (i := 48) rfl))) (g := (mkF m 155 #[.val (.int p0), .val (.ref b1), .unset, .unset] [(.int p0)])) rfl (hb hby at_155) _ ?_
        show Steps p.tables e below (T45.setTop (mkF m 157 #[.val (.int p0), .val (.ref b1), .unset, .unset] [(.int (2147483647 : Int32)), (.int p0)])) _
        refine XS.iand XL.here hx rfl (hb hby at_157) rfl ?_
        show Steps p.tables e below (T45.setTop (mkF m 158 #[.val (.int p0), .val (.ref b1), .unset, .unset] [(.int (p0 &&& (2147483647 : Int32)))])) _
        refine XS.bipush XL.here hx rfl (hb hby at_158) ?_
        show Steps p.tables e below (T45.setTop (mkF m 160 #[.val (.int p0), .val (.ref b1), .unset, .unset] [(.int (22 : Int32)), (.int (p0 &&& (2147483647 : Int32)))])) _
        refine iremM XL hx (g := (mkF m 160 #[.val (.int p0), .val (.ref b1), .unset, .unset] [(.int (22 : Int32)), (.int (p0 &&& (2147483647 : Int32)))])) rfl (hb hby at_160) rfl (by decide) ?_
        show Steps p.tables e below (T45.setTop (mkF m 161 #[.val (.int p0), .val (.ref b1), .unset, .unset] [(.int ((p0 &&& (2147483647 : Int32)) % (22 : Int32)))])) _
        refine XS.istoreN XL.here hx rfl (hb hby at_161) rfl (l' := #[.val (.int p0), .val (.ref b1), .val (.int ((p0 &&& (2147483647 : Int32)) % (22 : Int32))), .unset]) rfl ?_
        show Steps p.tables e below (T45.setTop (mkF m 162 #[.val (.int p0), .val (.ref b1), .val (.int ((p0 &&& (2147483647 : Int32)) % (22 : Int32))), .unset] [])) _
        refine XS.iloadN XL.here hx rfl (hb hby at_162) rfl ?_
        show Steps p.tables e below (T45.setTop (mkF m 163 #[.val (.int p0), .val (.ref b1), .val (.int ((p0 &&& (2147483647 : Int32)) % (22 : Int32))), .unset] [(.int ((p0 &&& (2147483647 : Int32)) % (22 : Int32)))])) _
        refine XS.iconst XL.here hx rfl (hb hby at_163) ?_
        show Steps p.tables e below (T45.setTop (mkF m 164 #[.val (.int p0), .val (.ref b1), .val (.int ((p0 &&& (2147483647 : Int32)) % (22 : Int32))), .unset] [(.int (2 : Int32)), (.int ((p0 &&& (2147483647 : Int32)) % (22 : Int32)))])) _
        refine XS.icmpNo XL.here hx rfl (hb hby at_164) rfl (flt hc164).1 ?_
        show Steps p.tables e below (T45.setTop (mkF m 167 #[.val (.int p0), .val (.ref b1), .val (.int ((p0 &&& (2147483647 : Int32)) % (22 : Int32))), .unset] [])) _
        refine XS.iloadN XL.here hx rfl (hb hby at_167) rfl ?_
        show Steps p.tables e below (T45.setTop (mkF m 168 #[.val (.int p0), .val (.ref b1), .val (.int ((p0 &&& (2147483647 : Int32)) % (22 : Int32))), .unset] [(.int ((p0 &&& (2147483647 : Int32)) % (22 : Int32)))])) _
        refine XS.iconst XL.here hx rfl (hb hby at_168) ?_
        show Steps p.tables e below (T45.setTop (mkF m 169 #[.val (.int p0), .val (.ref b1), .val (.int ((p0 &&& (2147483647 : Int32)) % (22 : Int32))), .unset] [(.int (4 : Int32)), (.int ((p0 &&& (2147483647 : Int32)) % (22 : Int32)))])) _
        refine XS.icmpNo XL.here hx rfl (hb hby at_169) rfl (flt hc169).2.2.1 ?_
        show Steps p.tables e below (T45.setTop (mkF m 172 #[.val (.int p0), .val (.ref b1), .val (.int ((p0 &&& (2147483647 : Int32)) % (22 : Int32))), .unset] [])) _
        refine XS.iconst XL.here hx rfl (hb hby at_172) ?_
        show Steps p.tables e below (T45.setTop (mkF m 173 #[.val (.int p0), .val (.ref b1), .val (.int ((p0 &&& (2147483647 : Int32)) % (22 : Int32))), .unset] [(.int (1 : Int32))])) _
        refine XS.goto XL.here hx rfl (pc0 := 173) (pc' := 177) rfl (hb hby at_173) (by decide) (by decide) ?_
        show Steps p.tables e below (T45.setTop (mkF m 177 #[.val (.int p0), .val (.ref b1), .val (.int ((p0 &&& (2147483647 : Int32)) % (22 : Int32))), .unset] [(.int (1 : Int32))])) _
        refine XS.istoreN XL.here hx rfl (hb hby at_177) rfl (l' := #[.val (.int p0), .val (.ref b1), .val (.int ((p0 &&& (2147483647 : Int32)) % (22 : Int32))), .val (.int (1 : Int32))]) rfl ?_
        show Steps p.tables e below (T45.setTop (mkF m 178 #[.val (.int p0), .val (.ref b1), .val (.int ((p0 &&& (2147483647 : Int32)) % (22 : Int32))), .val (.int (1 : Int32))] [])) _
        refine XS.aloadN XL.here hx rfl (hb hby at_178) rfl rfl ?_
        show Steps p.tables e below (T45.setTop (mkF m 179 #[.val (.int p0), .val (.ref b1), .val (.int ((p0 &&& (2147483647 : Int32)) % (22 : Int32))), .val (.int (1 : Int32))] [(.ref b1)])) _
        refine XS.iloadN XL.here hx rfl (hb hby at_179) rfl ?_
        show Steps p.tables e below (T45.setTop (mkF m 180 #[.val (.int p0), .val (.ref b1), .val (.int ((p0 &&& (2147483647 : Int32)) % (22 : Int32))), .val (.int (1 : Int32))] [(.int ((p0 &&& (2147483647 : Int32)) % (22 : Int32))), (.ref b1)])) _
        refine XL.aaload hx (j := ((p0 &&& (2147483647 : Int32)) % (22 : Int32))) (v := (.ref w)) (by rw [e45]; exact Ar.1) (State.isArrayOf_alike hZ.alike Ar.2.1) rfl Ar.2.2 hin hat (g := (mkF m 180 #[.val (.int p0), .val (.ref b1), .val (.int ((p0 &&& (2147483647 : Int32)) % (22 : Int32))), .val (.int (1 : Int32))] [(.int ((p0 &&& (2147483647 : Int32)) % (22 : Int32))), (.ref b1)])) rfl rfl (hb hby at_180) _ ?_
        show Steps p.tables e below (T45.setTop (mkF m 181 #[.val (.int p0), .val (.ref b1), .val (.int ((p0 &&& (2147483647 : Int32)) % (22 : Int32))), .val (.int (1 : Int32))] [(.ref w)])) _
        refine st48.trans ?_
        show Steps p.tables e below (T48.setTop (mkF m 184 #[.val (.int p0), .val (.ref b1), .val (.int ((p0 &&& (2147483647 : Int32)) % (22 : Int32))), .val (.int (1 : Int32))] [(.int r)])) _
        refine XS.iloadN X48.here hx rfl (hb hby at_184) rfl ?_
        show Steps p.tables e below (T48.setTop (mkF m 185 #[.val (.int p0), .val (.ref b1), .val (.int ((p0 &&& (2147483647 : Int32)) % (22 : Int32))), .val (.int (1 : Int32))] [(.int (1 : Int32)), (.int r)])) _
        refine XS.icmpNo X48.here hx rfl (hb hby at_185) rfl (teq (hy (hd2 hc164 hc169))).2 ?_
        show Steps p.tables e below (T48.setTop (mkF m 188 #[.val (.int p0), .val (.ref b1), .val (.int ((p0 &&& (2147483647 : Int32)) % (22 : Int32))), .val (.int (1 : Int32))] [])) _
        refine XS.iconst X48.here hx rfl (hb hby at_188) ?_
        show Steps p.tables e below (T48.setTop (mkF m 189 #[.val (.int p0), .val (.ref b1), .val (.int ((p0 &&& (2147483647 : Int32)) % (22 : Int32))), .val (.int (1 : Int32))] [(.int (1 : Int32))])) _
        refine XS.goto X48.here hx rfl (pc0 := 189) (pc' := 193) rfl (hb hby at_189) (by decide) (by decide) ?_
        show Steps p.tables e below (T48.setTop (mkF m 193 #[.val (.int p0), .val (.ref b1), .val (.int ((p0 &&& (2147483647 : Int32)) % (22 : Int32))), .val (.int (1 : Int32))] [(.int (1 : Int32))])) _
        exact retN X48 hx (t := .boolean) Bd.returns (by simp) (hb hby at_193) hr
      · show Q_rm0 Z p0 t0 t1 t2 t3 t4 t5 t6 t7 t8 t9 t10 t11 t12 t13 t14 t15 t16 t17 t18 t19 t20 t21 w h0 n0 _ T48.heap _
        rw [e48]
        exact ⟨rfl, N48⟩
set_option maxRecDepth 65536 in
set_option maxHeartbeats 40000000 in
theorem comes_1 {Post : Tables → Env → Array Value → State → Outcome → State → Prop} (hpost : ∀ tb e args s v u, (limb_1_1.after args s (.returned v) u = true ∧ limb_1_2.after args s (.returned v) u = true ∧ True) → FrameEnd s (.returned v) u (Jvm.fieldLocs frame_1_writes args s ++ Jvm.arrayLocs frame_1_arrays args s ++ Jvm.staticLocs frame_1_statics s) 16 128 → Post tb e args s (.returned v) u) :
    ArmFor flags0 classFile x code maxLocals ret World_1 tables_1 room_1 Calls_1 rest_1 Pre_1 Post := by
  intro l hfl _ _ p e ha hc hk s m args below hf hA hF happ hP
  obtain ⟨hcalls, hrest, hpre⟩ := hP
  obtain ⟨-, -, -, hnamed, -, -, -, hat⟩ := (Spec.applies_iff hf).mp happ
  obtain ⟨hg, hn⟩ := and_e (Cond.before_iff.mp (show (Jvm.Cond.and given_1 narrow_1).before args s = true from hpre))
  obtain ⟨gc, gr⟩ := and_e hg
  obtain ⟨w0, rfl⟩ : ∃ w0 : Value, args = #[w0] := by
    have hs : args.size = 1 := by simpa [Cond.value, given_1] using gc
    obtain ⟨L⟩ := args
    match L, hs with
    | [w0], _ => exact ⟨w0, rfl⟩
  have hw := fun d (hd : d ∈ tables_1) => atoms_spec (ws := Jvm.Cond.code x code maxLocals ret :: tables_1) hat d (List.mem_cons_of_mem _ hd)
  have hfit : Fit s := fun {y c} hc i hi => by
    obtain ⟨ha, rfl⟩ := Array.getElem?_eq_some_iff.mp hc
    have q := List.all_eq_true.mp ((Array.all_eq_true_iff_forall_mem.mp hF) _ (Array.getElem_mem ha)) i (List.mem_range.mpr hi)
    simpa [Array.getElem?_eq_getElem hi] using q
  obtain ⟨i0, ei0⟩ := is_v gr
  obtain rfl : w0 = (.int i0) := Option.some.inj ei0
  obtain ⟨x0, hn⟩ := and_e hn
  obtain ⟨x1, hn⟩ := and_e hn
  obtain ⟨x2, hn⟩ := and_e hn
  obtain ⟨x3, hn⟩ := and_e hn
  obtain ⟨x4, hn⟩ := and_e hn
  obtain ⟨x5, hn⟩ := and_e hn
  obtain ⟨x6, hn⟩ := and_e hn
  obtain ⟨x7, hn⟩ := and_e hn
  obtain ⟨x8, hn⟩ := and_e hn
  obtain ⟨x9, hn⟩ := and_e hn
  obtain ⟨x10, hn⟩ := and_e hn
  obtain ⟨x11, hn⟩ := and_e hn
  obtain ⟨x12, hn⟩ := and_e hn
  obtain ⟨x13, hn⟩ := and_e hn
  obtain ⟨x14, hn⟩ := and_e hn
  obtain ⟨x15, hn⟩ := and_e hn
  obtain ⟨x16, hn⟩ := and_e hn
  obtain ⟨x17, hn⟩ := and_e hn
  obtain ⟨x18, hn⟩ := and_e hn
  obtain ⟨x19, hn⟩ := and_e hn
  obtain ⟨x20, hn⟩ := and_e hn
  obtain ⟨x21, hn⟩ := and_e hn
  obtain ⟨o0, hn⟩ := and_e hn
  obtain ⟨o2, hn⟩ := and_e hn
  obtain ⟨o3, hn⟩ := and_e hn
  obtain ⟨o4, hn⟩ := and_e hn
  obtain ⟨o7, hn⟩ := and_e hn
  obtain ⟨o8, hn⟩ := and_e hn
  obtain ⟨o11, hn⟩ := and_e hn
  obtain ⟨o10, hn⟩ := and_e hn
  obtain ⟨o1, hn⟩ := and_e hn
  obtain ⟨o9, hn⟩ := and_e hn
  obtain ⟨o5, hn⟩ := and_e hn
  obtain ⟨o16, hn⟩ := and_e hn
  obtain ⟨o6, hn⟩ := and_e hn
  obtain ⟨o19, hn⟩ := and_e hn
  obtain ⟨o18, hn⟩ := and_e hn
  obtain ⟨o15, hn⟩ := and_e hn
  obtain ⟨o21, hn⟩ := and_e hn
  obtain ⟨o14, hn⟩ := and_e hn
  obtain ⟨o12, hn⟩ := and_e hn
  obtain ⟨o13, hn⟩ := and_e hn
  obtain ⟨o17, hn⟩ := and_e hn
  have o20 := hn
  obtain ⟨t0, e0⟩ := exa_v x0
  have S_t0 := Sta.start e0 (Or.inr ⟨hw _ (List.mem_of_getElem? (i := 3) rfl), hw _ (List.mem_of_getElem? (i := 4) rfl)⟩)
  have E_t0 := Exa.start e0 x0
  have F0 := Fld.start (own_fld e0 o0)
  obtain ⟨t1, e1⟩ := exa_v x1
  have S_t1 := Sta.start e1 (Or.inr ⟨hw _ (List.mem_of_getElem? (i := 3) rfl), hw _ (List.mem_of_getElem? (i := 7) rfl)⟩)
  have E_t1 := Exa.start e1 x1
  have F1 := Fld.start (own_fld e1 o1)
  obtain ⟨t2, e2⟩ := exa_v x2
  have S_t2 := Sta.start e2 (Or.inr ⟨hw _ (List.mem_of_getElem? (i := 3) rfl), hw _ (List.mem_of_getElem? (i := 9) rfl)⟩)
  have E_t2 := Exa.start e2 x2
  have F2 := Fld.start (own_fld e2 o2)
  obtain ⟨t3, e3⟩ := exa_v x3
  have S_t3 := Sta.start e3 (Or.inr ⟨hw _ (List.mem_of_getElem? (i := 3) rfl), hw _ (List.mem_of_getElem? (i := 11) rfl)⟩)
  have E_t3 := Exa.start e3 x3
  have F3 := Fld.start (own_fld e3 o3)
  obtain ⟨t4, e4⟩ := exa_v x4
  have S_t4 := Sta.start e4 (Or.inr ⟨hw _ (List.mem_of_getElem? (i := 3) rfl), hw _ (List.mem_of_getElem? (i := 13) rfl)⟩)
  have E_t4 := Exa.start e4 x4
  have F4 := Fld.start (own_fld e4 o4)
  obtain ⟨t5, e5⟩ := exa_v x5
  have S_t5 := Sta.start e5 (Or.inr ⟨hw _ (List.mem_of_getElem? (i := 3) rfl), hw _ (List.mem_of_getElem? (i := 15) rfl)⟩)
  have E_t5 := Exa.start e5 x5
  have F5 := Fld.start (own_fld e5 o5)
  obtain ⟨t6, e6⟩ := exa_v x6
  have S_t6 := Sta.start e6 (Or.inr ⟨hw _ (List.mem_of_getElem? (i := 3) rfl), hw _ (List.mem_of_getElem? (i := 17) rfl)⟩)
  have E_t6 := Exa.start e6 x6
  have F6 := Fld.start (own_fld e6 o6)
  obtain ⟨t7, e7⟩ := exa_v x7
  have S_t7 := Sta.start e7 (Or.inr ⟨hw _ (List.mem_of_getElem? (i := 3) rfl), hw _ (List.mem_of_getElem? (i := 19) rfl)⟩)
  have E_t7 := Exa.start e7 x7
  have F7 := Fld.start (own_fld e7 o7)
  obtain ⟨t8, e8⟩ := exa_v x8
  have S_t8 := Sta.start e8 (Or.inr ⟨hw _ (List.mem_of_getElem? (i := 3) rfl), hw _ (List.mem_of_getElem? (i := 21) rfl)⟩)
  have E_t8 := Exa.start e8 x8
  have F8 := Fld.start (own_fld e8 o8)
  obtain ⟨t9, e9⟩ := exa_v x9
  have S_t9 := Sta.start e9 (Or.inr ⟨hw _ (List.mem_of_getElem? (i := 3) rfl), hw _ (List.mem_of_getElem? (i := 23) rfl)⟩)
  have E_t9 := Exa.start e9 x9
  have F9 := Fld.start (own_fld e9 o9)
  obtain ⟨t10, e10⟩ := exa_v x10
  have S_t10 := Sta.start e10 (Or.inr ⟨hw _ (List.mem_of_getElem? (i := 3) rfl), hw _ (List.mem_of_getElem? (i := 25) rfl)⟩)
  have E_t10 := Exa.start e10 x10
  have F10 := Fld.start (own_fld e10 o10)
  obtain ⟨t11, e11⟩ := exa_v x11
  have S_t11 := Sta.start e11 (Or.inr ⟨hw _ (List.mem_of_getElem? (i := 3) rfl), hw _ (List.mem_of_getElem? (i := 27) rfl)⟩)
  have E_t11 := Exa.start e11 x11
  have F11 := Fld.start (own_fld e11 o11)
  obtain ⟨t12, e12⟩ := exa_v x12
  have S_t12 := Sta.start e12 (Or.inr ⟨hw _ (List.mem_of_getElem? (i := 3) rfl), hw _ (List.mem_of_getElem? (i := 29) rfl)⟩)
  have E_t12 := Exa.start e12 x12
  have F12 := Fld.start (own_fld e12 o12)
  obtain ⟨t13, e13⟩ := exa_v x13
  have S_t13 := Sta.start e13 (Or.inr ⟨hw _ (List.mem_of_getElem? (i := 3) rfl), hw _ (List.mem_of_getElem? (i := 31) rfl)⟩)
  have E_t13 := Exa.start e13 x13
  have F13 := Fld.start (own_fld e13 o13)
  obtain ⟨t14, e14⟩ := exa_v x14
  have S_t14 := Sta.start e14 (Or.inr ⟨hw _ (List.mem_of_getElem? (i := 3) rfl), hw _ (List.mem_of_getElem? (i := 33) rfl)⟩)
  have E_t14 := Exa.start e14 x14
  have F14 := Fld.start (own_fld e14 o14)
  obtain ⟨t15, e15⟩ := exa_v x15
  have S_t15 := Sta.start e15 (Or.inr ⟨hw _ (List.mem_of_getElem? (i := 3) rfl), hw _ (List.mem_of_getElem? (i := 35) rfl)⟩)
  have E_t15 := Exa.start e15 x15
  have F15 := Fld.start (own_fld e15 o15)
  obtain ⟨t16, e16⟩ := exa_v x16
  have S_t16 := Sta.start e16 (Or.inr ⟨hw _ (List.mem_of_getElem? (i := 3) rfl), hw _ (List.mem_of_getElem? (i := 37) rfl)⟩)
  have E_t16 := Exa.start e16 x16
  have F16 := Fld.start (own_fld e16 o16)
  obtain ⟨t17, e17⟩ := exa_v x17
  have S_t17 := Sta.start e17 (Or.inr ⟨hw _ (List.mem_of_getElem? (i := 3) rfl), hw _ (List.mem_of_getElem? (i := 39) rfl)⟩)
  have E_t17 := Exa.start e17 x17
  have F17 := Fld.start (own_fld e17 o17)
  obtain ⟨t18, e18⟩ := exa_v x18
  have S_t18 := Sta.start e18 (Or.inr ⟨hw _ (List.mem_of_getElem? (i := 3) rfl), hw _ (List.mem_of_getElem? (i := 41) rfl)⟩)
  have E_t18 := Exa.start e18 x18
  have F18 := Fld.start (own_fld e18 o18)
  obtain ⟨t19, e19⟩ := exa_v x19
  have S_t19 := Sta.start e19 (Or.inr ⟨hw _ (List.mem_of_getElem? (i := 3) rfl), hw _ (List.mem_of_getElem? (i := 43) rfl)⟩)
  have E_t19 := Exa.start e19 x19
  have F19 := Fld.start (own_fld e19 o19)
  obtain ⟨t20, e20⟩ := exa_v x20
  have S_t20 := Sta.start e20 (Or.inr ⟨hw _ (List.mem_of_getElem? (i := 3) rfl), hw _ (List.mem_of_getElem? (i := 45) rfl)⟩)
  have E_t20 := Exa.start e20 x20
  have F20 := Fld.start (own_fld e20 o20)
  obtain ⟨t21, e21⟩ := exa_v x21
  have S_t21 := Sta.start e21 (Or.inr ⟨hw _ (List.mem_of_getElem? (i := 3) rfl), hw _ (List.mem_of_getElem? (i := 47) rfl)⟩)
  have E_t21 := Exa.start e21 x21
  have F21 := Fld.start (own_fld e21 o21)
  have hr := own_rng i0
  generalize hz : ((i0 &&& (2147483647 : Int32)) % (22 : Int32)) = z at hr
  have key : ∃ w, ([(.ref t0), (.ref t1), (.ref t2), (.ref t3), (.ref t4), (.ref t5), (.ref t6), (.ref t7), (.ref t8), (.ref t9), (.ref t10), (.ref t11), (.ref t12), (.ref t13), (.ref t14), (.ref t15), (.ref t16), (.ref t17), (.ref t18), (.ref t19), (.ref t20), (.ref t21)] : List Value).getD z.toNatClampNeg .null = .ref w ∧ Exa s s.heap w "com/example/camelfold/camelfold/reading/TokenKind" ∧ ((z < (2 : Int32) ∨ (4 : Int32) < z) → ¬ (w = t2 ∨ w = t3 ∨ w = t4)) ∧ (¬ (z < (2 : Int32)) → ¬ ((4 : Int32) < z) → (w = t2 ∨ w = t3 ∨ w = t4)) := by
    rcases own_22 z hr with rfl | rfl | rfl | rfl | rfl | rfl | rfl | rfl | rfl | rfl | rfl | rfl | rfl | rfl | rfl | rfl | rfl | rfl | rfl | rfl | rfl | rfl
    · exact ⟨t0, rfl, E_t0, fun _ q => q.elim (Fld.ne F0 F2 (by decide)) (fun q => q.elim (Fld.ne F0 F3 (by decide)) (Fld.ne F0 F4 (by decide))), fun q q' => absurd q (by decide)⟩
    · exact ⟨t1, rfl, E_t1, fun _ q => q.elim (Fld.ne F1 F2 (by decide)) (fun q => q.elim (Fld.ne F1 F3 (by decide)) (Fld.ne F1 F4 (by decide))), fun q q' => absurd q (by decide)⟩
    · exact ⟨t2, rfl, E_t2, fun q => absurd q (by decide), fun _ _ => Or.inl rfl⟩
    · exact ⟨t3, rfl, E_t3, fun q => absurd q (by decide), fun _ _ => Or.inr (Or.inl rfl)⟩
    · exact ⟨t4, rfl, E_t4, fun q => absurd q (by decide), fun _ _ => Or.inr (Or.inr rfl)⟩
    · exact ⟨t5, rfl, E_t5, fun _ q => q.elim (Fld.ne F5 F2 (by decide)) (fun q => q.elim (Fld.ne F5 F3 (by decide)) (Fld.ne F5 F4 (by decide))), fun q q' => absurd q' (by decide)⟩
    · exact ⟨t6, rfl, E_t6, fun _ q => q.elim (Fld.ne F6 F2 (by decide)) (fun q => q.elim (Fld.ne F6 F3 (by decide)) (Fld.ne F6 F4 (by decide))), fun q q' => absurd q' (by decide)⟩
    · exact ⟨t7, rfl, E_t7, fun _ q => q.elim (Fld.ne F7 F2 (by decide)) (fun q => q.elim (Fld.ne F7 F3 (by decide)) (Fld.ne F7 F4 (by decide))), fun q q' => absurd q' (by decide)⟩
    · exact ⟨t8, rfl, E_t8, fun _ q => q.elim (Fld.ne F8 F2 (by decide)) (fun q => q.elim (Fld.ne F8 F3 (by decide)) (Fld.ne F8 F4 (by decide))), fun q q' => absurd q' (by decide)⟩
    · exact ⟨t9, rfl, E_t9, fun _ q => q.elim (Fld.ne F9 F2 (by decide)) (fun q => q.elim (Fld.ne F9 F3 (by decide)) (Fld.ne F9 F4 (by decide))), fun q q' => absurd q' (by decide)⟩
    · exact ⟨t10, rfl, E_t10, fun _ q => q.elim (Fld.ne F10 F2 (by decide)) (fun q => q.elim (Fld.ne F10 F3 (by decide)) (Fld.ne F10 F4 (by decide))), fun q q' => absurd q' (by decide)⟩
    · exact ⟨t11, rfl, E_t11, fun _ q => q.elim (Fld.ne F11 F2 (by decide)) (fun q => q.elim (Fld.ne F11 F3 (by decide)) (Fld.ne F11 F4 (by decide))), fun q q' => absurd q' (by decide)⟩
    · exact ⟨t12, rfl, E_t12, fun _ q => q.elim (Fld.ne F12 F2 (by decide)) (fun q => q.elim (Fld.ne F12 F3 (by decide)) (Fld.ne F12 F4 (by decide))), fun q q' => absurd q' (by decide)⟩
    · exact ⟨t13, rfl, E_t13, fun _ q => q.elim (Fld.ne F13 F2 (by decide)) (fun q => q.elim (Fld.ne F13 F3 (by decide)) (Fld.ne F13 F4 (by decide))), fun q q' => absurd q' (by decide)⟩
    · exact ⟨t14, rfl, E_t14, fun _ q => q.elim (Fld.ne F14 F2 (by decide)) (fun q => q.elim (Fld.ne F14 F3 (by decide)) (Fld.ne F14 F4 (by decide))), fun q q' => absurd q' (by decide)⟩
    · exact ⟨t15, rfl, E_t15, fun _ q => q.elim (Fld.ne F15 F2 (by decide)) (fun q => q.elim (Fld.ne F15 F3 (by decide)) (Fld.ne F15 F4 (by decide))), fun q q' => absurd q' (by decide)⟩
    · exact ⟨t16, rfl, E_t16, fun _ q => q.elim (Fld.ne F16 F2 (by decide)) (fun q => q.elim (Fld.ne F16 F3 (by decide)) (Fld.ne F16 F4 (by decide))), fun q q' => absurd q' (by decide)⟩
    · exact ⟨t17, rfl, E_t17, fun _ q => q.elim (Fld.ne F17 F2 (by decide)) (fun q => q.elim (Fld.ne F17 F3 (by decide)) (Fld.ne F17 F4 (by decide))), fun q q' => absurd q' (by decide)⟩
    · exact ⟨t18, rfl, E_t18, fun _ q => q.elim (Fld.ne F18 F2 (by decide)) (fun q => q.elim (Fld.ne F18 F3 (by decide)) (Fld.ne F18 F4 (by decide))), fun q q' => absurd q' (by decide)⟩
    · exact ⟨t19, rfl, E_t19, fun _ q => q.elim (Fld.ne F19 F2 (by decide)) (fun q => q.elim (Fld.ne F19 F3 (by decide)) (Fld.ne F19 F4 (by decide))), fun q q' => absurd q' (by decide)⟩
    · exact ⟨t20, rfl, E_t20, fun _ q => q.elim (Fld.ne F20 F2 (by decide)) (fun q => q.elim (Fld.ne F20 F3 (by decide)) (Fld.ne F20 F4 (by decide))), fun q q' => absurd q' (by decide)⟩
    · exact ⟨t21, rfl, E_t21, fun _ q => q.elim (Fld.ne F21 F2 (by decide)) (fun q => q.elim (Fld.ne F21 F3 (by decide)) (Fld.ne F21 F4 (by decide))), fun q q' => absurd q' (by decide)⟩
  obtain ⟨w, k1, k2, k3, k4⟩ := key
  have hi0 : ¬ z < 0 := by
    rw [Int32.lt_iff_toInt_lt]
    show ¬ z.toInt < (0 : Int)
    omega
  have hi1 : z < 22 := by
    rw [Int32.lt_iff_toInt_lt]
    show z.toInt < (22 : Int)
    omega
  subst hz
  obtain ⟨n, o, h1, h2, h3, _, L, rfl, ⟨rfl, N⟩, hq⟩ := rm0 l s _ hw tables_1 i0 t0 t1 t2 t3 t4 t5 t6 t7 t8 t9 t10 t11 t12 t13 t14 t15 t16 t17 t18 t19 t20 t21 w s.heap s.heap.size (Nat.le_refl _) S_t0 E_t0 S_t1 E_t1 S_t2 E_t2 S_t3 E_t3 S_t4 E_t4 S_t5 E_t5 S_t6 E_t6 S_t7 E_t7 S_t8 E_t8 S_t9 E_t9 S_t10 E_t10 S_t11 E_t11 S_t12 E_t12 S_t13 E_t13 S_t14 E_t14 S_t15 E_t15 S_t16 E_t16 S_t17 E_t17 S_t18 E_t18 S_t19 E_t19 S_t20 E_t20 S_t21 E_t21 k2 k1 hi0 hi1 k3 k4 p e ha hc hk s m _ below hf ((Spec.applies_iff_loose hf).mp happ).1 ⟨rfl, State.Warmed39.refl s, rfl⟩ trivial
  refine ⟨n, _, h1, h2, h3, hpost _ _ _ _ _ _ ⟨Cond.after_iff.mpr rfl, Cond.after_iff.mpr (eq_i res_at (Term.int_eval (1)) rfl), trivial⟩ ⟨hq.1, hq.2.1, (hq.2.2.sift fun y hy => Or.inr (N y hy)).mono (by decide) (by decide)⟩⟩
theorem main_1_1 : Claimed_1_1 := comes_1 fun _ _ _ _ _ _ h hF => ⟨h.1, hF⟩
theorem main_1_2 : Claimed_1_2 := comes_1 fun _ _ _ _ _ _ h hF => ⟨h.2.1, hF⟩
end Jvm.Pilot.@@N@@
namespace Jvm.Pilot.@@N@@
open Jvm Jvm.ClassFile Sem Op Lib Jvm.Free Jvm.Stand Jvm.Pilot.@@N@@.Jvm.D
/-! MADE BY PROGRAM (witnessworld.py) out of the Statement's table words and the real class files: 13 classes; the members and pool entries that the words name. The judged class is class 1, her method 1. -/
namespace start1
open Jvm.ClassFile
def u (s : String) : CpInfo := .utf8 (stringToUtf16 s)
/-- a pool by its gaps: so many unusable entries, then the entry; so many at the end -/
def gap : Nat → List CpInfo → List CpInfo
  | 0, r => r
  | n + 1, r => .unusable :: gap n r
def poolList (es : List (Nat × CpInfo)) (last : Nat) : List CpInfo := es.foldr (fun e r => gap e.1 (e.2 :: r)) (gap last [])
def pool (es : List (Nat × CpInfo)) (last : Nat) : Array CpInfo := ⟨poolList es last⟩
def fileOf (pool : Array CpInfo) (this : Nat) (attrs : Array Attribute := #[]) (ms : Array MethodInfo := #[]) (fl : Nat := 33) (sup : Nat := 0) (ifs : Array Nat := #[]) (fds : Array FieldInfo := #[]) : ClassFile where
  minorVersion := 0
  majorVersion := 65
  constantPool := pool
  accessFlags := fl
  thisClass := this
  superClass := sup
  interfaces := ifs
  fields := fds
  methods := ms
  attributes := attrs
def plain (name : String) (sup : Option ClassId) : Class where
  name := name
  kind := .ordinary
  loader := none
  accessFlags := 33
  super := sup
  interfaces := #[]
  cf := none
  fields := #[]
  methods := #[]
  instanceTypes := #[]
  staticTypes := #[]
  resolved := #[]
  callSites := []
  init := .initialized
  statics := none
  mirror := none

def pool0 : Array CpInfo := pool [(5, u "<init>"), (0, u "()V"), (1, .class_ 10), (1, u "java/lang/Object")] 113

def k0m0 : Method := { name := "<init>", desc := "()V", sig := { parameters := [], returnType := none }, accessFlags := 1, code := none }
/-- java/lang/Object -/
def k0 : Class := { plain "java/lang/Object" none with
  accessFlags := 33
  interfaces := #[]
  cf := some (fileOf pool0 8 #[] #[{ accessFlags := 1, nameIndex := 5, descriptorIndex := 6, attributes := #[] }] 33 0 #[] #[])
  fields := #[]
  methods := #[k0m0]
  instanceTypes := #[]
  staticTypes := #[]
  resolved := Array.replicate 124 none
  statics := none }

def pool1 : Array CpInfo := pool [(2, .class_ 4), (1, u "java/lang/Object"), (0, u "<init>"), (0, u "()V"), (0, .class_ 8), (0, u "com/example/camelfold/camelfold/reading/TokenKind"), (0, .fieldref 7 10), (0, .nameAndType 11 12), (0, u "STREAM_START"), (0, u "Lcom/example/camelfold/camelfold/reading/TokenKind;"), (0, .fieldref 7 14), (0, .nameAndType 15 12), (0, u "STREAM_END"), (0, .fieldref 7 17), (0, .nameAndType 18 12), (0, u "VERSION_DIRECTIVE"), (0, .fieldref 7 20), (0, .nameAndType 21 12), (0, u "TAG_DIRECTIVE"), (0, .fieldref 7 23), (0, .nameAndType 24 12), (0, u "RESERVED_DIRECTIVE"), (0, .fieldref 7 26), (0, .nameAndType 27 12), (0, u "DOCUMENT_START"), (0, .fieldref 7 29), (0, .nameAndType 30 12), (0, u "DOCUMENT_END"), (0, .fieldref 7 32), (0, .nameAndType 33 12), (0, u "BLOCK_SEQUENCE_START"), (0, .fieldref 7 35), (0, .nameAndType 36 12), (0, u "BLOCK_MAPPING_START"), (0, .fieldref 7 38), (0, .nameAndType 39 12), (0, u "BLOCK_END"), (0, .fieldref 7 41), (0, .nameAndType 42 12), (0, u "BLOCK_ENTRY"), (0, .fieldref 7 44), (0, .nameAndType 45 12), (0, u "FLOW_SEQUENCE_START"), (0, .fieldref 7 47), (0, .nameAndType 48 12), (0, u "FLOW_SEQUENCE_END"), (0, .fieldref 7 50), (0, .nameAndType 51 12), (0, u "FLOW_MAPPING_START"), (0, .fieldref 7 53), (0, .nameAndType 54 12), (0, u "FLOW_MAPPING_END"), (0, .fieldref 7 56), (0, .nameAndType 57 12), (0, u "FLOW_ENTRY"), (0, .fieldref 7 59), (0, .nameAndType 60 12), (0, u "KEY"), (0, .fieldref 7 62), (0, .nameAndType 63 12), (0, u "VALUE"), (0, .fieldref 7 65), (0, .nameAndType 66 12), (0, u "ANCHOR"), (0, .fieldref 7 68), (0, .nameAndType 69 12), (0, u "TAG"), (0, .fieldref 7 71), (0, .nameAndType 72 12), (0, u "ALIAS"), (0, .fieldref 7 74), (0, .nameAndType 75 12), (0, u "SCALAR"), (0, .integer 2147483647), (0, .methodref 7 78), (0, .nameAndType 79 80), (0, u "isDirective"), (0, u "()Z"), (0, .class_ 82), (0, u "com/example/camelfold/camelfold/reading/TokenKindIsDirectivePinLaw"), (2, u "law"), (0, u "(I)Z")] 5

def k1m0 : Method := { name := "<init>", desc := "()V", sig := { parameters := [], returnType := none }, accessFlags := 1, code := none }
def k1c1 : Code := { maxStack := 4, maxLocals := 4, code := code, exceptionTable := #[], attributes := #[] }
def k1m1 : Method := { name := "law", desc := "(I)Z", sig := { parameters := [.int], returnType := some .boolean }, accessFlags := 9, code := some k1c1 }
/-- com/example/camelfold/camelfold/reading/TokenKindIsDirectivePinLaw -/
def k1 : Class := { plain "com/example/camelfold/camelfold/reading/TokenKindIsDirectivePinLaw" (some 0) with
  accessFlags := 49
  interfaces := #[]
  cf := some (fileOf pool1 81 #[] #[{ accessFlags := 1, nameIndex := 5, descriptorIndex := 6, attributes := #[] }, { accessFlags := 9, nameIndex := 85, descriptorIndex := 86, attributes := #[] }] 49 2 #[] #[])
  fields := #[]
  methods := #[k1m0, k1m1]
  instanceTypes := #[]
  staticTypes := #[]
  resolved := Array.replicate 92 none
  statics := none }

def pool2 : Array CpInfo := pool [(1, .class_ 2), (0, u "java/lang/constant/Constable"), (0, .class_ 4), (0, u "java/lang/Object")] 6

/-- java/lang/constant/Constable -/
def k2 : Class := { plain "java/lang/constant/Constable" (some 0) with
  accessFlags := 1537
  interfaces := #[]
  cf := some (fileOf pool2 1 #[] #[] 1537 3 #[] #[])
  fields := #[]
  methods := #[]
  instanceTypes := #[]
  staticTypes := #[]
  resolved := Array.replicate 11 none
  statics := none }

def pool3 : Array CpInfo := pool [(1, .class_ 2), (0, u "java/lang/Comparable"), (0, .class_ 4), (0, u "java/lang/Object")] 7

/-- java/lang/Comparable -/
def k3 : Class := { plain "java/lang/Comparable" (some 0) with
  accessFlags := 1537
  interfaces := #[]
  cf := some (fileOf pool3 1 #[] #[] 1537 3 #[] #[])
  fields := #[]
  methods := #[]
  instanceTypes := #[]
  staticTypes := #[]
  resolved := Array.replicate 12 none
  statics := none }

def pool4 : Array CpInfo := pool [(1, .class_ 2), (0, u "java/io/Serializable"), (0, .class_ 4), (0, u "java/lang/Object")] 2

/-- java/io/Serializable -/
def k4 : Class := { plain "java/io/Serializable" (some 0) with
  accessFlags := 1537
  interfaces := #[]
  cf := some (fileOf pool4 1 #[] #[] 1537 3 #[] #[])
  fields := #[]
  methods := #[]
  instanceTypes := #[]
  staticTypes := #[]
  resolved := Array.replicate 7 none
  statics := none }

def pool5 : Array CpInfo := pool [(2, .class_ 4), (1, u "java/lang/Enum"), (0, u "name"), (0, u "Ljava/lang/String;"), (2, u "ordinal"), (0, u "I"), (1, .class_ 14), (1, u "java/lang/Object"), (4, u "hash"), (86, .class_ 108), (1, u "java/lang/Enum$EnumDesc"), (2, .class_ 112), (0, u "java/lang/constant/Constable"), (0, .class_ 114), (0, u "java/lang/Comparable"), (0, .class_ 116), (0, u "java/io/Serializable")] 87

/-- java/lang/Enum -/
def k5 : Class := { plain "java/lang/Enum" (some 0) with
  accessFlags := 1057
  interfaces := #[2, 3, 4]
  cf := some (fileOf pool5 2 #[.nestMembers #[106]] #[] 1057 12 #[111, 113, 115] #[{ accessFlags := 18, nameIndex := 5, descriptorIndex := 6, attributes := #[] }, { accessFlags := 18, nameIndex := 9, descriptorIndex := 10, attributes := #[] }, { accessFlags := 2, nameIndex := 19, descriptorIndex := 10, attributes := #[] }])
  fields := #[{ name := "name", type := (.object "java/lang/String"), accessFlags := 18, slot := 0, constantValue := 0 }, { name := "ordinal", type := .int, accessFlags := 18, slot := 1, constantValue := 0 }, { name := "hash", type := .int, accessFlags := 2, slot := 2, constantValue := 0 }]
  methods := #[]
  instanceTypes := #[(.object "java/lang/String"), .int, .int]
  staticTypes := #[]
  resolved := Array.replicate 204 none
  statics := none }

def pool6 : Array CpInfo := pool [(1, .class_ 2), (0, u "com/example/camelfold/camelfold/reading/TokenKind"), (2, u "STREAM_START"), (0, u "Lcom/example/camelfold/camelfold/reading/TokenKind;"), (2, u "STREAM_END"), (0, .fieldref 1 11), (0, .nameAndType 12 6), (0, u "VERSION_DIRECTIVE"), (0, .fieldref 1 14), (0, .nameAndType 15 6), (0, u "TAG_DIRECTIVE"), (0, .fieldref 1 17), (0, .nameAndType 18 6), (0, u "RESERVED_DIRECTIVE"), (2, u "DOCUMENT_START"), (2, u "DOCUMENT_END"), (2, u "BLOCK_SEQUENCE_START"), (2, u "BLOCK_MAPPING_START"), (2, u "BLOCK_END"), (2, u "BLOCK_ENTRY"), (2, u "FLOW_SEQUENCE_START"), (2, u "FLOW_SEQUENCE_END"), (2, u "FLOW_MAPPING_START"), (2, u "FLOW_MAPPING_END"), (2, u "FLOW_ENTRY"), (2, u "KEY"), (2, u "VALUE"), (2, u "ANCHOR"), (2, u "TAG"), (2, u "ALIAS"), (2, u "SCALAR"), (2, u "$VALUES"), (0, u "[Lcom/example/camelfold/camelfold/reading/TokenKind;"), (6, .class_ 82), (1, u "java/lang/Enum"), (8, u "description"), (0, u "Ljava/lang/String;"), (81, u "isDirective"), (0, u "()Z")] 6

def k6c0 : Code := { maxStack := 2, maxLocals := 1, code := prog_25_method_5_code, exceptionTable := #[], attributes := #[] }
def k6m0 : Method := { name := "isDirective", desc := "()Z", sig := { parameters := [], returnType := some .boolean }, accessFlags := 0, code := some k6c0 }
/-- com/example/camelfold/camelfold/reading/TokenKind -/
def k6 : Class := { plain "com/example/camelfold/camelfold/reading/TokenKind" (some 5) with
  accessFlags := 16432
  interfaces := #[]
  cf := some (fileOf pool6 1 #[] #[{ accessFlags := 0, nameIndex := 174, descriptorIndex := 175, attributes := #[] }] 16432 80 #[] #[{ accessFlags := 16409, nameIndex := 5, descriptorIndex := 6, attributes := #[] }, { accessFlags := 16409, nameIndex := 9, descriptorIndex := 6, attributes := #[] }, { accessFlags := 16409, nameIndex := 12, descriptorIndex := 6, attributes := #[] }, { accessFlags := 16409, nameIndex := 15, descriptorIndex := 6, attributes := #[] }, { accessFlags := 16409, nameIndex := 18, descriptorIndex := 6, attributes := #[] }, { accessFlags := 16409, nameIndex := 21, descriptorIndex := 6, attributes := #[] }, { accessFlags := 16409, nameIndex := 24, descriptorIndex := 6, attributes := #[] }, { accessFlags := 16409, nameIndex := 27, descriptorIndex := 6, attributes := #[] }, { accessFlags := 16409, nameIndex := 30, descriptorIndex := 6, attributes := #[] }, { accessFlags := 16409, nameIndex := 33, descriptorIndex := 6, attributes := #[] }, { accessFlags := 16409, nameIndex := 36, descriptorIndex := 6, attributes := #[] }, { accessFlags := 16409, nameIndex := 39, descriptorIndex := 6, attributes := #[] }, { accessFlags := 16409, nameIndex := 42, descriptorIndex := 6, attributes := #[] }, { accessFlags := 16409, nameIndex := 45, descriptorIndex := 6, attributes := #[] }, { accessFlags := 16409, nameIndex := 48, descriptorIndex := 6, attributes := #[] }, { accessFlags := 16409, nameIndex := 51, descriptorIndex := 6, attributes := #[] }, { accessFlags := 16409, nameIndex := 54, descriptorIndex := 6, attributes := #[] }, { accessFlags := 16409, nameIndex := 57, descriptorIndex := 6, attributes := #[] }, { accessFlags := 16409, nameIndex := 60, descriptorIndex := 6, attributes := #[] }, { accessFlags := 16409, nameIndex := 63, descriptorIndex := 6, attributes := #[] }, { accessFlags := 16409, nameIndex := 66, descriptorIndex := 6, attributes := #[] }, { accessFlags := 16409, nameIndex := 69, descriptorIndex := 6, attributes := #[] }, { accessFlags := 18, nameIndex := 91, descriptorIndex := 92, attributes := #[] }, { accessFlags := 4122, nameIndex := 72, descriptorIndex := 73, attributes := #[] }])
  fields := #[{ name := "STREAM_START", type := (.object "com/example/camelfold/camelfold/reading/TokenKind"), accessFlags := 16409, slot := 0, constantValue := 0 }, { name := "STREAM_END", type := (.object "com/example/camelfold/camelfold/reading/TokenKind"), accessFlags := 16409, slot := 1, constantValue := 0 }, { name := "VERSION_DIRECTIVE", type := (.object "com/example/camelfold/camelfold/reading/TokenKind"), accessFlags := 16409, slot := 2, constantValue := 0 }, { name := "TAG_DIRECTIVE", type := (.object "com/example/camelfold/camelfold/reading/TokenKind"), accessFlags := 16409, slot := 3, constantValue := 0 }, { name := "RESERVED_DIRECTIVE", type := (.object "com/example/camelfold/camelfold/reading/TokenKind"), accessFlags := 16409, slot := 4, constantValue := 0 }, { name := "DOCUMENT_START", type := (.object "com/example/camelfold/camelfold/reading/TokenKind"), accessFlags := 16409, slot := 5, constantValue := 0 }, { name := "DOCUMENT_END", type := (.object "com/example/camelfold/camelfold/reading/TokenKind"), accessFlags := 16409, slot := 6, constantValue := 0 }, { name := "BLOCK_SEQUENCE_START", type := (.object "com/example/camelfold/camelfold/reading/TokenKind"), accessFlags := 16409, slot := 7, constantValue := 0 }, { name := "BLOCK_MAPPING_START", type := (.object "com/example/camelfold/camelfold/reading/TokenKind"), accessFlags := 16409, slot := 8, constantValue := 0 }, { name := "BLOCK_END", type := (.object "com/example/camelfold/camelfold/reading/TokenKind"), accessFlags := 16409, slot := 9, constantValue := 0 }, { name := "BLOCK_ENTRY", type := (.object "com/example/camelfold/camelfold/reading/TokenKind"), accessFlags := 16409, slot := 10, constantValue := 0 }, { name := "FLOW_SEQUENCE_START", type := (.object "com/example/camelfold/camelfold/reading/TokenKind"), accessFlags := 16409, slot := 11, constantValue := 0 }, { name := "FLOW_SEQUENCE_END", type := (.object "com/example/camelfold/camelfold/reading/TokenKind"), accessFlags := 16409, slot := 12, constantValue := 0 }, { name := "FLOW_MAPPING_START", type := (.object "com/example/camelfold/camelfold/reading/TokenKind"), accessFlags := 16409, slot := 13, constantValue := 0 }, { name := "FLOW_MAPPING_END", type := (.object "com/example/camelfold/camelfold/reading/TokenKind"), accessFlags := 16409, slot := 14, constantValue := 0 }, { name := "FLOW_ENTRY", type := (.object "com/example/camelfold/camelfold/reading/TokenKind"), accessFlags := 16409, slot := 15, constantValue := 0 }, { name := "KEY", type := (.object "com/example/camelfold/camelfold/reading/TokenKind"), accessFlags := 16409, slot := 16, constantValue := 0 }, { name := "VALUE", type := (.object "com/example/camelfold/camelfold/reading/TokenKind"), accessFlags := 16409, slot := 17, constantValue := 0 }, { name := "ANCHOR", type := (.object "com/example/camelfold/camelfold/reading/TokenKind"), accessFlags := 16409, slot := 18, constantValue := 0 }, { name := "TAG", type := (.object "com/example/camelfold/camelfold/reading/TokenKind"), accessFlags := 16409, slot := 19, constantValue := 0 }, { name := "ALIAS", type := (.object "com/example/camelfold/camelfold/reading/TokenKind"), accessFlags := 16409, slot := 20, constantValue := 0 }, { name := "SCALAR", type := (.object "com/example/camelfold/camelfold/reading/TokenKind"), accessFlags := 16409, slot := 21, constantValue := 0 }, { name := "description", type := (.object "java/lang/String"), accessFlags := 18, slot := 3, constantValue := 0 }, { name := "$VALUES", type := (.array (.object "com/example/camelfold/camelfold/reading/TokenKind")), accessFlags := 4122, slot := 22, constantValue := 0 }]
  methods := #[k6m0]
  instanceTypes := #[(.object "java/lang/String"), .int, .int, (.object "java/lang/String")]
  staticTypes := #[(.object "com/example/camelfold/camelfold/reading/TokenKind"), (.object "com/example/camelfold/camelfold/reading/TokenKind"), (.object "com/example/camelfold/camelfold/reading/TokenKind"), (.object "com/example/camelfold/camelfold/reading/TokenKind"), (.object "com/example/camelfold/camelfold/reading/TokenKind"), (.object "com/example/camelfold/camelfold/reading/TokenKind"), (.object "com/example/camelfold/camelfold/reading/TokenKind"), (.object "com/example/camelfold/camelfold/reading/TokenKind"), (.object "com/example/camelfold/camelfold/reading/TokenKind"), (.object "com/example/camelfold/camelfold/reading/TokenKind"), (.object "com/example/camelfold/camelfold/reading/TokenKind"), (.object "com/example/camelfold/camelfold/reading/TokenKind"), (.object "com/example/camelfold/camelfold/reading/TokenKind"), (.object "com/example/camelfold/camelfold/reading/TokenKind"), (.object "com/example/camelfold/camelfold/reading/TokenKind"), (.object "com/example/camelfold/camelfold/reading/TokenKind"), (.object "com/example/camelfold/camelfold/reading/TokenKind"), (.object "com/example/camelfold/camelfold/reading/TokenKind"), (.object "com/example/camelfold/camelfold/reading/TokenKind"), (.object "com/example/camelfold/camelfold/reading/TokenKind"), (.object "com/example/camelfold/camelfold/reading/TokenKind"), (.object "com/example/camelfold/camelfold/reading/TokenKind"), (.array (.object "com/example/camelfold/camelfold/reading/TokenKind"))]
  resolved := Array.replicate 182 none
  statics := some 0 }

def pool7 : Array CpInfo := pool [(1, u "java/lang/Cloneable"), (0, .class_ 1), (0, u "java/lang/Object"), (0, .class_ 3)] 3

/-- java/lang/Cloneable -/
def k7 : Class := { plain "java/lang/Cloneable" (some 0) with
  accessFlags := 1537
  interfaces := #[]
  cf := some (fileOf pool7 2 #[] #[] 1537 4 #[] #[])
  fields := #[]
  methods := #[]
  instanceTypes := #[]
  staticTypes := #[]
  resolved := Array.replicate 8 none
  statics := none }

/-- the primitive byte -/
def k8 : Class := { plain "byte" none with kind := .primitive 'B', accessFlags := 0x411 }
/-- [B -/
def k9 : Class := { plain "[B" (some 0) with kind := .array 8 .byte, interfaces := #[7, 4], accessFlags := 1041 }

/-- the primitive int -/
def k10 : Class := { plain "int" none with kind := .primitive 'I', accessFlags := 0x411 }
/-- [I -/
def k11 : Class := { plain "[I" (some 0) with kind := .array 10 .int, interfaces := #[7, 4], accessFlags := 1041 }

/-- [Lcom/example/camelfold/camelfold/reading/TokenKind; -/
def k12 : Class := { plain "[Lcom/example/camelfold/camelfold/reading/TokenKind;" (some 0) with kind := .array 6 (.object "com/example/camelfold/camelfold/reading/TokenKind"), interfaces := #[7, 4], accessFlags := 1041 }

def heap : Heap := #[{ cls := 6, slots := #[.ref 1, .ref 2, .ref 3, .ref 4, .ref 5, .ref 6, .ref 7, .ref 8, .ref 9, .ref 10, .ref 11, .ref 12, .ref 13, .ref 14, .ref 15, .ref 16, .ref 17, .ref 18, .ref 19, .ref 20, .ref 21, .ref 22, .null], vm := .statics 6 },
  { cls := 6, slots := #[.null, .int 0, .int 0, .null], vm := .none },
  { cls := 6, slots := #[.null, .int 1, .int 0, .null], vm := .none },
  { cls := 6, slots := #[.null, .int 2, .int 0, .null], vm := .none },
  { cls := 6, slots := #[.null, .int 3, .int 0, .null], vm := .none },
  { cls := 6, slots := #[.null, .int 4, .int 0, .null], vm := .none },
  { cls := 6, slots := #[.null, .int 5, .int 0, .null], vm := .none },
  { cls := 6, slots := #[.null, .int 6, .int 0, .null], vm := .none },
  { cls := 6, slots := #[.null, .int 7, .int 0, .null], vm := .none },
  { cls := 6, slots := #[.null, .int 8, .int 0, .null], vm := .none },
  { cls := 6, slots := #[.null, .int 9, .int 0, .null], vm := .none },
  { cls := 6, slots := #[.null, .int 10, .int 0, .null], vm := .none },
  { cls := 6, slots := #[.null, .int 11, .int 0, .null], vm := .none },
  { cls := 6, slots := #[.null, .int 12, .int 0, .null], vm := .none },
  { cls := 6, slots := #[.null, .int 13, .int 0, .null], vm := .none },
  { cls := 6, slots := #[.null, .int 14, .int 0, .null], vm := .none },
  { cls := 6, slots := #[.null, .int 15, .int 0, .null], vm := .none },
  { cls := 6, slots := #[.null, .int 16, .int 0, .null], vm := .none },
  { cls := 6, slots := #[.null, .int 17, .int 0, .null], vm := .none },
  { cls := 6, slots := #[.null, .int 18, .int 0, .null], vm := .none },
  { cls := 6, slots := #[.null, .int 19, .int 0, .null], vm := .none },
  { cls := 6, slots := #[.null, .int 20, .int 0, .null], vm := .none },
  { cls := 6, slots := #[.null, .int 21, .int 0, .null], vm := .none }]
def classes : Array Class := #[k0, k1, k2, k3, k4, k5, k6, k7, k8, k9, k10, k11, k12]
def interned : List (Array UInt16 × Addr) := []
def slotsUsed : Nat := 111
def theMethod : MethodId := ⟨1, 1⟩
def args0 : Array Value := #[.int 5]
def aboutOver (below : List Frame) : State where
  vm := { classes := classes, interned := interned.toArray }
  heap := heap
  slotsUsed := slotsUsed
  threads := #[{ frames := .invoking theMethod args0 :: below }]
def below0 : List Frame := [.native { method := ⟨0, 0⟩, args := #[] }]
def about1 : State := aboutOver below0
def p0 : Program := .bare "" "" ""
def e0 : Env := launch0.env 0 0 0
theorem w_frames : about1.frames = Frame.invoking theMethod args0 :: below0 := rfl
set_option maxRecDepth 65536 in
theorem w_args : argsFit about1.vm theMethod args0 = true := by decide +kernel
set_option maxRecDepth 65536 in
theorem w_heap : heapFits about1 = true := by decide +kernel
set_option maxRecDepth 65536 in
theorem w_runnable : about1.curStatus? = some .runnable := by decide +kernel
set_option maxRecDepth 65536 in
theorem w_alone : about1.alone = true := by decide +kernel
set_option maxRecDepth 65536 in
theorem w_named : about1.methodNamed? x = some theMethod := by decide +kernel
set_option maxRecDepth 65536 in
theorem w_hears : about1.hears theMethod below0 = true := by decide +kernel
set_option maxRecDepth 65536 in
theorem w_ripe : about1.ripe theMethod args0 below0 = true := by decide +kernel
theorem w_running : about1.status = .running := rfl
set_option maxRecDepth 65536 in
theorem w_room : about1.hasRoom e0.platform room_1 = true :=
  launch0.hasRoom_least _ room_1 (by decide +kernel) (by decide +kernel) (by decide +kernel) (by decide +kernel) (by decide +kernel) (by decide +kernel)
theorem allAtoms_all (ts : List Jvm.Cond) (a : Array Jvm.Value) (st : Jvm.State) : (allAtoms ts).before a st = ts.all (fun c => c.before a st) := by
  induction ts with
  | nil => rfl
  | cons c t ih =>
    show (Jvm.Cond.and c (allAtoms t)).before a st = _
    rw [Jvm.Cond.before_and, ih, List.all_cons]
def words1 : List Jvm.Cond := Jvm.Cond.code x code maxLocals ret :: tables_1
/-- a 'code' word, met by the world's own term for the bytes: nothing is compared byte by byte -/
theorem code_word {y : MethodName} {bytes : ByteArray} {mx : Nat} {rt : Option FieldType} {a : Array Value} {s : State} {m : MethodId} {meth : Method} {c : Code} (h1 : s.methodNamed? y = some m) (h2 : s.vm.method? m = some meth) (h3 : meth.code = some c) (h4 : c.code = bytes)
    (h5 : (c.maxLocals == mx && c.exceptionTable.isEmpty && decide (c.maxStack ≤ mostOperands) && decide (meth.sig.returnType = rt) && !meth.locks && decide (parseMethodDescriptor y.desc = some meth.sig)) = true) : (Jvm.Cond.code y bytes mx rt).before a s = true := by
  simp only [Bool.and_eq_true, beq_iff_eq, Bool.not_eq_true', decide_eq_true_eq] at h5
  obtain ⟨⟨⟨⟨⟨g1, g2⟩, g3⟩, g4⟩, g5⟩, g6⟩ := h5
  simp [Cond.before, Cond.holds, Cond.value, h1, h2, h3, h4, g1, g2, g3, g4, g5, g6]
def isCode : Jvm.Cond → Bool
  | .code _ _ _ _ => true
  | _ => false
theorem all_split {L : List Jvm.Cond} {P : Jvm.Cond → Bool} (h1 : L.all (fun c => isCode c || P c) = true) (h2 : ∀ c ∈ L.filter isCode, P c = true) : L.all P = true := by
  refine List.all_eq_true.mpr fun c hc => ?_
  have h := List.all_eq_true.mp h1 c hc
  rcases Bool.eq_false_or_eq_true (isCode c) with hi | hi
  · exact h2 c (List.mem_filter.mpr ⟨hc, hi⟩)
  · simpa [hi] using h
set_option maxRecDepth 65536 in
theorem w_c0 : (Jvm.Cond.code x code maxLocals ret).before args0 about1 = true := code_word (m := ⟨1, 1⟩) (meth := k1m1) (c := k1c1) (by decide +kernel) rfl rfl rfl (by decide +kernel)
set_option maxRecDepth 65536 in
theorem w_c1 : (Jvm.Cond.code ({ cls := "com/example/camelfold/camelfold/reading/TokenKind", name := "isDirective", desc := "()Z" } : Jvm.MethodName) prog_25_method_5_code (1 : Nat) (Option.some Jvm.ClassFile.FieldType.boolean)).before args0 about1 = true := code_word (m := ⟨6, 0⟩) (meth := k6m0) (c := k6c0) (by decide +kernel) rfl rfl rfl (by decide +kernel)
def codes1 : List Jvm.Cond := [Jvm.Cond.code x code maxLocals ret, Jvm.Cond.code ({ cls := "com/example/camelfold/camelfold/reading/TokenKind", name := "isDirective", desc := "()Z" } : Jvm.MethodName) prog_25_method_5_code (1 : Nat) (Option.some Jvm.ClassFile.FieldType.boolean)]
set_option maxRecDepth 65536 in
theorem codes_eq : words1.filter isCode = codes1 := rfl
theorem w_codes : ∀ c ∈ words1.filter isCode, c.before args0 about1 = true := by
  rw [codes_eq]
  intro c hc
  simp only [codes1, List.mem_cons, List.not_mem_nil, or_false] at hc
  rcases hc with rfl | rfl
  · exact w_c0
  · exact w_c1
set_option maxRecDepth 65536 in
theorem w_t1 : (words1.take 24).all (fun c => isCode c || c.before args0 about1) = true := by decide +kernel
set_option maxRecDepth 65536 in
theorem w_t2 : ((words1.drop 24).take 24).all (fun c => isCode c || c.before args0 about1) = true := by decide +kernel
set_option maxRecDepth 65536 in
theorem w_t3 : ((words1.drop 24).drop 24).all (fun c => isCode c || c.before args0 about1) = true := by decide +kernel
theorem w_tables : (allAtoms (Jvm.Cond.code x code maxLocals ret :: tables_1)).before args0 about1 = true := by
  rw [allAtoms_all]
  show words1.all (fun c => c.before args0 about1) = true
  refine all_split ?_ w_codes
  rw [← List.take_append_drop 24 words1, List.all_append, w_t1, ← List.take_append_drop 24 (words1.drop 24), List.all_append, w_t2, w_t3]
  rfl
set_option maxRecDepth 65536 in
theorem w_case : (Jvm.Cond.and given_1 narrow_1).before args0 about1 = true := by decide +kernel
theorem w_applies : (headSpec (Jvm.Cond.code x code maxLocals ret :: tables_1) room_1).applies x e0.platform about1 = true :=
  (Spec.applies_iff w_frames).mpr ⟨w_running, w_runnable, w_alone, w_named, w_hears, w_ripe, w_room, w_tables⟩
theorem atStart : AtStart classFile x code maxLocals ret World_1 tables_1 room_1 Calls_1 rest_1 Pre_1 launch0 p0 e0 about1 theMethod args0 below0 :=
  ⟨lists_1, trivial, launch0.admits_env _ _ _, launch0.least_env, fairChoices_fair.cas, fairChoices_fair.clock, w_frames, w_args, w_heap, w_applies, trivial, trivial, w_case⟩
end start1
theorem witness_1 : WitnessClaimed_1 := ⟨start1.p0, start1.e0, start1.about1, start1.theMethod, start1.args0, start1.below0, start1.atStart⟩
end Jvm.Pilot.@@N@@
