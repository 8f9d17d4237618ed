import JvmDerived
import JvmDerived.Pilot.@@N@@Statement
import JvmDerived.Pilot.@@N@@Code
set_option linter.unusedVariables false
set_option linter.unusedSimpArgs false
namespace Jvm.RoadKit
open Sem ClassFile Op Lib Jvm.Stand Jvm.Free Jvm.LawKit
section New
variable {p : Program} {l : Launch} {e : Env} {R : Room} {s : State} {m : MethodId} {args : Array Value} {below : List Frame} {meth : Method} {c : Code} {T : State} {locs : List Loc} {cells slots : Nat}
theorem retI (X : Stand p l e R s m args below meth c T locs cells slots) (hx : p.tables.exec = Jvm.exec) {pc : Nat} {Ls : Array Slot} {z : Int32} {rest : List Value} (hret : meth.sig.returnType = some .int) (hd : decode c.code pc = .ok (.ireturn, 1)) {fs : List Frame}
    (hl : ∀ (f : JFrame) (acts : List Action), f.method = m → f.locked = none → f.entered = [] → (doReturn e (T.setTop f) acts (some (.int z))).1 = T.setFrames fs) : Steps p.tables e below (T.setTop (mkF m pc Ls (.int z :: rest))) (T.setFrames fs) := by
  have hm' : T.vm.method? m = some meth := X.method'
  have hn : narrow .int (.int z) = .int z := rfl
  show Steps p.tables e below (T.setTop { method := m, pc := pc, locals := Ls, stack := _ :: rest, locked := none }) _
  jvm_step X.here [X.here.top, hx, hd, hm', hret, hn]
  first | (intro acts; rw [hl _ acts rfl rfl rfl]) | rw [hl _ _ rfl rfl rfl]
  exact Steps.refl _
end New
end Jvm.RoadKit
namespace Jvm.Pilot.@@N@@
open Jvm Jvm.ClassFile Sem Op Lib Jvm.Free Jvm.Stand Jvm.LawKit Jvm.RoadKit Bundle Jvm.Pilot.@@N@@.Jvm.D
theorem own_ext {h0 h : Heap} (K : Keep h0 h []) : Ext h0 h := ⟨K.1, fun x c q => K.2.1 x c q nin0⟩
theorem own_fld {args : Array Value} {s : State} {t : Term} {x : Addr} {C n d : String} {i : Int32} (e : t.eval args s none [] s = some (.ref x)) (h : (Jvm.Cond.eq (.field t C n d) (.int i)).value args s none s [] = some true) : s.fieldOf? x C n d = some (.int i) := by
  obtain ⟨u, v, a1, a2, -, k2⟩ := cmp_v (Or.inl h)
  have a3 := a2
  rw [Term.int_eval] at a3
  obtain rfl := Option.some.inj a3
  obtain ⟨z, rfl⟩ := k2
  rw [fld_at e] at a1
  rw [a1]
  have q : z = i := by simpa [Cond.value, fld_at e, a1, Term.int_eval] using h
  rw [q]
theorem own_mul (p k : Int32) (n : Int) (hk : k.toInt = n) (h0 : 0 ≤ n) (h1 : n ≤ 12) : (p.toInt64 * k.toInt64).toInt = p.toInt * n := by
  have a := c_lmul p.toInt64 k.toInt64
  have b := rng64 (p.toInt64 * k.toInt64)
  have c := rng32 p
  rw [c_i2l, c_i2l, hk] at a
  have d : -2147483648 * 12 ≤ p.toInt * n ∧ p.toInt * n ≤ 2147483648 * 12 := by
    have : n = 0 ∨ n = 1 ∨ n = 2 ∨ n = 3 ∨ n = 4 ∨ n = 5 ∨ n = 6 ∨ n = 7 ∨ n = 8 ∨ n = 9 ∨ n = 10 ∨ n = 11 ∨ n = 12 := by omega
    rcases this with rfl | rfl | rfl | rfl | rfl | rfl | rfl | rfl | rfl | rfl | rfl | rfl | rfl <;> omega
  omega
theorem own_rem (z : Int64) : lcmpW (z - (z / (12 : Int64)) * (12 : Int64)) (0 : Int64) = (0 : Int32) ↔ z.toInt % 12 = 0 := by
  have a := c_lrem z (12 : Int64) 12 rfl
  rw [lw_eq, ← Int64.toInt_inj]
  show _ = (0 : Int) ↔ _
  have b := rng64 z
  omega
theorem own_12 (p k : Int32) (hk : k = 12) : lcmpW ((p.toInt64 * k.toInt64) - ((p.toInt64 * k.toInt64) / (12 : Int64)) * (12 : Int64)) (0 : Int64) = (0 : Int32) := by
  rw [own_rem, own_mul p k 12 (by rw [hk]; rfl) (by decide) (by decide)]
  omega
theorem own_3 (p k : Int32) (hk : k = 3) : lcmpW ((p.toInt64 * k.toInt64) - ((p.toInt64 * k.toInt64) / (12 : Int64)) * (12 : Int64)) (0 : Int64) = (0 : Int32) ↔ p &&& (3 : Int32) = (0 : Int32) := by
  rw [own_rem, own_mul p k 3 (by rw [hk]; rfl) (by decide) (by decide), ← Int32.toInt_inj]
  have a := c_mask p 3 2 (by decide) rfl
  rw [a]
  show _ ↔ _ = (0 : Int)
  omega
theorem pn_com_example_vestbook_vestbook_engine_InstallmentSpacing : plainName "com/example/vestbook/vestbook/engine/InstallmentSpacing" = true := by first | (simp [plainName, overriddenIn]; done) | decide +kernel
theorem d_prog_17_m4_0 : decode prog_17_method_4_code 0 = .ok (.aload_n 0, 1) := by decide +kernel
theorem d_prog_17_m4_1 : decode prog_17_method_4_code 1 = .ok (.getfield 33, 3) := by decide +kernel
theorem d_prog_17_m4_4 : decode prog_17_method_4_code 4 = .ok (.ireturn, 1) := by decide +kernel
theorem ef_rmM (m : MethodId) (x0 : Addr) : entryFrame m #[(.ref x0)] 1 = mkF m 0 #[.val (.ref x0)] [] := by first | (simp [entryFrame, mkF, argsToLocals, Value.category]; done) | rfl
def Q_rmM (Z : State) (r0 : Addr) (mo : Int32) (h0 : Heap) (n0 : Nat) (v : Option Value) (h : Heap) (L : List Loc) : Prop := v = some (.int mo) ∧ Fr n0 L ∧ h = h0
set_option maxRecDepth 65536 in
set_option maxHeartbeats 40000000 in
theorem rmM (l : Launch) (Z : State) (a0 : Array Value) (hw : ∀ d ∈ tables_1, d.before a0 Z = true) (ws : List Jvm.Cond) (r0 : Addr) (mo : Int32) (h0 : Heap) (n0 : Nat) (Z0 : n0 ≤ h0.size) (F : Fld Z h0 r0 "com/example/vestbook/vestbook/engine/InstallmentSpacing" "months" "I" (.int mo)) :
    MetFree l (⟨"com/example/vestbook/vestbook/engine/InstallmentSpacing", "getMonths", "()I"⟩ : MethodName) (head1 (Jvm.Cond.code (⟨"com/example/vestbook/vestbook/engine/InstallmentSpacing", "getMonths", "()I"⟩ : MethodName) prog_17_method_4_code 1 (some .int) :: ws) ({ frames := 0, cells := 0, slots := 0, locals := 0 } : Room)) (fun a U => a = #[(.ref r0)] ∧ Z.Warmed39 U.vm ∧ U.heap = h0) (fun _ _ _ _ _ => True) (fun _ U o U' => ∃ v L, o = .returned v ∧ Q_rmM Z r0 mo h0 n0 v U'.heap L ∧ FrameEnd U o U' L ({ frames := 0, cells := 0, slots := 0, locals := 0 } : Room).cells ({ frames := 0, cells := 0, slots := 0, locals := 0 } : Room).slots) := by
  refine MetFree.of_bodySF (plainFor_of_name pn_com_example_vestbook_vestbook_engine_InstallmentSpacing) hisR ?_
  intro p e s m args below meth c s₁ Bd hml0 hP hK
  obtain ⟨rfl, hZ, hh⟩ := hP
  have hx := Bd.exec
  have hby := Bd.bytes
  have hml : c.maxLocals = 1 := hml0
  have hown : s.vm.findClass "com/example/vestbook/vestbook/engine/InstallmentSpacing" = some m.cls := findClass_of_methodNamed Bd.named
  have hnm := (name_of_methodNamed Bd.named Bd.method).1
  have X0 : Stand p l e ({ frames := 0, cells := 0, slots := 0, locals := 0 } : Room) s m #[(.ref r0)] below meth c s₁ [] 0 0 := Stand.of_body Bd
  have e0 : s₁.heap = h0 := by rw [← hh, Bd.state]; rfl
  have N0 := Fr.nil n0
  have K0 := Keep.refl h0 []
  have pre0 : ∀ t, Steps p.tables e below (s₁.setTop (mkF m 0 #[.val (.ref r0)] [])) t → Steps p.tables e below (s₁.setTop (entryFrame m #[(.ref r0)] 1)) t := fun t k => castTop (ef_rmM m r0) k
  obtain ⟨T1, X1, e1, st1⟩ := getF X0 hx hZ hown (host := "") (Or.inl (hw _ (List.mem_of_getElem? (i := 18) rfl))) Via.refl e0 F (g := (mkF m 1 #[.val (.ref r0)] [(.ref r0)])) rfl rfl (hb hby d_prog_17_m4_1)
  obtain ⟨fs, hr, hrun, hended, hW, hsame⟩ := X1.leave (v := some (.int mo)) (fun h => by rw [Bd.returns] at h; cases h)
  refine ⟨_, _, pre0 _ ?_, hrun, hended, _, _, rfl, ?_, ⟨_, rfl⟩, hW, hsame.mono (by decide) (by decide)⟩
  · show Steps p.tables e below (s₁.setTop (mkF m 0 #[.val (.ref r0)] [])) _
    refine XS.aloadN X0.here hx rfl (hb hby d_prog_17_m4_0) rfl rfl ?_
    show Steps p.tables e below (s₁.setTop (mkF m 1 #[.val (.ref r0)] [(.ref r0)])) _
    refine st1 _ ?_
    show Steps p.tables e below (T1.setTop (mkF m 4 #[.val (.ref r0)] [(.int mo)])) _
    exact retI X1 hx Bd.returns (hb hby d_prog_17_m4_4) hr
  · show Q_rmM Z r0 mo h0 n0 _ T1.heap _
    rw [e1]
    exact ⟨rfl, N0, rfl⟩
theorem pn_com_example_vestbook_vestbook_engine_InstallmentAmount : plainName "com/example/vestbook/vestbook/engine/InstallmentAmount" = true := by first | (simp [plainName, overriddenIn]; done) | decide +kernel
theorem d_prog_15_m4_0 : decode prog_15_method_4_code 0 = .ok (.aload_n 0, 1) := by decide +kernel
theorem d_prog_15_m4_1 : decode prog_15_method_4_code 1 = .ok (.getstatic 3, 3) := by decide +kernel
theorem d_prog_15_m4_4 : decode prog_15_method_4_code 4 = .ok (.if_acmp .eq 20, 3) := by decide +kernel
theorem d_prog_15_m4_24 : decode prog_15_method_4_code 24 = .ok (.iconst 1, 1) := by decide +kernel
theorem d_prog_15_m4_25 : decode prog_15_method_4_code 25 = .ok (.goto 4, 3) := by decide +kernel
theorem d_prog_15_m4_29 : decode prog_15_method_4_code 29 = .ok (.ireturn, 1) := by decide +kernel
theorem d_prog_15_m4_7 : decode prog_15_method_4_code 7 = .ok (.iload_n 1, 1) := by decide +kernel
theorem d_prog_15_m4_8 : decode prog_15_method_4_code 8 = .ok (.i2l, 1) := by decide +kernel
theorem d_prog_15_m4_9 : decode prog_15_method_4_code 9 = .ok (.aload_n 2, 1) := by decide +kernel
theorem d_prog_15_m4_10 : decode prog_15_method_4_code 10 = .ok (.invokevirtual 33, 3) := by decide +kernel
theorem pd___I : parseMethodDescriptor "()I" = some ⟨[], some .int⟩ := by decide +kernel
theorem d_prog_15_m4_13 : decode prog_15_method_4_code 13 = .ok (.i2l, 1) := by decide +kernel
theorem d_prog_15_m4_14 : decode prog_15_method_4_code 14 = .ok (.lmul, 1) := by decide +kernel
theorem d_prog_15_m4_15 : decode prog_15_method_4_code 15 = .ok (.ldc2_w 39, 3) := by decide +kernel
theorem d_prog_15_m4_18 : decode prog_15_method_4_code 18 = .ok (.lrem, 1) := by decide +kernel
theorem d_prog_15_m4_19 : decode prog_15_method_4_code 19 = .ok (.lconst 0, 1) := by decide +kernel
theorem d_prog_15_m4_20 : decode prog_15_method_4_code 20 = .ok (.lcmp, 1) := by decide +kernel
theorem d_prog_15_m4_21 : decode prog_15_method_4_code 21 = .ok (.ifCond .ne 7, 3) := by decide +kernel
theorem d_prog_15_m4_28 : decode prog_15_method_4_code 28 = .ok (.iconst 0, 1) := by decide +kernel
theorem ef_rmW (m : MethodId) (x0 : Addr) (x1 : Int32) (x2 : Addr) : entryFrame m #[(.ref x0), (.int x1), (.ref x2)] 3 = mkF m 0 #[.val (.ref x0), .val (.int x1), .val (.ref x2)] [] := by first | (simp [entryFrame, mkF, argsToLocals, Value.category]; done) | rfl
def Q_rmW (Z : State) (r0 : Addr) (p1 : Int32) (r2 : Addr) (wEI : Addr) (mo : Int32) (h0 : Heap) (n0 : Nat) (v : Option Value) (h : Heap) (L : List Loc) : Prop := ∃ r : Int32, v = some (.int r) ∧ Fr n0 L ∧ h = h0 ∧ (r0 = wEI → r = 1) ∧ (¬ (r0 = wEI) → mo = 12 → r = 1) ∧ (¬ (r0 = wEI) → mo = 3 → r = if p1 &&& (3 : Int32) = (0 : Int32) then 1 else 0)
set_option maxRecDepth 65536 in
set_option maxHeartbeats 40000000 in
theorem rmW (l : Launch) (Z : State) (a0 : Array Value) (hw : ∀ d ∈ tables_1, d.before a0 Z = true) (ws : List Jvm.Cond) (r0 : Addr) (p1 : Int32) (r2 : Addr) (wEI : Addr) (mo : Int32) (h0 : Heap) (n0 : Nat) (Z0 : n0 ≤ h0.size) (S_EI : Sta Z h0 "com/example/vestbook/vestbook/engine/InstallmentAmount" "EACH_INSTALLMENT" "Lcom/example/vestbook/vestbook/engine/InstallmentAmount;" (.ref wEI)) (E_2 : Exa Z h0 r2 "com/example/vestbook/vestbook/engine/InstallmentSpacing") (F : Fld Z h0 r2 "com/example/vestbook/vestbook/engine/InstallmentSpacing" "months" "I" (.int mo)) :
    MetFree l (⟨"com/example/vestbook/vestbook/engine/InstallmentAmount", "workedOutAfreshAfter", "(ILcom/example/vestbook/vestbook/engine/InstallmentSpacing;)Z"⟩ : MethodName) (head1 (Jvm.Cond.code (⟨"com/example/vestbook/vestbook/engine/InstallmentAmount", "workedOutAfreshAfter", "(ILcom/example/vestbook/vestbook/engine/InstallmentSpacing;)Z"⟩ : MethodName) prog_15_method_4_code 3 (some .boolean) :: ws) ({ frames := 1, cells := 0, slots := 0, locals := 14 } : Room)) (fun a U => a = #[(.ref r0), (.int p1), (.ref r2)] ∧ Z.Warmed39 U.vm ∧ U.heap = h0) (fun _ _ _ _ _ => True) (fun _ U o U' => ∃ v L, o = .returned v ∧ Q_rmW Z r0 p1 r2 wEI mo h0 n0 v U'.heap L ∧ FrameEnd U o U' L ({ frames := 1, cells := 0, slots := 0, locals := 14 } : Room).cells ({ frames := 1, cells := 0, slots := 0, locals := 14 } : Room).slots) := by
  refine MetFree.of_bodySF (plainFor_of_name pn_com_example_vestbook_vestbook_engine_InstallmentAmount) hisR ?_
  intro p e s m args below meth c s₁ Bd hml0 hP hK
  obtain ⟨rfl, hZ, hh⟩ := hP
  have hx := Bd.exec
  have hby := Bd.bytes
  have hml : c.maxLocals = 3 := hml0
  have hown : s.vm.findClass "com/example/vestbook/vestbook/engine/InstallmentAmount" = some m.cls := findClass_of_methodNamed Bd.named
  have hnm := (name_of_methodNamed Bd.named Bd.method).1
  have X0 : Stand p l e ({ frames := 1, cells := 0, slots := 0, locals := 14 } : Room) s m #[(.ref r0), (.int p1), (.ref r2)] below meth c s₁ [] 0 0 := Stand.of_body Bd
  have e0 : s₁.heap = h0 := by rw [← hh, Bd.state]; rfl
  have N0 := Fr.nil n0
  have K0 := Keep.refl h0 []
  have pre0 : ∀ t, Steps p.tables e below (s₁.setTop (mkF m 0 #[.val (.ref r0), .val (.int p1), .val (.ref r2)] [])) t → Steps p.tables e below (s₁.setTop (entryFrame m #[(.ref r0), (.int p1), (.ref r2)] 3)) t := fun t k => castTop (ef_rmW m r0 p1 r2) k
  obtain ⟨T1, X1, e1, st1⟩ := getS2 X0 hx hZ hown (host := "") (Or.inl (hw _ (List.mem_of_getElem? (i := 11) rfl))) Via.refl e0 S_EI (g := (mkF m 1 #[.val (.ref r0), .val (.int p1), .val (.ref r2)] [(.ref r0)])) rfl (hb hby d_prog_15_m4_1)
  by_cases ha4 : r0 = wEI
  · obtain ⟨fs, hr, hrun, hended, hW, hsame⟩ := X1.leave (v := some (.int (1 : Int32))) (fun h => by rw [Bd.returns] at h; cases h)
    refine ⟨_, _, pre0 _ ?_, hrun, hended, _, _, rfl, ?_, ⟨_, rfl⟩, hW, hsame.mono (by decide) (by decide)⟩
    · show Steps p.tables e below (s₁.setTop (mkF m 0 #[.val (.ref r0), .val (.int p1), .val (.ref r2)] [])) _
      refine XS.aloadN X0.here hx rfl (hb hby d_prog_15_m4_0) rfl rfl ?_
      show Steps p.tables e below (s₁.setTop (mkF m 1 #[.val (.ref r0), .val (.int p1), .val (.ref r2)] [(.ref r0)])) _
      refine st1 _ ?_
      show Steps p.tables e below (T1.setTop (mkF m 4 #[.val (.ref r0), .val (.int p1), .val (.ref r2)] [(.ref wEI), (.ref r0)])) _
      refine Jvm.RoadKit.acmp (g := (mkF m 4 #[.val (.ref r0), .val (.int p1), .val (.ref r2)] [(.ref wEI), (.ref r0)])) X1 hx rfl rfl rfl (pc0 := 4) (pc' := 24) (same := true) rfl (hb hby d_prog_15_m4_4) rfl (decide_eq_true (congrArg Value.ref ha4)) (by decide) (by decide) ?_
      show Steps p.tables e below (T1.setTop (mkF m 24 #[.val (.ref r0), .val (.int p1), .val (.ref r2)] [])) _
      refine XS.iconst X1.here hx rfl (hb hby d_prog_15_m4_24) ?_
      show Steps p.tables e below (T1.setTop (mkF m 25 #[.val (.ref r0), .val (.int p1), .val (.ref r2)] [(.int (1 : Int32))])) _
      refine XS.goto X1.here hx rfl (pc0 := 25) (pc' := 29) rfl (hb hby d_prog_15_m4_25) (by decide) (by decide) ?_
      show Steps p.tables e below (T1.setTop (mkF m 29 #[.val (.ref r0), .val (.int p1), .val (.ref r2)] [(.int (1 : Int32))])) _
      exact retN X1 hx (t := .boolean) Bd.returns (by simp) (hb hby d_prog_15_m4_29) hr
    · show Q_rmW Z r0 p1 r2 wEI mo h0 n0 _ T1.heap _
      rw [e1]
      exact ⟨1, rfl, N0, rfl, fun _ => rfl, fun q => absurd ha4 q, fun q => absurd ha4 q⟩
  · obtain ⟨cq2, kq2, q2a, q2b, q2c⟩ := isOf hZ e1 E_2
    obtain ⟨_, _, ⟨T2, L2, k2, n2⟩, -, X2, ⟨Lc2, hQ2, l2, y2, z2⟩, st2⟩ := X1.virtualBack hx (y := (⟨"com/example/vestbook/vestbook/engine/InstallmentSpacing", "getMonths", "()I"⟩ : MethodName)) (z := (⟨"com/example/vestbook/vestbook/engine/InstallmentSpacing", "getMonths", "()I"⟩ : MethodName)) hown (mvT hZ (hw _ (List.mem_of_getElem? (i := 13) rfl))) (mvT hZ (hw _ (List.mem_of_getElem? (i := 14) rfl))) (notFace_of_selects (args := #[]) (mvT hZ (hw _ (List.mem_of_getElem? (i := 16) rfl)))) (mvT hZ (hw _ (List.mem_of_getElem? (i := 16) rfl))) (mvT hZ (hw _ (List.mem_of_getElem? (i := 15) rfl))) (by decide) (backOf (W := 2) (rmM l Z a0 hw [] r2 mo h0 n0 Z0 F) hZ (hw _ (List.mem_of_getElem? (i := 17) rfl)) (hw _ (List.mem_of_getElem? (i := 4) rfl)) (by decide) (by decide)) q2a q2c (g := (mkF m 10 #[.val (.ref r0), .val (.int p1), .val (.ref r2)] [(.ref r2), (.long (p1.toInt64))])) rfl (by rw [hml]; rfl) (Steps.refl _) (argsL := []) (rest := [(.long (p1.toInt64))]) (lenOf pd___I rfl) rfl (by show 2 * 0 + _ ≤ _; exact Nat.le_of_eq rfl) (hb hby d_prog_15_m4_10) (fun _ _ => ⟨rfl, e1, (by decide : 0 + 0 ≤ _), (by decide : 0 + 0 ≤ _)⟩)
    dsimp only [Pt.U, Pt.locs, Pt.cells, Pt.slots] at X2 l2 y2 z2 st2 hQ2
    subst l2 y2 z2
    obtain ⟨rfl, N2q, e2⟩ := hQ2
    have N2 := Fr.app N0 N2q
    by_cases hc21 : (lcmpW (((p1.toInt64) * (mo.toInt64)) - (((p1.toInt64) * (mo.toInt64)) / (12 : Int64)) * (12 : Int64)) (0 : Int64)) = (0 : Int32)
    · obtain ⟨fs, hr, hrun, hended, hW, hsame⟩ := X2.leave (v := some (.int (1 : Int32))) (fun h => by rw [Bd.returns] at h; cases h)
      refine ⟨_, _, pre0 _ ?_, hrun, hended, _, _, rfl, ?_, ⟨_, rfl⟩, hW, hsame.mono (by decide) (by decide)⟩
      · show Steps p.tables e below (s₁.setTop (mkF m 0 #[.val (.ref r0), .val (.int p1), .val (.ref r2)] [])) _
        refine XS.aloadN X0.here hx rfl (hb hby d_prog_15_m4_0) rfl rfl ?_
        show Steps p.tables e below (s₁.setTop (mkF m 1 #[.val (.ref r0), .val (.int p1), .val (.ref r2)] [(.ref r0)])) _
        refine st1 _ ?_
        show Steps p.tables e below (T1.setTop (mkF m 4 #[.val (.ref r0), .val (.int p1), .val (.ref r2)] [(.ref wEI), (.ref r0)])) _
        refine Jvm.RoadKit.acmp (g := (mkF m 4 #[.val (.ref r0), .val (.int p1), .val (.ref r2)] [(.ref wEI), (.ref r0)])) X1 hx rfl rfl rfl (pc0 := 4) (pc' := 7) (same := false) rfl (hb hby d_prog_15_m4_4) rfl (decide_eq_false fun q => ha4 (Value.ref.inj q)) (by decide) (by decide) ?_
        show Steps p.tables e below (T1.setTop (mkF m 7 #[.val (.ref r0), .val (.int p1), .val (.ref r2)] [])) _
        refine XS.iloadN X1.here hx rfl (hb hby d_prog_15_m4_7) rfl ?_
        show Steps p.tables e below (T1.setTop (mkF m 8 #[.val (.ref r0), .val (.int p1), .val (.ref r2)] [(.int p1)])) _
        refine XS.i2l X1.here hx rfl (hb hby d_prog_15_m4_8) rfl ?_
        show Steps p.tables e below (T1.setTop (mkF m 9 #[.val (.ref r0), .val (.int p1), .val (.ref r2)] [(.long (p1.toInt64))])) _
        refine XS.aloadN X1.here hx rfl (hb hby d_prog_15_m4_9) rfl rfl ?_
        show Steps p.tables e below (T1.setTop (mkF m 10 #[.val (.ref r0), .val (.int p1), .val (.ref r2)] [(.ref r2), (.long (p1.toInt64))])) _
        refine st2.trans ?_
        show Steps p.tables e below (T2.setTop (mkF m 13 #[.val (.ref r0), .val (.int p1), .val (.ref r2)] [(.int mo), (.long (p1.toInt64))])) _
        refine XS.i2l X2.here hx rfl (hb hby d_prog_15_m4_13) rfl ?_
        show Steps p.tables e below (T2.setTop (mkF m 14 #[.val (.ref r0), .val (.int p1), .val (.ref r2)] [(.long (mo.toInt64)), (.long (p1.toInt64))])) _
        refine XS.lmul X2.here hx rfl (hb hby d_prog_15_m4_14) rfl ?_
        show Steps p.tables e below (T2.setTop (mkF m 15 #[.val (.ref r0), .val (.int p1), .val (.ref r2)] [(.long ((p1.toInt64) * (mo.toInt64)))])) _
        refine X2.ldc2Long hx hown (mvT hZ (hw _ (List.mem_of_getElem? (i := 20) rfl))) (g := (mkF m 15 #[.val (.ref r0), .val (.int p1), .val (.ref r2)] [(.long ((p1.toInt64) * (mo.toInt64)))])) rfl (hb hby d_prog_15_m4_15) _ ?_
        show Steps p.tables e below (T2.setTop (mkF m 18 #[.val (.ref r0), .val (.int p1), .val (.ref r2)] [(.long (12 : Int64)), (.long ((p1.toInt64) * (mo.toInt64)))])) _
        refine XS.lrem X2.here hx rfl (hb hby d_prog_15_m4_18) rfl (by decide) ?_
        show Steps p.tables e below (T2.setTop (mkF m 19 #[.val (.ref r0), .val (.int p1), .val (.ref r2)] [(.long (((p1.toInt64) * (mo.toInt64)) - (((p1.toInt64) * (mo.toInt64)) / (12 : Int64)) * (12 : Int64)))])) _
        refine XS.lconst X2.here hx rfl (hb hby d_prog_15_m4_19) ?_
        show Steps p.tables e below (T2.setTop (mkF m 20 #[.val (.ref r0), .val (.int p1), .val (.ref r2)] [(.long (0 : Int64)), (.long (((p1.toInt64) * (mo.toInt64)) - (((p1.toInt64) * (mo.toInt64)) / (12 : Int64)) * (12 : Int64)))])) _
        refine XS.lcmp X2.here hx rfl (hb hby d_prog_15_m4_20) rfl ?_
        show Steps p.tables e below (T2.setTop (mkF m 21 #[.val (.ref r0), .val (.int p1), .val (.ref r2)] [(.int (lcmpW (((p1.toInt64) * (mo.toInt64)) - (((p1.toInt64) * (mo.toInt64)) / (12 : Int64)) * (12 : Int64)) (0 : Int64)))])) _
        refine XS.ifNo X2.here hx rfl (hb hby d_prog_15_m4_21) rfl ((if0 _ _).trans (teq hc21).2) ?_
        show Steps p.tables e below (T2.setTop (mkF m 24 #[.val (.ref r0), .val (.int p1), .val (.ref r2)] [])) _
        refine XS.iconst X2.here hx rfl (hb hby d_prog_15_m4_24) ?_
        show Steps p.tables e below (T2.setTop (mkF m 25 #[.val (.ref r0), .val (.int p1), .val (.ref r2)] [(.int (1 : Int32))])) _
        refine XS.goto X2.here hx rfl (pc0 := 25) (pc' := 29) rfl (hb hby d_prog_15_m4_25) (by decide) (by decide) ?_
        show Steps p.tables e below (T2.setTop (mkF m 29 #[.val (.ref r0), .val (.int p1), .val (.ref r2)] [(.int (1 : Int32))])) _
        exact retN X2 hx (t := .boolean) Bd.returns (by simp) (hb hby d_prog_15_m4_29) hr
      · show Q_rmW Z r0 p1 r2 wEI mo h0 n0 _ T2.heap _
        rw [e2]
        exact ⟨1, rfl, N2, rfl, fun q => absurd q ha4, fun _ _ => rfl, fun _ hm => (if_pos ((own_3 _ _ hm).mp hc21)).symm⟩
    · obtain ⟨fs, hr, hrun, hended, hW, hsame⟩ := X2.leave (v := some (.int (0 : Int32))) (fun h => by rw [Bd.returns] at h; cases h)
      refine ⟨_, _, pre0 _ ?_, hrun, hended, _, _, rfl, ?_, ⟨_, rfl⟩, hW, hsame.mono (by decide) (by decide)⟩
      · show Steps p.tables e below (s₁.setTop (mkF m 0 #[.val (.ref r0), .val (.int p1), .val (.ref r2)] [])) _
        refine XS.aloadN X0.here hx rfl (hb hby d_prog_15_m4_0) rfl rfl ?_
        show Steps p.tables e below (s₁.setTop (mkF m 1 #[.val (.ref r0), .val (.int p1), .val (.ref r2)] [(.ref r0)])) _
        refine st1 _ ?_
        show Steps p.tables e below (T1.setTop (mkF m 4 #[.val (.ref r0), .val (.int p1), .val (.ref r2)] [(.ref wEI), (.ref r0)])) _
        refine Jvm.RoadKit.acmp (g := (mkF m 4 #[.val (.ref r0), .val (.int p1), .val (.ref r2)] [(.ref wEI), (.ref r0)])) X1 hx rfl rfl rfl (pc0 := 4) (pc' := 7) (same := false) rfl (hb hby d_prog_15_m4_4) rfl (decide_eq_false fun q => ha4 (Value.ref.inj q)) (by decide) (by decide) ?_
        show Steps p.tables e below (T1.setTop (mkF m 7 #[.val (.ref r0), .val (.int p1), .val (.ref r2)] [])) _
        refine XS.iloadN X1.here hx rfl (hb hby d_prog_15_m4_7) rfl ?_
        show Steps p.tables e below (T1.setTop (mkF m 8 #[.val (.ref r0), .val (.int p1), .val (.ref r2)] [(.int p1)])) _
        refine XS.i2l X1.here hx rfl (hb hby d_prog_15_m4_8) rfl ?_
        show Steps p.tables e below (T1.setTop (mkF m 9 #[.val (.ref r0), .val (.int p1), .val (.ref r2)] [(.long (p1.toInt64))])) _
        refine XS.aloadN X1.here hx rfl (hb hby d_prog_15_m4_9) rfl rfl ?_
        show Steps p.tables e below (T1.setTop (mkF m 10 #[.val (.ref r0), .val (.int p1), .val (.ref r2)] [(.ref r2), (.long (p1.toInt64))])) _
        refine st2.trans ?_
        show Steps p.tables e below (T2.setTop (mkF m 13 #[.val (.ref r0), .val (.int p1), .val (.ref r2)] [(.int mo), (.long (p1.toInt64))])) _
        refine XS.i2l X2.here hx rfl (hb hby d_prog_15_m4_13) rfl ?_
        show Steps p.tables e below (T2.setTop (mkF m 14 #[.val (.ref r0), .val (.int p1), .val (.ref r2)] [(.long (mo.toInt64)), (.long (p1.toInt64))])) _
        refine XS.lmul X2.here hx rfl (hb hby d_prog_15_m4_14) rfl ?_
        show Steps p.tables e below (T2.setTop (mkF m 15 #[.val (.ref r0), .val (.int p1), .val (.ref r2)] [(.long ((p1.toInt64) * (mo.toInt64)))])) _
        refine X2.ldc2Long hx hown (mvT hZ (hw _ (List.mem_of_getElem? (i := 20) rfl))) (g := (mkF m 15 #[.val (.ref r0), .val (.int p1), .val (.ref r2)] [(.long ((p1.toInt64) * (mo.toInt64)))])) rfl (hb hby d_prog_15_m4_15) _ ?_
        show Steps p.tables e below (T2.setTop (mkF m 18 #[.val (.ref r0), .val (.int p1), .val (.ref r2)] [(.long (12 : Int64)), (.long ((p1.toInt64) * (mo.toInt64)))])) _
        refine XS.lrem X2.here hx rfl (hb hby d_prog_15_m4_18) rfl (by decide) ?_
        show Steps p.tables e below (T2.setTop (mkF m 19 #[.val (.ref r0), .val (.int p1), .val (.ref r2)] [(.long (((p1.toInt64) * (mo.toInt64)) - (((p1.toInt64) * (mo.toInt64)) / (12 : Int64)) * (12 : Int64)))])) _
        refine XS.lconst X2.here hx rfl (hb hby d_prog_15_m4_19) ?_
        show Steps p.tables e below (T2.setTop (mkF m 20 #[.val (.ref r0), .val (.int p1), .val (.ref r2)] [(.long (0 : Int64)), (.long (((p1.toInt64) * (mo.toInt64)) - (((p1.toInt64) * (mo.toInt64)) / (12 : Int64)) * (12 : Int64)))])) _
        refine XS.lcmp X2.here hx rfl (hb hby d_prog_15_m4_20) rfl ?_
        show Steps p.tables e below (T2.setTop (mkF m 21 #[.val (.ref r0), .val (.int p1), .val (.ref r2)] [(.int (lcmpW (((p1.toInt64) * (mo.toInt64)) - (((p1.toInt64) * (mo.toInt64)) / (12 : Int64)) * (12 : Int64)) (0 : Int64)))])) _
        refine XS.ifYes X2.here hx rfl (pc0 := 21) (pc' := 28) rfl (hb hby d_prog_15_m4_21) rfl ((if0 _ _).trans (feq hc21).2) (by decide) (by decide) ?_
        show Steps p.tables e below (T2.setTop (mkF m 28 #[.val (.ref r0), .val (.int p1), .val (.ref r2)] [])) _
        refine XS.iconst X2.here hx rfl (hb hby d_prog_15_m4_28) ?_
        show Steps p.tables e below (T2.setTop (mkF m 29 #[.val (.ref r0), .val (.int p1), .val (.ref r2)] [(.int (0 : Int32))])) _
        exact retN X2 hx (t := .boolean) Bd.returns (by simp) (hb hby d_prog_15_m4_29) hr
      · show Q_rmW Z r0 p1 r2 wEI mo h0 n0 _ T2.heap _
        rw [e2]
        exact ⟨0, rfl, N2, rfl, fun q => absurd q ha4, fun _ hm => absurd (own_12 _ _ hm) hc21, fun _ hm => (if_neg fun q => hc21 ((own_3 _ _ hm).mpr q)).symm⟩
theorem pn_com_example_vestbook_vestbook_engine_InstallmentAmountWorkedOutAfreshAfterPinLaw : plainName "com/example/vestbook/vestbook/engine/InstallmentAmountWorkedOutAfreshAfterPinLaw" = true := by first | (simp [plainName, overriddenIn]; done) | decide +kernel
theorem pd__ILcom_example_vestbook_vestbook_engine_InstallmentSpacing__Z : parseMethodDescriptor "(ILcom/example/vestbook/vestbook/engine/InstallmentSpacing;)Z" = some ⟨[.int, (.object "com/example/vestbook/vestbook/engine/InstallmentSpacing")], some .boolean⟩ := by decide +kernel
theorem ef_rm0 (m : MethodId) (x0 : Int32) (x1 : Int32) : entryFrame m #[(.int x0), (.int x1)] maxLocals = mkF m 0 #[.val (.int x0), .val (.int x1), .unset, .unset, .unset, .unset] [] := by first | (simp [entryFrame, mkF, argsToLocals, Value.category, maxLocals]; done) | rfl
def Q_rm0 (Z : State) (p0 : Int32) (p1 : Int32) (wEI wEA wAN wQU : Addr) (h0 : Heap) (n0 : Nat) (v : Option Value) (h : Heap) (L : List Loc) : Prop := v = some (.int (1 : Int32)) ∧ Fr n0 L
set_option maxRecDepth 65536 in
set_option maxHeartbeats 40000000 in
theorem rm0 (l : Launch) (Z : State) (a0 : Array Value) (hw : ∀ d ∈ tables_1, d.before a0 Z = true) (ws : List Jvm.Cond) (p0 : Int32) (p1 : Int32) (wEI wEA wAN wQU : Addr) (h0 : Heap) (n0 : Nat) (Z0 : n0 ≤ h0.size) (S_EI : Sta Z h0 "com/example/vestbook/vestbook/engine/InstallmentAmount" "EACH_INSTALLMENT" "Lcom/example/vestbook/vestbook/engine/InstallmentAmount;" (.ref wEI)) (E_EI : Exa Z h0 wEI "com/example/vestbook/vestbook/engine/InstallmentAmount") (S_EA : Sta Z h0 "com/example/vestbook/vestbook/engine/InstallmentAmount" "EACH_ANNIVERSARY" "Lcom/example/vestbook/vestbook/engine/InstallmentAmount;" (.ref wEA)) (E_EA : Exa Z h0 wEA "com/example/vestbook/vestbook/engine/InstallmentAmount") (S_AN : Sta Z h0 "com/example/vestbook/vestbook/engine/InstallmentSpacing" "ANNUAL" "Lcom/example/vestbook/vestbook/engine/InstallmentSpacing;" (.ref wAN)) (E_AN : Exa Z h0 wAN "com/example/vestbook/vestbook/engine/InstallmentSpacing") (S_QU : Sta Z h0 "com/example/vestbook/vestbook/engine/InstallmentSpacing" "QUARTERLY" "Lcom/example/vestbook/vestbook/engine/InstallmentSpacing;" (.ref wQU)) (E_QU : Exa Z h0 wQU "com/example/vestbook/vestbook/engine/InstallmentSpacing") (F_AN : Fld Z h0 wAN "com/example/vestbook/vestbook/engine/InstallmentSpacing" "months" "I" (.int 12)) (F_QU : Fld Z h0 wQU "com/example/vestbook/vestbook/engine/InstallmentSpacing" "months" "I" (.int 3)) (neA : ¬ (wEA = wEI)) (neQ : ¬ (wQU = wAN)) :
    MetFree l x (head1 (Jvm.Cond.code x code maxLocals ret :: ws) room_1) (fun a U => a = #[(.int p0), (.int p1)] ∧ Z.Warmed39 U.vm ∧ U.heap = h0) (fun _ _ _ _ _ => True) (fun _ U o U' => ∃ v L, o = .returned v ∧ Q_rm0 Z p0 p1 wEI wEA wAN wQU h0 n0 v U'.heap L ∧ FrameEnd U o U' L room_1.cells room_1.slots) := by
  refine MetFree.of_bodySF (plainFor_of_name pn_com_example_vestbook_vestbook_engine_InstallmentAmountWorkedOutAfreshAfterPinLaw) hisR ?_
  intro p e s m args below meth c s₁ Bd hml0 hP hK
  obtain ⟨rfl, hZ, hh⟩ := hP
  have hx := Bd.exec
  have hby := Bd.bytes
  have hml : c.maxLocals = 6 := hml0
  have hown : s.vm.findClass "com/example/vestbook/vestbook/engine/InstallmentAmountWorkedOutAfreshAfterPinLaw" = some m.cls := findClass_of_methodNamed Bd.named
  have hnm := (name_of_methodNamed Bd.named Bd.method).1
  have X0 : Stand p l e room_1 s m #[(.int p0), (.int p1)] below meth c s₁ [] 0 0 := Stand.of_body Bd
  have e0 : s₁.heap = h0 := by rw [← hh, Bd.state]; rfl
  have N0 := Fr.nil n0
  have K0 := Keep.refl h0 []
  have pre0 : ∀ t, Steps p.tables e below (s₁.setTop (mkF m 0 #[.val (.int p0), .val (.int p1), .unset, .unset, .unset, .unset] [])) t → Steps p.tables e below (s₁.setTop (entryFrame m #[(.int p0), (.int p1)] maxLocals)) t := fun t k => castTop (ef_rm0 m p0 p1) k
  by_cases hc3 : (p1 &&& (1 : Int32)) = (0 : Int32)
  · obtain ⟨T1, X1, e1, st1⟩ := getS2 X0 hx hZ hown (host := "") (Or.inl (hw _ (List.mem_of_getElem? (i := 21) rfl))) Via.refl e0 S_EI (g := (mkF m 6 #[.val (.int p0), .val (.int p1), .unset, .unset, .unset, .unset] [])) rfl (hb hby at_6)
    by_cases hc19 : (p1 &&& (2 : Int32)) = (0 : Int32)
    · obtain ⟨T2, X2, e2, st2⟩ := getS2 X1 hx hZ hown (host := "") (Or.inl (hw _ (List.mem_of_getElem? (i := 22) rfl))) Via.refl e1 S_AN (g := (mkF m 22 #[.val (.int p0), .val (.int p1), .val (.ref wEI), .unset, .unset, .unset] [])) rfl (hb hby at_22)
      obtain ⟨cq3, kq3, q3a, q3b, q3c⟩ := isOf hZ e2 E_EI
      obtain ⟨_, _, ⟨T3, L3, k3, n3⟩, -, X3, ⟨Lc3, hQ3, l3, y3, z3⟩, st3⟩ := X2.virtualBack hx (y := (⟨"com/example/vestbook/vestbook/engine/InstallmentAmount", "workedOutAfreshAfter", "(ILcom/example/vestbook/vestbook/engine/InstallmentSpacing;)Z"⟩ : MethodName)) (z := (⟨"com/example/vestbook/vestbook/engine/InstallmentAmount", "workedOutAfreshAfter", "(ILcom/example/vestbook/vestbook/engine/InstallmentSpacing;)Z"⟩ : MethodName)) hown (mvT hZ (hw _ (List.mem_of_getElem? (i := 6) rfl))) (mvT hZ (hw _ (List.mem_of_getElem? (i := 7) rfl))) (notFace_of_selects (args := #[]) (mvT hZ (hw _ (List.mem_of_getElem? (i := 9) rfl)))) (mvT hZ (hw _ (List.mem_of_getElem? (i := 9) rfl))) (mvT hZ (hw _ (List.mem_of_getElem? (i := 8) rfl))) (by decide) (backOf (W := 0) (rmW l Z a0 hw [] wEI p0 wAN wEI (12 : Int32) h0 n0 Z0 S_EI E_AN F_AN) hZ (hw _ (List.mem_of_getElem? (i := 10) rfl)) (hw _ (List.mem_of_getElem? (i := 1) rfl)) (by decide) (by decide)) q3a q3c (g := (mkF m 35 #[.val (.int p0), .val (.int p1), .val (.ref wEI), .val (.ref wAN), .unset, .unset] [(.ref wAN), (.int p0), (.ref wEI)])) rfl (by rw [hml]; rfl) (Steps.refl _) (argsL := [(.int p0), (.ref wAN)]) (rest := []) (lenOf pd__ILcom_example_vestbook_vestbook_engine_InstallmentSpacing__Z rfl) rfl (by show 2 * 0 + _ ≤ _; exact Nat.le_of_eq rfl) (hb hby at_35) (fun _ _ => ⟨rfl, e2, (by decide : 0 + 0 ≤ _), (by decide : 0 + 0 ≤ _)⟩)
      dsimp only [Pt.U, Pt.locs, Pt.cells, Pt.slots] at X3 l3 y3 z3 st3 hQ3
      subst l3 y3 z3
      obtain ⟨r, rfl, N3q, e3, hr1, hr2, hr3⟩ := hQ3
      have N3 := Fr.app N0 N3q
      obtain ⟨T4, X4, e4, st4⟩ := getS2 X3 hx hZ hown (host := "") (Or.inl (hw _ (List.mem_of_getElem? (i := 21) rfl))) Via.refl e3 S_EI (g := (mkF m 41 #[.val (.int p0), .val (.int p1), .val (.ref wEI), .val (.ref wAN), .val (.int r), .unset] [(.ref wEI)])) rfl (hb hby at_41)
      obtain ⟨fs, hr, hrun, hended, hW, hsame⟩ := X4.leave (v := some (.int (1 : Int32))) (fun h => by rw [Bd.returns] at h; cases h)
      refine ⟨_, _, pre0 _ ?_, hrun, hended, _, _, rfl, ?_, ⟨_, rfl⟩, hW, hsame.mono (by decide) (by decide)⟩
      · show Steps p.tables e below (s₁.setTop (mkF m 0 #[.val (.int p0), .val (.int p1), .unset, .unset, .unset, .unset] [])) _
        refine XS.iloadN X0.here hx rfl (hb hby at_0) rfl ?_
        show Steps p.tables e below (s₁.setTop (mkF m 1 #[.val (.int p0), .val (.int p1), .unset, .unset, .unset, .unset] [(.int p1)])) _
        refine XS.iconst X0.here hx rfl (hb hby at_1) ?_
        show Steps p.tables e below (s₁.setTop (mkF m 2 #[.val (.int p0), .val (.int p1), .unset, .unset, .unset, .unset] [(.int (1 : Int32)), (.int p1)])) _
        refine XS.iand X0.here hx rfl (hb hby at_2) rfl ?_
        show Steps p.tables e below (s₁.setTop (mkF m 3 #[.val (.int p0), .val (.int p1), .unset, .unset, .unset, .unset] [(.int (p1 &&& (1 : Int32)))])) _
        refine XS.ifNo X0.here hx rfl (hb hby at_3) rfl ((if0 _ _).trans (teq hc3).2) ?_
        show Steps p.tables e below (s₁.setTop (mkF m 6 #[.val (.int p0), .val (.int p1), .unset, .unset, .unset, .unset] [])) _
        refine st1 _ ?_
        show Steps p.tables e below (T1.setTop (mkF m 9 #[.val (.int p0), .val (.int p1), .unset, .unset, .unset, .unset] [(.ref wEI)])) _
        refine XS.goto X1.here hx rfl (pc0 := 9) (pc' := 15) rfl (hb hby at_9) (by decide) (by decide) ?_
        show Steps p.tables e below (T1.setTop (mkF m 15 #[.val (.int p0), .val (.int p1), .unset, .unset, .unset, .unset] [(.ref wEI)])) _
        refine XS.astoreN X1.here hx rfl (hb hby at_15) rfl rfl (l' := #[.val (.int p0), .val (.int p1), .val (.ref wEI), .unset, .unset, .unset]) rfl ?_
        show Steps p.tables e below (T1.setTop (mkF m 16 #[.val (.int p0), .val (.int p1), .val (.ref wEI), .unset, .unset, .unset] [])) _
        refine XS.iloadN X1.here hx rfl (hb hby at_16) rfl ?_
        show Steps p.tables e below (T1.setTop (mkF m 17 #[.val (.int p0), .val (.int p1), .val (.ref wEI), .unset, .unset, .unset] [(.int p1)])) _
        refine XS.iconst X1.here hx rfl (hb hby at_17) ?_
        show Steps p.tables e below (T1.setTop (mkF m 18 #[.val (.int p0), .val (.int p1), .val (.ref wEI), .unset, .unset, .unset] [(.int (2 : Int32)), (.int p1)])) _
        refine XS.iand X1.here hx rfl (hb hby at_18) rfl ?_
        show Steps p.tables e below (T1.setTop (mkF m 19 #[.val (.int p0), .val (.int p1), .val (.ref wEI), .unset, .unset, .unset] [(.int (p1 &&& (2 : Int32)))])) _
        refine XS.ifNo X1.here hx rfl (hb hby at_19) rfl ((if0 _ _).trans (teq hc19).2) ?_
        show Steps p.tables e below (T1.setTop (mkF m 22 #[.val (.int p0), .val (.int p1), .val (.ref wEI), .unset, .unset, .unset] [])) _
        refine st2 _ ?_
        show Steps p.tables e below (T2.setTop (mkF m 25 #[.val (.int p0), .val (.int p1), .val (.ref wEI), .unset, .unset, .unset] [(.ref wAN)])) _
        refine XS.goto X2.here hx rfl (pc0 := 25) (pc' := 31) rfl (hb hby at_25) (by decide) (by decide) ?_
        show Steps p.tables e below (T2.setTop (mkF m 31 #[.val (.int p0), .val (.int p1), .val (.ref wEI), .unset, .unset, .unset] [(.ref wAN)])) _
        refine XS.astoreN X2.here hx rfl (hb hby at_31) rfl rfl (l' := #[.val (.int p0), .val (.int p1), .val (.ref wEI), .val (.ref wAN), .unset, .unset]) rfl ?_
        show Steps p.tables e below (T2.setTop (mkF m 32 #[.val (.int p0), .val (.int p1), .val (.ref wEI), .val (.ref wAN), .unset, .unset] [])) _
        refine XS.aloadN X2.here hx rfl (hb hby at_32) rfl rfl ?_
        show Steps p.tables e below (T2.setTop (mkF m 33 #[.val (.int p0), .val (.int p1), .val (.ref wEI), .val (.ref wAN), .unset, .unset] [(.ref wEI)])) _
        refine XS.iloadN X2.here hx rfl (hb hby at_33) rfl ?_
        show Steps p.tables e below (T2.setTop (mkF m 34 #[.val (.int p0), .val (.int p1), .val (.ref wEI), .val (.ref wAN), .unset, .unset] [(.int p0), (.ref wEI)])) _
        refine XS.aloadN X2.here hx rfl (hb hby at_34) rfl rfl ?_
        show Steps p.tables e below (T2.setTop (mkF m 35 #[.val (.int p0), .val (.int p1), .val (.ref wEI), .val (.ref wAN), .unset, .unset] [(.ref wAN), (.int p0), (.ref wEI)])) _
        refine st3.trans ?_
        show Steps p.tables e below (T3.setTop (mkF m 38 #[.val (.int p0), .val (.int p1), .val (.ref wEI), .val (.ref wAN), .unset, .unset] [(.int r)])) _
        refine XS.istore X3.here hx rfl (hb hby at_38) rfl (l' := #[.val (.int p0), .val (.int p1), .val (.ref wEI), .val (.ref wAN), .val (.int r), .unset]) rfl ?_
        show Steps p.tables e below (T3.setTop (mkF m 40 #[.val (.int p0), .val (.int p1), .val (.ref wEI), .val (.ref wAN), .val (.int r), .unset] [])) _
        refine XS.aloadN X3.here hx rfl (hb hby at_40) rfl rfl ?_
        show Steps p.tables e below (T3.setTop (mkF m 41 #[.val (.int p0), .val (.int p1), .val (.ref wEI), .val (.ref wAN), .val (.int r), .unset] [(.ref wEI)])) _
        refine st4 _ ?_
        show Steps p.tables e below (T4.setTop (mkF m 44 #[.val (.int p0), .val (.int p1), .val (.ref wEI), .val (.ref wAN), .val (.int r), .unset] [(.ref wEI), (.ref wEI)])) _
        refine Jvm.RoadKit.acmp (g := (mkF m 44 #[.val (.int p0), .val (.int p1), .val (.ref wEI), .val (.ref wAN), .val (.int r), .unset] [(.ref wEI), (.ref wEI)])) X4 hx rfl rfl rfl (pc0 := 44) (pc' := 47) (same := true) rfl (hb hby at_44) rfl (decide_eq_true rfl) (by decide) (by decide) ?_
        show Steps p.tables e below (T4.setTop (mkF m 47 #[.val (.int p0), .val (.int p1), .val (.ref wEI), .val (.ref wAN), .val (.int r), .unset] [])) _
        refine XS.iconst X4.here hx rfl (hb hby at_47) ?_
        show Steps p.tables e below (T4.setTop (mkF m 48 #[.val (.int p0), .val (.int p1), .val (.ref wEI), .val (.ref wAN), .val (.int r), .unset] [(.int (1 : Int32))])) _
        refine XS.istore X4.here hx rfl (hb hby at_48) rfl (l' := #[.val (.int p0), .val (.int p1), .val (.ref wEI), .val (.ref wAN), .val (.int r), .val (.int (1 : Int32))]) rfl ?_
        show Steps p.tables e below (T4.setTop (mkF m 50 #[.val (.int p0), .val (.int p1), .val (.ref wEI), .val (.ref wAN), .val (.int r), .val (.int (1 : Int32))] [])) _
        refine XS.goto X4.here hx rfl (pc0 := 50) (pc' := 79) rfl (hb hby at_50) (by decide) (by decide) ?_
        show Steps p.tables e below (T4.setTop (mkF m 79 #[.val (.int p0), .val (.int p1), .val (.ref wEI), .val (.ref wAN), .val (.int r), .val (.int (1 : Int32))] [])) _
        refine XS.iload X4.here hx rfl (hb hby at_79) rfl ?_
        show Steps p.tables e below (T4.setTop (mkF m 81 #[.val (.int p0), .val (.int p1), .val (.ref wEI), .val (.ref wAN), .val (.int r), .val (.int (1 : Int32))] [(.int r)])) _
        refine XS.iload X4.here hx rfl (hb hby at_81) rfl ?_
        show Steps p.tables e below (T4.setTop (mkF m 83 #[.val (.int p0), .val (.int p1), .val (.ref wEI), .val (.ref wAN), .val (.int r), .val (.int (1 : Int32))] [(.int (1 : Int32)), (.int r)])) _
        refine XS.icmpNo X4.here hx rfl (hb hby at_83) rfl (teq (hr1 rfl)).2 ?_
        show Steps p.tables e below (T4.setTop (mkF m 86 #[.val (.int p0), .val (.int p1), .val (.ref wEI), .val (.ref wAN), .val (.int r), .val (.int (1 : Int32))] [])) _
        refine XS.iconst X4.here hx rfl (hb hby at_86) ?_
        show Steps p.tables e below (T4.setTop (mkF m 87 #[.val (.int p0), .val (.int p1), .val (.ref wEI), .val (.ref wAN), .val (.int r), .val (.int (1 : Int32))] [(.int (1 : Int32))])) _
        refine XS.goto X4.here hx rfl (pc0 := 87) (pc' := 91) rfl (hb hby at_87) (by decide) (by decide) ?_
        show Steps p.tables e below (T4.setTop (mkF m 91 #[.val (.int p0), .val (.int p1), .val (.ref wEI), .val (.ref wAN), .val (.int r), .val (.int (1 : Int32))] [(.int (1 : Int32))])) _
        exact retN X4 hx (t := .boolean) Bd.returns (by simp) (hb hby at_91) hr
      · show Q_rm0 Z p0 p1 wEI wEA wAN wQU h0 n0 _ T4.heap _
        rw [e4]
        exact ⟨rfl, N3⟩
    · obtain ⟨T5, X5, e5, st5⟩ := getS2 X1 hx hZ hown (host := "") (Or.inl (hw _ (List.mem_of_getElem? (i := 3) rfl))) Via.refl e1 S_QU (g := (mkF m 28 #[.val (.int p0), .val (.int p1), .val (.ref wEI), .unset, .unset, .unset] [])) rfl (hb hby at_28)
      obtain ⟨cq6, kq6, q6a, q6b, q6c⟩ := isOf hZ e5 E_EI
      obtain ⟨_, _, ⟨T6, L6, k6, n6⟩, -, X6, ⟨Lc6, hQ6, l6, y6, z6⟩, st6⟩ := X5.virtualBack hx (y := (⟨"com/example/vestbook/vestbook/engine/InstallmentAmount", "workedOutAfreshAfter", "(ILcom/example/vestbook/vestbook/engine/InstallmentSpacing;)Z"⟩ : MethodName)) (z := (⟨"com/example/vestbook/vestbook/engine/InstallmentAmount", "workedOutAfreshAfter", "(ILcom/example/vestbook/vestbook/engine/InstallmentSpacing;)Z"⟩ : MethodName)) hown (mvT hZ (hw _ (List.mem_of_getElem? (i := 6) rfl))) (mvT hZ (hw _ (List.mem_of_getElem? (i := 7) rfl))) (notFace_of_selects (args := #[]) (mvT hZ (hw _ (List.mem_of_getElem? (i := 9) rfl)))) (mvT hZ (hw _ (List.mem_of_getElem? (i := 9) rfl))) (mvT hZ (hw _ (List.mem_of_getElem? (i := 8) rfl))) (by decide) (backOf (W := 0) (rmW l Z a0 hw [] wEI p0 wQU wEI (3 : Int32) h0 n0 Z0 S_EI E_QU F_QU) hZ (hw _ (List.mem_of_getElem? (i := 10) rfl)) (hw _ (List.mem_of_getElem? (i := 1) rfl)) (by decide) (by decide)) q6a q6c (g := (mkF m 35 #[.val (.int p0), .val (.int p1), .val (.ref wEI), .val (.ref wQU), .unset, .unset] [(.ref wQU), (.int p0), (.ref wEI)])) rfl (by rw [hml]; rfl) (Steps.refl _) (argsL := [(.int p0), (.ref wQU)]) (rest := []) (lenOf pd__ILcom_example_vestbook_vestbook_engine_InstallmentSpacing__Z rfl) rfl (by show 2 * 0 + _ ≤ _; exact Nat.le_of_eq rfl) (hb hby at_35) (fun _ _ => ⟨rfl, e5, (by decide : 0 + 0 ≤ _), (by decide : 0 + 0 ≤ _)⟩)
      dsimp only [Pt.U, Pt.locs, Pt.cells, Pt.slots] at X6 l6 y6 z6 st6 hQ6
      subst l6 y6 z6
      obtain ⟨r, rfl, N6q, e6, hr1, hr2, hr3⟩ := hQ6
      have N6 := Fr.app N0 N6q
      obtain ⟨T7, X7, e7, st7⟩ := getS2 X6 hx hZ hown (host := "") (Or.inl (hw _ (List.mem_of_getElem? (i := 21) rfl))) Via.refl e6 S_EI (g := (mkF m 41 #[.val (.int p0), .val (.int p1), .val (.ref wEI), .val (.ref wQU), .val (.int r), .unset] [(.ref wEI)])) rfl (hb hby at_41)
      obtain ⟨fs, hr, hrun, hended, hW, hsame⟩ := X7.leave (v := some (.int (1 : Int32))) (fun h => by rw [Bd.returns] at h; cases h)
      refine ⟨_, _, pre0 _ ?_, hrun, hended, _, _, rfl, ?_, ⟨_, rfl⟩, hW, hsame.mono (by decide) (by decide)⟩
      · show Steps p.tables e below (s₁.setTop (mkF m 0 #[.val (.int p0), .val (.int p1), .unset, .unset, .unset, .unset] [])) _
        refine XS.iloadN X0.here hx rfl (hb hby at_0) rfl ?_
        show Steps p.tables e below (s₁.setTop (mkF m 1 #[.val (.int p0), .val (.int p1), .unset, .unset, .unset, .unset] [(.int p1)])) _
        refine XS.iconst X0.here hx rfl (hb hby at_1) ?_
        show Steps p.tables e below (s₁.setTop (mkF m 2 #[.val (.int p0), .val (.int p1), .unset, .unset, .unset, .unset] [(.int (1 : Int32)), (.int p1)])) _
        refine XS.iand X0.here hx rfl (hb hby at_2) rfl ?_
        show Steps p.tables e below (s₁.setTop (mkF m 3 #[.val (.int p0), .val (.int p1), .unset, .unset, .unset, .unset] [(.int (p1 &&& (1 : Int32)))])) _
        refine XS.ifNo X0.here hx rfl (hb hby at_3) rfl ((if0 _ _).trans (teq hc3).2) ?_
        show Steps p.tables e below (s₁.setTop (mkF m 6 #[.val (.int p0), .val (.int p1), .unset, .unset, .unset, .unset] [])) _
        refine st1 _ ?_
        show Steps p.tables e below (T1.setTop (mkF m 9 #[.val (.int p0), .val (.int p1), .unset, .unset, .unset, .unset] [(.ref wEI)])) _
        refine XS.goto X1.here hx rfl (pc0 := 9) (pc' := 15) rfl (hb hby at_9) (by decide) (by decide) ?_
        show Steps p.tables e below (T1.setTop (mkF m 15 #[.val (.int p0), .val (.int p1), .unset, .unset, .unset, .unset] [(.ref wEI)])) _
        refine XS.astoreN X1.here hx rfl (hb hby at_15) rfl rfl (l' := #[.val (.int p0), .val (.int p1), .val (.ref wEI), .unset, .unset, .unset]) rfl ?_
        show Steps p.tables e below (T1.setTop (mkF m 16 #[.val (.int p0), .val (.int p1), .val (.ref wEI), .unset, .unset, .unset] [])) _
        refine XS.iloadN X1.here hx rfl (hb hby at_16) rfl ?_
        show Steps p.tables e below (T1.setTop (mkF m 17 #[.val (.int p0), .val (.int p1), .val (.ref wEI), .unset, .unset, .unset] [(.int p1)])) _
        refine XS.iconst X1.here hx rfl (hb hby at_17) ?_
        show Steps p.tables e below (T1.setTop (mkF m 18 #[.val (.int p0), .val (.int p1), .val (.ref wEI), .unset, .unset, .unset] [(.int (2 : Int32)), (.int p1)])) _
        refine XS.iand X1.here hx rfl (hb hby at_18) rfl ?_
        show Steps p.tables e below (T1.setTop (mkF m 19 #[.val (.int p0), .val (.int p1), .val (.ref wEI), .unset, .unset, .unset] [(.int (p1 &&& (2 : Int32)))])) _
        refine XS.ifYes X1.here hx rfl (pc0 := 19) (pc' := 28) rfl (hb hby at_19) rfl ((if0 _ _).trans (feq hc19).2) (by decide) (by decide) ?_
        show Steps p.tables e below (T1.setTop (mkF m 28 #[.val (.int p0), .val (.int p1), .val (.ref wEI), .unset, .unset, .unset] [])) _
        refine st5 _ ?_
        show Steps p.tables e below (T5.setTop (mkF m 31 #[.val (.int p0), .val (.int p1), .val (.ref wEI), .unset, .unset, .unset] [(.ref wQU)])) _
        refine XS.astoreN X5.here hx rfl (hb hby at_31) rfl rfl (l' := #[.val (.int p0), .val (.int p1), .val (.ref wEI), .val (.ref wQU), .unset, .unset]) rfl ?_
        show Steps p.tables e below (T5.setTop (mkF m 32 #[.val (.int p0), .val (.int p1), .val (.ref wEI), .val (.ref wQU), .unset, .unset] [])) _
        refine XS.aloadN X5.here hx rfl (hb hby at_32) rfl rfl ?_
        show Steps p.tables e below (T5.setTop (mkF m 33 #[.val (.int p0), .val (.int p1), .val (.ref wEI), .val (.ref wQU), .unset, .unset] [(.ref wEI)])) _
        refine XS.iloadN X5.here hx rfl (hb hby at_33) rfl ?_
        show Steps p.tables e below (T5.setTop (mkF m 34 #[.val (.int p0), .val (.int p1), .val (.ref wEI), .val (.ref wQU), .unset, .unset] [(.int p0), (.ref wEI)])) _
        refine XS.aloadN X5.here hx rfl (hb hby at_34) rfl rfl ?_
        show Steps p.tables e below (T5.setTop (mkF m 35 #[.val (.int p0), .val (.int p1), .val (.ref wEI), .val (.ref wQU), .unset, .unset] [(.ref wQU), (.int p0), (.ref wEI)])) _
        refine st6.trans ?_
        show Steps p.tables e below (T6.setTop (mkF m 38 #[.val (.int p0), .val (.int p1), .val (.ref wEI), .val (.ref wQU), .unset, .unset] [(.int r)])) _
        refine XS.istore X6.here hx rfl (hb hby at_38) rfl (l' := #[.val (.int p0), .val (.int p1), .val (.ref wEI), .val (.ref wQU), .val (.int r), .unset]) rfl ?_
        show Steps p.tables e below (T6.setTop (mkF m 40 #[.val (.int p0), .val (.int p1), .val (.ref wEI), .val (.ref wQU), .val (.int r), .unset] [])) _
        refine XS.aloadN X6.here hx rfl (hb hby at_40) rfl rfl ?_
        show Steps p.tables e below (T6.setTop (mkF m 41 #[.val (.int p0), .val (.int p1), .val (.ref wEI), .val (.ref wQU), .val (.int r), .unset] [(.ref wEI)])) _
        refine st7 _ ?_
        show Steps p.tables e below (T7.setTop (mkF m 44 #[.val (.int p0), .val (.int p1), .val (.ref wEI), .val (.ref wQU), .val (.int r), .unset] [(.ref wEI), (.ref wEI)])) _
        refine Jvm.RoadKit.acmp (g := (mkF m 44 #[.val (.int p0), .val (.int p1), .val (.ref wEI), .val (.ref wQU), .val (.int r), .unset] [(.ref wEI), (.ref wEI)])) X7 hx rfl rfl rfl (pc0 := 44) (pc' := 47) (same := true) rfl (hb hby at_44) rfl (decide_eq_true rfl) (by decide) (by decide) ?_
        show Steps p.tables e below (T7.setTop (mkF m 47 #[.val (.int p0), .val (.int p1), .val (.ref wEI), .val (.ref wQU), .val (.int r), .unset] [])) _
        refine XS.iconst X7.here hx rfl (hb hby at_47) ?_
        show Steps p.tables e below (T7.setTop (mkF m 48 #[.val (.int p0), .val (.int p1), .val (.ref wEI), .val (.ref wQU), .val (.int r), .unset] [(.int (1 : Int32))])) _
        refine XS.istore X7.here hx rfl (hb hby at_48) rfl (l' := #[.val (.int p0), .val (.int p1), .val (.ref wEI), .val (.ref wQU), .val (.int r), .val (.int (1 : Int32))]) rfl ?_
        show Steps p.tables e below (T7.setTop (mkF m 50 #[.val (.int p0), .val (.int p1), .val (.ref wEI), .val (.ref wQU), .val (.int r), .val (.int (1 : Int32))] [])) _
        refine XS.goto X7.here hx rfl (pc0 := 50) (pc' := 79) rfl (hb hby at_50) (by decide) (by decide) ?_
        show Steps p.tables e below (T7.setTop (mkF m 79 #[.val (.int p0), .val (.int p1), .val (.ref wEI), .val (.ref wQU), .val (.int r), .val (.int (1 : Int32))] [])) _
        refine XS.iload X7.here hx rfl (hb hby at_79) rfl ?_
        show Steps p.tables e below (T7.setTop (mkF m 81 #[.val (.int p0), .val (.int p1), .val (.ref wEI), .val (.ref wQU), .val (.int r), .val (.int (1 : Int32))] [(.int r)])) _
        refine XS.iload X7.here hx rfl (hb hby at_81) rfl ?_
        show Steps p.tables e below (T7.setTop (mkF m 83 #[.val (.int p0), .val (.int p1), .val (.ref wEI), .val (.ref wQU), .val (.int r), .val (.int (1 : Int32))] [(.int (1 : Int32)), (.int r)])) _
        refine XS.icmpNo X7.here hx rfl (hb hby at_83) rfl (teq (hr1 rfl)).2 ?_
        show Steps p.tables e below (T7.setTop (mkF m 86 #[.val (.int p0), .val (.int p1), .val (.ref wEI), .val (.ref wQU), .val (.int r), .val (.int (1 : Int32))] [])) _
        refine XS.iconst X7.here hx rfl (hb hby at_86) ?_
        show Steps p.tables e below (T7.setTop (mkF m 87 #[.val (.int p0), .val (.int p1), .val (.ref wEI), .val (.ref wQU), .val (.int r), .val (.int (1 : Int32))] [(.int (1 : Int32))])) _
        refine XS.goto X7.here hx rfl (pc0 := 87) (pc' := 91) rfl (hb hby at_87) (by decide) (by decide) ?_
        show Steps p.tables e below (T7.setTop (mkF m 91 #[.val (.int p0), .val (.int p1), .val (.ref wEI), .val (.ref wQU), .val (.int r), .val (.int (1 : Int32))] [(.int (1 : Int32))])) _
        exact retN X7 hx (t := .boolean) Bd.returns (by simp) (hb hby at_91) hr
      · show Q_rm0 Z p0 p1 wEI wEA wAN wQU h0 n0 _ T7.heap _
        rw [e7]
        exact ⟨rfl, N6⟩
  · obtain ⟨T8, X8, e8, st8⟩ := getS2 X0 hx hZ hown (host := "") (Or.inl (hw _ (List.mem_of_getElem? (i := 0) rfl))) Via.refl e0 S_EA (g := (mkF m 12 #[.val (.int p0), .val (.int p1), .unset, .unset, .unset, .unset] [])) rfl (hb hby at_12)
    by_cases hc19 : (p1 &&& (2 : Int32)) = (0 : Int32)
    · obtain ⟨T9, X9, e9, st9⟩ := getS2 X8 hx hZ hown (host := "") (Or.inl (hw _ (List.mem_of_getElem? (i := 22) rfl))) Via.refl e8 S_AN (g := (mkF m 22 #[.val (.int p0), .val (.int p1), .val (.ref wEA), .unset, .unset, .unset] [])) rfl (hb hby at_22)
      obtain ⟨cq10, kq10, q10a, q10b, q10c⟩ := isOf hZ e9 E_EA
      obtain ⟨_, _, ⟨T10, L10, k10, n10⟩, -, X10, ⟨Lc10, hQ10, l10, y10, z10⟩, st10⟩ := X9.virtualBack hx (y := (⟨"com/example/vestbook/vestbook/engine/InstallmentAmount", "workedOutAfreshAfter", "(ILcom/example/vestbook/vestbook/engine/InstallmentSpacing;)Z"⟩ : MethodName)) (z := (⟨"com/example/vestbook/vestbook/engine/InstallmentAmount", "workedOutAfreshAfter", "(ILcom/example/vestbook/vestbook/engine/InstallmentSpacing;)Z"⟩ : MethodName)) hown (mvT hZ (hw _ (List.mem_of_getElem? (i := 6) rfl))) (mvT hZ (hw _ (List.mem_of_getElem? (i := 7) rfl))) (notFace_of_selects (args := #[]) (mvT hZ (hw _ (List.mem_of_getElem? (i := 9) rfl)))) (mvT hZ (hw _ (List.mem_of_getElem? (i := 9) rfl))) (mvT hZ (hw _ (List.mem_of_getElem? (i := 8) rfl))) (by decide) (backOf (W := 0) (rmW l Z a0 hw [] wEA p0 wAN wEI (12 : Int32) h0 n0 Z0 S_EI E_AN F_AN) hZ (hw _ (List.mem_of_getElem? (i := 10) rfl)) (hw _ (List.mem_of_getElem? (i := 1) rfl)) (by decide) (by decide)) q10a q10c (g := (mkF m 35 #[.val (.int p0), .val (.int p1), .val (.ref wEA), .val (.ref wAN), .unset, .unset] [(.ref wAN), (.int p0), (.ref wEA)])) rfl (by rw [hml]; rfl) (Steps.refl _) (argsL := [(.int p0), (.ref wAN)]) (rest := []) (lenOf pd__ILcom_example_vestbook_vestbook_engine_InstallmentSpacing__Z rfl) rfl (by show 2 * 0 + _ ≤ _; exact Nat.le_of_eq rfl) (hb hby at_35) (fun _ _ => ⟨rfl, e9, (by decide : 0 + 0 ≤ _), (by decide : 0 + 0 ≤ _)⟩)
      dsimp only [Pt.U, Pt.locs, Pt.cells, Pt.slots] at X10 l10 y10 z10 st10 hQ10
      subst l10 y10 z10
      obtain ⟨r, rfl, N10q, e10, hr1, hr2, hr3⟩ := hQ10
      have N10 := Fr.app N0 N10q
      obtain ⟨T11, X11, e11, st11⟩ := getS2 X10 hx hZ hown (host := "") (Or.inl (hw _ (List.mem_of_getElem? (i := 21) rfl))) Via.refl e10 S_EI (g := (mkF m 41 #[.val (.int p0), .val (.int p1), .val (.ref wEA), .val (.ref wAN), .val (.int r), .unset] [(.ref wEA)])) rfl (hb hby at_41)
      obtain ⟨T12, X12, e12, st12⟩ := getS2 X11 hx hZ hown (host := "") (Or.inl (hw _ (List.mem_of_getElem? (i := 22) rfl))) Via.refl e11 S_AN (g := (mkF m 54 #[.val (.int p0), .val (.int p1), .val (.ref wEA), .val (.ref wAN), .val (.int r), .unset] [(.ref wAN)])) rfl (hb hby at_54)
      obtain ⟨fs, hr, hrun, hended, hW, hsame⟩ := X12.leave (v := some (.int (1 : Int32))) (fun h => by rw [Bd.returns] at h; cases h)
      refine ⟨_, _, pre0 _ ?_, hrun, hended, _, _, rfl, ?_, ⟨_, rfl⟩, hW, hsame.mono (by decide) (by decide)⟩
      · show Steps p.tables e below (s₁.setTop (mkF m 0 #[.val (.int p0), .val (.int p1), .unset, .unset, .unset, .unset] [])) _
        refine XS.iloadN X0.here hx rfl (hb hby at_0) rfl ?_
        show Steps p.tables e below (s₁.setTop (mkF m 1 #[.val (.int p0), .val (.int p1), .unset, .unset, .unset, .unset] [(.int p1)])) _
        refine XS.iconst X0.here hx rfl (hb hby at_1) ?_
        show Steps p.tables e below (s₁.setTop (mkF m 2 #[.val (.int p0), .val (.int p1), .unset, .unset, .unset, .unset] [(.int (1 : Int32)), (.int p1)])) _
        refine XS.iand X0.here hx rfl (hb hby at_2) rfl ?_
        show Steps p.tables e below (s₁.setTop (mkF m 3 #[.val (.int p0), .val (.int p1), .unset, .unset, .unset, .unset] [(.int (p1 &&& (1 : Int32)))])) _
        refine XS.ifYes X0.here hx rfl (pc0 := 3) (pc' := 12) rfl (hb hby at_3) rfl ((if0 _ _).trans (feq hc3).2) (by decide) (by decide) ?_
        show Steps p.tables e below (s₁.setTop (mkF m 12 #[.val (.int p0), .val (.int p1), .unset, .unset, .unset, .unset] [])) _
        refine st8 _ ?_
        show Steps p.tables e below (T8.setTop (mkF m 15 #[.val (.int p0), .val (.int p1), .unset, .unset, .unset, .unset] [(.ref wEA)])) _
        refine XS.astoreN X8.here hx rfl (hb hby at_15) rfl rfl (l' := #[.val (.int p0), .val (.int p1), .val (.ref wEA), .unset, .unset, .unset]) rfl ?_
        show Steps p.tables e below (T8.setTop (mkF m 16 #[.val (.int p0), .val (.int p1), .val (.ref wEA), .unset, .unset, .unset] [])) _
        refine XS.iloadN X8.here hx rfl (hb hby at_16) rfl ?_
        show Steps p.tables e below (T8.setTop (mkF m 17 #[.val (.int p0), .val (.int p1), .val (.ref wEA), .unset, .unset, .unset] [(.int p1)])) _
        refine XS.iconst X8.here hx rfl (hb hby at_17) ?_
        show Steps p.tables e below (T8.setTop (mkF m 18 #[.val (.int p0), .val (.int p1), .val (.ref wEA), .unset, .unset, .unset] [(.int (2 : Int32)), (.int p1)])) _
        refine XS.iand X8.here hx rfl (hb hby at_18) rfl ?_
        show Steps p.tables e below (T8.setTop (mkF m 19 #[.val (.int p0), .val (.int p1), .val (.ref wEA), .unset, .unset, .unset] [(.int (p1 &&& (2 : Int32)))])) _
        refine XS.ifNo X8.here hx rfl (hb hby at_19) rfl ((if0 _ _).trans (teq hc19).2) ?_
        show Steps p.tables e below (T8.setTop (mkF m 22 #[.val (.int p0), .val (.int p1), .val (.ref wEA), .unset, .unset, .unset] [])) _
        refine st9 _ ?_
        show Steps p.tables e below (T9.setTop (mkF m 25 #[.val (.int p0), .val (.int p1), .val (.ref wEA), .unset, .unset, .unset] [(.ref wAN)])) _
        refine XS.goto X9.here hx rfl (pc0 := 25) (pc' := 31) rfl (hb hby at_25) (by decide) (by decide) ?_
        show Steps p.tables e below (T9.setTop (mkF m 31 #[.val (.int p0), .val (.int p1), .val (.ref wEA), .unset, .unset, .unset] [(.ref wAN)])) _
        refine XS.astoreN X9.here hx rfl (hb hby at_31) rfl rfl (l' := #[.val (.int p0), .val (.int p1), .val (.ref wEA), .val (.ref wAN), .unset, .unset]) rfl ?_
        show Steps p.tables e below (T9.setTop (mkF m 32 #[.val (.int p0), .val (.int p1), .val (.ref wEA), .val (.ref wAN), .unset, .unset] [])) _
        refine XS.aloadN X9.here hx rfl (hb hby at_32) rfl rfl ?_
        show Steps p.tables e below (T9.setTop (mkF m 33 #[.val (.int p0), .val (.int p1), .val (.ref wEA), .val (.ref wAN), .unset, .unset] [(.ref wEA)])) _
        refine XS.iloadN X9.here hx rfl (hb hby at_33) rfl ?_
        show Steps p.tables e below (T9.setTop (mkF m 34 #[.val (.int p0), .val (.int p1), .val (.ref wEA), .val (.ref wAN), .unset, .unset] [(.int p0), (.ref wEA)])) _
        refine XS.aloadN X9.here hx rfl (hb hby at_34) rfl rfl ?_
        show Steps p.tables e below (T9.setTop (mkF m 35 #[.val (.int p0), .val (.int p1), .val (.ref wEA), .val (.ref wAN), .unset, .unset] [(.ref wAN), (.int p0), (.ref wEA)])) _
        refine st10.trans ?_
        show Steps p.tables e below (T10.setTop (mkF m 38 #[.val (.int p0), .val (.int p1), .val (.ref wEA), .val (.ref wAN), .unset, .unset] [(.int r)])) _
        refine XS.istore X10.here hx rfl (hb hby at_38) rfl (l' := #[.val (.int p0), .val (.int p1), .val (.ref wEA), .val (.ref wAN), .val (.int r), .unset]) rfl ?_
        show Steps p.tables e below (T10.setTop (mkF m 40 #[.val (.int p0), .val (.int p1), .val (.ref wEA), .val (.ref wAN), .val (.int r), .unset] [])) _
        refine XS.aloadN X10.here hx rfl (hb hby at_40) rfl rfl ?_
        show Steps p.tables e below (T10.setTop (mkF m 41 #[.val (.int p0), .val (.int p1), .val (.ref wEA), .val (.ref wAN), .val (.int r), .unset] [(.ref wEA)])) _
        refine st11 _ ?_
        show Steps p.tables e below (T11.setTop (mkF m 44 #[.val (.int p0), .val (.int p1), .val (.ref wEA), .val (.ref wAN), .val (.int r), .unset] [(.ref wEI), (.ref wEA)])) _
        refine Jvm.RoadKit.acmp (g := (mkF m 44 #[.val (.int p0), .val (.int p1), .val (.ref wEA), .val (.ref wAN), .val (.int r), .unset] [(.ref wEI), (.ref wEA)])) X11 hx rfl rfl rfl (pc0 := 44) (pc' := 53) (same := false) rfl (hb hby at_44) rfl (decide_eq_false fun q => neA (Value.ref.inj q)) (by decide) (by decide) ?_
        show Steps p.tables e below (T11.setTop (mkF m 53 #[.val (.int p0), .val (.int p1), .val (.ref wEA), .val (.ref wAN), .val (.int r), .unset] [])) _
        refine XS.aloadN X11.here hx rfl (hb hby at_53) rfl rfl ?_
        show Steps p.tables e below (T11.setTop (mkF m 54 #[.val (.int p0), .val (.int p1), .val (.ref wEA), .val (.ref wAN), .val (.int r), .unset] [(.ref wAN)])) _
        refine st12 _ ?_
        show Steps p.tables e below (T12.setTop (mkF m 57 #[.val (.int p0), .val (.int p1), .val (.ref wEA), .val (.ref wAN), .val (.int r), .unset] [(.ref wAN), (.ref wAN)])) _
        refine Jvm.RoadKit.acmp (g := (mkF m 57 #[.val (.int p0), .val (.int p1), .val (.ref wEA), .val (.ref wAN), .val (.int r), .unset] [(.ref wAN), (.ref wAN)])) X12 hx rfl rfl rfl (pc0 := 57) (pc' := 60) (same := true) rfl (hb hby at_57) rfl (decide_eq_true rfl) (by decide) (by decide) ?_
        show Steps p.tables e below (T12.setTop (mkF m 60 #[.val (.int p0), .val (.int p1), .val (.ref wEA), .val (.ref wAN), .val (.int r), .unset] [])) _
        refine XS.iconst X12.here hx rfl (hb hby at_60) ?_
        show Steps p.tables e below (T12.setTop (mkF m 61 #[.val (.int p0), .val (.int p1), .val (.ref wEA), .val (.ref wAN), .val (.int r), .unset] [(.int (1 : Int32))])) _
        refine XS.istore X12.here hx rfl (hb hby at_61) rfl (l' := #[.val (.int p0), .val (.int p1), .val (.ref wEA), .val (.ref wAN), .val (.int r), .val (.int (1 : Int32))]) rfl ?_
        show Steps p.tables e below (T12.setTop (mkF m 63 #[.val (.int p0), .val (.int p1), .val (.ref wEA), .val (.ref wAN), .val (.int r), .val (.int (1 : Int32))] [])) _
        refine XS.goto X12.here hx rfl (pc0 := 63) (pc' := 79) rfl (hb hby at_63) (by decide) (by decide) ?_
        show Steps p.tables e below (T12.setTop (mkF m 79 #[.val (.int p0), .val (.int p1), .val (.ref wEA), .val (.ref wAN), .val (.int r), .val (.int (1 : Int32))] [])) _
        refine XS.iload X12.here hx rfl (hb hby at_79) rfl ?_
        show Steps p.tables e below (T12.setTop (mkF m 81 #[.val (.int p0), .val (.int p1), .val (.ref wEA), .val (.ref wAN), .val (.int r), .val (.int (1 : Int32))] [(.int r)])) _
        refine XS.iload X12.here hx rfl (hb hby at_81) rfl ?_
        show Steps p.tables e below (T12.setTop (mkF m 83 #[.val (.int p0), .val (.int p1), .val (.ref wEA), .val (.ref wAN), .val (.int r), .val (.int (1 : Int32))] [(.int (1 : Int32)), (.int r)])) _
        refine XS.icmpNo X12.here hx rfl (hb hby at_83) rfl (teq (hr2 neA rfl)).2 ?_
        show Steps p.tables e below (T12.setTop (mkF m 86 #[.val (.int p0), .val (.int p1), .val (.ref wEA), .val (.ref wAN), .val (.int r), .val (.int (1 : Int32))] [])) _
        refine XS.iconst X12.here hx rfl (hb hby at_86) ?_
        show Steps p.tables e below (T12.setTop (mkF m 87 #[.val (.int p0), .val (.int p1), .val (.ref wEA), .val (.ref wAN), .val (.int r), .val (.int (1 : Int32))] [(.int (1 : Int32))])) _
        refine XS.goto X12.here hx rfl (pc0 := 87) (pc' := 91) rfl (hb hby at_87) (by decide) (by decide) ?_
        show Steps p.tables e below (T12.setTop (mkF m 91 #[.val (.int p0), .val (.int p1), .val (.ref wEA), .val (.ref wAN), .val (.int r), .val (.int (1 : Int32))] [(.int (1 : Int32))])) _
        exact retN X12 hx (t := .boolean) Bd.returns (by simp) (hb hby at_91) hr
      · show Q_rm0 Z p0 p1 wEI wEA wAN wQU h0 n0 _ T12.heap _
        rw [e12]
        exact ⟨rfl, N10⟩
    · obtain ⟨T13, X13, e13, st13⟩ := getS2 X8 hx hZ hown (host := "") (Or.inl (hw _ (List.mem_of_getElem? (i := 3) rfl))) Via.refl e8 S_QU (g := (mkF m 28 #[.val (.int p0), .val (.int p1), .val (.ref wEA), .unset, .unset, .unset] [])) rfl (hb hby at_28)
      obtain ⟨cq14, kq14, q14a, q14b, q14c⟩ := isOf hZ e13 E_EA
      obtain ⟨_, _, ⟨T14, L14, k14, n14⟩, -, X14, ⟨Lc14, hQ14, l14, y14, z14⟩, st14⟩ := X13.virtualBack hx (y := (⟨"com/example/vestbook/vestbook/engine/InstallmentAmount", "workedOutAfreshAfter", "(ILcom/example/vestbook/vestbook/engine/InstallmentSpacing;)Z"⟩ : MethodName)) (z := (⟨"com/example/vestbook/vestbook/engine/InstallmentAmount", "workedOutAfreshAfter", "(ILcom/example/vestbook/vestbook/engine/InstallmentSpacing;)Z"⟩ : MethodName)) hown (mvT hZ (hw _ (List.mem_of_getElem? (i := 6) rfl))) (mvT hZ (hw _ (List.mem_of_getElem? (i := 7) rfl))) (notFace_of_selects (args := #[]) (mvT hZ (hw _ (List.mem_of_getElem? (i := 9) rfl)))) (mvT hZ (hw _ (List.mem_of_getElem? (i := 9) rfl))) (mvT hZ (hw _ (List.mem_of_getElem? (i := 8) rfl))) (by decide) (backOf (W := 0) (rmW l Z a0 hw [] wEA p0 wQU wEI (3 : Int32) h0 n0 Z0 S_EI E_QU F_QU) hZ (hw _ (List.mem_of_getElem? (i := 10) rfl)) (hw _ (List.mem_of_getElem? (i := 1) rfl)) (by decide) (by decide)) q14a q14c (g := (mkF m 35 #[.val (.int p0), .val (.int p1), .val (.ref wEA), .val (.ref wQU), .unset, .unset] [(.ref wQU), (.int p0), (.ref wEA)])) rfl (by rw [hml]; rfl) (Steps.refl _) (argsL := [(.int p0), (.ref wQU)]) (rest := []) (lenOf pd__ILcom_example_vestbook_vestbook_engine_InstallmentSpacing__Z rfl) rfl (by show 2 * 0 + _ ≤ _; exact Nat.le_of_eq rfl) (hb hby at_35) (fun _ _ => ⟨rfl, e13, (by decide : 0 + 0 ≤ _), (by decide : 0 + 0 ≤ _)⟩)
      dsimp only [Pt.U, Pt.locs, Pt.cells, Pt.slots] at X14 l14 y14 z14 st14 hQ14
      subst l14 y14 z14
      obtain ⟨r, rfl, N14q, e14, hr1, hr2, hr3⟩ := hQ14
      have N14 := Fr.app N0 N14q
      obtain ⟨T15, X15, e15, st15⟩ := getS2 X14 hx hZ hown (host := "") (Or.inl (hw _ (List.mem_of_getElem? (i := 21) rfl))) Via.refl e14 S_EI (g := (mkF m 41 #[.val (.int p0), .val (.int p1), .val (.ref wEA), .val (.ref wQU), .val (.int r), .unset] [(.ref wEA)])) rfl (hb hby at_41)
      obtain ⟨T16, X16, e16, st16⟩ := getS2 X15 hx hZ hown (host := "") (Or.inl (hw _ (List.mem_of_getElem? (i := 22) rfl))) Via.refl e15 S_AN (g := (mkF m 54 #[.val (.int p0), .val (.int p1), .val (.ref wEA), .val (.ref wQU), .val (.int r), .unset] [(.ref wQU)])) rfl (hb hby at_54)
      by_cases hc69 : (p0 &&& (3 : Int32)) = (0 : Int32)
      · obtain ⟨fs, hr, hrun, hended, hW, hsame⟩ := X16.leave (v := some (.int (1 : Int32))) (fun h => by rw [Bd.returns] at h; cases h)
        refine ⟨_, _, pre0 _ ?_, hrun, hended, _, _, rfl, ?_, ⟨_, rfl⟩, hW, hsame.mono (by decide) (by decide)⟩
        · show Steps p.tables e below (s₁.setTop (mkF m 0 #[.val (.int p0), .val (.int p1), .unset, .unset, .unset, .unset] [])) _
          refine XS.iloadN X0.here hx rfl (hb hby at_0) rfl ?_
          show Steps p.tables e below (s₁.setTop (mkF m 1 #[.val (.int p0), .val (.int p1), .unset, .unset, .unset, .unset] [(.int p1)])) _
          refine XS.iconst X0.here hx rfl (hb hby at_1) ?_
          show Steps p.tables e below (s₁.setTop (mkF m 2 #[.val (.int p0), .val (.int p1), .unset, .unset, .unset, .unset] [(.int (1 : Int32)), (.int p1)])) _
          refine XS.iand X0.here hx rfl (hb hby at_2) rfl ?_
          show Steps p.tables e below (s₁.setTop (mkF m 3 #[.val (.int p0), .val (.int p1), .unset, .unset, .unset, .unset] [(.int (p1 &&& (1 : Int32)))])) _
          refine XS.ifYes X0.here hx rfl (pc0 := 3) (pc' := 12) rfl (hb hby at_3) rfl ((if0 _ _).trans (feq hc3).2) (by decide) (by decide) ?_
          show Steps p.tables e below (s₁.setTop (mkF m 12 #[.val (.int p0), .val (.int p1), .unset, .unset, .unset, .unset] [])) _
          refine st8 _ ?_
          show Steps p.tables e below (T8.setTop (mkF m 15 #[.val (.int p0), .val (.int p1), .unset, .unset, .unset, .unset] [(.ref wEA)])) _
          refine XS.astoreN X8.here hx rfl (hb hby at_15) rfl rfl (l' := #[.val (.int p0), .val (.int p1), .val (.ref wEA), .unset, .unset, .unset]) rfl ?_
          show Steps p.tables e below (T8.setTop (mkF m 16 #[.val (.int p0), .val (.int p1), .val (.ref wEA), .unset, .unset, .unset] [])) _
          refine XS.iloadN X8.here hx rfl (hb hby at_16) rfl ?_
          show Steps p.tables e below (T8.setTop (mkF m 17 #[.val (.int p0), .val (.int p1), .val (.ref wEA), .unset, .unset, .unset] [(.int p1)])) _
          refine XS.iconst X8.here hx rfl (hb hby at_17) ?_
          show Steps p.tables e below (T8.setTop (mkF m 18 #[.val (.int p0), .val (.int p1), .val (.ref wEA), .unset, .unset, .unset] [(.int (2 : Int32)), (.int p1)])) _
          refine XS.iand X8.here hx rfl (hb hby at_18) rfl ?_
          show Steps p.tables e below (T8.setTop (mkF m 19 #[.val (.int p0), .val (.int p1), .val (.ref wEA), .unset, .unset, .unset] [(.int (p1 &&& (2 : Int32)))])) _
          refine XS.ifYes X8.here hx rfl (pc0 := 19) (pc' := 28) rfl (hb hby at_19) rfl ((if0 _ _).trans (feq hc19).2) (by decide) (by decide) ?_
          show Steps p.tables e below (T8.setTop (mkF m 28 #[.val (.int p0), .val (.int p1), .val (.ref wEA), .unset, .unset, .unset] [])) _
          refine st13 _ ?_
          show Steps p.tables e below (T13.setTop (mkF m 31 #[.val (.int p0), .val (.int p1), .val (.ref wEA), .unset, .unset, .unset] [(.ref wQU)])) _
          refine XS.astoreN X13.here hx rfl (hb hby at_31) rfl rfl (l' := #[.val (.int p0), .val (.int p1), .val (.ref wEA), .val (.ref wQU), .unset, .unset]) rfl ?_
          show Steps p.tables e below (T13.setTop (mkF m 32 #[.val (.int p0), .val (.int p1), .val (.ref wEA), .val (.ref wQU), .unset, .unset] [])) _
          refine XS.aloadN X13.here hx rfl (hb hby at_32) rfl rfl ?_
          show Steps p.tables e below (T13.setTop (mkF m 33 #[.val (.int p0), .val (.int p1), .val (.ref wEA), .val (.ref wQU), .unset, .unset] [(.ref wEA)])) _
          refine XS.iloadN X13.here hx rfl (hb hby at_33) rfl ?_
          show Steps p.tables e below (T13.setTop (mkF m 34 #[.val (.int p0), .val (.int p1), .val (.ref wEA), .val (.ref wQU), .unset, .unset] [(.int p0), (.ref wEA)])) _
          refine XS.aloadN X13.here hx rfl (hb hby at_34) rfl rfl ?_
          show Steps p.tables e below (T13.setTop (mkF m 35 #[.val (.int p0), .val (.int p1), .val (.ref wEA), .val (.ref wQU), .unset, .unset] [(.ref wQU), (.int p0), (.ref wEA)])) _
          refine st14.trans ?_
          show Steps p.tables e below (T14.setTop (mkF m 38 #[.val (.int p0), .val (.int p1), .val (.ref wEA), .val (.ref wQU), .unset, .unset] [(.int r)])) _
          refine XS.istore X14.here hx rfl (hb hby at_38) rfl (l' := #[.val (.int p0), .val (.int p1), .val (.ref wEA), .val (.ref wQU), .val (.int r), .unset]) rfl ?_
          show Steps p.tables e below (T14.setTop (mkF m 40 #[.val (.int p0), .val (.int p1), .val (.ref wEA), .val (.ref wQU), .val (.int r), .unset] [])) _
          refine XS.aloadN X14.here hx rfl (hb hby at_40) rfl rfl ?_
          show Steps p.tables e below (T14.setTop (mkF m 41 #[.val (.int p0), .val (.int p1), .val (.ref wEA), .val (.ref wQU), .val (.int r), .unset] [(.ref wEA)])) _
          refine st15 _ ?_
          show Steps p.tables e below (T15.setTop (mkF m 44 #[.val (.int p0), .val (.int p1), .val (.ref wEA), .val (.ref wQU), .val (.int r), .unset] [(.ref wEI), (.ref wEA)])) _
          refine Jvm.RoadKit.acmp (g := (mkF m 44 #[.val (.int p0), .val (.int p1), .val (.ref wEA), .val (.ref wQU), .val (.int r), .unset] [(.ref wEI), (.ref wEA)])) X15 hx rfl rfl rfl (pc0 := 44) (pc' := 53) (same := false) rfl (hb hby at_44) rfl (decide_eq_false fun q => neA (Value.ref.inj q)) (by decide) (by decide) ?_
          show Steps p.tables e below (T15.setTop (mkF m 53 #[.val (.int p0), .val (.int p1), .val (.ref wEA), .val (.ref wQU), .val (.int r), .unset] [])) _
          refine XS.aloadN X15.here hx rfl (hb hby at_53) rfl rfl ?_
          show Steps p.tables e below (T15.setTop (mkF m 54 #[.val (.int p0), .val (.int p1), .val (.ref wEA), .val (.ref wQU), .val (.int r), .unset] [(.ref wQU)])) _
          refine st16 _ ?_
          show Steps p.tables e below (T16.setTop (mkF m 57 #[.val (.int p0), .val (.int p1), .val (.ref wEA), .val (.ref wQU), .val (.int r), .unset] [(.ref wAN), (.ref wQU)])) _
          refine Jvm.RoadKit.acmp (g := (mkF m 57 #[.val (.int p0), .val (.int p1), .val (.ref wEA), .val (.ref wQU), .val (.int r), .unset] [(.ref wAN), (.ref wQU)])) X16 hx rfl rfl rfl (pc0 := 57) (pc' := 66) (same := false) rfl (hb hby at_57) rfl (decide_eq_false fun q => neQ (Value.ref.inj q)) (by decide) (by decide) ?_
          show Steps p.tables e below (T16.setTop (mkF m 66 #[.val (.int p0), .val (.int p1), .val (.ref wEA), .val (.ref wQU), .val (.int r), .unset] [])) _
          refine XS.iloadN X16.here hx rfl (hb hby at_66) rfl ?_
          show Steps p.tables e below (T16.setTop (mkF m 67 #[.val (.int p0), .val (.int p1), .val (.ref wEA), .val (.ref wQU), .val (.int r), .unset] [(.int p0)])) _
          refine XS.iconst X16.here hx rfl (hb hby at_67) ?_
          show Steps p.tables e below (T16.setTop (mkF m 68 #[.val (.int p0), .val (.int p1), .val (.ref wEA), .val (.ref wQU), .val (.int r), .unset] [(.int (3 : Int32)), (.int p0)])) _
          refine XS.iand X16.here hx rfl (hb hby at_68) rfl ?_
          show Steps p.tables e below (T16.setTop (mkF m 69 #[.val (.int p0), .val (.int p1), .val (.ref wEA), .val (.ref wQU), .val (.int r), .unset] [(.int (p0 &&& (3 : Int32)))])) _
          refine XS.ifNo X16.here hx rfl (hb hby at_69) rfl ((if0 _ _).trans (teq hc69).2) ?_
          show Steps p.tables e below (T16.setTop (mkF m 72 #[.val (.int p0), .val (.int p1), .val (.ref wEA), .val (.ref wQU), .val (.int r), .unset] [])) _
          refine XS.iconst X16.here hx rfl (hb hby at_72) ?_
          show Steps p.tables e below (T16.setTop (mkF m 73 #[.val (.int p0), .val (.int p1), .val (.ref wEA), .val (.ref wQU), .val (.int r), .unset] [(.int (1 : Int32))])) _
          refine XS.goto X16.here hx rfl (pc0 := 73) (pc' := 77) rfl (hb hby at_73) (by decide) (by decide) ?_
          show Steps p.tables e below (T16.setTop (mkF m 77 #[.val (.int p0), .val (.int p1), .val (.ref wEA), .val (.ref wQU), .val (.int r), .unset] [(.int (1 : Int32))])) _
          refine XS.istore X16.here hx rfl (hb hby at_77) rfl (l' := #[.val (.int p0), .val (.int p1), .val (.ref wEA), .val (.ref wQU), .val (.int r), .val (.int (1 : Int32))]) rfl ?_
          show Steps p.tables e below (T16.setTop (mkF m 79 #[.val (.int p0), .val (.int p1), .val (.ref wEA), .val (.ref wQU), .val (.int r), .val (.int (1 : Int32))] [])) _
          refine XS.iload X16.here hx rfl (hb hby at_79) rfl ?_
          show Steps p.tables e below (T16.setTop (mkF m 81 #[.val (.int p0), .val (.int p1), .val (.ref wEA), .val (.ref wQU), .val (.int r), .val (.int (1 : Int32))] [(.int r)])) _
          refine XS.iload X16.here hx rfl (hb hby at_81) rfl ?_
          show Steps p.tables e below (T16.setTop (mkF m 83 #[.val (.int p0), .val (.int p1), .val (.ref wEA), .val (.ref wQU), .val (.int r), .val (.int (1 : Int32))] [(.int (1 : Int32)), (.int r)])) _
          refine XS.icmpNo X16.here hx rfl (hb hby at_83) rfl (teq ((hr3 neA rfl).trans (if_pos hc69))).2 ?_
          show Steps p.tables e below (T16.setTop (mkF m 86 #[.val (.int p0), .val (.int p1), .val (.ref wEA), .val (.ref wQU), .val (.int r), .val (.int (1 : Int32))] [])) _
          refine XS.iconst X16.here hx rfl (hb hby at_86) ?_
          show Steps p.tables e below (T16.setTop (mkF m 87 #[.val (.int p0), .val (.int p1), .val (.ref wEA), .val (.ref wQU), .val (.int r), .val (.int (1 : Int32))] [(.int (1 : Int32))])) _
          refine XS.goto X16.here hx rfl (pc0 := 87) (pc' := 91) rfl (hb hby at_87) (by decide) (by decide) ?_
          show Steps p.tables e below (T16.setTop (mkF m 91 #[.val (.int p0), .val (.int p1), .val (.ref wEA), .val (.ref wQU), .val (.int r), .val (.int (1 : Int32))] [(.int (1 : Int32))])) _
          exact retN X16 hx (t := .boolean) Bd.returns (by simp) (hb hby at_91) hr
        · show Q_rm0 Z p0 p1 wEI wEA wAN wQU h0 n0 _ T16.heap _
          rw [e16]
          exact ⟨rfl, N14⟩
      · obtain ⟨fs, hr, hrun, hended, hW, hsame⟩ := X16.leave (v := some (.int (1 : Int32))) (fun h => by rw [Bd.returns] at h; cases h)
        refine ⟨_, _, pre0 _ ?_, hrun, hended, _, _, rfl, ?_, ⟨_, rfl⟩, hW, hsame.mono (by decide) (by decide)⟩
        · show Steps p.tables e below (s₁.setTop (mkF m 0 #[.val (.int p0), .val (.int p1), .unset, .unset, .unset, .unset] [])) _
          refine XS.iloadN X0.here hx rfl (hb hby at_0) rfl ?_
          show Steps p.tables e below (s₁.setTop (mkF m 1 #[.val (.int p0), .val (.int p1), .unset, .unset, .unset, .unset] [(.int p1)])) _
          refine XS.iconst X0.here hx rfl (hb hby at_1) ?_
          show Steps p.tables e below (s₁.setTop (mkF m 2 #[.val (.int p0), .val (.int p1), .unset, .unset, .unset, .unset] [(.int (1 : Int32)), (.int p1)])) _
          refine XS.iand X0.here hx rfl (hb hby at_2) rfl ?_
          show Steps p.tables e below (s₁.setTop (mkF m 3 #[.val (.int p0), .val (.int p1), .unset, .unset, .unset, .unset] [(.int (p1 &&& (1 : Int32)))])) _
          refine XS.ifYes X0.here hx rfl (pc0 := 3) (pc' := 12) rfl (hb hby at_3) rfl ((if0 _ _).trans (feq hc3).2) (by decide) (by decide) ?_
          show Steps p.tables e below (s₁.setTop (mkF m 12 #[.val (.int p0), .val (.int p1), .unset, .unset, .unset, .unset] [])) _
          refine st8 _ ?_
          show Steps p.tables e below (T8.setTop (mkF m 15 #[.val (.int p0), .val (.int p1), .unset, .unset, .unset, .unset] [(.ref wEA)])) _
          refine XS.astoreN X8.here hx rfl (hb hby at_15) rfl rfl (l' := #[.val (.int p0), .val (.int p1), .val (.ref wEA), .unset, .unset, .unset]) rfl ?_
          show Steps p.tables e below (T8.setTop (mkF m 16 #[.val (.int p0), .val (.int p1), .val (.ref wEA), .unset, .unset, .unset] [])) _
          refine XS.iloadN X8.here hx rfl (hb hby at_16) rfl ?_
          show Steps p.tables e below (T8.setTop (mkF m 17 #[.val (.int p0), .val (.int p1), .val (.ref wEA), .unset, .unset, .unset] [(.int p1)])) _
          refine XS.iconst X8.here hx rfl (hb hby at_17) ?_
          show Steps p.tables e below (T8.setTop (mkF m 18 #[.val (.int p0), .val (.int p1), .val (.ref wEA), .unset, .unset, .unset] [(.int (2 : Int32)), (.int p1)])) _
          refine XS.iand X8.here hx rfl (hb hby at_18) rfl ?_
          show Steps p.tables e below (T8.setTop (mkF m 19 #[.val (.int p0), .val (.int p1), .val (.ref wEA), .unset, .unset, .unset] [(.int (p1 &&& (2 : Int32)))])) _
          refine XS.ifYes X8.here hx rfl (pc0 := 19) (pc' := 28) rfl (hb hby at_19) rfl ((if0 _ _).trans (feq hc19).2) (by decide) (by decide) ?_
          show Steps p.tables e below (T8.setTop (mkF m 28 #[.val (.int p0), .val (.int p1), .val (.ref wEA), .unset, .unset, .unset] [])) _
          refine st13 _ ?_
          show Steps p.tables e below (T13.setTop (mkF m 31 #[.val (.int p0), .val (.int p1), .val (.ref wEA), .unset, .unset, .unset] [(.ref wQU)])) _
          refine XS.astoreN X13.here hx rfl (hb hby at_31) rfl rfl (l' := #[.val (.int p0), .val (.int p1), .val (.ref wEA), .val (.ref wQU), .unset, .unset]) rfl ?_
          show Steps p.tables e below (T13.setTop (mkF m 32 #[.val (.int p0), .val (.int p1), .val (.ref wEA), .val (.ref wQU), .unset, .unset] [])) _
          refine XS.aloadN X13.here hx rfl (hb hby at_32) rfl rfl ?_
          show Steps p.tables e below (T13.setTop (mkF m 33 #[.val (.int p0), .val (.int p1), .val (.ref wEA), .val (.ref wQU), .unset, .unset] [(.ref wEA)])) _
          refine XS.iloadN X13.here hx rfl (hb hby at_33) rfl ?_
          show Steps p.tables e below (T13.setTop (mkF m 34 #[.val (.int p0), .val (.int p1), .val (.ref wEA), .val (.ref wQU), .unset, .unset] [(.int p0), (.ref wEA)])) _
          refine XS.aloadN X13.here hx rfl (hb hby at_34) rfl rfl ?_
          show Steps p.tables e below (T13.setTop (mkF m 35 #[.val (.int p0), .val (.int p1), .val (.ref wEA), .val (.ref wQU), .unset, .unset] [(.ref wQU), (.int p0), (.ref wEA)])) _
          refine st14.trans ?_
          show Steps p.tables e below (T14.setTop (mkF m 38 #[.val (.int p0), .val (.int p1), .val (.ref wEA), .val (.ref wQU), .unset, .unset] [(.int r)])) _
          refine XS.istore X14.here hx rfl (hb hby at_38) rfl (l' := #[.val (.int p0), .val (.int p1), .val (.ref wEA), .val (.ref wQU), .val (.int r), .unset]) rfl ?_
          show Steps p.tables e below (T14.setTop (mkF m 40 #[.val (.int p0), .val (.int p1), .val (.ref wEA), .val (.ref wQU), .val (.int r), .unset] [])) _
          refine XS.aloadN X14.here hx rfl (hb hby at_40) rfl rfl ?_
          show Steps p.tables e below (T14.setTop (mkF m 41 #[.val (.int p0), .val (.int p1), .val (.ref wEA), .val (.ref wQU), .val (.int r), .unset] [(.ref wEA)])) _
          refine st15 _ ?_
          show Steps p.tables e below (T15.setTop (mkF m 44 #[.val (.int p0), .val (.int p1), .val (.ref wEA), .val (.ref wQU), .val (.int r), .unset] [(.ref wEI), (.ref wEA)])) _
          refine Jvm.RoadKit.acmp (g := (mkF m 44 #[.val (.int p0), .val (.int p1), .val (.ref wEA), .val (.ref wQU), .val (.int r), .unset] [(.ref wEI), (.ref wEA)])) X15 hx rfl rfl rfl (pc0 := 44) (pc' := 53) (same := false) rfl (hb hby at_44) rfl (decide_eq_false fun q => neA (Value.ref.inj q)) (by decide) (by decide) ?_
          show Steps p.tables e below (T15.setTop (mkF m 53 #[.val (.int p0), .val (.int p1), .val (.ref wEA), .val (.ref wQU), .val (.int r), .unset] [])) _
          refine XS.aloadN X15.here hx rfl (hb hby at_53) rfl rfl ?_
          show Steps p.tables e below (T15.setTop (mkF m 54 #[.val (.int p0), .val (.int p1), .val (.ref wEA), .val (.ref wQU), .val (.int r), .unset] [(.ref wQU)])) _
          refine st16 _ ?_
          show Steps p.tables e below (T16.setTop (mkF m 57 #[.val (.int p0), .val (.int p1), .val (.ref wEA), .val (.ref wQU), .val (.int r), .unset] [(.ref wAN), (.ref wQU)])) _
          refine Jvm.RoadKit.acmp (g := (mkF m 57 #[.val (.int p0), .val (.int p1), .val (.ref wEA), .val (.ref wQU), .val (.int r), .unset] [(.ref wAN), (.ref wQU)])) X16 hx rfl rfl rfl (pc0 := 57) (pc' := 66) (same := false) rfl (hb hby at_57) rfl (decide_eq_false fun q => neQ (Value.ref.inj q)) (by decide) (by decide) ?_
          show Steps p.tables e below (T16.setTop (mkF m 66 #[.val (.int p0), .val (.int p1), .val (.ref wEA), .val (.ref wQU), .val (.int r), .unset] [])) _
          refine XS.iloadN X16.here hx rfl (hb hby at_66) rfl ?_
          show Steps p.tables e below (T16.setTop (mkF m 67 #[.val (.int p0), .val (.int p1), .val (.ref wEA), .val (.ref wQU), .val (.int r), .unset] [(.int p0)])) _
          refine XS.iconst X16.here hx rfl (hb hby at_67) ?_
          show Steps p.tables e below (T16.setTop (mkF m 68 #[.val (.int p0), .val (.int p1), .val (.ref wEA), .val (.ref wQU), .val (.int r), .unset] [(.int (3 : Int32)), (.int p0)])) _
          refine XS.iand X16.here hx rfl (hb hby at_68) rfl ?_
          show Steps p.tables e below (T16.setTop (mkF m 69 #[.val (.int p0), .val (.int p1), .val (.ref wEA), .val (.ref wQU), .val (.int r), .unset] [(.int (p0 &&& (3 : Int32)))])) _
          refine XS.ifYes X16.here hx rfl (pc0 := 69) (pc' := 76) rfl (hb hby at_69) rfl ((if0 _ _).trans (feq hc69).2) (by decide) (by decide) ?_
          show Steps p.tables e below (T16.setTop (mkF m 76 #[.val (.int p0), .val (.int p1), .val (.ref wEA), .val (.ref wQU), .val (.int r), .unset] [])) _
          refine XS.iconst X16.here hx rfl (hb hby at_76) ?_
          show Steps p.tables e below (T16.setTop (mkF m 77 #[.val (.int p0), .val (.int p1), .val (.ref wEA), .val (.ref wQU), .val (.int r), .unset] [(.int (0 : Int32))])) _
          refine XS.istore X16.here hx rfl (hb hby at_77) rfl (l' := #[.val (.int p0), .val (.int p1), .val (.ref wEA), .val (.ref wQU), .val (.int r), .val (.int (0 : Int32))]) rfl ?_
          show Steps p.tables e below (T16.setTop (mkF m 79 #[.val (.int p0), .val (.int p1), .val (.ref wEA), .val (.ref wQU), .val (.int r), .val (.int (0 : Int32))] [])) _
          refine XS.iload X16.here hx rfl (hb hby at_79) rfl ?_
          show Steps p.tables e below (T16.setTop (mkF m 81 #[.val (.int p0), .val (.int p1), .val (.ref wEA), .val (.ref wQU), .val (.int r), .val (.int (0 : Int32))] [(.int r)])) _
          refine XS.iload X16.here hx rfl (hb hby at_81) rfl ?_
          show Steps p.tables e below (T16.setTop (mkF m 83 #[.val (.int p0), .val (.int p1), .val (.ref wEA), .val (.ref wQU), .val (.int r), .val (.int (0 : Int32))] [(.int (0 : Int32)), (.int r)])) _
          refine XS.icmpNo X16.here hx rfl (hb hby at_83) rfl (teq ((hr3 neA rfl).trans (if_neg hc69))).2 ?_
          show Steps p.tables e below (T16.setTop (mkF m 86 #[.val (.int p0), .val (.int p1), .val (.ref wEA), .val (.ref wQU), .val (.int r), .val (.int (0 : Int32))] [])) _
          refine XS.iconst X16.here hx rfl (hb hby at_86) ?_
          show Steps p.tables e below (T16.setTop (mkF m 87 #[.val (.int p0), .val (.int p1), .val (.ref wEA), .val (.ref wQU), .val (.int r), .val (.int (0 : Int32))] [(.int (1 : Int32))])) _
          refine XS.goto X16.here hx rfl (pc0 := 87) (pc' := 91) rfl (hb hby at_87) (by decide) (by decide) ?_
          show Steps p.tables e below (T16.setTop (mkF m 91 #[.val (.int p0), .val (.int p1), .val (.ref wEA), .val (.ref wQU), .val (.int r), .val (.int (0 : Int32))] [(.int (1 : Int32))])) _
          exact retN X16 hx (t := .boolean) Bd.returns (by simp) (hb hby at_91) hr
        · show Q_rm0 Z p0 p1 wEI wEA wAN wQU h0 n0 _ T16.heap _
          rw [e16]
          exact ⟨rfl, N14⟩
set_option maxRecDepth 65536 in
set_option maxHeartbeats 40000000 in
theorem comes_1 {Post : Tables → Env → Array Value → State → Outcome → State → Prop} (hpost : ∀ tb e args s v u, (limb_1_1.after args s (.returned v) u = true ∧ limb_1_2.after args s (.returned v) u = true ∧ True) → FrameEnd s (.returned v) u (Jvm.fieldLocs frame_1_writes args s ++ Jvm.arrayLocs frame_1_arrays args s ++ Jvm.staticLocs frame_1_statics s) 0 0 → Post tb e args s (.returned v) u) :
    ArmFor flags0 classFile x code maxLocals ret World_1 tables_1 room_1 Calls_1 rest_1 Pre_1 Post := by
  intro l hfl _ _ p e ha hc hk s m args below hf hA hF happ hP
  obtain ⟨hcalls, hrest, hpre⟩ := hP
  obtain ⟨-, -, -, hnamed, -, -, -, hat⟩ := (Spec.applies_iff hf).mp happ
  obtain ⟨hg, hn⟩ := and_e (Cond.before_iff.mp (show (Jvm.Cond.and given_1 narrow_1).before args s = true from hpre))
  obtain ⟨gc, gr⟩ := and_e hg
  obtain ⟨g0, gr⟩ := and_e gr
  obtain ⟨w0, w1, rfl⟩ : ∃ w0 w1 : Value, args = #[w0, w1] := by
    have hs : args.size = 2 := by simpa [Cond.value, given_1] using gc
    obtain ⟨L⟩ := args
    match L, hs with
    | [w0, w1], _ => exact ⟨w0, w1, rfl⟩
  have hw := fun d (hd : d ∈ tables_1) => atoms_spec (ws := Jvm.Cond.code x code maxLocals ret :: tables_1) hat d (List.mem_cons_of_mem _ hd)
  have hfit : Fit s := fun {y c} hc i hi => by
    obtain ⟨ha, rfl⟩ := Array.getElem?_eq_some_iff.mp hc
    have q := List.all_eq_true.mp ((Array.all_eq_true_iff_forall_mem.mp hF) _ (Array.getElem_mem ha)) i (List.mem_range.mpr hi)
    simpa [Array.getElem?_eq_getElem hi] using q
  obtain ⟨i0, ei0⟩ := is_v g0
  obtain rfl : w0 = (.int i0) := Option.some.inj ei0
  obtain ⟨i1, ei1⟩ := is_v gr
  obtain rfl : w1 = (.int i1) := Option.some.inj ei1
  obtain ⟨nEA, hn⟩ := and_e hn
  obtain ⟨nQU, hn⟩ := and_e hn
  obtain ⟨nEI, hn⟩ := and_e hn
  obtain ⟨oEA, hn⟩ := and_e hn
  obtain ⟨oEI, hn⟩ := and_e hn
  obtain ⟨mQU, hn⟩ := and_e hn
  obtain ⟨nAN, hn⟩ := and_e hn
  obtain ⟨oQU, hn⟩ := and_e hn
  obtain ⟨oAN, hn⟩ := and_e hn
  have mAN := hn
  obtain ⟨wEA, eEA⟩ := exa_v nEA
  have S_EA := Sta.start eEA (Or.inr ⟨hw _ (List.mem_of_getElem? (i := 1) rfl), hw _ (List.mem_of_getElem? (i := 2) rfl)⟩)
  have E_EA := Exa.start eEA nEA
  have oEA' := own_fld eEA oEA
  obtain ⟨wQU, eQU⟩ := exa_v nQU
  have S_QU := Sta.start eQU (Or.inr ⟨hw _ (List.mem_of_getElem? (i := 4) rfl), hw _ (List.mem_of_getElem? (i := 5) rfl)⟩)
  have E_QU := Exa.start eQU nQU
  have oQU' := own_fld eQU oQU
  obtain ⟨wEI, eEI⟩ := exa_v nEI
  have S_EI := Sta.start eEI (Or.inr ⟨hw _ (List.mem_of_getElem? (i := 1) rfl), hw _ (List.mem_of_getElem? (i := 12) rfl)⟩)
  have E_EI := Exa.start eEI nEI
  have oEI' := own_fld eEI oEI
  obtain ⟨wAN, eAN⟩ := exa_v nAN
  have S_AN := Sta.start eAN (Or.inr ⟨hw _ (List.mem_of_getElem? (i := 4) rfl), hw _ (List.mem_of_getElem? (i := 23) rfl)⟩)
  have E_AN := Exa.start eAN nAN
  have oAN' := own_fld eAN oAN
  have F_QU := Fld.start (own_fld eQU mQU)
  have F_AN := Fld.start (own_fld eAN mAN)
  have neA : ¬ (wEA = wEI) := fun q => by
    rw [q, oEI'] at oEA'
    cases oEA'
  have neQ : ¬ (wQU = wAN) := fun q => by
    rw [q, oAN'] at oQU'
    cases oQU'
  obtain ⟨n, o, h1, h2, h3, _, L, rfl, ⟨rfl, N⟩, hq⟩ := rm0 l s _ hw tables_1 i0 i1 wEI wEA wAN wQU s.heap s.heap.size (Nat.le_refl _) S_EI E_EI S_EA E_EA S_AN E_AN S_QU E_QU F_AN F_QU neA neQ p e ha hc hk s m _ below hf ((Spec.applies_iff_loose hf).mp happ).1 ⟨rfl, State.Warmed39.refl s, rfl⟩ trivial
  refine ⟨n, _, h1, h2, h3, hpost _ _ _ _ _ _ ⟨Cond.after_iff.mpr rfl, Cond.after_iff.mpr (eq_i res_at (Term.int_eval (1)) rfl), trivial⟩ ⟨hq.1, hq.2.1, (hq.2.2.sift fun y hy => Or.inr (N y hy)).mono (by decide) (by decide)⟩⟩
theorem main_1_1 : Claimed_1_1 := comes_1 fun _ _ _ _ _ _ h hF => ⟨h.1, hF⟩
theorem main_1_2 : Claimed_1_2 := comes_1 fun _ _ _ _ _ _ h hF => ⟨h.2.1, hF⟩
end Jvm.Pilot.@@N@@
namespace Jvm.Pilot.@@N@@
open Jvm Jvm.ClassFile Sem Op Lib Jvm.Free Jvm.Stand Jvm.Pilot.@@N@@.Jvm.D
/-! MADE BY PROGRAM (witnessworld.py) out of the Statement's table words and the real class files: 13 classes; the members and pool entries that the words name. The judged class is class 1, her method 1. -/
namespace start1
open Jvm.ClassFile
def u (s : String) : CpInfo := .utf8 (stringToUtf16 s)
/-- a pool by its gaps: so many unusable entries, then the entry; so many at the end -/
def gap : Nat → List CpInfo → List CpInfo
  | 0, r => r
  | n + 1, r => .unusable :: gap n r
def poolList (es : List (Nat × CpInfo)) (last : Nat) : List CpInfo := es.foldr (fun e r => gap e.1 (e.2 :: r)) (gap last [])
def pool (es : List (Nat × CpInfo)) (last : Nat) : Array CpInfo := ⟨poolList es last⟩
def fileOf (pool : Array CpInfo) (this : Nat) (attrs : Array Attribute := #[]) (ms : Array MethodInfo := #[]) (fl : Nat := 33) (sup : Nat := 0) (ifs : Array Nat := #[]) (fds : Array FieldInfo := #[]) : ClassFile where
  minorVersion := 0
  majorVersion := 65
  constantPool := pool
  accessFlags := fl
  thisClass := this
  superClass := sup
  interfaces := ifs
  fields := fds
  methods := ms
  attributes := attrs
def plain (name : String) (sup : Option ClassId) : Class where
  name := name
  kind := .ordinary
  loader := none
  accessFlags := 33
  super := sup
  interfaces := #[]
  cf := none
  fields := #[]
  methods := #[]
  instanceTypes := #[]
  staticTypes := #[]
  resolved := #[]
  callSites := []
  init := .initialized
  statics := none
  mirror := none

def pool0 : Array CpInfo := pool [(5, u "<init>"), (0, u "()V"), (1, .class_ 10), (1, u "java/lang/Object")] 113

def k0m0 : Method := { name := "<init>", desc := "()V", sig := { parameters := [], returnType := none }, accessFlags := 1, code := none }
/-- java/lang/Object -/
def k0 : Class := { plain "java/lang/Object" none with
  accessFlags := 33
  interfaces := #[]
  cf := some (fileOf pool0 8 #[] #[{ accessFlags := 1, nameIndex := 5, descriptorIndex := 6, attributes := #[] }] 33 0 #[] #[])
  fields := #[]
  methods := #[k0m0]
  instanceTypes := #[]
  staticTypes := #[]
  resolved := Array.replicate 124 none
  statics := none }

def pool1 : Array CpInfo := pool [(2, .class_ 4), (1, u "java/lang/Object"), (0, u "<init>"), (0, u "()V"), (0, .fieldref 8 9), (0, .class_ 10), (0, .nameAndType 11 12), (0, u "com/example/vestbook/vestbook/engine/InstallmentAmount"), (0, u "EACH_INSTALLMENT"), (0, u "Lcom/example/vestbook/vestbook/engine/InstallmentAmount;"), (0, .fieldref 8 14), (0, .nameAndType 15 12), (0, u "EACH_ANNIVERSARY"), (0, .fieldref 17 18), (0, .class_ 19), (0, .nameAndType 20 21), (0, u "com/example/vestbook/vestbook/engine/InstallmentSpacing"), (0, u "ANNUAL"), (0, u "Lcom/example/vestbook/vestbook/engine/InstallmentSpacing;"), (0, .fieldref 17 23), (0, .nameAndType 24 21), (0, u "QUARTERLY"), (0, .methodref 8 26), (0, .nameAndType 27 28), (0, u "workedOutAfreshAfter"), (0, u "(ILcom/example/vestbook/vestbook/engine/InstallmentSpacing;)Z"), (0, .class_ 30), (0, u "com/example/vestbook/vestbook/engine/InstallmentAmountWorkedOutAfreshAfterPinLaw"), (2, u "law"), (0, u "(II)Z")] 3

def k1m0 : Method := { name := "<init>", desc := "()V", sig := { parameters := [], returnType := none }, accessFlags := 1, code := none }
def k1c1 : Code := { maxStack := 3, maxLocals := 6, code := code, exceptionTable := #[], attributes := #[] }
def k1m1 : Method := { name := "law", desc := "(II)Z", sig := { parameters := [.int, .int], returnType := some .boolean }, accessFlags := 9, code := some k1c1 }
/-- com/example/vestbook/vestbook/engine/InstallmentAmountWorkedOutAfreshAfterPinLaw -/
def k1 : Class := { plain "com/example/vestbook/vestbook/engine/InstallmentAmountWorkedOutAfreshAfterPinLaw" (some 0) with
  accessFlags := 49
  interfaces := #[]
  cf := some (fileOf pool1 29 #[] #[{ accessFlags := 1, nameIndex := 5, descriptorIndex := 6, attributes := #[] }, { accessFlags := 9, nameIndex := 33, descriptorIndex := 34, attributes := #[] }] 49 2 #[] #[])
  fields := #[]
  methods := #[k1m0, k1m1]
  instanceTypes := #[]
  staticTypes := #[]
  resolved := Array.replicate 38 none
  statics := none }

def pool2 : Array CpInfo := pool [(1, .class_ 2), (0, u "java/lang/constant/Constable"), (0, .class_ 4), (0, u "java/lang/Object")] 6

/-- java/lang/constant/Constable -/
def k2 : Class := { plain "java/lang/constant/Constable" (some 0) with
  accessFlags := 1537
  interfaces := #[]
  cf := some (fileOf pool2 1 #[] #[] 1537 3 #[] #[])
  fields := #[]
  methods := #[]
  instanceTypes := #[]
  staticTypes := #[]
  resolved := Array.replicate 11 none
  statics := none }

def pool3 : Array CpInfo := pool [(1, .class_ 2), (0, u "java/lang/Comparable"), (0, .class_ 4), (0, u "java/lang/Object")] 7

/-- java/lang/Comparable -/
def k3 : Class := { plain "java/lang/Comparable" (some 0) with
  accessFlags := 1537
  interfaces := #[]
  cf := some (fileOf pool3 1 #[] #[] 1537 3 #[] #[])
  fields := #[]
  methods := #[]
  instanceTypes := #[]
  staticTypes := #[]
  resolved := Array.replicate 12 none
  statics := none }

def pool4 : Array CpInfo := pool [(1, .class_ 2), (0, u "java/io/Serializable"), (0, .class_ 4), (0, u "java/lang/Object")] 2

/-- java/io/Serializable -/
def k4 : Class := { plain "java/io/Serializable" (some 0) with
  accessFlags := 1537
  interfaces := #[]
  cf := some (fileOf pool4 1 #[] #[] 1537 3 #[] #[])
  fields := #[]
  methods := #[]
  instanceTypes := #[]
  staticTypes := #[]
  resolved := Array.replicate 7 none
  statics := none }

def pool5 : Array CpInfo := pool [(2, .class_ 4), (1, u "java/lang/Enum"), (0, u "name"), (0, u "Ljava/lang/String;"), (2, u "ordinal"), (0, u "I"), (1, .class_ 14), (1, u "java/lang/Object"), (4, u "hash"), (86, .class_ 108), (1, u "java/lang/Enum$EnumDesc"), (2, .class_ 112), (0, u "java/lang/constant/Constable"), (0, .class_ 114), (0, u "java/lang/Comparable"), (0, .class_ 116), (0, u "java/io/Serializable")] 87

/-- java/lang/Enum -/
def k5 : Class := { plain "java/lang/Enum" (some 0) with
  accessFlags := 1057
  interfaces := #[2, 3, 4]
  cf := some (fileOf pool5 2 #[.nestMembers #[106]] #[] 1057 12 #[111, 113, 115] #[{ accessFlags := 18, nameIndex := 5, descriptorIndex := 6, attributes := #[] }, { accessFlags := 18, nameIndex := 9, descriptorIndex := 10, attributes := #[] }, { accessFlags := 2, nameIndex := 19, descriptorIndex := 10, attributes := #[] }])
  fields := #[{ name := "name", type := (.object "java/lang/String"), accessFlags := 18, slot := 0, constantValue := 0 }, { name := "ordinal", type := .int, accessFlags := 18, slot := 1, constantValue := 0 }, { name := "hash", type := .int, accessFlags := 2, slot := 2, constantValue := 0 }]
  methods := #[]
  instanceTypes := #[(.object "java/lang/String"), .int, .int]
  staticTypes := #[]
  resolved := Array.replicate 204 none
  statics := none }

def pool6 : Array CpInfo := pool [(1, .class_ 2), (0, u "com/example/vestbook/vestbook/engine/InstallmentAmount"), (0, .fieldref 1 4), (0, .nameAndType 5 6), (0, u "EACH_INSTALLMENT"), (0, u "Lcom/example/vestbook/vestbook/engine/InstallmentAmount;"), (2, u "EACH_ANNIVERSARY"), (2, u "$VALUES"), (0, u "[Lcom/example/vestbook/vestbook/engine/InstallmentAmount;"), (6, .class_ 22), (1, u "java/lang/Enum"), (8, u "written"), (0, u "Ljava/lang/String;"), (0, .methodref 34 35), (0, .class_ 36), (0, .nameAndType 37 38), (0, u "com/example/vestbook/vestbook/engine/InstallmentSpacing"), (0, u "getMonths"), (0, u "()I"), (0, .long 12), (14, u "MONTHS_A_YEAR"), (0, u "I"), (9, u "workedOutAfreshAfter"), (0, u "(ILcom/example/vestbook/vestbook/engine/InstallmentSpacing;)Z")] 8

def k6c0 : Code := { maxStack := 4, maxLocals := 3, code := prog_15_method_4_code, exceptionTable := #[], attributes := #[] }
def k6m0 : Method := { name := "workedOutAfreshAfter", desc := "(ILcom/example/vestbook/vestbook/engine/InstallmentSpacing;)Z", sig := { parameters := [.int, (.object "com/example/vestbook/vestbook/engine/InstallmentSpacing")], returnType := some .boolean }, accessFlags := 1, code := some k6c0 }
/-- com/example/vestbook/vestbook/engine/InstallmentAmount -/
def k6 : Class := { plain "com/example/vestbook/vestbook/engine/InstallmentAmount" (some 5) with
  accessFlags := 16433
  interfaces := #[]
  cf := some (fileOf pool6 1 #[] #[{ accessFlags := 1, nameIndex := 65, descriptorIndex := 66, attributes := #[] }] 16433 20 #[] #[{ accessFlags := 16409, nameIndex := 5, descriptorIndex := 6, attributes := #[] }, { accessFlags := 16409, nameIndex := 9, descriptorIndex := 6, attributes := #[] }, { accessFlags := 26, nameIndex := 54, descriptorIndex := 55, attributes := #[] }, { accessFlags := 18, nameIndex := 31, descriptorIndex := 32, attributes := #[] }, { accessFlags := 4122, nameIndex := 12, descriptorIndex := 13, attributes := #[] }])
  fields := #[{ name := "EACH_INSTALLMENT", type := (.object "com/example/vestbook/vestbook/engine/InstallmentAmount"), accessFlags := 16409, slot := 0, constantValue := 0 }, { name := "EACH_ANNIVERSARY", type := (.object "com/example/vestbook/vestbook/engine/InstallmentAmount"), accessFlags := 16409, slot := 1, constantValue := 0 }, { name := "MONTHS_A_YEAR", type := .int, accessFlags := 26, slot := 2, constantValue := 0 }, { name := "written", type := (.object "java/lang/String"), accessFlags := 18, slot := 3, constantValue := 0 }, { name := "$VALUES", type := (.array (.object "com/example/vestbook/vestbook/engine/InstallmentAmount")), accessFlags := 4122, slot := 3, constantValue := 0 }]
  methods := #[k6m0]
  instanceTypes := #[(.object "java/lang/String"), .int, .int, (.object "java/lang/String")]
  staticTypes := #[(.object "com/example/vestbook/vestbook/engine/InstallmentAmount"), (.object "com/example/vestbook/vestbook/engine/InstallmentAmount"), .int, (.array (.object "com/example/vestbook/vestbook/engine/InstallmentAmount"))]
  resolved := Array.replicate 75 none
  statics := some 0 }

def pool7 : Array CpInfo := pool [(1, .class_ 2), (0, u "com/example/vestbook/vestbook/engine/InstallmentSpacing"), (2, u "ANNUAL"), (0, u "Lcom/example/vestbook/vestbook/engine/InstallmentSpacing;"), (2, u "QUARTERLY"), (2, u "$VALUES"), (0, u "[Lcom/example/vestbook/vestbook/engine/InstallmentSpacing;"), (6, .class_ 22), (1, u "java/lang/Enum"), (8, u "written"), (0, u "Ljava/lang/String;"), (0, .fieldref 1 34), (0, .nameAndType 35 36), (0, u "months"), (0, u "I"), (19, u "getMonths"), (0, u "()I")] 7

def k7c0 : Code := { maxStack := 1, maxLocals := 1, code := prog_17_method_4_code, exceptionTable := #[], attributes := #[] }
def k7m0 : Method := { name := "getMonths", desc := "()I", sig := { parameters := [], returnType := some .int }, accessFlags := 1, code := some k7c0 }
/-- com/example/vestbook/vestbook/engine/InstallmentSpacing -/
def k7 : Class := { plain "com/example/vestbook/vestbook/engine/InstallmentSpacing" (some 5) with
  accessFlags := 16433
  interfaces := #[]
  cf := some (fileOf pool7 1 #[] #[{ accessFlags := 1, nameIndex := 56, descriptorIndex := 57, attributes := #[] }] 16433 20 #[] #[{ accessFlags := 16409, nameIndex := 5, descriptorIndex := 6, attributes := #[] }, { accessFlags := 16409, nameIndex := 9, descriptorIndex := 6, attributes := #[] }, { accessFlags := 18, nameIndex := 31, descriptorIndex := 32, attributes := #[] }, { accessFlags := 18, nameIndex := 35, descriptorIndex := 36, attributes := #[] }, { accessFlags := 4122, nameIndex := 12, descriptorIndex := 13, attributes := #[] }])
  fields := #[{ name := "ANNUAL", type := (.object "com/example/vestbook/vestbook/engine/InstallmentSpacing"), accessFlags := 16409, slot := 0, constantValue := 0 }, { name := "QUARTERLY", type := (.object "com/example/vestbook/vestbook/engine/InstallmentSpacing"), accessFlags := 16409, slot := 1, constantValue := 0 }, { name := "written", type := (.object "java/lang/String"), accessFlags := 18, slot := 3, constantValue := 0 }, { name := "months", type := .int, accessFlags := 18, slot := 4, constantValue := 0 }, { name := "$VALUES", type := (.array (.object "com/example/vestbook/vestbook/engine/InstallmentSpacing")), accessFlags := 4122, slot := 2, constantValue := 0 }]
  methods := #[k7m0]
  instanceTypes := #[(.object "java/lang/String"), .int, .int, (.object "java/lang/String"), .int]
  staticTypes := #[(.object "com/example/vestbook/vestbook/engine/InstallmentSpacing"), (.object "com/example/vestbook/vestbook/engine/InstallmentSpacing"), (.array (.object "com/example/vestbook/vestbook/engine/InstallmentSpacing"))]
  resolved := Array.replicate 65 none
  statics := some 1 }

def pool8 : Array CpInfo := pool [(1, u "java/lang/Cloneable"), (0, .class_ 1), (0, u "java/lang/Object"), (0, .class_ 3)] 3

/-- java/lang/Cloneable -/
def k8 : Class := { plain "java/lang/Cloneable" (some 0) with
  accessFlags := 1537
  interfaces := #[]
  cf := some (fileOf pool8 2 #[] #[] 1537 4 #[] #[])
  fields := #[]
  methods := #[]
  instanceTypes := #[]
  staticTypes := #[]
  resolved := Array.replicate 8 none
  statics := none }

/-- the primitive byte -/
def k9 : Class := { plain "byte" none with kind := .primitive 'B', accessFlags := 0x411 }
/-- [B -/
def k10 : Class := { plain "[B" (some 0) with kind := .array 9 .byte, interfaces := #[8, 4], accessFlags := 1041 }

/-- the primitive int -/
def k11 : Class := { plain "int" none with kind := .primitive 'I', accessFlags := 0x411 }
/-- [I -/
def k12 : Class := { plain "[I" (some 0) with kind := .array 11 .int, interfaces := #[8, 4], accessFlags := 1041 }

def heap : Heap := #[{ cls := 6, slots := #[.ref 2, .ref 3, .int 0, .null], vm := .statics 6 },
  { cls := 7, slots := #[.ref 4, .ref 5, .null], vm := .statics 7 },
  { cls := 6, slots := #[.null, .int 0, .int 0, .null], vm := .none },
  { cls := 6, slots := #[.null, .int 1, .int 0, .null], vm := .none },
  { cls := 7, slots := #[.null, .int 0, .int 0, .null, .int 12], vm := .none },
  { cls := 7, slots := #[.null, .int 1, .int 0, .null, .int 3], vm := .none }]
def classes : Array Class := #[k0, k1, k2, k3, k4, k5, k6, k7, k8, k9, k10, k11, k12]
def interned : List (Array UInt16 × Addr) := []
def slotsUsed : Nat := 25
def theMethod : MethodId := ⟨1, 1⟩
def args0 : Array Value := #[.int 5, .int 3]
def aboutOver (below : List Frame) : State where
  vm := { classes := classes, interned := interned.toArray }
  heap := heap
  slotsUsed := slotsUsed
  threads := #[{ frames := .invoking theMethod args0 :: below }]
def below0 : List Frame := [.native { method := ⟨0, 0⟩, args := #[] }]
def about1 : State := aboutOver below0
def p0 : Program := .bare "" "" ""
def e0 : Env := launch0.env 0 0 0
theorem w_frames : about1.frames = Frame.invoking theMethod args0 :: below0 := rfl
set_option maxRecDepth 65536 in
theorem w_args : argsFit about1.vm theMethod args0 = true := by decide +kernel
set_option maxRecDepth 65536 in
theorem w_heap : heapFits about1 = true := by decide +kernel
set_option maxRecDepth 65536 in
theorem w_runnable : about1.curStatus? = some .runnable := by decide +kernel
set_option maxRecDepth 65536 in
theorem w_alone : about1.alone = true := by decide +kernel
set_option maxRecDepth 65536 in
theorem w_named : about1.methodNamed? x = some theMethod := by decide +kernel
set_option maxRecDepth 65536 in
theorem w_hears : about1.hears theMethod below0 = true := by decide +kernel
set_option maxRecDepth 65536 in
theorem w_ripe : about1.ripe theMethod args0 below0 = true := by decide +kernel
theorem w_running : about1.status = .running := rfl
set_option maxRecDepth 65536 in
theorem w_room : about1.hasRoom e0.platform room_1 = true :=
  launch0.hasRoom_least _ room_1 (by decide +kernel) (by decide +kernel) (by decide +kernel) (by decide +kernel) (by decide +kernel) (by decide +kernel)
theorem allAtoms_all (ts : List Jvm.Cond) (a : Array Jvm.Value) (st : Jvm.State) : (allAtoms ts).before a st = ts.all (fun c => c.before a st) := by
  induction ts with
  | nil => rfl
  | cons c t ih =>
    show (Jvm.Cond.and c (allAtoms t)).before a st = _
    rw [Jvm.Cond.before_and, ih, List.all_cons]
def words1 : List Jvm.Cond := Jvm.Cond.code x code maxLocals ret :: tables_1
/-- a 'code' word, met by the world's own term for the bytes: nothing is compared byte by byte -/
theorem code_word {y : MethodName} {bytes : ByteArray} {mx : Nat} {rt : Option FieldType} {a : Array Value} {s : State} {m : MethodId} {meth : Method} {c : Code} (h1 : s.methodNamed? y = some m) (h2 : s.vm.method? m = some meth) (h3 : meth.code = some c) (h4 : c.code = bytes)
    (h5 : (c.maxLocals == mx && c.exceptionTable.isEmpty && decide (c.maxStack ≤ mostOperands) && decide (meth.sig.returnType = rt) && !meth.locks && decide (parseMethodDescriptor y.desc = some meth.sig)) = true) : (Jvm.Cond.code y bytes mx rt).before a s = true := by
  simp only [Bool.and_eq_true, beq_iff_eq, Bool.not_eq_true', decide_eq_true_eq] at h5
  obtain ⟨⟨⟨⟨⟨g1, g2⟩, g3⟩, g4⟩, g5⟩, g6⟩ := h5
  simp [Cond.before, Cond.holds, Cond.value, h1, h2, h3, h4, g1, g2, g3, g4, g5, g6]
def isCode : Jvm.Cond → Bool
  | .code _ _ _ _ => true
  | _ => false
theorem all_split {L : List Jvm.Cond} {P : Jvm.Cond → Bool} (h1 : L.all (fun c => isCode c || P c) = true) (h2 : ∀ c ∈ L.filter isCode, P c = true) : L.all P = true := by
  refine List.all_eq_true.mpr fun c hc => ?_
  have h := List.all_eq_true.mp h1 c hc
  rcases Bool.eq_false_or_eq_true (isCode c) with hi | hi
  · exact h2 c (List.mem_filter.mpr ⟨hc, hi⟩)
  · simpa [hi] using h
set_option maxRecDepth 65536 in
theorem w_c0 : (Jvm.Cond.code x code maxLocals ret).before args0 about1 = true := code_word (m := ⟨1, 1⟩) (meth := k1m1) (c := k1c1) (by decide +kernel) rfl rfl rfl (by decide +kernel)
set_option maxRecDepth 65536 in
theorem w_c1 : (Jvm.Cond.code ({ cls := "com/example/vestbook/vestbook/engine/InstallmentAmount", name := "workedOutAfreshAfter", desc := "(ILcom/example/vestbook/vestbook/engine/InstallmentSpacing;)Z" } : Jvm.MethodName) prog_15_method_4_code (3 : Nat) (Option.some Jvm.ClassFile.FieldType.boolean)).before args0 about1 = true := code_word (m := ⟨6, 0⟩) (meth := k6m0) (c := k6c0) (by decide +kernel) rfl rfl rfl (by decide +kernel)
set_option maxRecDepth 65536 in
theorem w_c2 : (Jvm.Cond.code ({ cls := "com/example/vestbook/vestbook/engine/InstallmentSpacing", name := "getMonths", desc := "()I" } : Jvm.MethodName) prog_17_method_4_code (1 : Nat) (Option.some Jvm.ClassFile.FieldType.int)).before args0 about1 = true := code_word (m := ⟨7, 0⟩) (meth := k7m0) (c := k7c0) (by decide +kernel) rfl rfl rfl (by decide +kernel)
def codes1 : List Jvm.Cond := [Jvm.Cond.code x code maxLocals ret, Jvm.Cond.code ({ cls := "com/example/vestbook/vestbook/engine/InstallmentAmount", name := "workedOutAfreshAfter", desc := "(ILcom/example/vestbook/vestbook/engine/InstallmentSpacing;)Z" } : Jvm.MethodName) prog_15_method_4_code (3 : Nat) (Option.some Jvm.ClassFile.FieldType.boolean), Jvm.Cond.code ({ cls := "com/example/vestbook/vestbook/engine/InstallmentSpacing", name := "getMonths", desc := "()I" } : Jvm.MethodName) prog_17_method_4_code (1 : Nat) (Option.some Jvm.ClassFile.FieldType.int)]
set_option maxRecDepth 65536 in
theorem codes_eq : words1.filter isCode = codes1 := rfl
theorem w_codes : ∀ c ∈ words1.filter isCode, c.before args0 about1 = true := by
  rw [codes_eq]
  intro c hc
  simp only [codes1, List.mem_cons, List.not_mem_nil, or_false] at hc
  rcases hc with rfl | rfl | rfl
  · exact w_c0
  · exact w_c1
  · exact w_c2
set_option maxRecDepth 65536 in
theorem w_t1 : (words1.take 24).all (fun c => isCode c || c.before args0 about1) = true := by decide +kernel
set_option maxRecDepth 65536 in
theorem w_t2 : (words1.drop 24).all (fun c => isCode c || c.before args0 about1) = true := by decide +kernel
theorem w_tables : (allAtoms (Jvm.Cond.code x code maxLocals ret :: tables_1)).before args0 about1 = true := by
  rw [allAtoms_all]
  show words1.all (fun c => c.before args0 about1) = true
  refine all_split ?_ w_codes
  rw [← List.take_append_drop 24 words1, List.all_append, w_t1, w_t2]
  rfl
set_option maxRecDepth 65536 in
theorem w_case : (Jvm.Cond.and given_1 narrow_1).before args0 about1 = true := by decide +kernel
theorem w_applies : (headSpec (Jvm.Cond.code x code maxLocals ret :: tables_1) room_1).applies x e0.platform about1 = true :=
  (Spec.applies_iff w_frames).mpr ⟨w_running, w_runnable, w_alone, w_named, w_hears, w_ripe, w_room, w_tables⟩
theorem atStart : AtStart classFile x code maxLocals ret World_1 tables_1 room_1 Calls_1 rest_1 Pre_1 launch0 p0 e0 about1 theMethod args0 below0 :=
  ⟨lists_1, trivial, launch0.admits_env _ _ _, launch0.least_env, fairChoices_fair.cas, fairChoices_fair.clock, w_frames, w_args, w_heap, w_applies, trivial, trivial, w_case⟩
end start1
theorem witness_1 : WitnessClaimed_1 := ⟨start1.p0, start1.e0, start1.about1, start1.theMethod, start1.args0, start1.below0, start1.atStart⟩
end Jvm.Pilot.@@N@@
