import JvmDerived
import JvmDerived.Pilot.@@N@@Statement
import JvmDerived.Pilot.@@N@@Code
set_option linter.unusedVariables false
set_option linter.unusedSimpArgs false
@@BLOCK:LamKit.lean.txt@@
namespace Jvm.RoadKit
open Sem ClassFile Op Lib Jvm.Stand Jvm.Free Jvm.LawKit
section NewL
variable {p : Program} {l : Launch} {e : Env} {R : Room} {s : State} {m : MethodId} {args : Array Value} {below : List Frame} {meth : Method} {c : Code} {T : State} {locs : List Loc} {cells slots : Nat}
theorem retL (X : Stand p l e R s m args below meth c T locs cells slots) (hx : p.tables.exec = Jvm.exec) {pc : Nat} {Ls : Array Slot} {z : Int64} {rest : List Value} (hret : meth.sig.returnType = some .long) (hd : decode c.code pc = .ok (.lreturn, 1)) {fs : List Frame}
    (hl : ∀ (f : JFrame) (acts : List Action), f.method = m → f.locked = none → f.entered = [] → (doReturn e (T.setTop f) acts (some (.long z))).1 = T.setFrames fs) : Steps p.tables e below (T.setTop (mkF m pc Ls (.long z :: rest))) (T.setFrames fs) := by
  have hm' : T.vm.method? m = some meth := X.method'
  show Steps p.tables e below (T.setTop { method := m, pc := pc, locals := Ls, stack := _ :: rest, locked := none }) _
  jvm_step X.here [X.here.top, hx, hd, hm', hret]
  first | (intro acts; rw [hl _ acts rfl rfl rfl]) | rw [hl _ _ rfl rfl rfl]
  exact Steps.refl _
end NewL
end Jvm.RoadKit
namespace Jvm.Pilot.@@N@@
open Jvm Jvm.ClassFile Sem Op Lib Jvm.Free Jvm.Stand Jvm.LawKit Jvm.RoadKit Bundle Jvm.Pilot.@@N@@.Jvm.D
theorem own_ext {h0 h : Heap} (K : Keep h0 h []) : Ext h0 h := ⟨K.1, fun x c q => K.2.1 x c q nin0⟩
abbrev own_dt : String := "com/example/swallow/swallow/schedule/DueTime"
abbrev own_σ : Lambda.Shape := Lambda.Shape.mk own_dt "deliverAt" ⟨[.long], some .long⟩ [.long] 6 own_dt "lambda$afterDelay$1" ⟨[.long, .long], some .long⟩ true ⟨[.long], some .long⟩
abbrev own_xi : MethodName := ⟨own_dt, "deliverAt", "(J)J"⟩
abbrev own_y : MethodName := ⟨own_dt, "lambda$afterDelay$1", "(JJ)J"⟩
def own_fc : ByteArray := ⟨#[0x2a, 0xb4, 0x00, 0x0f, 0x1f, 0xb8, 0x00, 0x15, 0xad]⟩
theorem own_f0 : decode own_fc 0 = .ok (.aload_n 0, 1) := by decide +kernel
theorem own_f1 : decode own_fc 1 = .ok (.getfield 15, 3) := by decide +kernel
theorem own_f4 : decode own_fc 4 = .ok (.lload_n 1, 1) := by decide +kernel
theorem own_f5 : decode own_fc 5 = .ok (.invokestatic 21, 3) := by decide +kernel
theorem own_f8 : decode own_fc 8 = .ok (.lreturn, 1) := by decide +kernel
theorem own_cap : Jvm.LamKit.capOK own_σ own_dt 15 0 = true := by decide +kernel
theorem own_pds : parseMethodDescriptor "(JJ)J" = some ⟨[.long, .long], some .long⟩ := by decide +kernel
theorem own_pdi : parseMethodDescriptor "(J)J" = some ⟨[.long], some .long⟩ := by decide +kernel
/-- the class that the rule makes for this shape: its forwarder, its entry 21 (an InterfaceMethodref: the target stands in an interface) and its entry 6 -/
def own_good : Bool :=
  plainName (own_dt ++ "$$Lambda") &&
  match own_σ.file own_dt with
  | none => false
  | some D =>
    match (layoutMethods D).bind (·[1]?), D.constantPool[21]?, D.constantPool[6]? with
    | some f, some (CpInfo.interfaceMethodref i nt), some (CpInfo.class_ n) =>
      decide ((f.code.map fun c => (c.code.data, c.maxLocals)) = some (own_fc.data, 3)) && decide (f.accessFlags = 1) && decide (f.sig.returnType = some .long) && decide (i = 6) &&
      decide (D.constantPool.className? 6 = some own_dt) && decide (D.constantPool.nameAndType? nt = some ("lambda$afterDelay$1", "(JJ)J")) && decide (D.constantPool.string? n = some own_dt) && decide (6 ≠ D.thisClass)
    | _, _, _ => false
theorem own_isGood : own_good = true := by decide +kernel
theorem own_resolved {e : Setting} {vm : Vm} {cf : ClassFile} {fields : Array Field} {self : ClassId} {i ci nt : Nat} {cn name desc : String} {owner : ClassId} {k : Class} {m : MethodId} (hi : cf.constantPool[i]? = some (.interfaceMethodref ci nt)) (hc : cf.constantPool.className? ci = some cn)
    (hf : vm.findClass cn = some owner) (hk : vm.classes[owner]? = some k) (hnt : cf.constantPool.nameAndType? nt = some (name, desc)) (hl : ((methodIn owner name desc k.isInterface none).ask e vm).1 = .ok m) :
    (Lambda.resolvedOf e vm cf fields self)[i]? = some (some (.method m)) := by
  simp [Lambda.resolvedOf, Array.getElem?_mapIdx, hi, hc, hf, hk, hnt, hl]
theorem own_made {st : Setting} {vm : Vm} {d c : ClassId} {dk : Class} (hd : vm.classes[d]? = some dk) (hname : dk.name = own_dt) (h : Lambda.isMade st vm d own_σ c = true) :
    ∃ (k tk : Class) (file : ClassFile) (methk : Method) (ck : Code) (o : ClassId) (t : MethodId) (nt : Nat),
      vm.classes[c]? = some k ∧ plainName k.name = true ∧ k.cf = some file ∧ file.constantPool[21]? = some (.interfaceMethodref 6 nt) ∧ file.constantPool.nameAndType? nt = some ("lambda$afterDelay$1", "(JJ)J") ∧
      vm.method? ⟨c, 1⟩ = some methk ∧ methk.code = some ck ∧ ck.code = own_fc ∧ ck.maxLocals = 3 ∧ methk.locks = false ∧ methk.accessFlags = 1 ∧ methk.sig.returnType = some .long ∧
      vm.findClass own_dt = some o ∧ vm.classes[o]? = some tk ∧ ((methodIn o "lambda$afterDelay$1" "(JJ)J" tk.isInterface none).ask st vm).1 = .ok t ∧ vm.methodReady c 21 t ∧ vm.classReady c 6 o := by
  obtain ⟨dk', k, ok, tk, file, cf, object, iface, o, lay, methods, target, found, hd', hk, hfile, hcf, -, -, -, -, hms, ht, htk, hg, -, hrec, -, -, -, -, hpool, hmeth, -, -, hres, -⟩ := Lambda.isMade_spec h
  cases hd.symm.trans hd'
  rw [hname] at hcf
  have hok := own_isGood
  unfold own_good at hok
  rw [hcf, Bool.and_eq_true] at hok
  obtain ⟨hpn, hok⟩ := hok
  dsimp only at hok
  split at hok
  · rename_i f i nt n hf hidx hci
    simp only [Bool.and_eq_true, decide_eq_true_eq] at hok
    obtain ⟨⟨⟨⟨⟨⟨⟨fc, ffl⟩, fr⟩, rfl⟩, hcn⟩, hnt⟩, hs⟩, hne⟩ := hok
    rw [hms] at hf
    obtain ⟨b, hb, hsame⟩ := hmeth 1 f hf
    obtain ⟨-, -, hsig, hfl, x, y, hx, hy, -, hml, hcd, -⟩ := Lambda.sameMethod_spec hsame
    rw [hx] at fc
    simp only [Option.map_some, Option.some.injEq, Prod.mk.injEq] at fc
    have hg' : ((methodIn o "lambda$afterDelay$1" "(JJ)J" tk.isInterface none).ask st vm).1 = .ok target := hg
    refine ⟨k, tk, file, b, y, o, target, nt, hk, by rw [hrec.1, hname]; exact hpn, hfile, by rw [hpool.2.1]; exact hidx, by rw [hpool.2.1]; exact hnt, by simp [Vm.method?, hk, hb], hy, ?_, by rw [hml]; exact fc.2, ?_, by rw [hfl]; exact ffl, by rw [hsig]; exact fr, ht, htk, hg',
      ⟨k, hk, hres 21 _ (own_resolved hidx hcn ht htk hnt hg')⟩, ⟨k, hk, hres 6 _ (Lambda.resolvedOf_class hci hne hs ht)⟩⟩
    · rw [hcd]; exact ByteArray.ext fc.1
    · simp [Method.locks, Method.isSynchronized, hfl, ffl, hasFlag, Acc.synchronized]
  · cases hok
theorem own_madeW {s U : State} {cK : ClassId} (hW : s.WarmedH U.vm) (h : Jvm.LamKit.Made s own_dt own_σ cK) : Jvm.LamKit.Made U own_dt own_σ cK := by
  obtain ⟨d, dk, hd, hdn, hm, hc⟩ := h
  obtain ⟨dk', hd', he⟩ := hW.alike.2.2 _ _ hd
  have hA := hW.alike
  refine ⟨d, dk', hd', by rw [he]; exact hdn, Lambda.isMade_warmer hW hm, ?_⟩
  simp only [State.lambdaCallable, hA.findClass, hA.assignable, hA.superclasses, hA.declaredIn] at hc ⊢
  exact hc
theorem own_t0 : decode prog_13_method_5_code 0 = .ok (.lload_n 2, 1) := by decide +kernel
theorem own_t1 : decode prog_13_method_5_code 1 = .ok (.lload_n 0, 1) := by decide +kernel
theorem own_t2 : decode prog_13_method_5_code 2 = .ok (.ladd, 1) := by decide +kernel
theorem own_t3 : decode prog_13_method_5_code 3 = .ok (.lreturn, 1) := by decide +kernel
abbrev own_ws : List Jvm.Cond := [Jvm.Cond.code own_y prog_13_method_5_code 4 (some .long)]
theorem own_plain : plainName own_dt = true := by first | (simp [plainName, overriddenIn]; done) | decide +kernel
/-- the lambda's body: (delay, born) -> born + delay -/
theorem own_target (l : Launch) (u v : Int64) : Met l own_y own_ws { frames := 0, cells := 0, slots := 0, locals := 0 } (fun args _ => args = #[.long u, .long v]) (fun _ s o t => o = .returned (some (.long (v + u))) ∧ t.heap = s.heap) 0 0 (fun _ => False) := by
  refine MetFree.of_bodyS (code := prog_13_method_5_code) (maxLocals := 4) (ret := some .long) (by decide) (Jvm.LamKit.hisOf (List.mem_singleton.mpr rfl)) ?_
  intro p e s m args below meth c s₁ Bd hml hP _
  obtain rfl : args = #[.long u, .long v] := hP
  have X := Stand.of_body Bd
  have hh : s₁.heap = s.heap := by rw [Bd.state]; rfl
  obtain ⟨fs, hr, hrun, hended, hW, hsame⟩ := X.leave (v := some (.long (v + u))) (fun h => by rw [Bd.returns] at h; cases h)
  refine ⟨s₁.setFrames fs, _, ?_, hrun, hended, ⟨rfl, hh⟩, [], ⟨⟨_, rfl⟩, hW, hsame⟩, fun q hq => nomatch hq⟩
  show Steps p.tables e below (s₁.setTop (mkF m 0 #[.val (.long u), .second, .val (.long v), .second] [])) _
  refine XS.lloadN X.here Bd.exec rfl (hb Bd.bytes own_t0) rfl ?_
  refine XS.lloadN X.here Bd.exec rfl (hb Bd.bytes own_t1) rfl ?_
  refine XS.ladd X.here Bd.exec rfl (hb Bd.bytes own_t2) rfl ?_
  exact retL X Bd.exec Bd.returns (hb Bd.bytes own_t3) hr
section Own
variable {p : Program} {l : Launch} {e : Env} {R : Room} {s : State} {m : MethodId} {args : Array Value} {below : List Frame} {meth : Method} {c : Code} {T : State} {locs : List Loc} {cells slots : Nat}
/-- the machine's selection for a function object of this shape -/
theorem own_selects {cK : ClassId} (hmd : Jvm.LamKit.Made s own_dt own_σ cK) (hface : (Jvm.Cond.interfaceMethod own_dt own_dt "deliverAt" "(J)J").before args s = true) :
    ∃ (kF : Class) (methK : Method), s.vm.classes[cK]? = some kF ∧ s.vm.method? ⟨cK, 1⟩ = some methK ∧ hasFlag methK.accessFlags Acc.public_ = true ∧ methK.isAbstract = false ∧
      ∀ r0 r, s.methodNamed? own_xi = some r0 → s.vm.method? r0 = some r → s.vm.assignable cK r0.cls = true ∧ selectMethod {} s.vm cK r0 = .method ⟨cK, 1⟩ ∧
        ((cK :: s.vm.superclasses cK).any fun k => (declaredIn s.vm r.name r.desc k).any fun (_, y) => y.isPrivate || y.isStatic) = false := by
  obtain ⟨d, dk, hd, hdn, hmade, hcan⟩ := hmd
  obtain ⟨kK, -, -, methk, -, -, -, -, hkK, -, -, -, -, hmk, -, -, -, -, hfl, -⟩ := own_made hd hdn hmade
  refine ⟨kK, methk, hkK, hmk, by rw [hfl]; decide, by simp [Method.isAbstract, hfl, hasFlag, Acc.abstract], fun r0 r hn hrm => ?_⟩
  obtain ⟨cL, kL, r1, hcL, hkL, hiL, hfoundL, hn1⟩ := Cond.interfaceMethod_spec hface
  cases hn.symm.trans hn1
  have hr0 : r0.cls = cL := Option.some.inj ((findClass_of_methodNamed hn).symm.trans hcL)
  obtain ⟨hnameR, hdescR⟩ := name_of_methodNamed hn hrm
  obtain ⟨-, -, -, -, -, -, -, iface', -, -, -, -, found, -, -, -, -, -, hi', -, -, -, -, -, -, hfound', -, -, -, -, -, -, -, -, -, -, hsel⟩ := Lambda.isMade_spec hmade
  have hi'' : s.vm.findClass own_dt = some iface' := hi'
  cases hcL.symm.trans hi''
  have hfr : found = r0 := by
    have h1 : s.methodFound? own_dt "deliverAt" "(J)J" = some r0 := hfoundL
    simp only [State.methodFound?, hcL, hkL, hiL, Option.bind_eq_bind, Option.bind_some] at h1
    have h2 := hfound'
    rw [show own_σ.name = "deliverAt" from rfl, show own_σ.sam.toString = "(J)J" from by decide +kernel] at h2
    rw [h2] at h1
    exact Option.some.inj h1
  subst hfr
  obtain ⟨i2, hi2, hasg, hway⟩ := State.lambdaCallable_spec hcan
  have hi3 : s.vm.findClass own_dt = some i2 := hi2
  cases hcL.symm.trans hi3
  rw [show own_σ.name = "deliverAt" from rfl, show own_σ.sam.toString = "(J)J" from by decide +kernel] at hway
  exact ⟨by rw [hr0]; exact hasg, hsel, by rw [hnameR, hdescR]; exact hway⟩
theorem own_call (X : Stand p l e R s m args below meth c T locs cells slots) (hexec : p.tables.exec = Jvm.exec) {own : String} {index count : Nat}
    (hown : s.vm.findClass own = some m.cls) (hlink : (Jvm.Cond.methodLink own index own_xi).before args s = true) (hdecl : (Jvm.Cond.declares own_xi).before args s = true) (hface : (Jvm.Cond.interfaceMethod own_dt own_dt "deliverAt" "(J)J").before args s = true)
    (hcode : (Jvm.Cond.code own_y prog_13_method_5_code 4 (some .long)).before args s = true) (hstat : (Jvm.Cond.static own_y).before args s = true) (hini : (Jvm.Cond.initialized own_dt).before args s = true) (hO : (Jvm.Cond.instantiable "java/lang/Object" 0).before args s = true)
    {a : Addr} {cK : ClassId} {u v : Int64} (hmd : Jvm.LamKit.Made s own_dt own_σ cK) (hcell : T.heap[a]? = some { cls := cK, slots := #[.long u], vm := .none })
    {g : JFrame} (hg : g.method = m) (hsize : g.locals.size = c.maxLocals) {rest : List Value} (hstack : g.stack = .long v :: .ref a :: rest) (hdg : decode c.code g.pc = .ok (.invokeinterface index count, 5))
    (hfr : 2 ≤ R.frames) (hlo : 2 * g.monitorRoom + (rest.map fun v => v.category).sum + (3 + 11) + 15 ≤ R.locals) (hce : cells + 0 ≤ R.cells) (hsl : slots + 0 ≤ R.slots) :
    ∃ T', Stand p l e R s m args below meth c T' locs cells slots ∧ T'.heap = T.heap ∧
      ∀ target, Steps p.tables e below (T'.setTop { g with pc := g.pc + 5, stack := .long (v + u) :: rest }) target → Steps p.tables e below (T.setTop g) target := by
  obtain ⟨kK, methk, hkK, hmk, hpub, habs, hsel⟩ := own_selects hmd hface
  obtain ⟨r0, r, hn, hrm, hstR, hsigR⟩ := Cond.declares_spec hdecl
  obtain ⟨cL, kL, r1, hcL, hkL, hiL, -, -⟩ := Cond.interfaceMethod_spec hface
  have hr0 : r0.cls = cL := Option.some.inj ((findClass_of_methodNamed hn).symm.trans hcL)
  obtain ⟨hasg, hsel', hway⟩ := hsel r0 r hn hrm
  obtain ⟨vm₁, X₁, hstep₁⟩ := X.invokeinterface hexec hown hlink hn hrm hstR (by rw [hr0]; exact hkL) hiL (by decide) (a := a) (kcell := kK) hcell (fun z h => by cases h) hkK hasg
    (m' := ⟨cK, 1⟩) (meth' := methk) (by rw [Launch.admits_selectMethod X.admits]; exact hsel') hmk hway hpub habs hg (argsL := [.long v]) (rest := rest) (lenOf own_pdi rfl _ hsigR) hstack hdg
  -- the forwarder's frame
  obtain ⟨d, dk, hd, hdn, hmade, -⟩ := id hmd
  obtain ⟨mT, hmT⟩ := Cond.code_named hcode
  obtain ⟨methT, cT, hmethT, hcT, -, hlocT, -, -, -, hsigT⟩ := Cond.code_spec hmT hcode
  have hstaticT : methT.isStatic = true := Cond.static_spec hmT hmethT hstat
  obtain ⟨kT, hkT, hnameT⟩ := className_of_methodNamed hmT
  have hfT : s.vm.findClass own_dt = some mT.cls := findClass_of_methodNamed hmT
  have hinitK : kT.init = .initialized := Cond.initialized_spec hfT hkT hini
  have hW₁ : s.WarmedH (T.setVm vm₁).vm := X₁.warmed
  generalize hT1 : T.setVm vm₁ = T₁ at X₁ hstep₁ hW₁
  have hheap1 : T₁.heap = T.heap := by rw [← hT1]; rfl
  obtain ⟨kD₁, hkD₁, heD₁⟩ := hW₁.alike.2.2 _ _ hd
  obtain ⟨kK₁, tk₁, file₁, methk₁, ck₁, o₁, t₁, nt, hkK₁, hpn₁, hfile₁, hidx₁, hnt₁, hmk₁, hck₁, hbytes₁, hml₁, hlk₁, -, hretk₁, ho₁, htk₁, hlook₁, hready₁, hclsR₁⟩ := own_made hkD₁ (by rw [heD₁]; exact hdn) (Lambda.isMade_warmer hW₁ hmade)
  have hfT₁ : T₁.vm.findClass own_dt = some mT.cls := by rw [hW₁.alike.findClass]; exact hfT
  cases ho₁.symm.trans hfT₁
  have ht₁ : t₁ = mT := by
    have h1 : (s.setVm T₁.vm).methodFound? own_dt "lambda$afterDelay$1" "(JJ)J" = some mT := by rw [State.methodFound?_setVm hW₁.alike]; exact State.methodFound?_of_named (x := own_y) hmT (by decide)
    simp only [State.methodFound?, State.vm_setVm, hfT₁, htk₁, Option.bind_eq_bind, Option.bind_some] at h1
    rw [hlook₁] at h1
    exact Option.some.inj h1
  subst ht₁
  have hmethT₁ : T₁.vm.method? t₁ = some methT := by rw [hW₁.alike.method?]; exact hmethT
  obtain ⟨kT₁, hkT₁, heT₁⟩ := hW₁.alike.2.2 _ _ hkT
  cases htk₁.symm.trans hkT₁
  have hsp : ∀ z : Method, signaturePolymorphic tk₁ z = false := fun z => by
    have hn' : tk₁.name = own_dt := by rw [heT₁]; exact hnameT
    have q1 : own_dt ≠ "java/lang/invoke/MethodHandle" := by decide
    have q2 : own_dt ≠ "java/lang/invoke/VarHandle" := by decide
    simp [signaturePolymorphic, hn', q1, q2]
  obtain ⟨b, hmem⟩ := memberRef_ask' (e := e) (vm := T₁.vm) (d := cK) (index := 21) hkK₁ hfile₁ (Or.inr hidx₁) hnt₁
  have hpk : T₁.plainMethod ⟨cK, 1⟩ := State.plainMethod.of_name (fun k' hk' => by cases hkK₁.symm.trans hk'; exact hpn₁)
  have hL0 : entryFrame ⟨cK, 1⟩ #[.ref a, .long v] 3 = { method := ⟨cK, 1⟩, pc := 0, locals := #[.val (.ref a), .val (.long v), .second], stack := [], locked := none } := rfl
  obtain ⟨Y₀, hin⟩ := X₁.into (g := { g with stack := rest }) hg hsize hdg #[.ref a, .long v] (R' := { frames := 1, cells := 0, slots := 0, locals := 15 }) hmk₁ hck₁ hlk₁ hpk hfr (by rw [hml₁]; exact hlo) hce hsl
  rw [hml₁, hL0] at Y₀ hin
  generalize hU : (T₁.setTop { g with stack := rest }).pushFrame (.java { method := ⟨cK, 1⟩, pc := 0, locals := #[.val (.ref a), .val (.long v), .second], stack := [], locked := none }) = U at Y₀ hin
  have hvmU : U.vm = T₁.vm := by rw [← hU]; rfl
  have hheapU : U.heap = T₁.heap := by rw [← hU]; rfl
  generalize hs' : T₁.calling { g with stack := rest } ⟨cK, 1⟩ #[.ref a, .long v] = s' at Y₀
  have hvm' : s'.vm = T₁.vm := by rw [← hs']; rfl
  have hWs' : s.WarmedH s'.vm := by rw [hvm']; exact hW₁
  have hK : Back l { frames := 1, cells := 0, slots := 0, locals := 15 } p e (.java { g with stack := rest } :: below) s' #[.ref a, .long v] own_y 3 0
      (PreOf { frames := 1, cells := 0, slots := 0, locals := 15 } 0 0 (fun args _ => args = #[.long u, .long v])) (PostOf (fun _ s o t => o = .returned (some (.long (v + u))) ∧ t.heap = s.heap) 0 0 (fun _ => False)) :=
    back_of (bytes := prog_13_method_5_code) (maxL := 4) (ret := some .long) (own_target l u v) (fun _ _ _ _ h => h) rfl rfl (Nat.le_refl _) (Nat.le_refl _)
      (fun w hw' a' V hV => by rw [List.mem_singleton.mp hw']; exact word_at (State.WarmedH.trans hWs' hV) (Or.inl (by first | rfl | simp [Cond.onTables, Cond.keeps, Cond.steady])) hcode) (List.mem_singleton.mpr rfl)
      (fun a' V hV => word_at (State.WarmedH.trans hWs' hV) (Or.inl (by first | rfl | simp [Cond.onTables, Cond.keeps, Cond.steady])) hini)
  have hnamedU : U.methodNamed? own_y = some t₁ := by
    have q : (s.setVm T₁.vm).methodNamed? own_y = some t₁ := by rw [State.methodNamed?_setVm hW₁.alike]; exact hmT
    rw [← hU]; exact q
  obtain ⟨w, ⟨U', ls, cc, sl⟩, Y₁, ⟨g', mk', t, L, e1, e2, ⟨hq, hqh⟩, hl, hL, hc, hs⟩, hsteps⟩ := hK ⟨cK, 1⟩ methk₁ ck₁ ⟨U, [], 0, 0⟩ { method := ⟨cK, 1⟩, pc := 5, locals := #[.val (.ref a), .val (.long v), .second], stack := [], locked := none } (.invokestatic 21) t₁ #[.long u, .long v] Y₀ rfl (by rw [hml₁]; rfl)
    (by rw [hbytes₁]; exact own_f5) (Nat.le_refl _) hnamedU ⟨Nat.le_refl _, Nat.le_refl _, rfl⟩
  dsimp only [Pt.U, Pt.locs, Pt.cells, Pt.slots] at Y₁ e1 e2 hqh hl hc hs hsteps
  subst hl; subst hc; subst hs
  obtain rfl : w = some (.long (v + u)) := by simpa using hq
  obtain ⟨fs, hleave, -, hended, hWe, hsame⟩ := Y₁.leave (v := some (.long (v + u))) (fun h => by rw [hretk₁] at h; cases h) hlk₁
  subst hs'
  obtain ⟨T', X', -, -, ht⟩ := X₁.outOf (g := { g with stack := rest }) hg hdg hended hWe hsame
  have hheap' : T'.heap = T.heap := by
    have q : (U'.setFrames fs).heap = (T'.setTop { g with pc := g.pc + 5, stack := .long (v + u) :: rest }).heap := congrArg State.heap ht
    exact (show T'.heap = U'.heap from q.symm).trans (e1.trans (hqh.trans (hheapU.trans hheap1)))
  have hL0' : ls = [] := by
    cases ls with
    | nil => rfl
    | cons q r => exact (hL q (List.mem_cons_self ..)).elim
  subst hL0'
  refine ⟨T', by simpa using X', hheap', fun target kt => hstep₁ _ fun acts => ?_⟩
  refine Steps.trans ?_ kt
  have ht' : U'.setFrames fs = T'.setTop { g with pc := g.pc + 5, stack := .long (v + u) :: rest } := ht
  rw [hin acts, ← ht']
  refine Steps.weaken (mid := [.java { g with stack := rest }]) ?_
  have hU0 := Y₀.here
  refine XS.aloadN hU0 hexec rfl (hb hbytes₁ own_f0) rfl rfl ?_
  refine Jvm.LamKit.getCap hexec hU0 (by rw [hvmU]; exact hW₁) hmd own_cap hO (by rw [hheapU, hheap1]; exact hcell) rfl (v := .long u) rfl rfl rfl (hb hbytes₁ own_f1) ?_
  refine XS.lloadN hU0 hexec rfl (hb hbytes₁ own_f4) rfl ?_
  have hsU : U.topJava?.isSome := Y₀.here.top
  have hdI' : decode ck₁.code 5 = .ok (.invokestatic 21, 3) := by rw [hbytes₁]; exact own_f5
  show Steps p.tables e _ (U.setTop { method := ⟨cK, 1⟩, pc := 5, locals := #[.val (.ref a), .val (.long v), .second], stack := [.long v, .long u], locked := none }) _
  jvm_step Y₀.here [hexec, hdI', invokestatic.wp_ready (e := e) (s := U) (m := t₁) (k := tk₁) (meth := methT) (args := [.long u, .long v]) (rest := [])
    (f := { method := ⟨cK, 1⟩, pc := 5, locals := #[.val (.ref a), .val (.long v), .second], stack := [.long v, .long u], locked := none }) hsU ⟨6, _, _, b, t₁.cls, tk₁, by rw [hvmU]; exact hmem, by rw [hvmU]; exact hclsR₁, by rw [hvmU]; exact htk₁, by simp [hsp]⟩ (by rw [hvmU]; exact hready₁) (by rw [hvmU]; exact htk₁) (by rw [hvmU]; exact hmethT₁) (hsp _) hstaticT (by rw [heT₁]; exact hinitK) (lenOf own_pds rfl _ hsigT) (by simp)]
  intro acts'
  rw [doInvoke_state]
  refine hsteps.trans ?_
  have hfin := retL (rest := []) Y₁ hexec (pc := 8) (Ls := #[.val (.ref a), .val (.long v), .second]) hretk₁ (by rw [hbytes₁]; exact own_f8) hleave
  simpa using hfin
/-- 'invokedynamic' at afterDelay's second site: the function object is made; its class is the one that the start's tables name -/
theorem own_site {Z : State} (X : Stand p l e R s m args below meth c T locs cells slots) (hexec : p.tables.exec = Jvm.exec) (hZ : Z.WarmedH s.vm) {x : MethodName} {cK : ClassId} {one : Option Addr}
    (hx : x.cls = own_dt) (hnamed : s.methodNamed? x = some m) (hat : Z.lambdaAt? x 29 15 own_σ = some (cK, one)) (hO : (Jvm.Cond.instantiable "java/lang/Object" 0).before args s = true)
    {g : JFrame} (hg : g.method = m) (hpc : g.pc = 29) (hsize : g.locals.size = c.maxLocals) (hdg : decode c.code g.pc = .ok (.invokedynamic 15, 5)) {u : Int64} {rest : List Value} (hstack : g.stack = .long u :: rest)
    (hwords : 2 * g.monitorRoom + (g.stack.map fun v => v.category).sum + 3072 ≤ R.locals) (hcells : cells + 1 ≤ R.cells) (hslots : slots + 1 ≤ R.slots) :
    Jvm.LamKit.Made Z own_dt own_σ cK ∧ Stand p l e R s m args below meth c (T.pushCell { cls := cK, slots := #[.long u], vm := .none }) locs (cells + 1) (slots + 1) ∧
      ∀ target, Steps p.tables e below ((T.pushCell { cls := cK, slots := #[.long u], vm := .none }).setTop { g with pc := g.pc + 5, stack := .ref T.heap.size :: rest }) target → Steps p.tables e below (T.setTop g) target := by
  obtain ⟨mD, kD, cfD, i0, p0, lk, hmD, hkD, hcfD, hsh, -, hfind, hmade, hcan, hl⟩ := State.lambdaAt?_spec hat
  obtain ⟨kD2, hkD2, hnameD⟩ := className_of_methodNamed hmD
  cases hkD.symm.trans hkD2
  have hm : mD = m := by
    have q : (Z.setVm s.vm).methodNamed? x = some mD := by rw [State.methodNamed?_setVm hZ.alike]; exact hmD
    exact Option.some.inj (q.symm.trans hnamed)
  subst hm
  obtain ⟨kD', hkD', he⟩ := hZ.alike.2.2 _ _ hkD
  rcases hl with ⟨a, cell, -, -, hc0, -⟩ | ⟨rfl, -, -⟩
  · exact absurd hc0 (by decide)
  · obtain ⟨b, nt, desc, site, h1, h2, h3, h4⟩ := Lambda.shapeOf?_site hsh
    have hname' : kD'.name = own_dt := by rw [he]; exact hnameD.trans hx
    obtain ⟨kc, f, hkc, hkind, hty, -⟩ := Jvm.LamKit.made_cap own_cap hkD' hname' (Lambda.isMade_warmer hZ hmade) (Jvm.LamKit.noFields hO (State.WarmedH.refl s))
    have hz : ((kc.instanceTypes.toList.zip [Value.long u]).map fun (t, v) => narrow t v) = [Value.long u] := by rw [hty]; rfl
    have hw : e.platform.lambdaLinkWords = 3072 := by rw [X.admits.platform]
    have q := X.lambdaMakes hexec hg hsize hdg (vals := [.long u]) (rest := rest) hkD' (by rw [hpc, he]; exact hfind) (by rw [he]; exact hcfD) h1 h2 (parseLong_of_parse h3) (by rw [h4]; rfl) hstack hkc (by rw [hw]; exact hwords) hcells (by rw [hz]; exact hslots)
      (fun i v hv => by
        rw [hz] at hv
        cases i with
        | zero => cases hv; simp [State.fitsSlot, State.slotType?, hkc, hkind, hty, fits]
        | succ i => simp at hv)
    rw [hz] at q
    exact ⟨⟨_, kD, hkD, hnameD.trans hx, hmade, hcan⟩, by simpa using q.1, q.2⟩
end Own
theorem own_backH {l : Launch} {R : Room} {p : Program} {e : Env} {below : List Frame} {s Z : State} {args a0 : Array Value} {h : Heap} {y : MethodName} {bytes : ByteArray} {maxL : Nat} {ret : Option FieldType} {rm : Room} {len W : Nat} {as' : Array Value} {Q : Option Value → Heap → List Loc → Prop}
    (hM : MetFree l y (head1 [Jvm.Cond.code y bytes maxL ret] rm) (fun a U => a = as' ∧ Z.WarmedH U.vm ∧ U.heap = h) (fun _ _ _ _ _ => True) (fun _ U o U' => ∃ v L, o = .returned v ∧ Q v U'.heap L ∧ FrameEnd U o U' L rm.cells rm.slots))
    (hZ : Z.WarmedH s.vm) (wc : (Jvm.Cond.code y bytes maxL ret).before a0 Z = true) (wz : (Jvm.Cond.initialized y.cls).before a0 Z = true) (hf : rm.frames + 1 ≤ R.frames) (hl : W + (maxL + 11) + rm.locals ≤ R.locals) :
    Back l R p e below s args y len W (fun A a => a = as' ∧ A.U.heap = h ∧ A.cells + rm.cells ≤ R.cells ∧ A.slots + rm.slots ≤ R.slots)
      (fun A _ v B => ∃ L, Q v B.U.heap L ∧ B.locs = A.locs ++ L ∧ B.cells = A.cells + rm.cells ∧ B.slots = A.slots + rm.slots) := by
  have hW : ∀ {U : State}, s.WarmedH U.vm → Z.WarmedH U.vm := fun h => State.WarmedH.trans hZ h
  refine Back.of_free (bytes := bytes) (maxL := maxL) (ret := ret) (E := fun _ _ o t L k n => k = rm.cells ∧ n = rm.slots ∧ ∃ v, o = .returned v ∧ Q v t.heap L) hM hf hl ?_ ?_ (fun _ _ _ _ _ _ _ _ _ => trivial) ?_ ?_
  · intro m meth c A a Y hp
    have q := (hW Y.warmed).wide
    exact ⟨by show (Jvm.Cond.and _ .tt).before a A.U = true; rw [Cond.before_and, mv q wc]; rfl, mv q wc, mv q wz, hp.2.2.1, hp.2.2.2⟩
  · intro m meth c A a g mk Y hp
    exact ⟨hp.1, hW Y.warmed, hp.2.1⟩
  · rintro _ _ _ _ ⟨v, L, h1, h2, h3⟩
    exact ⟨L, _, _, h3, rfl, rfl, v, h1, h2⟩
  · rintro m meth c A a g mk v t L k n Y hp _ _ ⟨e1, e2, v', e3, e4⟩
    cases e3
    subst e1 e2
    exact ⟨L, e4, rfl, rfl, rfl⟩
theorem own_lc (x : Int64) : lcmpW x x = (0 : Int32) := (lw_eq x x).mpr rfl
theorem own_ge (q : Int64) (h : 0 ≤ q.toInt) : ¬ (lcmpW q (0 : Int64) < (0 : Int32)) := by
  rw [lw_lt, Int64.lt_iff_toInt_lt]
  show ¬ q.toInt < (0 : Int)
  omega
theorem own_le (q : Int64) (h : q.toInt ≤ 316224000000) : ¬ ((0 : Int32) < lcmpW q (316224000000 : Int64)) := by
  rw [lw_gt, Int64.lt_iff_toInt_lt]
  show ¬ (316224000000 : Int) < q.toInt
  omega
theorem own_rng (d : Int64) : 0 ≤ ((d &&& (9223372036854775807 : Int64)) - ((d &&& (9223372036854775807 : Int64)) / ((316224000000 : Int64) + (1 : Int64))) * ((316224000000 : Int64) + (1 : Int64))).toInt ∧ ((d &&& (9223372036854775807 : Int64)) - ((d &&& (9223372036854775807 : Int64)) / ((316224000000 : Int64) + (1 : Int64))) * ((316224000000 : Int64) + (1 : Int64))).toInt ≤ 316224000000 := by
  have a := c_maskL d (9223372036854775807 : Int64) 63 (by decide) (by decide +kernel)
  have b := (c_lrem (d &&& (9223372036854775807 : Int64)) ((316224000000 : Int64) + (1 : Int64)) 316224000001 (by decide +kernel)).1
  omega
theorem pn_com_example_swallow_swallow_schedule_DueTime : plainName "com/example/swallow/swallow/schedule/DueTime" = true := by first | (simp [plainName, overriddenIn]; done) | decide +kernel
theorem d_prog_13_m2_0 : decode prog_13_method_2_code 0 = .ok (.lload_n 0, 1) := by decide +kernel
theorem d_prog_13_m2_1 : decode prog_13_method_2_code 1 = .ok (.lconst 0, 1) := by decide +kernel
theorem d_prog_13_m2_2 : decode prog_13_method_2_code 2 = .ok (.lcmp, 1) := by decide +kernel
theorem d_prog_13_m2_3 : decode prog_13_method_2_code 3 = .ok (.ifCond .lt 11, 3) := by decide +kernel
theorem d_prog_13_m2_6 : decode prog_13_method_2_code 6 = .ok (.lload_n 0, 1) := by decide +kernel
theorem d_prog_13_m2_7 : decode prog_13_method_2_code 7 = .ok (.ldc2_w 3, 3) := by decide +kernel
theorem d_prog_13_m2_10 : decode prog_13_method_2_code 10 = .ok (.lcmp, 1) := by decide +kernel
theorem d_prog_13_m2_11 : decode prog_13_method_2_code 11 = .ok (.ifCond .le 17, 3) := by decide +kernel
theorem d_prog_13_m2_28 : decode prog_13_method_2_code 28 = .ok (.lload_n 0, 1) := by decide +kernel
theorem d_prog_13_m2_29 : decode prog_13_method_2_code 29 = .ok (.invokedynamic 15, 5) := by decide +kernel
theorem d_prog_13_m2_34 : decode prog_13_method_2_code 34 = .ok (.areturn, 1) := by decide +kernel
theorem ef_rmA (m : MethodId) (x0 : Int64) : entryFrame m #[(.long x0)] 2 = mkF m 0 #[.val (.long x0), .second] [] := by first | (simp [entryFrame, mkF, argsToLocals, Value.category]; done) | rfl
def Q_rmA (Z : State) (q0 : Int64) (cK : ClassId) (one : Option Addr) (h0 : Heap) (n0 : Nat) (v : Option Value) (h : Heap) (L : List Loc) : Prop := v = some (.ref h0.size) ∧ Fr n0 L ∧ h = h0.push { cls := cK, slots := #[.long q0], vm := .none }
set_option maxRecDepth 65536 in
set_option maxHeartbeats 40000000 in
theorem rmA (l : Launch) (Z : State) (a0 : Array Value) (hw : ∀ d ∈ tables_1, d.before a0 Z = true) (ws : List Jvm.Cond) (q0 : Int64) (cK : ClassId) (one : Option Addr) (h0 : Heap) (n0 : Nat) (Z0 : n0 ≤ h0.size) (hat : Z.lambdaAt? (⟨"com/example/swallow/swallow/schedule/DueTime", "afterDelay", "(J)Lcom/example/swallow/swallow/schedule/DueTime;"⟩ : MethodName) 29 15 own_σ = some (cK, one)) (b0 : 0 ≤ q0.toInt) (b1 : q0.toInt ≤ 316224000000) :
    MetFree l (⟨"com/example/swallow/swallow/schedule/DueTime", "afterDelay", "(J)Lcom/example/swallow/swallow/schedule/DueTime;"⟩ : MethodName) (head1 (Jvm.Cond.code (⟨"com/example/swallow/swallow/schedule/DueTime", "afterDelay", "(J)Lcom/example/swallow/swallow/schedule/DueTime;"⟩ : MethodName) prog_13_method_2_code 2 (some (.object "com/example/swallow/swallow/schedule/DueTime")) :: ws) ({ frames := 0, cells := 1, slots := 1, locals := 3074 } : Room)) (fun a U => a = #[(.long q0)] ∧ Z.WarmedH U.vm ∧ U.heap = h0) (fun _ _ _ _ _ => True) (fun _ U o U' => ∃ v L, o = .returned v ∧ Q_rmA Z q0 cK one h0 n0 v U'.heap L ∧ FrameEnd U o U' L ({ frames := 0, cells := 1, slots := 1, locals := 3074 } : Room).cells ({ frames := 0, cells := 1, slots := 1, locals := 3074 } : Room).slots) := by
  refine MetFree.of_bodySF (plainFor_of_name pn_com_example_swallow_swallow_schedule_DueTime) hisR ?_
  intro p e s m args below meth c s₁ Bd hml0 hP hK
  obtain ⟨rfl, hZH, hh⟩ := hP
  have hZ := hZH.wide
  have hx := Bd.exec
  have hby := Bd.bytes
  have hml : c.maxLocals = 2 := hml0
  have hown : s.vm.findClass "com/example/swallow/swallow/schedule/DueTime" = some m.cls := findClass_of_methodNamed Bd.named
  have hnm := (name_of_methodNamed Bd.named Bd.method).1
  have X0 : Stand p l e ({ frames := 0, cells := 1, slots := 1, locals := 3074 } : Room) s m #[(.long q0)] below meth c s₁ [] 0 0 := Stand.of_body Bd
  have e0 : s₁.heap = h0 := by rw [← hh, Bd.state]; rfl
  have N0 := Fr.nil n0
  have K0 := Keep.refl h0 []
  have pre0 : ∀ t, Steps p.tables e below (s₁.setTop (mkF m 0 #[.val (.long q0), .second] [])) t → Steps p.tables e below (s₁.setTop (entryFrame m #[(.long q0)] 2)) t := fun t k => castTop (ef_rmA m q0) k
  obtain ⟨hmd1, X1, st1⟩ := own_site X0 hx hZH (x := (⟨"com/example/swallow/swallow/schedule/DueTime", "afterDelay", "(J)Lcom/example/swallow/swallow/schedule/DueTime;"⟩ : MethodName)) rfl Bd.named hat (mvT hZ (hw _ (List.mem_of_getElem? (i := 9) rfl))) (g := (mkF m 29 #[.val (.long q0), .second] [(.long q0)])) rfl rfl (by rw [hml]; rfl) (hb hby d_prog_13_m2_29) (u := q0) (rest := []) rfl (by show 2 * 0 + 2 + 3072 ≤ 3074; decide) (by decide) (by decide)
  rw [show s₁.heap.size = h0.size from by rw [e0]] at st1
  have e1 : (s₁.pushCell { cls := cK, slots := #[.long q0], vm := .none }).heap = h0.push { cls := cK, slots := #[.long q0], vm := .none } := by show s₁.heap.push _ = _; rw [e0]
  generalize hT1 : (s₁.pushCell { cls := cK, slots := #[.long q0], vm := .none }) = T1 at X1 e1 st1
  obtain ⟨fs, hr, hrun, hended, hW, hsame⟩ := X1.leave (v := some (.ref h0.size)) (fun h => by rw [Bd.returns] at h; cases h)
  refine ⟨_, _, pre0 _ ?_, hrun, hended, _, _, rfl, ?_, ⟨_, rfl⟩, hW, hsame.mono (by decide) (by decide)⟩
  · show Steps p.tables e below (s₁.setTop (mkF m 0 #[.val (.long q0), .second] [])) _
    refine XS.lloadN X0.here hx rfl (hb hby d_prog_13_m2_0) rfl ?_
    show Steps p.tables e below (s₁.setTop (mkF m 1 #[.val (.long q0), .second] [(.long q0)])) _
    refine XS.lconst X0.here hx rfl (hb hby d_prog_13_m2_1) ?_
    show Steps p.tables e below (s₁.setTop (mkF m 2 #[.val (.long q0), .second] [(.long (0 : Int64)), (.long q0)])) _
    refine XS.lcmp X0.here hx rfl (hb hby d_prog_13_m2_2) rfl ?_
    show Steps p.tables e below (s₁.setTop (mkF m 3 #[.val (.long q0), .second] [(.int (lcmpW q0 (0 : Int64)))])) _
    refine XS.ifNo X0.here hx rfl (hb hby d_prog_13_m2_3) rfl ((if0 _ _).trans (flt (own_ge _ b0)).1) ?_
    show Steps p.tables e below (s₁.setTop (mkF m 6 #[.val (.long q0), .second] [])) _
    refine XS.lloadN X0.here hx rfl (hb hby d_prog_13_m2_6) rfl ?_
    show Steps p.tables e below (s₁.setTop (mkF m 7 #[.val (.long q0), .second] [(.long q0)])) _
    refine X0.ldc2Long hx hown (mvT hZ (hw _ (List.mem_of_getElem? (i := 6) rfl))) (g := (mkF m 7 #[.val (.long q0), .second] [(.long q0)])) rfl (hb hby d_prog_13_m2_7) _ ?_
    show Steps p.tables e below (s₁.setTop (mkF m 10 #[.val (.long q0), .second] [(.long (316224000000 : Int64)), (.long q0)])) _
    refine XS.lcmp X0.here hx rfl (hb hby d_prog_13_m2_10) rfl ?_
    show Steps p.tables e below (s₁.setTop (mkF m 11 #[.val (.long q0), .second] [(.int (lcmpW q0 (316224000000 : Int64)))])) _
    refine XS.ifYes X0.here hx rfl (pc0 := 11) (pc' := 28) rfl (hb hby d_prog_13_m2_11) rfl ((if0 _ _).trans (flt (own_le _ b1)).2.2.2) (by decide) (by decide) ?_
    show Steps p.tables e below (s₁.setTop (mkF m 28 #[.val (.long q0), .second] [])) _
    refine XS.lloadN X0.here hx rfl (hb hby d_prog_13_m2_28) rfl ?_
    show Steps p.tables e below (s₁.setTop (mkF m 29 #[.val (.long q0), .second] [(.long q0)])) _
    refine st1 _ ?_
    show Steps p.tables e below (T1.setTop (mkF m 34 #[.val (.long q0), .second] [(.ref h0.size)])) _
    jvm_step X1.here [X1.here.top, hx, (hb hby d_prog_13_m2_34), X1.method', Bd.returns, Value.isRef, FieldType.isReference]
    first | (intro acts; rw [hr _ acts rfl rfl rfl]) | rw [hr _ _ rfl rfl rfl]
    exact Steps.refl _
  · show Q_rmA Z q0 cK one h0 n0 _ T1.heap _
    rw [e1]
    exact ⟨rfl, N0, rfl⟩
theorem pn_com_example_swallow_swallow_schedule_DueTimeAfterDelayPinLaw : plainName "com/example/swallow/swallow/schedule/DueTimeAfterDelayPinLaw" = true := by first | (simp [plainName, overriddenIn]; done) | decide +kernel
theorem pd__J_Lcom_example_swallow_swallow_schedule_DueTime_ : parseMethodDescriptor "(J)Lcom/example/swallow/swallow/schedule/DueTime;" = some ⟨[.long], some (.object "com/example/swallow/swallow/schedule/DueTime")⟩ := by decide +kernel
theorem ef_rm0 (m : MethodId) (x0 : Int64) (x1 : Int64) (x2 : Int64) (x3 : Int32) : entryFrame m #[(.long x0), (.long x1), (.long x2), (.int x3)] maxLocals = mkF m 0 #[.val (.long x0), .second, .val (.long x1), .second, .val (.long x2), .second, .val (.int x3), .unset, .unset, .unset, .unset, .unset, .unset, .unset, .unset, .unset, .unset] [] := by first | (simp [entryFrame, mkF, argsToLocals, Value.category, maxLocals]; done) | rfl
def Q_rm0 (Z : State) (q0 : Int64) (q1 : Int64) (q2 : Int64) (p3 : Int32) (cK : ClassId) (one : Option Addr) (h0 : Heap) (n0 : Nat) (v : Option Value) (h : Heap) (L : List Loc) : Prop := v = some (.int (1 : Int32)) ∧ Fr n0 L
set_option maxRecDepth 65536 in
set_option maxHeartbeats 40000000 in
theorem rm0 (l : Launch) (Z : State) (a0 : Array Value) (hw : ∀ d ∈ tables_1, d.before a0 Z = true) (ws : List Jvm.Cond) (q0 : Int64) (q1 : Int64) (q2 : Int64) (p3 : Int32) (cK : ClassId) (one : Option Addr) (h0 : Heap) (n0 : Nat) (Z0 : n0 ≤ h0.size) (hat : Z.lambdaAt? (⟨"com/example/swallow/swallow/schedule/DueTime", "afterDelay", "(J)Lcom/example/swallow/swallow/schedule/DueTime;"⟩ : MethodName) 29 15 own_σ = some (cK, one)) (hmZ : Jvm.LamKit.Made Z own_dt own_σ cK) :
    MetFree l x (head1 (Jvm.Cond.code x code maxLocals ret :: ws) room_1) (fun a U => a = #[(.long q0), (.long q1), (.long q2), (.int p3)] ∧ Z.WarmedH U.vm ∧ U.heap = h0) (fun _ _ _ _ _ => True) (fun _ U o U' => ∃ v L, o = .returned v ∧ Q_rm0 Z q0 q1 q2 p3 cK one h0 n0 v U'.heap L ∧ FrameEnd U o U' L room_1.cells room_1.slots) := by
  refine MetFree.of_bodySF (plainFor_of_name pn_com_example_swallow_swallow_schedule_DueTimeAfterDelayPinLaw) hisR ?_
  intro p e s m args below meth c s₁ Bd hml0 hP hK
  obtain ⟨rfl, hZH, hh⟩ := hP
  have hZ := hZH.wide
  have hx := Bd.exec
  have hby := Bd.bytes
  have hml : c.maxLocals = 17 := hml0
  have hown : s.vm.findClass "com/example/swallow/swallow/schedule/DueTimeAfterDelayPinLaw" = some m.cls := findClass_of_methodNamed Bd.named
  have hnm := (name_of_methodNamed Bd.named Bd.method).1
  have X0 : Stand p l e room_1 s m #[(.long q0), (.long q1), (.long q2), (.int p3)] below meth c s₁ [] 0 0 := Stand.of_body Bd
  have e0 : s₁.heap = h0 := by rw [← hh, Bd.state]; rfl
  have N0 := Fr.nil n0
  have K0 := Keep.refl h0 []
  have pre0 : ∀ t, Steps p.tables e below (s₁.setTop (mkF m 0 #[.val (.long q0), .second, .val (.long q1), .second, .val (.long q2), .second, .val (.int p3), .unset, .unset, .unset, .unset, .unset, .unset, .unset, .unset, .unset, .unset] [])) t → Steps p.tables e below (s₁.setTop (entryFrame m #[(.long q0), (.long q1), (.long q2), (.int p3)] maxLocals)) t := fun t k => castTop (ef_rm0 m q0 q1 q2 p3) k
  have hmd := own_madeW hZH hmZ
  by_cases hc13 : (p3 &&& (3 : Int32)) = (0 : Int32)
  · obtain ⟨_, _, ⟨T1, L1, k1, n1⟩, -, X1, ⟨Lc1, hQ1, l1, y1, z1⟩, st1⟩ := Jvm.LawKit.callS X0 hx (y := (⟨"com/example/swallow/swallow/schedule/DueTime", "afterDelay", "(J)Lcom/example/swallow/swallow/schedule/DueTime;"⟩ : MethodName)) hown (mvT hZ (hw _ (List.mem_of_getElem? (i := 2) rfl))) (mvT hZ (hw _ (List.mem_of_getElem? (i := 3) rfl))) (mvT hZ (hw _ (List.mem_of_getElem? (i := 4) rfl))) (mvT hZ (hw _ (List.mem_of_getElem? (i := 5) rfl))) (by decide) (own_backH (W := 0) (rmA l Z a0 hw [] (0 : Int64) cK one h0 n0 Z0 hat (by decide) (by decide)) hZH (hw _ (List.mem_of_getElem? (i := 5) rfl)) (hw _ (List.mem_of_getElem? (i := 4) rfl)) (by decide) (by decide)) (g := (mkF m 49 #[.val (.long q0), .second, .val (.long q1), .second, .val (.long q2), .second, .val (.int p3), .val (.long (316224000000 : Int64)), .second, .val (.int (p3 &&& (3 : Int32))), .val (.long (0 : Int64)), .second, .unset, .unset, .unset, .unset, .unset] [(.long (0 : Int64))])) rfl (by rw [hml]; rfl) (argsL := [(.long (0 : Int64))]) (rest := []) (lenOf pd__J_Lcom_example_swallow_swallow_schedule_DueTime_ rfl) rfl (by show 2 * 0 + _ ≤ _; exact Nat.le_of_eq rfl) (hb hby at_49) (fun _ _ => ⟨rfl, e0, (by decide : 0 + 1 ≤ _), (by decide : 0 + 1 ≤ _)⟩)
    dsimp only [Pt.U, Pt.locs, Pt.cells, Pt.slots] at X1 l1 y1 z1 st1 hQ1
    subst l1 y1 z1
    obtain ⟨rfl, N1q, e1⟩ := hQ1
    have N1 := Fr.app N0 N1q
    obtain ⟨T2, X2, e2, st2⟩ := own_call X1 hx hown (mvT hZ (hw _ (List.mem_of_getElem? (i := 10) rfl))) (mvT hZ (hw _ (List.mem_of_getElem? (i := 11) rfl))) (mvT hZ (hw _ (List.mem_of_getElem? (i := 12) rfl))) (mvT hZ (hw _ (List.mem_of_getElem? (i := 14) rfl))) (mvT hZ (hw _ (List.mem_of_getElem? (i := 13) rfl))) (mvT hZ (hw _ (List.mem_of_getElem? (i := 4) rfl))) (mvT hZ (hw _ (List.mem_of_getElem? (i := 9) rfl))) (a := h0.size) (cK := cK) (u := (0 : Int64)) (v := q1) hmd (by rw [e1]; exact Array.getElem?_push_size) (g := (mkF m 57 #[.val (.long q0), .second, .val (.long q1), .second, .val (.long q2), .second, .val (.int p3), .val (.long (316224000000 : Int64)), .second, .val (.int (p3 &&& (3 : Int32))), .val (.long (0 : Int64)), .second, .val (.ref h0.size), .unset, .unset, .unset, .unset] [(.long q1), (.ref h0.size)])) rfl (by rw [hml]; rfl) (rest := []) rfl (hb hby at_57) (by decide) (by show 2 * 0 + 0 + (3 + 11) + 15 ≤ 3200; decide) (by decide) (by decide)
    rw [e1] at e2
    obtain ⟨T3, X3, e3, st3⟩ := own_call X2 hx hown (mvT hZ (hw _ (List.mem_of_getElem? (i := 10) rfl))) (mvT hZ (hw _ (List.mem_of_getElem? (i := 11) rfl))) (mvT hZ (hw _ (List.mem_of_getElem? (i := 12) rfl))) (mvT hZ (hw _ (List.mem_of_getElem? (i := 14) rfl))) (mvT hZ (hw _ (List.mem_of_getElem? (i := 13) rfl))) (mvT hZ (hw _ (List.mem_of_getElem? (i := 4) rfl))) (mvT hZ (hw _ (List.mem_of_getElem? (i := 9) rfl))) (a := h0.size) (cK := cK) (u := (0 : Int64)) (v := q2) hmd (by rw [e2]; exact Array.getElem?_push_size) (g := (mkF m 68 #[.val (.long q0), .second, .val (.long q1), .second, .val (.long q2), .second, .val (.int p3), .val (.long (316224000000 : Int64)), .second, .val (.int (p3 &&& (3 : Int32))), .val (.long (0 : Int64)), .second, .val (.ref h0.size), .val (.long (q1 + (0 : Int64))), .second, .unset, .unset] [(.long q2), (.ref h0.size)])) rfl (by rw [hml]; rfl) (rest := []) rfl (hb hby at_68) (by decide) (by show 2 * 0 + 0 + (3 + 11) + 15 ≤ 3200; decide) (by decide) (by decide)
    rw [e2] at e3
    obtain ⟨fs, hr, hrun, hended, hW, hsame⟩ := X3.leave (v := some (.int (1 : Int32))) (fun h => by rw [Bd.returns] at h; cases h)
    refine ⟨_, _, pre0 _ ?_, hrun, hended, _, _, rfl, ?_, ⟨_, rfl⟩, hW, hsame.mono (by decide) (by decide)⟩
    · show Steps p.tables e below (s₁.setTop (mkF m 0 #[.val (.long q0), .second, .val (.long q1), .second, .val (.long q2), .second, .val (.int p3), .unset, .unset, .unset, .unset, .unset, .unset, .unset, .unset, .unset, .unset] [])) _
      refine X0.ldc2Long hx hown (mvT hZ (hw _ (List.mem_of_getElem? (i := 0) rfl))) (g := (mkF m 0 #[.val (.long q0), .second, .val (.long q1), .second, .val (.long q2), .second, .val (.int p3), .unset, .unset, .unset, .unset, .unset, .unset, .unset, .unset, .unset, .unset] [])) rfl (hb hby at_0) _ ?_
      show Steps p.tables e below (s₁.setTop (mkF m 3 #[.val (.long q0), .second, .val (.long q1), .second, .val (.long q2), .second, .val (.int p3), .unset, .unset, .unset, .unset, .unset, .unset, .unset, .unset, .unset, .unset] [(.long (316224000000 : Int64))])) _
      refine XS.lstore X0.here hx rfl (hb hby at_3) rfl (l' := #[.val (.long q0), .second, .val (.long q1), .second, .val (.long q2), .second, .val (.int p3), .val (.long (316224000000 : Int64)), .second, .unset, .unset, .unset, .unset, .unset, .unset, .unset, .unset]) rfl ?_
      show Steps p.tables e below (s₁.setTop (mkF m 5 #[.val (.long q0), .second, .val (.long q1), .second, .val (.long q2), .second, .val (.int p3), .val (.long (316224000000 : Int64)), .second, .unset, .unset, .unset, .unset, .unset, .unset, .unset, .unset] [])) _
      refine XS.iload X0.here hx rfl (hb hby at_5) rfl ?_
      show Steps p.tables e below (s₁.setTop (mkF m 7 #[.val (.long q0), .second, .val (.long q1), .second, .val (.long q2), .second, .val (.int p3), .val (.long (316224000000 : Int64)), .second, .unset, .unset, .unset, .unset, .unset, .unset, .unset, .unset] [(.int p3)])) _
      refine XS.iconst X0.here hx rfl (hb hby at_7) ?_
      show Steps p.tables e below (s₁.setTop (mkF m 8 #[.val (.long q0), .second, .val (.long q1), .second, .val (.long q2), .second, .val (.int p3), .val (.long (316224000000 : Int64)), .second, .unset, .unset, .unset, .unset, .unset, .unset, .unset, .unset] [(.int (3 : Int32)), (.int p3)])) _
      refine XS.iand X0.here hx rfl (hb hby at_8) rfl ?_
      show Steps p.tables e below (s₁.setTop (mkF m 9 #[.val (.long q0), .second, .val (.long q1), .second, .val (.long q2), .second, .val (.int p3), .val (.long (316224000000 : Int64)), .second, .unset, .unset, .unset, .unset, .unset, .unset, .unset, .unset] [(.int (p3 &&& (3 : Int32)))])) _
      refine XS.istore X0.here hx rfl (hb hby at_9) rfl (l' := #[.val (.long q0), .second, .val (.long q1), .second, .val (.long q2), .second, .val (.int p3), .val (.long (316224000000 : Int64)), .second, .val (.int (p3 &&& (3 : Int32))), .unset, .unset, .unset, .unset, .unset, .unset, .unset]) rfl ?_
      show Steps p.tables e below (s₁.setTop (mkF m 11 #[.val (.long q0), .second, .val (.long q1), .second, .val (.long q2), .second, .val (.int p3), .val (.long (316224000000 : Int64)), .second, .val (.int (p3 &&& (3 : Int32))), .unset, .unset, .unset, .unset, .unset, .unset, .unset] [])) _
      refine XS.iload X0.here hx rfl (hb hby at_11) rfl ?_
      show Steps p.tables e below (s₁.setTop (mkF m 13 #[.val (.long q0), .second, .val (.long q1), .second, .val (.long q2), .second, .val (.int p3), .val (.long (316224000000 : Int64)), .second, .val (.int (p3 &&& (3 : Int32))), .unset, .unset, .unset, .unset, .unset, .unset, .unset] [(.int (p3 &&& (3 : Int32)))])) _
      refine XS.ifNo X0.here hx rfl (hb hby at_13) rfl ((if0 _ _).trans (teq hc13).2) ?_
      show Steps p.tables e below (s₁.setTop (mkF m 16 #[.val (.long q0), .second, .val (.long q1), .second, .val (.long q2), .second, .val (.int p3), .val (.long (316224000000 : Int64)), .second, .val (.int (p3 &&& (3 : Int32))), .unset, .unset, .unset, .unset, .unset, .unset, .unset] [])) _
      refine XS.lconst X0.here hx rfl (hb hby at_16) ?_
      show Steps p.tables e below (s₁.setTop (mkF m 17 #[.val (.long q0), .second, .val (.long q1), .second, .val (.long q2), .second, .val (.int p3), .val (.long (316224000000 : Int64)), .second, .val (.int (p3 &&& (3 : Int32))), .unset, .unset, .unset, .unset, .unset, .unset, .unset] [(.long (0 : Int64))])) _
      refine XS.lstore X0.here hx rfl (hb hby at_17) rfl (l' := #[.val (.long q0), .second, .val (.long q1), .second, .val (.long q2), .second, .val (.int p3), .val (.long (316224000000 : Int64)), .second, .val (.int (p3 &&& (3 : Int32))), .val (.long (0 : Int64)), .second, .unset, .unset, .unset, .unset, .unset]) rfl ?_
      show Steps p.tables e below (s₁.setTop (mkF m 19 #[.val (.long q0), .second, .val (.long q1), .second, .val (.long q2), .second, .val (.int p3), .val (.long (316224000000 : Int64)), .second, .val (.int (p3 &&& (3 : Int32))), .val (.long (0 : Int64)), .second, .unset, .unset, .unset, .unset, .unset] [])) _
      refine XS.goto X0.here hx rfl (pc0 := 19) (pc' := 47) rfl (hb hby at_19) (by decide) (by decide) ?_
      show Steps p.tables e below (s₁.setTop (mkF m 47 #[.val (.long q0), .second, .val (.long q1), .second, .val (.long q2), .second, .val (.int p3), .val (.long (316224000000 : Int64)), .second, .val (.int (p3 &&& (3 : Int32))), .val (.long (0 : Int64)), .second, .unset, .unset, .unset, .unset, .unset] [])) _
      refine XS.lload X0.here hx rfl (hb hby at_47) rfl ?_
      show Steps p.tables e below (s₁.setTop (mkF m 49 #[.val (.long q0), .second, .val (.long q1), .second, .val (.long q2), .second, .val (.int p3), .val (.long (316224000000 : Int64)), .second, .val (.int (p3 &&& (3 : Int32))), .val (.long (0 : Int64)), .second, .unset, .unset, .unset, .unset, .unset] [(.long (0 : Int64))])) _
      refine st1 _ ?_
      show Steps p.tables e below (T1.setTop (mkF m 52 #[.val (.long q0), .second, .val (.long q1), .second, .val (.long q2), .second, .val (.int p3), .val (.long (316224000000 : Int64)), .second, .val (.int (p3 &&& (3 : Int32))), .val (.long (0 : Int64)), .second, .unset, .unset, .unset, .unset, .unset] [(.ref h0.size)])) _
      refine XS.astore X1.here hx rfl (hb hby at_52) rfl rfl (l' := #[.val (.long q0), .second, .val (.long q1), .second, .val (.long q2), .second, .val (.int p3), .val (.long (316224000000 : Int64)), .second, .val (.int (p3 &&& (3 : Int32))), .val (.long (0 : Int64)), .second, .val (.ref h0.size), .unset, .unset, .unset, .unset]) rfl ?_
      show Steps p.tables e below (T1.setTop (mkF m 54 #[.val (.long q0), .second, .val (.long q1), .second, .val (.long q2), .second, .val (.int p3), .val (.long (316224000000 : Int64)), .second, .val (.int (p3 &&& (3 : Int32))), .val (.long (0 : Int64)), .second, .val (.ref h0.size), .unset, .unset, .unset, .unset] [])) _
      refine XS.aload X1.here hx rfl (hb hby at_54) rfl rfl ?_
      show Steps p.tables e below (T1.setTop (mkF m 56 #[.val (.long q0), .second, .val (.long q1), .second, .val (.long q2), .second, .val (.int p3), .val (.long (316224000000 : Int64)), .second, .val (.int (p3 &&& (3 : Int32))), .val (.long (0 : Int64)), .second, .val (.ref h0.size), .unset, .unset, .unset, .unset] [(.ref h0.size)])) _
      refine XS.lloadN X1.here hx rfl (hb hby at_56) rfl ?_
      show Steps p.tables e below (T1.setTop (mkF m 57 #[.val (.long q0), .second, .val (.long q1), .second, .val (.long q2), .second, .val (.int p3), .val (.long (316224000000 : Int64)), .second, .val (.int (p3 &&& (3 : Int32))), .val (.long (0 : Int64)), .second, .val (.ref h0.size), .unset, .unset, .unset, .unset] [(.long q1), (.ref h0.size)])) _
      refine st2 _ ?_
      show Steps p.tables e below (T2.setTop (mkF m 62 #[.val (.long q0), .second, .val (.long q1), .second, .val (.long q2), .second, .val (.int p3), .val (.long (316224000000 : Int64)), .second, .val (.int (p3 &&& (3 : Int32))), .val (.long (0 : Int64)), .second, .val (.ref h0.size), .unset, .unset, .unset, .unset] [(.long (q1 + (0 : Int64)))])) _
      refine XS.lstore X2.here hx rfl (hb hby at_62) rfl (l' := #[.val (.long q0), .second, .val (.long q1), .second, .val (.long q2), .second, .val (.int p3), .val (.long (316224000000 : Int64)), .second, .val (.int (p3 &&& (3 : Int32))), .val (.long (0 : Int64)), .second, .val (.ref h0.size), .val (.long (q1 + (0 : Int64))), .second, .unset, .unset]) rfl ?_
      show Steps p.tables e below (T2.setTop (mkF m 64 #[.val (.long q0), .second, .val (.long q1), .second, .val (.long q2), .second, .val (.int p3), .val (.long (316224000000 : Int64)), .second, .val (.int (p3 &&& (3 : Int32))), .val (.long (0 : Int64)), .second, .val (.ref h0.size), .val (.long (q1 + (0 : Int64))), .second, .unset, .unset] [])) _
      refine XS.aload X2.here hx rfl (hb hby at_64) rfl rfl ?_
      show Steps p.tables e below (T2.setTop (mkF m 66 #[.val (.long q0), .second, .val (.long q1), .second, .val (.long q2), .second, .val (.int p3), .val (.long (316224000000 : Int64)), .second, .val (.int (p3 &&& (3 : Int32))), .val (.long (0 : Int64)), .second, .val (.ref h0.size), .val (.long (q1 + (0 : Int64))), .second, .unset, .unset] [(.ref h0.size)])) _
      refine XS.lload X2.here hx rfl (hb hby at_66) rfl ?_
      show Steps p.tables e below (T2.setTop (mkF m 68 #[.val (.long q0), .second, .val (.long q1), .second, .val (.long q2), .second, .val (.int p3), .val (.long (316224000000 : Int64)), .second, .val (.int (p3 &&& (3 : Int32))), .val (.long (0 : Int64)), .second, .val (.ref h0.size), .val (.long (q1 + (0 : Int64))), .second, .unset, .unset] [(.long q2), (.ref h0.size)])) _
      refine st3 _ ?_
      show Steps p.tables e below (T3.setTop (mkF m 73 #[.val (.long q0), .second, .val (.long q1), .second, .val (.long q2), .second, .val (.int p3), .val (.long (316224000000 : Int64)), .second, .val (.int (p3 &&& (3 : Int32))), .val (.long (0 : Int64)), .second, .val (.ref h0.size), .val (.long (q1 + (0 : Int64))), .second, .unset, .unset] [(.long (q2 + (0 : Int64)))])) _
      refine XS.lstore X3.here hx rfl (hb hby at_73) rfl (l' := #[.val (.long q0), .second, .val (.long q1), .second, .val (.long q2), .second, .val (.int p3), .val (.long (316224000000 : Int64)), .second, .val (.int (p3 &&& (3 : Int32))), .val (.long (0 : Int64)), .second, .val (.ref h0.size), .val (.long (q1 + (0 : Int64))), .second, .val (.long (q2 + (0 : Int64))), .second]) rfl ?_
      show Steps p.tables e below (T3.setTop (mkF m 75 #[.val (.long q0), .second, .val (.long q1), .second, .val (.long q2), .second, .val (.int p3), .val (.long (316224000000 : Int64)), .second, .val (.int (p3 &&& (3 : Int32))), .val (.long (0 : Int64)), .second, .val (.ref h0.size), .val (.long (q1 + (0 : Int64))), .second, .val (.long (q2 + (0 : Int64))), .second] [])) _
      refine XS.lload X3.here hx rfl (hb hby at_75) rfl ?_
      show Steps p.tables e below (T3.setTop (mkF m 77 #[.val (.long q0), .second, .val (.long q1), .second, .val (.long q2), .second, .val (.int p3), .val (.long (316224000000 : Int64)), .second, .val (.int (p3 &&& (3 : Int32))), .val (.long (0 : Int64)), .second, .val (.ref h0.size), .val (.long (q1 + (0 : Int64))), .second, .val (.long (q2 + (0 : Int64))), .second] [(.long (q1 + (0 : Int64)))])) _
      refine XS.lloadN X3.here hx rfl (hb hby at_77) rfl ?_
      show Steps p.tables e below (T3.setTop (mkF m 78 #[.val (.long q0), .second, .val (.long q1), .second, .val (.long q2), .second, .val (.int p3), .val (.long (316224000000 : Int64)), .second, .val (.int (p3 &&& (3 : Int32))), .val (.long (0 : Int64)), .second, .val (.ref h0.size), .val (.long (q1 + (0 : Int64))), .second, .val (.long (q2 + (0 : Int64))), .second] [(.long q1), (.long (q1 + (0 : Int64)))])) _
      refine XS.lload X3.here hx rfl (hb hby at_78) rfl ?_
      show Steps p.tables e below (T3.setTop (mkF m 80 #[.val (.long q0), .second, .val (.long q1), .second, .val (.long q2), .second, .val (.int p3), .val (.long (316224000000 : Int64)), .second, .val (.int (p3 &&& (3 : Int32))), .val (.long (0 : Int64)), .second, .val (.ref h0.size), .val (.long (q1 + (0 : Int64))), .second, .val (.long (q2 + (0 : Int64))), .second] [(.long (0 : Int64)), (.long q1), (.long (q1 + (0 : Int64)))])) _
      refine XS.ladd X3.here hx rfl (hb hby at_80) rfl ?_
      show Steps p.tables e below (T3.setTop (mkF m 81 #[.val (.long q0), .second, .val (.long q1), .second, .val (.long q2), .second, .val (.int p3), .val (.long (316224000000 : Int64)), .second, .val (.int (p3 &&& (3 : Int32))), .val (.long (0 : Int64)), .second, .val (.ref h0.size), .val (.long (q1 + (0 : Int64))), .second, .val (.long (q2 + (0 : Int64))), .second] [(.long (q1 + (0 : Int64))), (.long (q1 + (0 : Int64)))])) _
      refine XS.lcmp X3.here hx rfl (hb hby at_81) rfl ?_
      show Steps p.tables e below (T3.setTop (mkF m 82 #[.val (.long q0), .second, .val (.long q1), .second, .val (.long q2), .second, .val (.int p3), .val (.long (316224000000 : Int64)), .second, .val (.int (p3 &&& (3 : Int32))), .val (.long (0 : Int64)), .second, .val (.ref h0.size), .val (.long (q1 + (0 : Int64))), .second, .val (.long (q2 + (0 : Int64))), .second] [(.int (lcmpW (q1 + (0 : Int64)) (q1 + (0 : Int64))))])) _
      refine XS.ifNo X3.here hx rfl (hb hby at_82) rfl ((if0 _ _).trans (teq (own_lc _)).2) ?_
      show Steps p.tables e below (T3.setTop (mkF m 85 #[.val (.long q0), .second, .val (.long q1), .second, .val (.long q2), .second, .val (.int p3), .val (.long (316224000000 : Int64)), .second, .val (.int (p3 &&& (3 : Int32))), .val (.long (0 : Int64)), .second, .val (.ref h0.size), .val (.long (q1 + (0 : Int64))), .second, .val (.long (q2 + (0 : Int64))), .second] [])) _
      refine XS.lload X3.here hx rfl (hb hby at_85) rfl ?_
      show Steps p.tables e below (T3.setTop (mkF m 87 #[.val (.long q0), .second, .val (.long q1), .second, .val (.long q2), .second, .val (.int p3), .val (.long (316224000000 : Int64)), .second, .val (.int (p3 &&& (3 : Int32))), .val (.long (0 : Int64)), .second, .val (.ref h0.size), .val (.long (q1 + (0 : Int64))), .second, .val (.long (q2 + (0 : Int64))), .second] [(.long (q2 + (0 : Int64)))])) _
      refine XS.lload X3.here hx rfl (hb hby at_87) rfl ?_
      show Steps p.tables e below (T3.setTop (mkF m 89 #[.val (.long q0), .second, .val (.long q1), .second, .val (.long q2), .second, .val (.int p3), .val (.long (316224000000 : Int64)), .second, .val (.int (p3 &&& (3 : Int32))), .val (.long (0 : Int64)), .second, .val (.ref h0.size), .val (.long (q1 + (0 : Int64))), .second, .val (.long (q2 + (0 : Int64))), .second] [(.long q2), (.long (q2 + (0 : Int64)))])) _
      refine XS.lload X3.here hx rfl (hb hby at_89) rfl ?_
      show Steps p.tables e below (T3.setTop (mkF m 91 #[.val (.long q0), .second, .val (.long q1), .second, .val (.long q2), .second, .val (.int p3), .val (.long (316224000000 : Int64)), .second, .val (.int (p3 &&& (3 : Int32))), .val (.long (0 : Int64)), .second, .val (.ref h0.size), .val (.long (q1 + (0 : Int64))), .second, .val (.long (q2 + (0 : Int64))), .second] [(.long (0 : Int64)), (.long q2), (.long (q2 + (0 : Int64)))])) _
      refine XS.ladd X3.here hx rfl (hb hby at_91) rfl ?_
      show Steps p.tables e below (T3.setTop (mkF m 92 #[.val (.long q0), .second, .val (.long q1), .second, .val (.long q2), .second, .val (.int p3), .val (.long (316224000000 : Int64)), .second, .val (.int (p3 &&& (3 : Int32))), .val (.long (0 : Int64)), .second, .val (.ref h0.size), .val (.long (q1 + (0 : Int64))), .second, .val (.long (q2 + (0 : Int64))), .second] [(.long (q2 + (0 : Int64))), (.long (q2 + (0 : Int64)))])) _
      refine XS.lcmp X3.here hx rfl (hb hby at_92) rfl ?_
      show Steps p.tables e below (T3.setTop (mkF m 93 #[.val (.long q0), .second, .val (.long q1), .second, .val (.long q2), .second, .val (.int p3), .val (.long (316224000000 : Int64)), .second, .val (.int (p3 &&& (3 : Int32))), .val (.long (0 : Int64)), .second, .val (.ref h0.size), .val (.long (q1 + (0 : Int64))), .second, .val (.long (q2 + (0 : Int64))), .second] [(.int (lcmpW (q2 + (0 : Int64)) (q2 + (0 : Int64))))])) _
      refine XS.ifNo X3.here hx rfl (hb hby at_93) rfl ((if0 _ _).trans (teq (own_lc _)).2) ?_
      show Steps p.tables e below (T3.setTop (mkF m 96 #[.val (.long q0), .second, .val (.long q1), .second, .val (.long q2), .second, .val (.int p3), .val (.long (316224000000 : Int64)), .second, .val (.int (p3 &&& (3 : Int32))), .val (.long (0 : Int64)), .second, .val (.ref h0.size), .val (.long (q1 + (0 : Int64))), .second, .val (.long (q2 + (0 : Int64))), .second] [])) _
      refine XS.iconst X3.here hx rfl (hb hby at_96) ?_
      show Steps p.tables e below (T3.setTop (mkF m 97 #[.val (.long q0), .second, .val (.long q1), .second, .val (.long q2), .second, .val (.int p3), .val (.long (316224000000 : Int64)), .second, .val (.int (p3 &&& (3 : Int32))), .val (.long (0 : Int64)), .second, .val (.ref h0.size), .val (.long (q1 + (0 : Int64))), .second, .val (.long (q2 + (0 : Int64))), .second] [(.int (1 : Int32))])) _
      refine XS.goto X3.here hx rfl (pc0 := 97) (pc' := 101) rfl (hb hby at_97) (by decide) (by decide) ?_
      show Steps p.tables e below (T3.setTop (mkF m 101 #[.val (.long q0), .second, .val (.long q1), .second, .val (.long q2), .second, .val (.int p3), .val (.long (316224000000 : Int64)), .second, .val (.int (p3 &&& (3 : Int32))), .val (.long (0 : Int64)), .second, .val (.ref h0.size), .val (.long (q1 + (0 : Int64))), .second, .val (.long (q2 + (0 : Int64))), .second] [(.int (1 : Int32))])) _
      exact retN X3 hx (t := .boolean) Bd.returns (by simp) (hb hby at_101) hr
    · show Q_rm0 Z q0 q1 q2 p3 cK one h0 n0 _ T3.heap _
      rw [e3]
      exact ⟨rfl, N1⟩
  · by_cases hc25 : (p3 &&& (3 : Int32)) = (1 : Int32)
    · obtain ⟨_, _, ⟨T4, L4, k4, n4⟩, -, X4, ⟨Lc4, hQ4, l4, y4, z4⟩, st4⟩ := Jvm.LawKit.callS X0 hx (y := (⟨"com/example/swallow/swallow/schedule/DueTime", "afterDelay", "(J)Lcom/example/swallow/swallow/schedule/DueTime;"⟩ : MethodName)) hown (mvT hZ (hw _ (List.mem_of_getElem? (i := 2) rfl))) (mvT hZ (hw _ (List.mem_of_getElem? (i := 3) rfl))) (mvT hZ (hw _ (List.mem_of_getElem? (i := 4) rfl))) (mvT hZ (hw _ (List.mem_of_getElem? (i := 5) rfl))) (by decide) (own_backH (W := 0) (rmA l Z a0 hw [] (316224000000 : Int64) cK one h0 n0 Z0 hat (by decide) (by decide)) hZH (hw _ (List.mem_of_getElem? (i := 5) rfl)) (hw _ (List.mem_of_getElem? (i := 4) rfl)) (by decide) (by decide)) (g := (mkF m 49 #[.val (.long q0), .second, .val (.long q1), .second, .val (.long q2), .second, .val (.int p3), .val (.long (316224000000 : Int64)), .second, .val (.int (p3 &&& (3 : Int32))), .val (.long (316224000000 : Int64)), .second, .unset, .unset, .unset, .unset, .unset] [(.long (316224000000 : Int64))])) rfl (by rw [hml]; rfl) (argsL := [(.long (316224000000 : Int64))]) (rest := []) (lenOf pd__J_Lcom_example_swallow_swallow_schedule_DueTime_ rfl) rfl (by show 2 * 0 + _ ≤ _; exact Nat.le_of_eq rfl) (hb hby at_49) (fun _ _ => ⟨rfl, e0, (by decide : 0 + 1 ≤ _), (by decide : 0 + 1 ≤ _)⟩)
      dsimp only [Pt.U, Pt.locs, Pt.cells, Pt.slots] at X4 l4 y4 z4 st4 hQ4
      subst l4 y4 z4
      obtain ⟨rfl, N4q, e4⟩ := hQ4
      have N4 := Fr.app N0 N4q
      obtain ⟨T5, X5, e5, st5⟩ := own_call X4 hx hown (mvT hZ (hw _ (List.mem_of_getElem? (i := 10) rfl))) (mvT hZ (hw _ (List.mem_of_getElem? (i := 11) rfl))) (mvT hZ (hw _ (List.mem_of_getElem? (i := 12) rfl))) (mvT hZ (hw _ (List.mem_of_getElem? (i := 14) rfl))) (mvT hZ (hw _ (List.mem_of_getElem? (i := 13) rfl))) (mvT hZ (hw _ (List.mem_of_getElem? (i := 4) rfl))) (mvT hZ (hw _ (List.mem_of_getElem? (i := 9) rfl))) (a := h0.size) (cK := cK) (u := (316224000000 : Int64)) (v := q1) hmd (by rw [e4]; exact Array.getElem?_push_size) (g := (mkF m 57 #[.val (.long q0), .second, .val (.long q1), .second, .val (.long q2), .second, .val (.int p3), .val (.long (316224000000 : Int64)), .second, .val (.int (p3 &&& (3 : Int32))), .val (.long (316224000000 : Int64)), .second, .val (.ref h0.size), .unset, .unset, .unset, .unset] [(.long q1), (.ref h0.size)])) rfl (by rw [hml]; rfl) (rest := []) rfl (hb hby at_57) (by decide) (by show 2 * 0 + 0 + (3 + 11) + 15 ≤ 3200; decide) (by decide) (by decide)
      rw [e4] at e5
      obtain ⟨T6, X6, e6, st6⟩ := own_call X5 hx hown (mvT hZ (hw _ (List.mem_of_getElem? (i := 10) rfl))) (mvT hZ (hw _ (List.mem_of_getElem? (i := 11) rfl))) (mvT hZ (hw _ (List.mem_of_getElem? (i := 12) rfl))) (mvT hZ (hw _ (List.mem_of_getElem? (i := 14) rfl))) (mvT hZ (hw _ (List.mem_of_getElem? (i := 13) rfl))) (mvT hZ (hw _ (List.mem_of_getElem? (i := 4) rfl))) (mvT hZ (hw _ (List.mem_of_getElem? (i := 9) rfl))) (a := h0.size) (cK := cK) (u := (316224000000 : Int64)) (v := q2) hmd (by rw [e5]; exact Array.getElem?_push_size) (g := (mkF m 68 #[.val (.long q0), .second, .val (.long q1), .second, .val (.long q2), .second, .val (.int p3), .val (.long (316224000000 : Int64)), .second, .val (.int (p3 &&& (3 : Int32))), .val (.long (316224000000 : Int64)), .second, .val (.ref h0.size), .val (.long (q1 + (316224000000 : Int64))), .second, .unset, .unset] [(.long q2), (.ref h0.size)])) rfl (by rw [hml]; rfl) (rest := []) rfl (hb hby at_68) (by decide) (by show 2 * 0 + 0 + (3 + 11) + 15 ≤ 3200; decide) (by decide) (by decide)
      rw [e5] at e6
      obtain ⟨fs, hr, hrun, hended, hW, hsame⟩ := X6.leave (v := some (.int (1 : Int32))) (fun h => by rw [Bd.returns] at h; cases h)
      refine ⟨_, _, pre0 _ ?_, hrun, hended, _, _, rfl, ?_, ⟨_, rfl⟩, hW, hsame.mono (by decide) (by decide)⟩
      · show Steps p.tables e below (s₁.setTop (mkF m 0 #[.val (.long q0), .second, .val (.long q1), .second, .val (.long q2), .second, .val (.int p3), .unset, .unset, .unset, .unset, .unset, .unset, .unset, .unset, .unset, .unset] [])) _
        refine X0.ldc2Long hx hown (mvT hZ (hw _ (List.mem_of_getElem? (i := 0) rfl))) (g := (mkF m 0 #[.val (.long q0), .second, .val (.long q1), .second, .val (.long q2), .second, .val (.int p3), .unset, .unset, .unset, .unset, .unset, .unset, .unset, .unset, .unset, .unset] [])) rfl (hb hby at_0) _ ?_
        show Steps p.tables e below (s₁.setTop (mkF m 3 #[.val (.long q0), .second, .val (.long q1), .second, .val (.long q2), .second, .val (.int p3), .unset, .unset, .unset, .unset, .unset, .unset, .unset, .unset, .unset, .unset] [(.long (316224000000 : Int64))])) _
        refine XS.lstore X0.here hx rfl (hb hby at_3) rfl (l' := #[.val (.long q0), .second, .val (.long q1), .second, .val (.long q2), .second, .val (.int p3), .val (.long (316224000000 : Int64)), .second, .unset, .unset, .unset, .unset, .unset, .unset, .unset, .unset]) rfl ?_
        show Steps p.tables e below (s₁.setTop (mkF m 5 #[.val (.long q0), .second, .val (.long q1), .second, .val (.long q2), .second, .val (.int p3), .val (.long (316224000000 : Int64)), .second, .unset, .unset, .unset, .unset, .unset, .unset, .unset, .unset] [])) _
        refine XS.iload X0.here hx rfl (hb hby at_5) rfl ?_
        show Steps p.tables e below (s₁.setTop (mkF m 7 #[.val (.long q0), .second, .val (.long q1), .second, .val (.long q2), .second, .val (.int p3), .val (.long (316224000000 : Int64)), .second, .unset, .unset, .unset, .unset, .unset, .unset, .unset, .unset] [(.int p3)])) _
        refine XS.iconst X0.here hx rfl (hb hby at_7) ?_
        show Steps p.tables e below (s₁.setTop (mkF m 8 #[.val (.long q0), .second, .val (.long q1), .second, .val (.long q2), .second, .val (.int p3), .val (.long (316224000000 : Int64)), .second, .unset, .unset, .unset, .unset, .unset, .unset, .unset, .unset] [(.int (3 : Int32)), (.int p3)])) _
        refine XS.iand X0.here hx rfl (hb hby at_8) rfl ?_
        show Steps p.tables e below (s₁.setTop (mkF m 9 #[.val (.long q0), .second, .val (.long q1), .second, .val (.long q2), .second, .val (.int p3), .val (.long (316224000000 : Int64)), .second, .unset, .unset, .unset, .unset, .unset, .unset, .unset, .unset] [(.int (p3 &&& (3 : Int32)))])) _
        refine XS.istore X0.here hx rfl (hb hby at_9) rfl (l' := #[.val (.long q0), .second, .val (.long q1), .second, .val (.long q2), .second, .val (.int p3), .val (.long (316224000000 : Int64)), .second, .val (.int (p3 &&& (3 : Int32))), .unset, .unset, .unset, .unset, .unset, .unset, .unset]) rfl ?_
        show Steps p.tables e below (s₁.setTop (mkF m 11 #[.val (.long q0), .second, .val (.long q1), .second, .val (.long q2), .second, .val (.int p3), .val (.long (316224000000 : Int64)), .second, .val (.int (p3 &&& (3 : Int32))), .unset, .unset, .unset, .unset, .unset, .unset, .unset] [])) _
        refine XS.iload X0.here hx rfl (hb hby at_11) rfl ?_
        show Steps p.tables e below (s₁.setTop (mkF m 13 #[.val (.long q0), .second, .val (.long q1), .second, .val (.long q2), .second, .val (.int p3), .val (.long (316224000000 : Int64)), .second, .val (.int (p3 &&& (3 : Int32))), .unset, .unset, .unset, .unset, .unset, .unset, .unset] [(.int (p3 &&& (3 : Int32)))])) _
        refine XS.ifYes X0.here hx rfl (pc0 := 13) (pc' := 22) rfl (hb hby at_13) rfl ((if0 _ _).trans (feq hc13).2) (by decide) (by decide) ?_
        show Steps p.tables e below (s₁.setTop (mkF m 22 #[.val (.long q0), .second, .val (.long q1), .second, .val (.long q2), .second, .val (.int p3), .val (.long (316224000000 : Int64)), .second, .val (.int (p3 &&& (3 : Int32))), .unset, .unset, .unset, .unset, .unset, .unset, .unset] [])) _
        refine XS.iload X0.here hx rfl (hb hby at_22) rfl ?_
        show Steps p.tables e below (s₁.setTop (mkF m 24 #[.val (.long q0), .second, .val (.long q1), .second, .val (.long q2), .second, .val (.int p3), .val (.long (316224000000 : Int64)), .second, .val (.int (p3 &&& (3 : Int32))), .unset, .unset, .unset, .unset, .unset, .unset, .unset] [(.int (p3 &&& (3 : Int32)))])) _
        refine XS.iconst X0.here hx rfl (hb hby at_24) ?_
        show Steps p.tables e below (s₁.setTop (mkF m 25 #[.val (.long q0), .second, .val (.long q1), .second, .val (.long q2), .second, .val (.int p3), .val (.long (316224000000 : Int64)), .second, .val (.int (p3 &&& (3 : Int32))), .unset, .unset, .unset, .unset, .unset, .unset, .unset] [(.int (1 : Int32)), (.int (p3 &&& (3 : Int32)))])) _
        refine XS.icmpNo X0.here hx rfl (hb hby at_25) rfl (teq hc25).2 ?_
        show Steps p.tables e below (s₁.setTop (mkF m 28 #[.val (.long q0), .second, .val (.long q1), .second, .val (.long q2), .second, .val (.int p3), .val (.long (316224000000 : Int64)), .second, .val (.int (p3 &&& (3 : Int32))), .unset, .unset, .unset, .unset, .unset, .unset, .unset] [])) _
        refine XS.lload X0.here hx rfl (hb hby at_28) rfl ?_
        show Steps p.tables e below (s₁.setTop (mkF m 30 #[.val (.long q0), .second, .val (.long q1), .second, .val (.long q2), .second, .val (.int p3), .val (.long (316224000000 : Int64)), .second, .val (.int (p3 &&& (3 : Int32))), .unset, .unset, .unset, .unset, .unset, .unset, .unset] [(.long (316224000000 : Int64))])) _
        refine XS.lstore X0.here hx rfl (hb hby at_30) rfl (l' := #[.val (.long q0), .second, .val (.long q1), .second, .val (.long q2), .second, .val (.int p3), .val (.long (316224000000 : Int64)), .second, .val (.int (p3 &&& (3 : Int32))), .val (.long (316224000000 : Int64)), .second, .unset, .unset, .unset, .unset, .unset]) rfl ?_
        show Steps p.tables e below (s₁.setTop (mkF m 32 #[.val (.long q0), .second, .val (.long q1), .second, .val (.long q2), .second, .val (.int p3), .val (.long (316224000000 : Int64)), .second, .val (.int (p3 &&& (3 : Int32))), .val (.long (316224000000 : Int64)), .second, .unset, .unset, .unset, .unset, .unset] [])) _
        refine XS.goto X0.here hx rfl (pc0 := 32) (pc' := 47) rfl (hb hby at_32) (by decide) (by decide) ?_
        show Steps p.tables e below (s₁.setTop (mkF m 47 #[.val (.long q0), .second, .val (.long q1), .second, .val (.long q2), .second, .val (.int p3), .val (.long (316224000000 : Int64)), .second, .val (.int (p3 &&& (3 : Int32))), .val (.long (316224000000 : Int64)), .second, .unset, .unset, .unset, .unset, .unset] [])) _
        refine XS.lload X0.here hx rfl (hb hby at_47) rfl ?_
        show Steps p.tables e below (s₁.setTop (mkF m 49 #[.val (.long q0), .second, .val (.long q1), .second, .val (.long q2), .second, .val (.int p3), .val (.long (316224000000 : Int64)), .second, .val (.int (p3 &&& (3 : Int32))), .val (.long (316224000000 : Int64)), .second, .unset, .unset, .unset, .unset, .unset] [(.long (316224000000 : Int64))])) _
        refine st4 _ ?_
        show Steps p.tables e below (T4.setTop (mkF m 52 #[.val (.long q0), .second, .val (.long q1), .second, .val (.long q2), .second, .val (.int p3), .val (.long (316224000000 : Int64)), .second, .val (.int (p3 &&& (3 : Int32))), .val (.long (316224000000 : Int64)), .second, .unset, .unset, .unset, .unset, .unset] [(.ref h0.size)])) _
        refine XS.astore X4.here hx rfl (hb hby at_52) rfl rfl (l' := #[.val (.long q0), .second, .val (.long q1), .second, .val (.long q2), .second, .val (.int p3), .val (.long (316224000000 : Int64)), .second, .val (.int (p3 &&& (3 : Int32))), .val (.long (316224000000 : Int64)), .second, .val (.ref h0.size), .unset, .unset, .unset, .unset]) rfl ?_
        show Steps p.tables e below (T4.setTop (mkF m 54 #[.val (.long q0), .second, .val (.long q1), .second, .val (.long q2), .second, .val (.int p3), .val (.long (316224000000 : Int64)), .second, .val (.int (p3 &&& (3 : Int32))), .val (.long (316224000000 : Int64)), .second, .val (.ref h0.size), .unset, .unset, .unset, .unset] [])) _
        refine XS.aload X4.here hx rfl (hb hby at_54) rfl rfl ?_
        show Steps p.tables e below (T4.setTop (mkF m 56 #[.val (.long q0), .second, .val (.long q1), .second, .val (.long q2), .second, .val (.int p3), .val (.long (316224000000 : Int64)), .second, .val (.int (p3 &&& (3 : Int32))), .val (.long (316224000000 : Int64)), .second, .val (.ref h0.size), .unset, .unset, .unset, .unset] [(.ref h0.size)])) _
        refine XS.lloadN X4.here hx rfl (hb hby at_56) rfl ?_
        show Steps p.tables e below (T4.setTop (mkF m 57 #[.val (.long q0), .second, .val (.long q1), .second, .val (.long q2), .second, .val (.int p3), .val (.long (316224000000 : Int64)), .second, .val (.int (p3 &&& (3 : Int32))), .val (.long (316224000000 : Int64)), .second, .val (.ref h0.size), .unset, .unset, .unset, .unset] [(.long q1), (.ref h0.size)])) _
        refine st5 _ ?_
        show Steps p.tables e below (T5.setTop (mkF m 62 #[.val (.long q0), .second, .val (.long q1), .second, .val (.long q2), .second, .val (.int p3), .val (.long (316224000000 : Int64)), .second, .val (.int (p3 &&& (3 : Int32))), .val (.long (316224000000 : Int64)), .second, .val (.ref h0.size), .unset, .unset, .unset, .unset] [(.long (q1 + (316224000000 : Int64)))])) _
        refine XS.lstore X5.here hx rfl (hb hby at_62) rfl (l' := #[.val (.long q0), .second, .val (.long q1), .second, .val (.long q2), .second, .val (.int p3), .val (.long (316224000000 : Int64)), .second, .val (.int (p3 &&& (3 : Int32))), .val (.long (316224000000 : Int64)), .second, .val (.ref h0.size), .val (.long (q1 + (316224000000 : Int64))), .second, .unset, .unset]) rfl ?_
        show Steps p.tables e below (T5.setTop (mkF m 64 #[.val (.long q0), .second, .val (.long q1), .second, .val (.long q2), .second, .val (.int p3), .val (.long (316224000000 : Int64)), .second, .val (.int (p3 &&& (3 : Int32))), .val (.long (316224000000 : Int64)), .second, .val (.ref h0.size), .val (.long (q1 + (316224000000 : Int64))), .second, .unset, .unset] [])) _
        refine XS.aload X5.here hx rfl (hb hby at_64) rfl rfl ?_
        show Steps p.tables e below (T5.setTop (mkF m 66 #[.val (.long q0), .second, .val (.long q1), .second, .val (.long q2), .second, .val (.int p3), .val (.long (316224000000 : Int64)), .second, .val (.int (p3 &&& (3 : Int32))), .val (.long (316224000000 : Int64)), .second, .val (.ref h0.size), .val (.long (q1 + (316224000000 : Int64))), .second, .unset, .unset] [(.ref h0.size)])) _
        refine XS.lload X5.here hx rfl (hb hby at_66) rfl ?_
        show Steps p.tables e below (T5.setTop (mkF m 68 #[.val (.long q0), .second, .val (.long q1), .second, .val (.long q2), .second, .val (.int p3), .val (.long (316224000000 : Int64)), .second, .val (.int (p3 &&& (3 : Int32))), .val (.long (316224000000 : Int64)), .second, .val (.ref h0.size), .val (.long (q1 + (316224000000 : Int64))), .second, .unset, .unset] [(.long q2), (.ref h0.size)])) _
        refine st6 _ ?_
        show Steps p.tables e below (T6.setTop (mkF m 73 #[.val (.long q0), .second, .val (.long q1), .second, .val (.long q2), .second, .val (.int p3), .val (.long (316224000000 : Int64)), .second, .val (.int (p3 &&& (3 : Int32))), .val (.long (316224000000 : Int64)), .second, .val (.ref h0.size), .val (.long (q1 + (316224000000 : Int64))), .second, .unset, .unset] [(.long (q2 + (316224000000 : Int64)))])) _
        refine XS.lstore X6.here hx rfl (hb hby at_73) rfl (l' := #[.val (.long q0), .second, .val (.long q1), .second, .val (.long q2), .second, .val (.int p3), .val (.long (316224000000 : Int64)), .second, .val (.int (p3 &&& (3 : Int32))), .val (.long (316224000000 : Int64)), .second, .val (.ref h0.size), .val (.long (q1 + (316224000000 : Int64))), .second, .val (.long (q2 + (316224000000 : Int64))), .second]) rfl ?_
        show Steps p.tables e below (T6.setTop (mkF m 75 #[.val (.long q0), .second, .val (.long q1), .second, .val (.long q2), .second, .val (.int p3), .val (.long (316224000000 : Int64)), .second, .val (.int (p3 &&& (3 : Int32))), .val (.long (316224000000 : Int64)), .second, .val (.ref h0.size), .val (.long (q1 + (316224000000 : Int64))), .second, .val (.long (q2 + (316224000000 : Int64))), .second] [])) _
        refine XS.lload X6.here hx rfl (hb hby at_75) rfl ?_
        show Steps p.tables e below (T6.setTop (mkF m 77 #[.val (.long q0), .second, .val (.long q1), .second, .val (.long q2), .second, .val (.int p3), .val (.long (316224000000 : Int64)), .second, .val (.int (p3 &&& (3 : Int32))), .val (.long (316224000000 : Int64)), .second, .val (.ref h0.size), .val (.long (q1 + (316224000000 : Int64))), .second, .val (.long (q2 + (316224000000 : Int64))), .second] [(.long (q1 + (316224000000 : Int64)))])) _
        refine XS.lloadN X6.here hx rfl (hb hby at_77) rfl ?_
        show Steps p.tables e below (T6.setTop (mkF m 78 #[.val (.long q0), .second, .val (.long q1), .second, .val (.long q2), .second, .val (.int p3), .val (.long (316224000000 : Int64)), .second, .val (.int (p3 &&& (3 : Int32))), .val (.long (316224000000 : Int64)), .second, .val (.ref h0.size), .val (.long (q1 + (316224000000 : Int64))), .second, .val (.long (q2 + (316224000000 : Int64))), .second] [(.long q1), (.long (q1 + (316224000000 : Int64)))])) _
        refine XS.lload X6.here hx rfl (hb hby at_78) rfl ?_
        show Steps p.tables e below (T6.setTop (mkF m 80 #[.val (.long q0), .second, .val (.long q1), .second, .val (.long q2), .second, .val (.int p3), .val (.long (316224000000 : Int64)), .second, .val (.int (p3 &&& (3 : Int32))), .val (.long (316224000000 : Int64)), .second, .val (.ref h0.size), .val (.long (q1 + (316224000000 : Int64))), .second, .val (.long (q2 + (316224000000 : Int64))), .second] [(.long (316224000000 : Int64)), (.long q1), (.long (q1 + (316224000000 : Int64)))])) _
        refine XS.ladd X6.here hx rfl (hb hby at_80) rfl ?_
        show Steps p.tables e below (T6.setTop (mkF m 81 #[.val (.long q0), .second, .val (.long q1), .second, .val (.long q2), .second, .val (.int p3), .val (.long (316224000000 : Int64)), .second, .val (.int (p3 &&& (3 : Int32))), .val (.long (316224000000 : Int64)), .second, .val (.ref h0.size), .val (.long (q1 + (316224000000 : Int64))), .second, .val (.long (q2 + (316224000000 : Int64))), .second] [(.long (q1 + (316224000000 : Int64))), (.long (q1 + (316224000000 : Int64)))])) _
        refine XS.lcmp X6.here hx rfl (hb hby at_81) rfl ?_
        show Steps p.tables e below (T6.setTop (mkF m 82 #[.val (.long q0), .second, .val (.long q1), .second, .val (.long q2), .second, .val (.int p3), .val (.long (316224000000 : Int64)), .second, .val (.int (p3 &&& (3 : Int32))), .val (.long (316224000000 : Int64)), .second, .val (.ref h0.size), .val (.long (q1 + (316224000000 : Int64))), .second, .val (.long (q2 + (316224000000 : Int64))), .second] [(.int (lcmpW (q1 + (316224000000 : Int64)) (q1 + (316224000000 : Int64))))])) _
        refine XS.ifNo X6.here hx rfl (hb hby at_82) rfl ((if0 _ _).trans (teq (own_lc _)).2) ?_
        show Steps p.tables e below (T6.setTop (mkF m 85 #[.val (.long q0), .second, .val (.long q1), .second, .val (.long q2), .second, .val (.int p3), .val (.long (316224000000 : Int64)), .second, .val (.int (p3 &&& (3 : Int32))), .val (.long (316224000000 : Int64)), .second, .val (.ref h0.size), .val (.long (q1 + (316224000000 : Int64))), .second, .val (.long (q2 + (316224000000 : Int64))), .second] [])) _
        refine XS.lload X6.here hx rfl (hb hby at_85) rfl ?_
        show Steps p.tables e below (T6.setTop (mkF m 87 #[.val (.long q0), .second, .val (.long q1), .second, .val (.long q2), .second, .val (.int p3), .val (.long (316224000000 : Int64)), .second, .val (.int (p3 &&& (3 : Int32))), .val (.long (316224000000 : Int64)), .second, .val (.ref h0.size), .val (.long (q1 + (316224000000 : Int64))), .second, .val (.long (q2 + (316224000000 : Int64))), .second] [(.long (q2 + (316224000000 : Int64)))])) _
        refine XS.lload X6.here hx rfl (hb hby at_87) rfl ?_
        show Steps p.tables e below (T6.setTop (mkF m 89 #[.val (.long q0), .second, .val (.long q1), .second, .val (.long q2), .second, .val (.int p3), .val (.long (316224000000 : Int64)), .second, .val (.int (p3 &&& (3 : Int32))), .val (.long (316224000000 : Int64)), .second, .val (.ref h0.size), .val (.long (q1 + (316224000000 : Int64))), .second, .val (.long (q2 + (316224000000 : Int64))), .second] [(.long q2), (.long (q2 + (316224000000 : Int64)))])) _
        refine XS.lload X6.here hx rfl (hb hby at_89) rfl ?_
        show Steps p.tables e below (T6.setTop (mkF m 91 #[.val (.long q0), .second, .val (.long q1), .second, .val (.long q2), .second, .val (.int p3), .val (.long (316224000000 : Int64)), .second, .val (.int (p3 &&& (3 : Int32))), .val (.long (316224000000 : Int64)), .second, .val (.ref h0.size), .val (.long (q1 + (316224000000 : Int64))), .second, .val (.long (q2 + (316224000000 : Int64))), .second] [(.long (316224000000 : Int64)), (.long q2), (.long (q2 + (316224000000 : Int64)))])) _
        refine XS.ladd X6.here hx rfl (hb hby at_91) rfl ?_
        show Steps p.tables e below (T6.setTop (mkF m 92 #[.val (.long q0), .second, .val (.long q1), .second, .val (.long q2), .second, .val (.int p3), .val (.long (316224000000 : Int64)), .second, .val (.int (p3 &&& (3 : Int32))), .val (.long (316224000000 : Int64)), .second, .val (.ref h0.size), .val (.long (q1 + (316224000000 : Int64))), .second, .val (.long (q2 + (316224000000 : Int64))), .second] [(.long (q2 + (316224000000 : Int64))), (.long (q2 + (316224000000 : Int64)))])) _
        refine XS.lcmp X6.here hx rfl (hb hby at_92) rfl ?_
        show Steps p.tables e below (T6.setTop (mkF m 93 #[.val (.long q0), .second, .val (.long q1), .second, .val (.long q2), .second, .val (.int p3), .val (.long (316224000000 : Int64)), .second, .val (.int (p3 &&& (3 : Int32))), .val (.long (316224000000 : Int64)), .second, .val (.ref h0.size), .val (.long (q1 + (316224000000 : Int64))), .second, .val (.long (q2 + (316224000000 : Int64))), .second] [(.int (lcmpW (q2 + (316224000000 : Int64)) (q2 + (316224000000 : Int64))))])) _
        refine XS.ifNo X6.here hx rfl (hb hby at_93) rfl ((if0 _ _).trans (teq (own_lc _)).2) ?_
        show Steps p.tables e below (T6.setTop (mkF m 96 #[.val (.long q0), .second, .val (.long q1), .second, .val (.long q2), .second, .val (.int p3), .val (.long (316224000000 : Int64)), .second, .val (.int (p3 &&& (3 : Int32))), .val (.long (316224000000 : Int64)), .second, .val (.ref h0.size), .val (.long (q1 + (316224000000 : Int64))), .second, .val (.long (q2 + (316224000000 : Int64))), .second] [])) _
        refine XS.iconst X6.here hx rfl (hb hby at_96) ?_
        show Steps p.tables e below (T6.setTop (mkF m 97 #[.val (.long q0), .second, .val (.long q1), .second, .val (.long q2), .second, .val (.int p3), .val (.long (316224000000 : Int64)), .second, .val (.int (p3 &&& (3 : Int32))), .val (.long (316224000000 : Int64)), .second, .val (.ref h0.size), .val (.long (q1 + (316224000000 : Int64))), .second, .val (.long (q2 + (316224000000 : Int64))), .second] [(.int (1 : Int32))])) _
        refine XS.goto X6.here hx rfl (pc0 := 97) (pc' := 101) rfl (hb hby at_97) (by decide) (by decide) ?_
        show Steps p.tables e below (T6.setTop (mkF m 101 #[.val (.long q0), .second, .val (.long q1), .second, .val (.long q2), .second, .val (.int p3), .val (.long (316224000000 : Int64)), .second, .val (.int (p3 &&& (3 : Int32))), .val (.long (316224000000 : Int64)), .second, .val (.ref h0.size), .val (.long (q1 + (316224000000 : Int64))), .second, .val (.long (q2 + (316224000000 : Int64))), .second] [(.int (1 : Int32))])) _
        exact retN X6 hx (t := .boolean) Bd.returns (by simp) (hb hby at_101) hr
      · show Q_rm0 Z q0 q1 q2 p3 cK one h0 n0 _ T6.heap _
        rw [e6]
        exact ⟨rfl, N4⟩
    · obtain ⟨_, _, ⟨T7, L7, k7, n7⟩, -, X7, ⟨Lc7, hQ7, l7, y7, z7⟩, st7⟩ := Jvm.LawKit.callS X0 hx (y := (⟨"com/example/swallow/swallow/schedule/DueTime", "afterDelay", "(J)Lcom/example/swallow/swallow/schedule/DueTime;"⟩ : MethodName)) hown (mvT hZ (hw _ (List.mem_of_getElem? (i := 2) rfl))) (mvT hZ (hw _ (List.mem_of_getElem? (i := 3) rfl))) (mvT hZ (hw _ (List.mem_of_getElem? (i := 4) rfl))) (mvT hZ (hw _ (List.mem_of_getElem? (i := 5) rfl))) (by decide) (own_backH (W := 0) (rmA l Z a0 hw [] ((q0 &&& (9223372036854775807 : Int64)) - ((q0 &&& (9223372036854775807 : Int64)) / ((316224000000 : Int64) + (1 : Int64))) * ((316224000000 : Int64) + (1 : Int64))) cK one h0 n0 Z0 hat (own_rng q0).1 (own_rng q0).2) hZH (hw _ (List.mem_of_getElem? (i := 5) rfl)) (hw _ (List.mem_of_getElem? (i := 4) rfl)) (by decide) (by decide)) (g := (mkF m 49 #[.val (.long q0), .second, .val (.long q1), .second, .val (.long q2), .second, .val (.int p3), .val (.long (316224000000 : Int64)), .second, .val (.int (p3 &&& (3 : Int32))), .val (.long ((q0 &&& (9223372036854775807 : Int64)) - ((q0 &&& (9223372036854775807 : Int64)) / ((316224000000 : Int64) + (1 : Int64))) * ((316224000000 : Int64) + (1 : Int64)))), .second, .unset, .unset, .unset, .unset, .unset] [(.long ((q0 &&& (9223372036854775807 : Int64)) - ((q0 &&& (9223372036854775807 : Int64)) / ((316224000000 : Int64) + (1 : Int64))) * ((316224000000 : Int64) + (1 : Int64))))])) rfl (by rw [hml]; rfl) (argsL := [(.long ((q0 &&& (9223372036854775807 : Int64)) - ((q0 &&& (9223372036854775807 : Int64)) / ((316224000000 : Int64) + (1 : Int64))) * ((316224000000 : Int64) + (1 : Int64))))]) (rest := []) (lenOf pd__J_Lcom_example_swallow_swallow_schedule_DueTime_ rfl) rfl (by show 2 * 0 + _ ≤ _; exact Nat.le_of_eq rfl) (hb hby at_49) (fun _ _ => ⟨rfl, e0, (by decide : 0 + 1 ≤ _), (by decide : 0 + 1 ≤ _)⟩)
      dsimp only [Pt.U, Pt.locs, Pt.cells, Pt.slots] at X7 l7 y7 z7 st7 hQ7
      subst l7 y7 z7
      obtain ⟨rfl, N7q, e7⟩ := hQ7
      have N7 := Fr.app N0 N7q
      obtain ⟨T8, X8, e8, st8⟩ := own_call X7 hx hown (mvT hZ (hw _ (List.mem_of_getElem? (i := 10) rfl))) (mvT hZ (hw _ (List.mem_of_getElem? (i := 11) rfl))) (mvT hZ (hw _ (List.mem_of_getElem? (i := 12) rfl))) (mvT hZ (hw _ (List.mem_of_getElem? (i := 14) rfl))) (mvT hZ (hw _ (List.mem_of_getElem? (i := 13) rfl))) (mvT hZ (hw _ (List.mem_of_getElem? (i := 4) rfl))) (mvT hZ (hw _ (List.mem_of_getElem? (i := 9) rfl))) (a := h0.size) (cK := cK) (u := ((q0 &&& (9223372036854775807 : Int64)) - ((q0 &&& (9223372036854775807 : Int64)) / ((316224000000 : Int64) + (1 : Int64))) * ((316224000000 : Int64) + (1 : Int64)))) (v := q1) hmd (by rw [e7]; exact Array.getElem?_push_size) (g := (mkF m 57 #[.val (.long q0), .second, .val (.long q1), .second, .val (.long q2), .second, .val (.int p3), .val (.long (316224000000 : Int64)), .second, .val (.int (p3 &&& (3 : Int32))), .val (.long ((q0 &&& (9223372036854775807 : Int64)) - ((q0 &&& (9223372036854775807 : Int64)) / ((316224000000 : Int64) + (1 : Int64))) * ((316224000000 : Int64) + (1 : Int64)))), .second, .val (.ref h0.size), .unset, .unset, .unset, .unset] [(.long q1), (.ref h0.size)])) rfl (by rw [hml]; rfl) (rest := []) rfl (hb hby at_57) (by decide) (by show 2 * 0 + 0 + (3 + 11) + 15 ≤ 3200; decide) (by decide) (by decide)
      rw [e7] at e8
      obtain ⟨T9, X9, e9, st9⟩ := own_call X8 hx hown (mvT hZ (hw _ (List.mem_of_getElem? (i := 10) rfl))) (mvT hZ (hw _ (List.mem_of_getElem? (i := 11) rfl))) (mvT hZ (hw _ (List.mem_of_getElem? (i := 12) rfl))) (mvT hZ (hw _ (List.mem_of_getElem? (i := 14) rfl))) (mvT hZ (hw _ (List.mem_of_getElem? (i := 13) rfl))) (mvT hZ (hw _ (List.mem_of_getElem? (i := 4) rfl))) (mvT hZ (hw _ (List.mem_of_getElem? (i := 9) rfl))) (a := h0.size) (cK := cK) (u := ((q0 &&& (9223372036854775807 : Int64)) - ((q0 &&& (9223372036854775807 : Int64)) / ((316224000000 : Int64) + (1 : Int64))) * ((316224000000 : Int64) + (1 : Int64)))) (v := q2) hmd (by rw [e8]; exact Array.getElem?_push_size) (g := (mkF m 68 #[.val (.long q0), .second, .val (.long q1), .second, .val (.long q2), .second, .val (.int p3), .val (.long (316224000000 : Int64)), .second, .val (.int (p3 &&& (3 : Int32))), .val (.long ((q0 &&& (9223372036854775807 : Int64)) - ((q0 &&& (9223372036854775807 : Int64)) / ((316224000000 : Int64) + (1 : Int64))) * ((316224000000 : Int64) + (1 : Int64)))), .second, .val (.ref h0.size), .val (.long (q1 + ((q0 &&& (9223372036854775807 : Int64)) - ((q0 &&& (9223372036854775807 : Int64)) / ((316224000000 : Int64) + (1 : Int64))) * ((316224000000 : Int64) + (1 : Int64))))), .second, .unset, .unset] [(.long q2), (.ref h0.size)])) rfl (by rw [hml]; rfl) (rest := []) rfl (hb hby at_68) (by decide) (by show 2 * 0 + 0 + (3 + 11) + 15 ≤ 3200; decide) (by decide) (by decide)
      rw [e8] at e9
      obtain ⟨fs, hr, hrun, hended, hW, hsame⟩ := X9.leave (v := some (.int (1 : Int32))) (fun h => by rw [Bd.returns] at h; cases h)
      refine ⟨_, _, pre0 _ ?_, hrun, hended, _, _, rfl, ?_, ⟨_, rfl⟩, hW, hsame.mono (by decide) (by decide)⟩
      · show Steps p.tables e below (s₁.setTop (mkF m 0 #[.val (.long q0), .second, .val (.long q1), .second, .val (.long q2), .second, .val (.int p3), .unset, .unset, .unset, .unset, .unset, .unset, .unset, .unset, .unset, .unset] [])) _
        refine X0.ldc2Long hx hown (mvT hZ (hw _ (List.mem_of_getElem? (i := 0) rfl))) (g := (mkF m 0 #[.val (.long q0), .second, .val (.long q1), .second, .val (.long q2), .second, .val (.int p3), .unset, .unset, .unset, .unset, .unset, .unset, .unset, .unset, .unset, .unset] [])) rfl (hb hby at_0) _ ?_
        show Steps p.tables e below (s₁.setTop (mkF m 3 #[.val (.long q0), .second, .val (.long q1), .second, .val (.long q2), .second, .val (.int p3), .unset, .unset, .unset, .unset, .unset, .unset, .unset, .unset, .unset, .unset] [(.long (316224000000 : Int64))])) _
        refine XS.lstore X0.here hx rfl (hb hby at_3) rfl (l' := #[.val (.long q0), .second, .val (.long q1), .second, .val (.long q2), .second, .val (.int p3), .val (.long (316224000000 : Int64)), .second, .unset, .unset, .unset, .unset, .unset, .unset, .unset, .unset]) rfl ?_
        show Steps p.tables e below (s₁.setTop (mkF m 5 #[.val (.long q0), .second, .val (.long q1), .second, .val (.long q2), .second, .val (.int p3), .val (.long (316224000000 : Int64)), .second, .unset, .unset, .unset, .unset, .unset, .unset, .unset, .unset] [])) _
        refine XS.iload X0.here hx rfl (hb hby at_5) rfl ?_
        show Steps p.tables e below (s₁.setTop (mkF m 7 #[.val (.long q0), .second, .val (.long q1), .second, .val (.long q2), .second, .val (.int p3), .val (.long (316224000000 : Int64)), .second, .unset, .unset, .unset, .unset, .unset, .unset, .unset, .unset] [(.int p3)])) _
        refine XS.iconst X0.here hx rfl (hb hby at_7) ?_
        show Steps p.tables e below (s₁.setTop (mkF m 8 #[.val (.long q0), .second, .val (.long q1), .second, .val (.long q2), .second, .val (.int p3), .val (.long (316224000000 : Int64)), .second, .unset, .unset, .unset, .unset, .unset, .unset, .unset, .unset] [(.int (3 : Int32)), (.int p3)])) _
        refine XS.iand X0.here hx rfl (hb hby at_8) rfl ?_
        show Steps p.tables e below (s₁.setTop (mkF m 9 #[.val (.long q0), .second, .val (.long q1), .second, .val (.long q2), .second, .val (.int p3), .val (.long (316224000000 : Int64)), .second, .unset, .unset, .unset, .unset, .unset, .unset, .unset, .unset] [(.int (p3 &&& (3 : Int32)))])) _
        refine XS.istore X0.here hx rfl (hb hby at_9) rfl (l' := #[.val (.long q0), .second, .val (.long q1), .second, .val (.long q2), .second, .val (.int p3), .val (.long (316224000000 : Int64)), .second, .val (.int (p3 &&& (3 : Int32))), .unset, .unset, .unset, .unset, .unset, .unset, .unset]) rfl ?_
        show Steps p.tables e below (s₁.setTop (mkF m 11 #[.val (.long q0), .second, .val (.long q1), .second, .val (.long q2), .second, .val (.int p3), .val (.long (316224000000 : Int64)), .second, .val (.int (p3 &&& (3 : Int32))), .unset, .unset, .unset, .unset, .unset, .unset, .unset] [])) _
        refine XS.iload X0.here hx rfl (hb hby at_11) rfl ?_
        show Steps p.tables e below (s₁.setTop (mkF m 13 #[.val (.long q0), .second, .val (.long q1), .second, .val (.long q2), .second, .val (.int p3), .val (.long (316224000000 : Int64)), .second, .val (.int (p3 &&& (3 : Int32))), .unset, .unset, .unset, .unset, .unset, .unset, .unset] [(.int (p3 &&& (3 : Int32)))])) _
        refine XS.ifYes X0.here hx rfl (pc0 := 13) (pc' := 22) rfl (hb hby at_13) rfl ((if0 _ _).trans (feq hc13).2) (by decide) (by decide) ?_
        show Steps p.tables e below (s₁.setTop (mkF m 22 #[.val (.long q0), .second, .val (.long q1), .second, .val (.long q2), .second, .val (.int p3), .val (.long (316224000000 : Int64)), .second, .val (.int (p3 &&& (3 : Int32))), .unset, .unset, .unset, .unset, .unset, .unset, .unset] [])) _
        refine XS.iload X0.here hx rfl (hb hby at_22) rfl ?_
        show Steps p.tables e below (s₁.setTop (mkF m 24 #[.val (.long q0), .second, .val (.long q1), .second, .val (.long q2), .second, .val (.int p3), .val (.long (316224000000 : Int64)), .second, .val (.int (p3 &&& (3 : Int32))), .unset, .unset, .unset, .unset, .unset, .unset, .unset] [(.int (p3 &&& (3 : Int32)))])) _
        refine XS.iconst X0.here hx rfl (hb hby at_24) ?_
        show Steps p.tables e below (s₁.setTop (mkF m 25 #[.val (.long q0), .second, .val (.long q1), .second, .val (.long q2), .second, .val (.int p3), .val (.long (316224000000 : Int64)), .second, .val (.int (p3 &&& (3 : Int32))), .unset, .unset, .unset, .unset, .unset, .unset, .unset] [(.int (1 : Int32)), (.int (p3 &&& (3 : Int32)))])) _
        refine XS.icmpYes X0.here hx rfl (pc0 := 25) (pc' := 35) rfl (hb hby at_25) rfl (feq hc25).2 (by decide) (by decide) ?_
        show Steps p.tables e below (s₁.setTop (mkF m 35 #[.val (.long q0), .second, .val (.long q1), .second, .val (.long q2), .second, .val (.int p3), .val (.long (316224000000 : Int64)), .second, .val (.int (p3 &&& (3 : Int32))), .unset, .unset, .unset, .unset, .unset, .unset, .unset] [])) _
        refine XS.lloadN X0.here hx rfl (hb hby at_35) rfl ?_
        show Steps p.tables e below (s₁.setTop (mkF m 36 #[.val (.long q0), .second, .val (.long q1), .second, .val (.long q2), .second, .val (.int p3), .val (.long (316224000000 : Int64)), .second, .val (.int (p3 &&& (3 : Int32))), .unset, .unset, .unset, .unset, .unset, .unset, .unset] [(.long q0)])) _
        refine X0.ldc2Long hx hown (mvT hZ (hw _ (List.mem_of_getElem? (i := 1) rfl))) (g := (mkF m 36 #[.val (.long q0), .second, .val (.long q1), .second, .val (.long q2), .second, .val (.int p3), .val (.long (316224000000 : Int64)), .second, .val (.int (p3 &&& (3 : Int32))), .unset, .unset, .unset, .unset, .unset, .unset, .unset] [(.long q0)])) rfl (hb hby at_36) _ ?_
        show Steps p.tables e below (s₁.setTop (mkF m 39 #[.val (.long q0), .second, .val (.long q1), .second, .val (.long q2), .second, .val (.int p3), .val (.long (316224000000 : Int64)), .second, .val (.int (p3 &&& (3 : Int32))), .unset, .unset, .unset, .unset, .unset, .unset, .unset] [(.long (9223372036854775807 : Int64)), (.long q0)])) _
        refine XS.land X0.here hx rfl (hb hby at_39) rfl ?_
        show Steps p.tables e below (s₁.setTop (mkF m 40 #[.val (.long q0), .second, .val (.long q1), .second, .val (.long q2), .second, .val (.int p3), .val (.long (316224000000 : Int64)), .second, .val (.int (p3 &&& (3 : Int32))), .unset, .unset, .unset, .unset, .unset, .unset, .unset] [(.long (q0 &&& (9223372036854775807 : Int64)))])) _
        refine XS.lload X0.here hx rfl (hb hby at_40) rfl ?_
        show Steps p.tables e below (s₁.setTop (mkF m 42 #[.val (.long q0), .second, .val (.long q1), .second, .val (.long q2), .second, .val (.int p3), .val (.long (316224000000 : Int64)), .second, .val (.int (p3 &&& (3 : Int32))), .unset, .unset, .unset, .unset, .unset, .unset, .unset] [(.long (316224000000 : Int64)), (.long (q0 &&& (9223372036854775807 : Int64)))])) _
        refine XS.lconst X0.here hx rfl (hb hby at_42) ?_
        show Steps p.tables e below (s₁.setTop (mkF m 43 #[.val (.long q0), .second, .val (.long q1), .second, .val (.long q2), .second, .val (.int p3), .val (.long (316224000000 : Int64)), .second, .val (.int (p3 &&& (3 : Int32))), .unset, .unset, .unset, .unset, .unset, .unset, .unset] [(.long (1 : Int64)), (.long (316224000000 : Int64)), (.long (q0 &&& (9223372036854775807 : Int64)))])) _
        refine XS.ladd X0.here hx rfl (hb hby at_43) rfl ?_
        show Steps p.tables e below (s₁.setTop (mkF m 44 #[.val (.long q0), .second, .val (.long q1), .second, .val (.long q2), .second, .val (.int p3), .val (.long (316224000000 : Int64)), .second, .val (.int (p3 &&& (3 : Int32))), .unset, .unset, .unset, .unset, .unset, .unset, .unset] [(.long ((316224000000 : Int64) + (1 : Int64))), (.long (q0 &&& (9223372036854775807 : Int64)))])) _
        refine XS.lrem X0.here hx rfl (hb hby at_44) rfl (by decide) ?_
        show Steps p.tables e below (s₁.setTop (mkF m 45 #[.val (.long q0), .second, .val (.long q1), .second, .val (.long q2), .second, .val (.int p3), .val (.long (316224000000 : Int64)), .second, .val (.int (p3 &&& (3 : Int32))), .unset, .unset, .unset, .unset, .unset, .unset, .unset] [(.long ((q0 &&& (9223372036854775807 : Int64)) - ((q0 &&& (9223372036854775807 : Int64)) / ((316224000000 : Int64) + (1 : Int64))) * ((316224000000 : Int64) + (1 : Int64))))])) _
        refine XS.lstore X0.here hx rfl (hb hby at_45) rfl (l' := #[.val (.long q0), .second, .val (.long q1), .second, .val (.long q2), .second, .val (.int p3), .val (.long (316224000000 : Int64)), .second, .val (.int (p3 &&& (3 : Int32))), .val (.long ((q0 &&& (9223372036854775807 : Int64)) - ((q0 &&& (9223372036854775807 : Int64)) / ((316224000000 : Int64) + (1 : Int64))) * ((316224000000 : Int64) + (1 : Int64)))), .second, .unset, .unset, .unset, .unset, .unset]) rfl ?_
        show Steps p.tables e below (s₁.setTop (mkF m 47 #[.val (.long q0), .second, .val (.long q1), .second, .val (.long q2), .second, .val (.int p3), .val (.long (316224000000 : Int64)), .second, .val (.int (p3 &&& (3 : Int32))), .val (.long ((q0 &&& (9223372036854775807 : Int64)) - ((q0 &&& (9223372036854775807 : Int64)) / ((316224000000 : Int64) + (1 : Int64))) * ((316224000000 : Int64) + (1 : Int64)))), .second, .unset, .unset, .unset, .unset, .unset] [])) _
        refine XS.lload X0.here hx rfl (hb hby at_47) rfl ?_
        show Steps p.tables e below (s₁.setTop (mkF m 49 #[.val (.long q0), .second, .val (.long q1), .second, .val (.long q2), .second, .val (.int p3), .val (.long (316224000000 : Int64)), .second, .val (.int (p3 &&& (3 : Int32))), .val (.long ((q0 &&& (9223372036854775807 : Int64)) - ((q0 &&& (9223372036854775807 : Int64)) / ((316224000000 : Int64) + (1 : Int64))) * ((316224000000 : Int64) + (1 : Int64)))), .second, .unset, .unset, .unset, .unset, .unset] [(.long ((q0 &&& (9223372036854775807 : Int64)) - ((q0 &&& (9223372036854775807 : Int64)) / ((316224000000 : Int64) + (1 : Int64))) * ((316224000000 : Int64) + (1 : Int64))))])) _
        refine st7 _ ?_
        show Steps p.tables e below (T7.setTop (mkF m 52 #[.val (.long q0), .second, .val (.long q1), .second, .val (.long q2), .second, .val (.int p3), .val (.long (316224000000 : Int64)), .second, .val (.int (p3 &&& (3 : Int32))), .val (.long ((q0 &&& (9223372036854775807 : Int64)) - ((q0 &&& (9223372036854775807 : Int64)) / ((316224000000 : Int64) + (1 : Int64))) * ((316224000000 : Int64) + (1 : Int64)))), .second, .unset, .unset, .unset, .unset, .unset] [(.ref h0.size)])) _
        refine XS.astore X7.here hx rfl (hb hby at_52) rfl rfl (l' := #[.val (.long q0), .second, .val (.long q1), .second, .val (.long q2), .second, .val (.int p3), .val (.long (316224000000 : Int64)), .second, .val (.int (p3 &&& (3 : Int32))), .val (.long ((q0 &&& (9223372036854775807 : Int64)) - ((q0 &&& (9223372036854775807 : Int64)) / ((316224000000 : Int64) + (1 : Int64))) * ((316224000000 : Int64) + (1 : Int64)))), .second, .val (.ref h0.size), .unset, .unset, .unset, .unset]) rfl ?_
        show Steps p.tables e below (T7.setTop (mkF m 54 #[.val (.long q0), .second, .val (.long q1), .second, .val (.long q2), .second, .val (.int p3), .val (.long (316224000000 : Int64)), .second, .val (.int (p3 &&& (3 : Int32))), .val (.long ((q0 &&& (9223372036854775807 : Int64)) - ((q0 &&& (9223372036854775807 : Int64)) / ((316224000000 : Int64) + (1 : Int64))) * ((316224000000 : Int64) + (1 : Int64)))), .second, .val (.ref h0.size), .unset, .unset, .unset, .unset] [])) _
        refine XS.aload X7.here hx rfl (hb hby at_54) rfl rfl ?_
        show Steps p.tables e below (T7.setTop (mkF m 56 #[.val (.long q0), .second, .val (.long q1), .second, .val (.long q2), .second, .val (.int p3), .val (.long (316224000000 : Int64)), .second, .val (.int (p3 &&& (3 : Int32))), .val (.long ((q0 &&& (9223372036854775807 : Int64)) - ((q0 &&& (9223372036854775807 : Int64)) / ((316224000000 : Int64) + (1 : Int64))) * ((316224000000 : Int64) + (1 : Int64)))), .second, .val (.ref h0.size), .unset, .unset, .unset, .unset] [(.ref h0.size)])) _
        refine XS.lloadN X7.here hx rfl (hb hby at_56) rfl ?_
        show Steps p.tables e below (T7.setTop (mkF m 57 #[.val (.long q0), .second, .val (.long q1), .second, .val (.long q2), .second, .val (.int p3), .val (.long (316224000000 : Int64)), .second, .val (.int (p3 &&& (3 : Int32))), .val (.long ((q0 &&& (9223372036854775807 : Int64)) - ((q0 &&& (9223372036854775807 : Int64)) / ((316224000000 : Int64) + (1 : Int64))) * ((316224000000 : Int64) + (1 : Int64)))), .second, .val (.ref h0.size), .unset, .unset, .unset, .unset] [(.long q1), (.ref h0.size)])) _
        refine st8 _ ?_
        show Steps p.tables e below (T8.setTop (mkF m 62 #[.val (.long q0), .second, .val (.long q1), .second, .val (.long q2), .second, .val (.int p3), .val (.long (316224000000 : Int64)), .second, .val (.int (p3 &&& (3 : Int32))), .val (.long ((q0 &&& (9223372036854775807 : Int64)) - ((q0 &&& (9223372036854775807 : Int64)) / ((316224000000 : Int64) + (1 : Int64))) * ((316224000000 : Int64) + (1 : Int64)))), .second, .val (.ref h0.size), .unset, .unset, .unset, .unset] [(.long (q1 + ((q0 &&& (9223372036854775807 : Int64)) - ((q0 &&& (9223372036854775807 : Int64)) / ((316224000000 : Int64) + (1 : Int64))) * ((316224000000 : Int64) + (1 : Int64)))))])) _
        refine XS.lstore X8.here hx rfl (hb hby at_62) rfl (l' := #[.val (.long q0), .second, .val (.long q1), .second, .val (.long q2), .second, .val (.int p3), .val (.long (316224000000 : Int64)), .second, .val (.int (p3 &&& (3 : Int32))), .val (.long ((q0 &&& (9223372036854775807 : Int64)) - ((q0 &&& (9223372036854775807 : Int64)) / ((316224000000 : Int64) + (1 : Int64))) * ((316224000000 : Int64) + (1 : Int64)))), .second, .val (.ref h0.size), .val (.long (q1 + ((q0 &&& (9223372036854775807 : Int64)) - ((q0 &&& (9223372036854775807 : Int64)) / ((316224000000 : Int64) + (1 : Int64))) * ((316224000000 : Int64) + (1 : Int64))))), .second, .unset, .unset]) rfl ?_
        show Steps p.tables e below (T8.setTop (mkF m 64 #[.val (.long q0), .second, .val (.long q1), .second, .val (.long q2), .second, .val (.int p3), .val (.long (316224000000 : Int64)), .second, .val (.int (p3 &&& (3 : Int32))), .val (.long ((q0 &&& (9223372036854775807 : Int64)) - ((q0 &&& (9223372036854775807 : Int64)) / ((316224000000 : Int64) + (1 : Int64))) * ((316224000000 : Int64) + (1 : Int64)))), .second, .val (.ref h0.size), .val (.long (q1 + ((q0 &&& (9223372036854775807 : Int64)) - ((q0 &&& (9223372036854775807 : Int64)) / ((316224000000 : Int64) + (1 : Int64))) * ((316224000000 : Int64) + (1 : Int64))))), .second, .unset, .unset] [])) _
        refine XS.aload X8.here hx rfl (hb hby at_64) rfl rfl ?_
        show Steps p.tables e below (T8.setTop (mkF m 66 #[.val (.long q0), .second, .val (.long q1), .second, .val (.long q2), .second, .val (.int p3), .val (.long (316224000000 : Int64)), .second, .val (.int (p3 &&& (3 : Int32))), .val (.long ((q0 &&& (9223372036854775807 : Int64)) - ((q0 &&& (9223372036854775807 : Int64)) / ((316224000000 : Int64) + (1 : Int64))) * ((316224000000 : Int64) + (1 : Int64)))), .second, .val (.ref h0.size), .val (.long (q1 + ((q0 &&& (9223372036854775807 : Int64)) - ((q0 &&& (9223372036854775807 : Int64)) / ((316224000000 : Int64) + (1 : Int64))) * ((316224000000 : Int64) + (1 : Int64))))), .second, .unset, .unset] [(.ref h0.size)])) _
        refine XS.lload X8.here hx rfl (hb hby at_66) rfl ?_
        show Steps p.tables e below (T8.setTop (mkF m 68 #[.val (.long q0), .second, .val (.long q1), .second, .val (.long q2), .second, .val (.int p3), .val (.long (316224000000 : Int64)), .second, .val (.int (p3 &&& (3 : Int32))), .val (.long ((q0 &&& (9223372036854775807 : Int64)) - ((q0 &&& (9223372036854775807 : Int64)) / ((316224000000 : Int64) + (1 : Int64))) * ((316224000000 : Int64) + (1 : Int64)))), .second, .val (.ref h0.size), .val (.long (q1 + ((q0 &&& (9223372036854775807 : Int64)) - ((q0 &&& (9223372036854775807 : Int64)) / ((316224000000 : Int64) + (1 : Int64))) * ((316224000000 : Int64) + (1 : Int64))))), .second, .unset, .unset] [(.long q2), (.ref h0.size)])) _
        refine st9 _ ?_
        show Steps p.tables e below (T9.setTop (mkF m 73 #[.val (.long q0), .second, .val (.long q1), .second, .val (.long q2), .second, .val (.int p3), .val (.long (316224000000 : Int64)), .second, .val (.int (p3 &&& (3 : Int32))), .val (.long ((q0 &&& (9223372036854775807 : Int64)) - ((q0 &&& (9223372036854775807 : Int64)) / ((316224000000 : Int64) + (1 : Int64))) * ((316224000000 : Int64) + (1 : Int64)))), .second, .val (.ref h0.size), .val (.long (q1 + ((q0 &&& (9223372036854775807 : Int64)) - ((q0 &&& (9223372036854775807 : Int64)) / ((316224000000 : Int64) + (1 : Int64))) * ((316224000000 : Int64) + (1 : Int64))))), .second, .unset, .unset] [(.long (q2 + ((q0 &&& (9223372036854775807 : Int64)) - ((q0 &&& (9223372036854775807 : Int64)) / ((316224000000 : Int64) + (1 : Int64))) * ((316224000000 : Int64) + (1 : Int64)))))])) _
        refine XS.lstore X9.here hx rfl (hb hby at_73) rfl (l' := #[.val (.long q0), .second, .val (.long q1), .second, .val (.long q2), .second, .val (.int p3), .val (.long (316224000000 : Int64)), .second, .val (.int (p3 &&& (3 : Int32))), .val (.long ((q0 &&& (9223372036854775807 : Int64)) - ((q0 &&& (9223372036854775807 : Int64)) / ((316224000000 : Int64) + (1 : Int64))) * ((316224000000 : Int64) + (1 : Int64)))), .second, .val (.ref h0.size), .val (.long (q1 + ((q0 &&& (9223372036854775807 : Int64)) - ((q0 &&& (9223372036854775807 : Int64)) / ((316224000000 : Int64) + (1 : Int64))) * ((316224000000 : Int64) + (1 : Int64))))), .second, .val (.long (q2 + ((q0 &&& (9223372036854775807 : Int64)) - ((q0 &&& (9223372036854775807 : Int64)) / ((316224000000 : Int64) + (1 : Int64))) * ((316224000000 : Int64) + (1 : Int64))))), .second]) rfl ?_
        show Steps p.tables e below (T9.setTop (mkF m 75 #[.val (.long q0), .second, .val (.long q1), .second, .val (.long q2), .second, .val (.int p3), .val (.long (316224000000 : Int64)), .second, .val (.int (p3 &&& (3 : Int32))), .val (.long ((q0 &&& (9223372036854775807 : Int64)) - ((q0 &&& (9223372036854775807 : Int64)) / ((316224000000 : Int64) + (1 : Int64))) * ((316224000000 : Int64) + (1 : Int64)))), .second, .val (.ref h0.size), .val (.long (q1 + ((q0 &&& (9223372036854775807 : Int64)) - ((q0 &&& (9223372036854775807 : Int64)) / ((316224000000 : Int64) + (1 : Int64))) * ((316224000000 : Int64) + (1 : Int64))))), .second, .val (.long (q2 + ((q0 &&& (9223372036854775807 : Int64)) - ((q0 &&& (9223372036854775807 : Int64)) / ((316224000000 : Int64) + (1 : Int64))) * ((316224000000 : Int64) + (1 : Int64))))), .second] [])) _
        refine XS.lload X9.here hx rfl (hb hby at_75) rfl ?_
        show Steps p.tables e below (T9.setTop (mkF m 77 #[.val (.long q0), .second, .val (.long q1), .second, .val (.long q2), .second, .val (.int p3), .val (.long (316224000000 : Int64)), .second, .val (.int (p3 &&& (3 : Int32))), .val (.long ((q0 &&& (9223372036854775807 : Int64)) - ((q0 &&& (9223372036854775807 : Int64)) / ((316224000000 : Int64) + (1 : Int64))) * ((316224000000 : Int64) + (1 : Int64)))), .second, .val (.ref h0.size), .val (.long (q1 + ((q0 &&& (9223372036854775807 : Int64)) - ((q0 &&& (9223372036854775807 : Int64)) / ((316224000000 : Int64) + (1 : Int64))) * ((316224000000 : Int64) + (1 : Int64))))), .second, .val (.long (q2 + ((q0 &&& (9223372036854775807 : Int64)) - ((q0 &&& (9223372036854775807 : Int64)) / ((316224000000 : Int64) + (1 : Int64))) * ((316224000000 : Int64) + (1 : Int64))))), .second] [(.long (q1 + ((q0 &&& (9223372036854775807 : Int64)) - ((q0 &&& (9223372036854775807 : Int64)) / ((316224000000 : Int64) + (1 : Int64))) * ((316224000000 : Int64) + (1 : Int64)))))])) _
        refine XS.lloadN X9.here hx rfl (hb hby at_77) rfl ?_
        show Steps p.tables e below (T9.setTop (mkF m 78 #[.val (.long q0), .second, .val (.long q1), .second, .val (.long q2), .second, .val (.int p3), .val (.long (316224000000 : Int64)), .second, .val (.int (p3 &&& (3 : Int32))), .val (.long ((q0 &&& (9223372036854775807 : Int64)) - ((q0 &&& (9223372036854775807 : Int64)) / ((316224000000 : Int64) + (1 : Int64))) * ((316224000000 : Int64) + (1 : Int64)))), .second, .val (.ref h0.size), .val (.long (q1 + ((q0 &&& (9223372036854775807 : Int64)) - ((q0 &&& (9223372036854775807 : Int64)) / ((316224000000 : Int64) + (1 : Int64))) * ((316224000000 : Int64) + (1 : Int64))))), .second, .val (.long (q2 + ((q0 &&& (9223372036854775807 : Int64)) - ((q0 &&& (9223372036854775807 : Int64)) / ((316224000000 : Int64) + (1 : Int64))) * ((316224000000 : Int64) + (1 : Int64))))), .second] [(.long q1), (.long (q1 + ((q0 &&& (9223372036854775807 : Int64)) - ((q0 &&& (9223372036854775807 : Int64)) / ((316224000000 : Int64) + (1 : Int64))) * ((316224000000 : Int64) + (1 : Int64)))))])) _
        refine XS.lload X9.here hx rfl (hb hby at_78) rfl ?_
        show Steps p.tables e below (T9.setTop (mkF m 80 #[.val (.long q0), .second, .val (.long q1), .second, .val (.long q2), .second, .val (.int p3), .val (.long (316224000000 : Int64)), .second, .val (.int (p3 &&& (3 : Int32))), .val (.long ((q0 &&& (9223372036854775807 : Int64)) - ((q0 &&& (9223372036854775807 : Int64)) / ((316224000000 : Int64) + (1 : Int64))) * ((316224000000 : Int64) + (1 : Int64)))), .second, .val (.ref h0.size), .val (.long (q1 + ((q0 &&& (9223372036854775807 : Int64)) - ((q0 &&& (9223372036854775807 : Int64)) / ((316224000000 : Int64) + (1 : Int64))) * ((316224000000 : Int64) + (1 : Int64))))), .second, .val (.long (q2 + ((q0 &&& (9223372036854775807 : Int64)) - ((q0 &&& (9223372036854775807 : Int64)) / ((316224000000 : Int64) + (1 : Int64))) * ((316224000000 : Int64) + (1 : Int64))))), .second] [(.long ((q0 &&& (9223372036854775807 : Int64)) - ((q0 &&& (9223372036854775807 : Int64)) / ((316224000000 : Int64) + (1 : Int64))) * ((316224000000 : Int64) + (1 : Int64)))), (.long q1), (.long (q1 + ((q0 &&& (9223372036854775807 : Int64)) - ((q0 &&& (9223372036854775807 : Int64)) / ((316224000000 : Int64) + (1 : Int64))) * ((316224000000 : Int64) + (1 : Int64)))))])) _
        refine XS.ladd X9.here hx rfl (hb hby at_80) rfl ?_
        show Steps p.tables e below (T9.setTop (mkF m 81 #[.val (.long q0), .second, .val (.long q1), .second, .val (.long q2), .second, .val (.int p3), .val (.long (316224000000 : Int64)), .second, .val (.int (p3 &&& (3 : Int32))), .val (.long ((q0 &&& (9223372036854775807 : Int64)) - ((q0 &&& (9223372036854775807 : Int64)) / ((316224000000 : Int64) + (1 : Int64))) * ((316224000000 : Int64) + (1 : Int64)))), .second, .val (.ref h0.size), .val (.long (q1 + ((q0 &&& (9223372036854775807 : Int64)) - ((q0 &&& (9223372036854775807 : Int64)) / ((316224000000 : Int64) + (1 : Int64))) * ((316224000000 : Int64) + (1 : Int64))))), .second, .val (.long (q2 + ((q0 &&& (9223372036854775807 : Int64)) - ((q0 &&& (9223372036854775807 : Int64)) / ((316224000000 : Int64) + (1 : Int64))) * ((316224000000 : Int64) + (1 : Int64))))), .second] [(.long (q1 + ((q0 &&& (9223372036854775807 : Int64)) - ((q0 &&& (9223372036854775807 : Int64)) / ((316224000000 : Int64) + (1 : Int64))) * ((316224000000 : Int64) + (1 : Int64))))), (.long (q1 + ((q0 &&& (9223372036854775807 : Int64)) - ((q0 &&& (9223372036854775807 : Int64)) / ((316224000000 : Int64) + (1 : Int64))) * ((316224000000 : Int64) + (1 : Int64)))))])) _
        refine XS.lcmp X9.here hx rfl (hb hby at_81) rfl ?_
        show Steps p.tables e below (T9.setTop (mkF m 82 #[.val (.long q0), .second, .val (.long q1), .second, .val (.long q2), .second, .val (.int p3), .val (.long (316224000000 : Int64)), .second, .val (.int (p3 &&& (3 : Int32))), .val (.long ((q0 &&& (9223372036854775807 : Int64)) - ((q0 &&& (9223372036854775807 : Int64)) / ((316224000000 : Int64) + (1 : Int64))) * ((316224000000 : Int64) + (1 : Int64)))), .second, .val (.ref h0.size), .val (.long (q1 + ((q0 &&& (9223372036854775807 : Int64)) - ((q0 &&& (9223372036854775807 : Int64)) / ((316224000000 : Int64) + (1 : Int64))) * ((316224000000 : Int64) + (1 : Int64))))), .second, .val (.long (q2 + ((q0 &&& (9223372036854775807 : Int64)) - ((q0 &&& (9223372036854775807 : Int64)) / ((316224000000 : Int64) + (1 : Int64))) * ((316224000000 : Int64) + (1 : Int64))))), .second] [(.int (lcmpW (q1 + ((q0 &&& (9223372036854775807 : Int64)) - ((q0 &&& (9223372036854775807 : Int64)) / ((316224000000 : Int64) + (1 : Int64))) * ((316224000000 : Int64) + (1 : Int64)))) (q1 + ((q0 &&& (9223372036854775807 : Int64)) - ((q0 &&& (9223372036854775807 : Int64)) / ((316224000000 : Int64) + (1 : Int64))) * ((316224000000 : Int64) + (1 : Int64))))))])) _
        refine XS.ifNo X9.here hx rfl (hb hby at_82) rfl ((if0 _ _).trans (teq (own_lc _)).2) ?_
        show Steps p.tables e below (T9.setTop (mkF m 85 #[.val (.long q0), .second, .val (.long q1), .second, .val (.long q2), .second, .val (.int p3), .val (.long (316224000000 : Int64)), .second, .val (.int (p3 &&& (3 : Int32))), .val (.long ((q0 &&& (9223372036854775807 : Int64)) - ((q0 &&& (9223372036854775807 : Int64)) / ((316224000000 : Int64) + (1 : Int64))) * ((316224000000 : Int64) + (1 : Int64)))), .second, .val (.ref h0.size), .val (.long (q1 + ((q0 &&& (9223372036854775807 : Int64)) - ((q0 &&& (9223372036854775807 : Int64)) / ((316224000000 : Int64) + (1 : Int64))) * ((316224000000 : Int64) + (1 : Int64))))), .second, .val (.long (q2 + ((q0 &&& (9223372036854775807 : Int64)) - ((q0 &&& (9223372036854775807 : Int64)) / ((316224000000 : Int64) + (1 : Int64))) * ((316224000000 : Int64) + (1 : Int64))))), .second] [])) _
        refine XS.lload X9.here hx rfl (hb hby at_85) rfl ?_
        show Steps p.tables e below (T9.setTop (mkF m 87 #[.val (.long q0), .second, .val (.long q1), .second, .val (.long q2), .second, .val (.int p3), .val (.long (316224000000 : Int64)), .second, .val (.int (p3 &&& (3 : Int32))), .val (.long ((q0 &&& (9223372036854775807 : Int64)) - ((q0 &&& (9223372036854775807 : Int64)) / ((316224000000 : Int64) + (1 : Int64))) * ((316224000000 : Int64) + (1 : Int64)))), .second, .val (.ref h0.size), .val (.long (q1 + ((q0 &&& (9223372036854775807 : Int64)) - ((q0 &&& (9223372036854775807 : Int64)) / ((316224000000 : Int64) + (1 : Int64))) * ((316224000000 : Int64) + (1 : Int64))))), .second, .val (.long (q2 + ((q0 &&& (9223372036854775807 : Int64)) - ((q0 &&& (9223372036854775807 : Int64)) / ((316224000000 : Int64) + (1 : Int64))) * ((316224000000 : Int64) + (1 : Int64))))), .second] [(.long (q2 + ((q0 &&& (9223372036854775807 : Int64)) - ((q0 &&& (9223372036854775807 : Int64)) / ((316224000000 : Int64) + (1 : Int64))) * ((316224000000 : Int64) + (1 : Int64)))))])) _
        refine XS.lload X9.here hx rfl (hb hby at_87) rfl ?_
        show Steps p.tables e below (T9.setTop (mkF m 89 #[.val (.long q0), .second, .val (.long q1), .second, .val (.long q2), .second, .val (.int p3), .val (.long (316224000000 : Int64)), .second, .val (.int (p3 &&& (3 : Int32))), .val (.long ((q0 &&& (9223372036854775807 : Int64)) - ((q0 &&& (9223372036854775807 : Int64)) / ((316224000000 : Int64) + (1 : Int64))) * ((316224000000 : Int64) + (1 : Int64)))), .second, .val (.ref h0.size), .val (.long (q1 + ((q0 &&& (9223372036854775807 : Int64)) - ((q0 &&& (9223372036854775807 : Int64)) / ((316224000000 : Int64) + (1 : Int64))) * ((316224000000 : Int64) + (1 : Int64))))), .second, .val (.long (q2 + ((q0 &&& (9223372036854775807 : Int64)) - ((q0 &&& (9223372036854775807 : Int64)) / ((316224000000 : Int64) + (1 : Int64))) * ((316224000000 : Int64) + (1 : Int64))))), .second] [(.long q2), (.long (q2 + ((q0 &&& (9223372036854775807 : Int64)) - ((q0 &&& (9223372036854775807 : Int64)) / ((316224000000 : Int64) + (1 : Int64))) * ((316224000000 : Int64) + (1 : Int64)))))])) _
        refine XS.lload X9.here hx rfl (hb hby at_89) rfl ?_
        show Steps p.tables e below (T9.setTop (mkF m 91 #[.val (.long q0), .second, .val (.long q1), .second, .val (.long q2), .second, .val (.int p3), .val (.long (316224000000 : Int64)), .second, .val (.int (p3 &&& (3 : Int32))), .val (.long ((q0 &&& (9223372036854775807 : Int64)) - ((q0 &&& (9223372036854775807 : Int64)) / ((316224000000 : Int64) + (1 : Int64))) * ((316224000000 : Int64) + (1 : Int64)))), .second, .val (.ref h0.size), .val (.long (q1 + ((q0 &&& (9223372036854775807 : Int64)) - ((q0 &&& (9223372036854775807 : Int64)) / ((316224000000 : Int64) + (1 : Int64))) * ((316224000000 : Int64) + (1 : Int64))))), .second, .val (.long (q2 + ((q0 &&& (9223372036854775807 : Int64)) - ((q0 &&& (9223372036854775807 : Int64)) / ((316224000000 : Int64) + (1 : Int64))) * ((316224000000 : Int64) + (1 : Int64))))), .second] [(.long ((q0 &&& (9223372036854775807 : Int64)) - ((q0 &&& (9223372036854775807 : Int64)) / ((316224000000 : Int64) + (1 : Int64))) * ((316224000000 : Int64) + (1 : Int64)))), (.long q2), (.long (q2 + ((q0 &&& (9223372036854775807 : Int64)) - ((q0 &&& (9223372036854775807 : Int64)) / ((316224000000 : Int64) + (1 : Int64))) * ((316224000000 : Int64) + (1 : Int64)))))])) _
        refine XS.ladd X9.here hx rfl (hb hby at_91) rfl ?_
        show Steps p.tables e below (T9.setTop (mkF m 92 #[.val (.long q0), .second, .val (.long q1), .second, .val (.long q2), .second, .val (.int p3), .val (.long (316224000000 : Int64)), .second, .val (.int (p3 &&& (3 : Int32))), .val (.long ((q0 &&& (9223372036854775807 : Int64)) - ((q0 &&& (9223372036854775807 : Int64)) / ((316224000000 : Int64) + (1 : Int64))) * ((316224000000 : Int64) + (1 : Int64)))), .second, .val (.ref h0.size), .val (.long (q1 + ((q0 &&& (9223372036854775807 : Int64)) - ((q0 &&& (9223372036854775807 : Int64)) / ((316224000000 : Int64) + (1 : Int64))) * ((316224000000 : Int64) + (1 : Int64))))), .second, .val (.long (q2 + ((q0 &&& (9223372036854775807 : Int64)) - ((q0 &&& (9223372036854775807 : Int64)) / ((316224000000 : Int64) + (1 : Int64))) * ((316224000000 : Int64) + (1 : Int64))))), .second] [(.long (q2 + ((q0 &&& (9223372036854775807 : Int64)) - ((q0 &&& (9223372036854775807 : Int64)) / ((316224000000 : Int64) + (1 : Int64))) * ((316224000000 : Int64) + (1 : Int64))))), (.long (q2 + ((q0 &&& (9223372036854775807 : Int64)) - ((q0 &&& (9223372036854775807 : Int64)) / ((316224000000 : Int64) + (1 : Int64))) * ((316224000000 : Int64) + (1 : Int64)))))])) _
        refine XS.lcmp X9.here hx rfl (hb hby at_92) rfl ?_
        show Steps p.tables e below (T9.setTop (mkF m 93 #[.val (.long q0), .second, .val (.long q1), .second, .val (.long q2), .second, .val (.int p3), .val (.long (316224000000 : Int64)), .second, .val (.int (p3 &&& (3 : Int32))), .val (.long ((q0 &&& (9223372036854775807 : Int64)) - ((q0 &&& (9223372036854775807 : Int64)) / ((316224000000 : Int64) + (1 : Int64))) * ((316224000000 : Int64) + (1 : Int64)))), .second, .val (.ref h0.size), .val (.long (q1 + ((q0 &&& (9223372036854775807 : Int64)) - ((q0 &&& (9223372036854775807 : Int64)) / ((316224000000 : Int64) + (1 : Int64))) * ((316224000000 : Int64) + (1 : Int64))))), .second, .val (.long (q2 + ((q0 &&& (9223372036854775807 : Int64)) - ((q0 &&& (9223372036854775807 : Int64)) / ((316224000000 : Int64) + (1 : Int64))) * ((316224000000 : Int64) + (1 : Int64))))), .second] [(.int (lcmpW (q2 + ((q0 &&& (9223372036854775807 : Int64)) - ((q0 &&& (9223372036854775807 : Int64)) / ((316224000000 : Int64) + (1 : Int64))) * ((316224000000 : Int64) + (1 : Int64)))) (q2 + ((q0 &&& (9223372036854775807 : Int64)) - ((q0 &&& (9223372036854775807 : Int64)) / ((316224000000 : Int64) + (1 : Int64))) * ((316224000000 : Int64) + (1 : Int64))))))])) _
        refine XS.ifNo X9.here hx rfl (hb hby at_93) rfl ((if0 _ _).trans (teq (own_lc _)).2) ?_
        show Steps p.tables e below (T9.setTop (mkF m 96 #[.val (.long q0), .second, .val (.long q1), .second, .val (.long q2), .second, .val (.int p3), .val (.long (316224000000 : Int64)), .second, .val (.int (p3 &&& (3 : Int32))), .val (.long ((q0 &&& (9223372036854775807 : Int64)) - ((q0 &&& (9223372036854775807 : Int64)) / ((316224000000 : Int64) + (1 : Int64))) * ((316224000000 : Int64) + (1 : Int64)))), .second, .val (.ref h0.size), .val (.long (q1 + ((q0 &&& (9223372036854775807 : Int64)) - ((q0 &&& (9223372036854775807 : Int64)) / ((316224000000 : Int64) + (1 : Int64))) * ((316224000000 : Int64) + (1 : Int64))))), .second, .val (.long (q2 + ((q0 &&& (9223372036854775807 : Int64)) - ((q0 &&& (9223372036854775807 : Int64)) / ((316224000000 : Int64) + (1 : Int64))) * ((316224000000 : Int64) + (1 : Int64))))), .second] [])) _
        refine XS.iconst X9.here hx rfl (hb hby at_96) ?_
        show Steps p.tables e below (T9.setTop (mkF m 97 #[.val (.long q0), .second, .val (.long q1), .second, .val (.long q2), .second, .val (.int p3), .val (.long (316224000000 : Int64)), .second, .val (.int (p3 &&& (3 : Int32))), .val (.long ((q0 &&& (9223372036854775807 : Int64)) - ((q0 &&& (9223372036854775807 : Int64)) / ((316224000000 : Int64) + (1 : Int64))) * ((316224000000 : Int64) + (1 : Int64)))), .second, .val (.ref h0.size), .val (.long (q1 + ((q0 &&& (9223372036854775807 : Int64)) - ((q0 &&& (9223372036854775807 : Int64)) / ((316224000000 : Int64) + (1 : Int64))) * ((316224000000 : Int64) + (1 : Int64))))), .second, .val (.long (q2 + ((q0 &&& (9223372036854775807 : Int64)) - ((q0 &&& (9223372036854775807 : Int64)) / ((316224000000 : Int64) + (1 : Int64))) * ((316224000000 : Int64) + (1 : Int64))))), .second] [(.int (1 : Int32))])) _
        refine XS.goto X9.here hx rfl (pc0 := 97) (pc' := 101) rfl (hb hby at_97) (by decide) (by decide) ?_
        show Steps p.tables e below (T9.setTop (mkF m 101 #[.val (.long q0), .second, .val (.long q1), .second, .val (.long q2), .second, .val (.int p3), .val (.long (316224000000 : Int64)), .second, .val (.int (p3 &&& (3 : Int32))), .val (.long ((q0 &&& (9223372036854775807 : Int64)) - ((q0 &&& (9223372036854775807 : Int64)) / ((316224000000 : Int64) + (1 : Int64))) * ((316224000000 : Int64) + (1 : Int64)))), .second, .val (.ref h0.size), .val (.long (q1 + ((q0 &&& (9223372036854775807 : Int64)) - ((q0 &&& (9223372036854775807 : Int64)) / ((316224000000 : Int64) + (1 : Int64))) * ((316224000000 : Int64) + (1 : Int64))))), .second, .val (.long (q2 + ((q0 &&& (9223372036854775807 : Int64)) - ((q0 &&& (9223372036854775807 : Int64)) / ((316224000000 : Int64) + (1 : Int64))) * ((316224000000 : Int64) + (1 : Int64))))), .second] [(.int (1 : Int32))])) _
        exact retN X9 hx (t := .boolean) Bd.returns (by simp) (hb hby at_101) hr
      · show Q_rm0 Z q0 q1 q2 p3 cK one h0 n0 _ T9.heap _
        rw [e9]
        exact ⟨rfl, N7⟩
set_option maxRecDepth 65536 in
set_option maxHeartbeats 40000000 in
theorem comes_1 {Post : Tables → Env → Array Value → State → Outcome → State → Prop} (hpost : ∀ tb e args s v u, (limb_1_1.after args s (.returned v) u = true ∧ limb_1_2.after args s (.returned v) u = true ∧ True) → FrameEnd s (.returned v) u (Jvm.fieldLocs frame_1_writes args s ++ Jvm.arrayLocs frame_1_arrays args s ++ Jvm.staticLocs frame_1_statics s) 16 128 → Post tb e args s (.returned v) u) :
    ArmFor flags0 classFile x code maxLocals ret World_1 tables_1 room_1 Calls_1 rest_1 Pre_1 Post := by
  intro l hfl _ _ p e ha hc hk s m args below hf hA hF happ hP
  obtain ⟨hcalls, hrest, hpre⟩ := hP
  obtain ⟨-, -, -, hnamed, -, -, -, hat⟩ := (Spec.applies_iff hf).mp happ
  obtain ⟨hg, hn⟩ := and_e (Cond.before_iff.mp (show (Jvm.Cond.and given_1 narrow_1).before args s = true from hpre))
  obtain ⟨gc, gr⟩ := and_e hg
  obtain ⟨g0, gr⟩ := and_e gr
  obtain ⟨g1, gr⟩ := and_e gr
  obtain ⟨g2, gr⟩ := and_e gr
  obtain ⟨w0, w1, w2, w3, rfl⟩ : ∃ w0 w1 w2 w3 : Value, args = #[w0, w1, w2, w3] := by
    have hs : args.size = 4 := by simpa [Cond.value, given_1] using gc
    obtain ⟨L⟩ := args
    match L, hs with
    | [w0, w1, w2, w3], _ => exact ⟨w0, w1, w2, w3, rfl⟩
  have hw := fun d (hd : d ∈ tables_1) => atoms_spec (ws := Jvm.Cond.code x code maxLocals ret :: tables_1) hat d (List.mem_cons_of_mem _ hd)
  have hfit : Fit s := fun {y c} hc i hi => by
    obtain ⟨ha, rfl⟩ := Array.getElem?_eq_some_iff.mp hc
    have q := List.all_eq_true.mp ((Array.all_eq_true_iff_forall_mem.mp hF) _ (Array.getElem_mem ha)) i (List.mem_range.mpr hi)
    simpa [Array.getElem?_eq_getElem hi] using q
  obtain ⟨i0, ei0⟩ := isL_v g0
  obtain rfl : w0 = (.long i0) := Option.some.inj ei0
  obtain ⟨i1, ei1⟩ := isL_v g1
  obtain rfl : w1 = (.long i1) := Option.some.inj ei1
  obtain ⟨i2, ei2⟩ := isL_v g2
  obtain rfl : w2 = (.long i2) := Option.some.inj ei2
  obtain ⟨i3, ei3⟩ := is_v gr
  obtain rfl : w3 = (.int i3) := Option.some.inj ei3
  obtain ⟨cK, one, hat⟩ := Cond.lambdaSite_spec (hw _ (List.mem_of_getElem? (i := 7) rfl))
  have hmZ : Jvm.LamKit.Made s own_dt own_σ cK := by
    obtain ⟨mD, kD, cfD, k0, p0, lk, hmD, hkD, hcfD, hsh, -, hfind, hmade, hcan, hl⟩ := State.lambdaAt?_spec hat
    obtain ⟨kD2, hkD2, hnameD⟩ := className_of_methodNamed hmD
    cases hkD.symm.trans hkD2
    exact ⟨_, kD, hkD, hnameD, hmade, hcan⟩
  obtain ⟨n, o, h1, h2, h3, _, L, rfl, ⟨rfl, N⟩, hq⟩ := rm0 l s _ hw tables_1 i0 i1 i2 i3 cK one s.heap s.heap.size (Nat.le_refl _) hat hmZ p e ha hc hk s m _ below hf ((Spec.applies_iff_loose hf).mp happ).1 ⟨rfl, State.WarmedH.refl s, rfl⟩ trivial
  refine ⟨n, _, h1, h2, h3, hpost _ _ _ _ _ _ ⟨Cond.after_iff.mpr rfl, Cond.after_iff.mpr (eq_i res_at (Term.int_eval (1)) rfl), trivial⟩ ⟨hq.1, hq.2.1, (hq.2.2.sift fun y hy => Or.inr (N y hy)).mono (by decide) (by decide)⟩⟩
theorem main_1_1 : Claimed_1_1 := comes_1 fun _ _ _ _ _ _ h hF => ⟨h.1, Jvm.LamKit.wideOf hF⟩
theorem main_1_2 : Claimed_1_2 := comes_1 fun _ _ _ _ _ _ h hF => ⟨h.2.1, Jvm.LamKit.wideOf hF⟩
end Jvm.Pilot.@@N@@
namespace Jvm.Pilot.@@N@@
open Jvm Jvm.ClassFile Sem Op Lib Jvm.Free Jvm.Stand Jvm.Pilot.@@N@@.Jvm.D
/-! MADE BY PROGRAM (witnessworld.py) out of the Statement's table words and the real class files: 10 classes; the members and pool entries that the words name. The judged class is class 1, her method 1. -/
namespace start1
open Jvm.ClassFile
def u (s : String) : CpInfo := .utf8 (stringToUtf16 s)
/-- a pool by its gaps: so many unusable entries, then the entry; so many at the end -/
def gap : Nat → List CpInfo → List CpInfo
  | 0, r => r
  | n + 1, r => .unusable :: gap n r
def poolList (es : List (Nat × CpInfo)) (last : Nat) : List CpInfo := es.foldr (fun e r => gap e.1 (e.2 :: r)) (gap last [])
def pool (es : List (Nat × CpInfo)) (last : Nat) : Array CpInfo := ⟨poolList es last⟩
def fileOf (pool : Array CpInfo) (this : Nat) (attrs : Array Attribute := #[]) (ms : Array MethodInfo := #[]) (fl : Nat := 33) (sup : Nat := 0) (ifs : Array Nat := #[]) (fds : Array FieldInfo := #[]) : ClassFile where
  minorVersion := 0
  majorVersion := 65
  constantPool := pool
  accessFlags := fl
  thisClass := this
  superClass := sup
  interfaces := ifs
  fields := fds
  methods := ms
  attributes := attrs
def plain (name : String) (sup : Option ClassId) : Class where
  name := name
  kind := .ordinary
  loader := none
  accessFlags := 33
  super := sup
  interfaces := #[]
  cf := none
  fields := #[]
  methods := #[]
  instanceTypes := #[]
  staticTypes := #[]
  resolved := #[]
  callSites := []
  init := .initialized
  statics := none
  mirror := none

def pool0 : Array CpInfo := pool [(5, u "<init>"), (0, u "()V"), (1, .class_ 10), (1, u "java/lang/Object")] 113

def k0m0 : Method := { name := "<init>", desc := "()V", sig := { parameters := [], returnType := none }, accessFlags := 1, code := none }
/-- java/lang/Object -/
def k0 : Class := { plain "java/lang/Object" none with
  accessFlags := 33
  interfaces := #[]
  cf := some (fileOf pool0 8 #[] #[{ accessFlags := 1, nameIndex := 5, descriptorIndex := 6, attributes := #[] }] 33 0 #[] #[])
  fields := #[]
  methods := #[k0m0]
  instanceTypes := #[]
  staticTypes := #[]
  resolved := Array.replicate 124 none
  statics := none }

def pool1 : Array CpInfo := pool [(2, .class_ 4), (1, u "java/lang/Object"), (0, u "<init>"), (0, u "()V"), (0, .class_ 8), (0, u "com/example/swallow/swallow/schedule/DueTime"), (0, .long 316224000000), (3, .long 9223372036854775807), (1, .interfaceMethodref 7 16), (0, .nameAndType 17 18), (0, u "afterDelay"), (0, u "(J)Lcom/example/swallow/swallow/schedule/DueTime;"), (0, .interfaceMethodref 7 20), (0, .nameAndType 21 22), (0, u "deliverAt"), (0, u "(J)J"), (0, .class_ 24), (0, u "com/example/swallow/swallow/schedule/DueTimeAfterDelayPinLaw"), (2, u "law"), (0, u "(JJJI)Z")] 3

def k1m0 : Method := { name := "<init>", desc := "()V", sig := { parameters := [], returnType := none }, accessFlags := 1, code := none }
def k1c1 : Code := { maxStack := 6, maxLocals := 17, code := code, exceptionTable := #[], attributes := #[] }
def k1m1 : Method := { name := "law", desc := "(JJJI)Z", sig := { parameters := [.long, .long, .long, .int], returnType := some .boolean }, accessFlags := 9, code := some k1c1 }
/-- com/example/swallow/swallow/schedule/DueTimeAfterDelayPinLaw -/
def k1 : Class := { plain "com/example/swallow/swallow/schedule/DueTimeAfterDelayPinLaw" (some 0) with
  accessFlags := 49
  interfaces := #[]
  cf := some (fileOf pool1 23 #[] #[{ accessFlags := 1, nameIndex := 5, descriptorIndex := 6, attributes := #[] }, { accessFlags := 9, nameIndex := 27, descriptorIndex := 28, attributes := #[] }] 49 2 #[] #[])
  fields := #[]
  methods := #[k1m0, k1m1]
  instanceTypes := #[]
  staticTypes := #[]
  resolved := Array.replicate 32 none
  statics := none }

def pool2 : Array CpInfo := pool [(1, .class_ 2), (0, u "com/example/swallow/swallow/schedule/DueTime"), (0, .long 316224000000), (11, .invokeDynamic 1 16), (0, .nameAndType 17 18), (0, u "deliverAt"), (0, u "(J)Lcom/example/swallow/swallow/schedule/DueTime;"), (7, u "(JJ)J"), (5, u "NOW"), (0, u "Lcom/example/swallow/swallow/schedule/DueTime;"), (0, .class_ 35), (0, u "java/lang/Object"), (0, u "MAX_AHEAD_MS"), (0, u "J"), (1, u "(J)J"), (0, u "afterDelay"), (5, u "lambda$afterDelay$1"), (10, .methodType 39), (0, .methodHandle 6 59), (0, .interfaceMethodref 1 60), (0, .nameAndType 46 26), (14, .methodHandle 6 76), (0, .methodref 77 78), (0, .class_ 79), (0, .nameAndType 80 81), (0, u "java/lang/invoke/LambdaMetafactory"), (0, u "metafactory"), (0, u "(Ljava/lang/invoke/MethodHandles$Lookup;Ljava/lang/String;Ljava/lang/invoke/MethodType;Ljava/lang/invoke/MethodType;Ljava/lang/invoke/MethodHandle;Ljava/lang/invoke/MethodType;)Ljava/lang/invoke/CallSite;")] 6

def k2m0 : Method := { name := "deliverAt", desc := "(J)J", sig := { parameters := [.long], returnType := some .long }, accessFlags := 1025, code := none }
def k2c1 : Code := { maxStack := 4, maxLocals := 2, code := prog_13_method_2_code, exceptionTable := #[], attributes := #[] }
def k2m1 : Method := { name := "afterDelay", desc := "(J)Lcom/example/swallow/swallow/schedule/DueTime;", sig := { parameters := [.long], returnType := some (.object "com/example/swallow/swallow/schedule/DueTime") }, accessFlags := 9, code := some k2c1 }
def k2c2 : Code := { maxStack := 4, maxLocals := 4, code := prog_13_method_5_code, exceptionTable := #[], attributes := #[] }
def k2m2 : Method := { name := "lambda$afterDelay$1", desc := "(JJ)J", sig := { parameters := [.long, .long], returnType := some .long }, accessFlags := 4106, code := some k2c2 }
/-- com/example/swallow/swallow/schedule/DueTime -/
def k2 : Class := { plain "com/example/swallow/swallow/schedule/DueTime" (some 0) with
  accessFlags := 1537
  interfaces := #[]
  cf := some (fileOf pool2 1 #[.bootstrapMethods #[⟨0, #[]⟩, ⟨75, #[57, 58, 57]⟩, ⟨0, #[]⟩, ⟨0, #[]⟩, ⟨0, #[]⟩]] #[{ accessFlags := 1025, nameIndex := 17, descriptorIndex := 39, attributes := #[] }, { accessFlags := 9, nameIndex := 40, descriptorIndex := 18, attributes := #[] }, { accessFlags := 4106, nameIndex := 46, descriptorIndex := 26, attributes := #[] }] 1537 34 #[] #[{ accessFlags := 25, nameIndex := 36, descriptorIndex := 37, attributes := #[] }, { accessFlags := 25, nameIndex := 32, descriptorIndex := 33, attributes := #[] }])
  fields := #[{ name := "MAX_AHEAD_MS", type := .long, accessFlags := 25, slot := 0, constantValue := 0 }, { name := "NOW", type := (.object "com/example/swallow/swallow/schedule/DueTime"), accessFlags := 25, slot := 1, constantValue := 0 }]
  methods := #[k2m0, k2m1, k2m2]
  instanceTypes := #[]
  staticTypes := #[.long, (.object "com/example/swallow/swallow/schedule/DueTime")]
  resolved := Array.replicate 88 none
  callSites := [(1, 29, .makes 9)]
  statics := none }

def pool3 : Array CpInfo := pool [(1, u "java/lang/Cloneable"), (0, .class_ 1), (0, u "java/lang/Object"), (0, .class_ 3)] 3

/-- java/lang/Cloneable -/
def k3 : Class := { plain "java/lang/Cloneable" (some 0) with
  accessFlags := 1537
  interfaces := #[]
  cf := some (fileOf pool3 2 #[] #[] 1537 4 #[] #[])
  fields := #[]
  methods := #[]
  instanceTypes := #[]
  staticTypes := #[]
  resolved := Array.replicate 8 none
  statics := none }

def pool4 : Array CpInfo := pool [(1, u "java/io/Serializable"), (0, .class_ 1), (0, u "java/lang/Object"), (0, .class_ 3)] 3

/-- java/io/Serializable -/
def k4 : Class := { plain "java/io/Serializable" (some 0) with
  accessFlags := 1537
  interfaces := #[]
  cf := some (fileOf pool4 2 #[] #[] 1537 4 #[] #[])
  fields := #[]
  methods := #[]
  instanceTypes := #[]
  staticTypes := #[]
  resolved := Array.replicate 8 none
  statics := none }

/-- the primitive byte -/
def k5 : Class := { plain "byte" none with kind := .primitive 'B', accessFlags := 0x411 }
/-- [B -/
def k6 : Class := { plain "[B" (some 0) with kind := .array 5 .byte, interfaces := #[3, 4], accessFlags := 1041 }

/-- the primitive int -/
def k7 : Class := { plain "int" none with kind := .primitive 'I', accessFlags := 0x411 }
/-- [I -/
def k8 : Class := { plain "[I" (some 0) with kind := .array 7 .int, interfaces := #[3, 4], accessFlags := 1041 }

def classes0 : Array Class := #[k0, k1, k2, k3, k4, k5, k6, k7, k8]
/-- the class that the rule has made for the site at 29 of com/example/swallow/swallow/schedule/DueTime.afterDelay -/
def k9 : Class := Jvm.LamKit.madeRec { classes := classes0 } "com/example/swallow/swallow/schedule/DueTime" (Jvm.Lambda.Shape.mk "com/example/swallow/swallow/schedule/DueTime" "deliverAt" (Jvm.ClassFile.MethodDescriptor.mk ([Jvm.ClassFile.FieldType.long] : List Jvm.ClassFile.FieldType) (Option.some Jvm.ClassFile.FieldType.long)) ([Jvm.ClassFile.FieldType.long] : List Jvm.ClassFile.FieldType) (6 : Nat) "com/example/swallow/swallow/schedule/DueTime" "lambda$afterDelay$1" (Jvm.ClassFile.MethodDescriptor.mk ([Jvm.ClassFile.FieldType.long, Jvm.ClassFile.FieldType.long] : List Jvm.ClassFile.FieldType) (Option.some Jvm.ClassFile.FieldType.long)) true (Jvm.ClassFile.MethodDescriptor.mk ([Jvm.ClassFile.FieldType.long] : List Jvm.ClassFile.FieldType) (Option.some Jvm.ClassFile.FieldType.long))) 9

def heap : Heap := #[]
def classes : Array Class := #[k0, k1, k2, k3, k4, k5, k6, k7, k8, k9]
def interned : List (Array UInt16 × Addr) := []
def slotsUsed : Nat := 0
def theMethod : MethodId := ⟨1, 1⟩
def args0 : Array Value := #[.long 5, .long 7, .long 9, .int 2]
def aboutOver (below : List Frame) : State where
  vm := { classes := classes, interned := interned.toArray }
  heap := heap
  slotsUsed := slotsUsed
  threads := #[{ frames := .invoking theMethod args0 :: below }]
def below0 : List Frame := [.native { method := ⟨0, 0⟩, args := #[] }]
def about1 : State := aboutOver below0
def p0 : Program := .bare "" "" ""
def e0 : Env := launch0.env 0 0 0
theorem w_frames : about1.frames = Frame.invoking theMethod args0 :: below0 := rfl
set_option maxRecDepth 65536 in
theorem w_args : argsFit about1.vm theMethod args0 = true := by decide +kernel
set_option maxRecDepth 65536 in
theorem w_heap : heapFits about1 = true := by decide +kernel
set_option maxRecDepth 65536 in
theorem w_runnable : about1.curStatus? = some .runnable := by decide +kernel
set_option maxRecDepth 65536 in
theorem w_alone : about1.alone = true := by decide +kernel
set_option maxRecDepth 65536 in
theorem w_named : about1.methodNamed? x = some theMethod := by decide +kernel
set_option maxRecDepth 65536 in
theorem w_hears : about1.hears theMethod below0 = true := by decide +kernel
set_option maxRecDepth 65536 in
theorem w_ripe : about1.ripe theMethod args0 below0 = true := by decide +kernel
theorem w_running : about1.status = .running := rfl
set_option maxRecDepth 65536 in
theorem w_room : about1.hasRoom e0.platform room_1 = true :=
  launch0.hasRoom_least _ room_1 (by decide +kernel) (by decide +kernel) (by decide +kernel) (by decide +kernel) (by decide +kernel) (by decide +kernel)
theorem allAtoms_all (ts : List Jvm.Cond) (a : Array Jvm.Value) (st : Jvm.State) : (allAtoms ts).before a st = ts.all (fun c => c.before a st) := by
  induction ts with
  | nil => rfl
  | cons c t ih =>
    show (Jvm.Cond.and c (allAtoms t)).before a st = _
    rw [Jvm.Cond.before_and, ih, List.all_cons]
def words1 : List Jvm.Cond := Jvm.Cond.code x code maxLocals ret :: tables_1
/-- a 'code' word, met by the world's own term for the bytes: nothing is compared byte by byte -/
theorem code_word {y : MethodName} {bytes : ByteArray} {mx : Nat} {rt : Option FieldType} {a : Array Value} {s : State} {m : MethodId} {meth : Method} {c : Code} (h1 : s.methodNamed? y = some m) (h2 : s.vm.method? m = some meth) (h3 : meth.code = some c) (h4 : c.code = bytes)
    (h5 : (c.maxLocals == mx && c.exceptionTable.isEmpty && decide (c.maxStack ≤ mostOperands) && decide (meth.sig.returnType = rt) && !meth.locks && decide (parseMethodDescriptor y.desc = some meth.sig)) = true) : (Jvm.Cond.code y bytes mx rt).before a s = true := by
  simp only [Bool.and_eq_true, beq_iff_eq, Bool.not_eq_true', decide_eq_true_eq] at h5
  obtain ⟨⟨⟨⟨⟨g1, g2⟩, g3⟩, g4⟩, g5⟩, g6⟩ := h5
  simp [Cond.before, Cond.holds, Cond.value, h1, h2, h3, h4, g1, g2, g3, g4, g5, g6]
def isCode : Jvm.Cond → Bool
  | .code _ _ _ _ => true
  | _ => false
theorem all_split {L : List Jvm.Cond} {P : Jvm.Cond → Bool} (h1 : L.all (fun c => isCode c || P c) = true) (h2 : ∀ c ∈ L.filter isCode, P c = true) : L.all P = true := by
  refine List.all_eq_true.mpr fun c hc => ?_
  have h := List.all_eq_true.mp h1 c hc
  rcases Bool.eq_false_or_eq_true (isCode c) with hi | hi
  · exact h2 c (List.mem_filter.mpr ⟨hc, hi⟩)
  · simpa [hi] using h
set_option maxRecDepth 65536 in
theorem w_c0 : (Jvm.Cond.code x code maxLocals ret).before args0 about1 = true := code_word (m := ⟨1, 1⟩) (meth := k1m1) (c := k1c1) (by decide +kernel) rfl rfl rfl (by decide +kernel)
set_option maxRecDepth 65536 in
theorem w_c1 : (Jvm.Cond.code ({ cls := "com/example/swallow/swallow/schedule/DueTime", name := "afterDelay", desc := "(J)Lcom/example/swallow/swallow/schedule/DueTime;" } : Jvm.MethodName) prog_13_method_2_code (2 : Nat) (Option.some (Jvm.ClassFile.FieldType.object "com/example/swallow/swallow/schedule/DueTime"))).before args0 about1 = true := code_word (m := ⟨2, 1⟩) (meth := k2m1) (c := k2c1) (by decide +kernel) rfl rfl rfl (by decide +kernel)
set_option maxRecDepth 65536 in
theorem w_c2 : (Jvm.Cond.code ({ cls := "com/example/swallow/swallow/schedule/DueTime", name := "lambda$afterDelay$1", desc := "(JJ)J" } : Jvm.MethodName) prog_13_method_5_code (4 : Nat) (Option.some Jvm.ClassFile.FieldType.long)).before args0 about1 = true := code_word (m := ⟨2, 2⟩) (meth := k2m2) (c := k2c2) (by decide +kernel) rfl rfl rfl (by decide +kernel)
def codes1 : List Jvm.Cond := [Jvm.Cond.code x code maxLocals ret, Jvm.Cond.code ({ cls := "com/example/swallow/swallow/schedule/DueTime", name := "afterDelay", desc := "(J)Lcom/example/swallow/swallow/schedule/DueTime;" } : Jvm.MethodName) prog_13_method_2_code (2 : Nat) (Option.some (Jvm.ClassFile.FieldType.object "com/example/swallow/swallow/schedule/DueTime")), Jvm.Cond.code ({ cls := "com/example/swallow/swallow/schedule/DueTime", name := "lambda$afterDelay$1", desc := "(JJ)J" } : Jvm.MethodName) prog_13_method_5_code (4 : Nat) (Option.some Jvm.ClassFile.FieldType.long)]
set_option maxRecDepth 65536 in
theorem codes_eq : words1.filter isCode = codes1 := rfl
theorem w_codes : ∀ c ∈ words1.filter isCode, c.before args0 about1 = true := by
  rw [codes_eq]
  intro c hc
  simp only [codes1, List.mem_cons, List.not_mem_nil, or_false] at hc
  rcases hc with rfl | rfl | rfl
  · exact w_c0
  · exact w_c1
  · exact w_c2
set_option maxRecDepth 65536 in
theorem w_t1 : words1.all (fun c => isCode c || c.before args0 about1) = true := by decide +kernel
theorem w_tables : (allAtoms (Jvm.Cond.code x code maxLocals ret :: tables_1)).before args0 about1 = true := by
  rw [allAtoms_all]
  show words1.all (fun c => c.before args0 about1) = true
  refine all_split ?_ w_codes
  rw [w_t1]
set_option maxRecDepth 65536 in
theorem w_case : (Jvm.Cond.and given_1 narrow_1).before args0 about1 = true := by decide +kernel
theorem w_applies : (headSpec (Jvm.Cond.code x code maxLocals ret :: tables_1) room_1).applies x e0.platform about1 = true :=
  (Spec.applies_iff w_frames).mpr ⟨w_running, w_runnable, w_alone, w_named, w_hears, w_ripe, w_room, w_tables⟩
theorem atStart : AtStart classFile x code maxLocals ret World_1 tables_1 room_1 Calls_1 rest_1 Pre_1 launch0 p0 e0 about1 theMethod args0 below0 :=
  ⟨lists_1, trivial, launch0.admits_env _ _ _, launch0.least_env, fairChoices_fair.cas, fairChoices_fair.clock, w_frames, w_args, w_heap, w_applies, trivial, trivial, w_case⟩
end start1
theorem witness_1 : WitnessClaimed_1 := ⟨start1.p0, start1.e0, start1.about1, start1.theMethod, start1.args0, start1.below0, start1.atStart⟩
end Jvm.Pilot.@@N@@
