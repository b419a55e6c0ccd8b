import JvmDerived
import JvmDerived.Pilot.@@N@@Statement
import JvmDerived.Pilot.@@N@@Code
set_option linter.unusedVariables false
set_option linter.unusedSimpArgs false
namespace Jvm.RoadKit
open Sem ClassFile Op Lib Jvm.Stand Jvm.Free Jvm.LawKit
section New
variable {p : Program} {l : Launch} {e : Env} {R : Room} {s : State} {m : MethodId} {args : Array Value} {below : List Frame} {meth : Method} {c : Code} {T : State} {locs : List Loc} {cells slots : Nat}
theorem retI (X : Stand p l e R s m args below meth c T locs cells slots) (hx : p.tables.exec = Jvm.exec) {pc : Nat} {Ls : Array Slot} {z : Int32} {rest : List Value} (hret : meth.sig.returnType = some .int) (hd : decode c.code pc = .ok (.ireturn, 1)) {fs : List Frame}
    (hl : ∀ (f : JFrame) (acts : List Action), f.method = m → f.locked = none → f.entered = [] → (doReturn e (T.setTop f) acts (some (.int z))).1 = T.setFrames fs) : Steps p.tables e below (T.setTop (mkF m pc Ls (.int z :: rest))) (T.setFrames fs) := by
  have hm' : T.vm.method? m = some meth := X.method'
  have hn : narrow .int (.int z) = .int z := rfl
  show Steps p.tables e below (T.setTop { method := m, pc := pc, locals := Ls, stack := _ :: rest, locked := none }) _
  jvm_step X.here [X.here.top, hx, hd, hm', hret, hn]
  first | (intro acts; rw [hl _ acts rfl rfl rfl]) | rw [hl _ _ rfl rfl rfl]
  exact Steps.refl _
theorem retJ (X : Stand p l e R s m args below meth c T locs cells slots) (hx : p.tables.exec = Jvm.exec) {pc : Nat} {Ls : Array Slot} {z : Int64} {rest : List Value} (hret : meth.sig.returnType = some .long) (hd : decode c.code pc = .ok (.lreturn, 1)) {fs : List Frame}
    (hl : ∀ (f : JFrame) (acts : List Action), f.method = m → f.locked = none → f.entered = [] → (doReturn e (T.setTop f) acts (some (.long z))).1 = T.setFrames fs) : Steps p.tables e below (T.setTop (mkF m pc Ls (.long z :: rest))) (T.setFrames fs) := by
  have hm' : T.vm.method? m = some meth := X.method'
  show Steps p.tables e below (T.setTop { method := m, pc := pc, locals := Ls, stack := _ :: rest, locked := none }) _
  jvm_step X.here [X.here.top, hx, hd, hm', hret]
  first | (intro acts; rw [hl _ acts rfl rfl rfl]) | rw [hl _ _ rfl rfl rfl]
  exact Steps.refl _
theorem retR (X : Stand p l e R s m args below meth c T locs cells slots) (hx : p.tables.exec = Jvm.exec) {pc : Nat} {Ls : Array Slot} {z : Addr} {t : FieldType} {rest : List Value} (hret : meth.sig.returnType = some t) (ht : t.isReference = true) (hd : decode c.code pc = .ok (.areturn, 1)) {fs : List Frame}
    (hl : ∀ (f : JFrame) (acts : List Action), f.method = m → f.locked = none → f.entered = [] → (doReturn e (T.setTop f) acts (some (.ref z))).1 = T.setFrames fs) : Steps p.tables e below (T.setTop (mkF m pc Ls (.ref z :: rest))) (T.setFrames fs) := by
  have hm' : T.vm.method? m = some meth := X.method'
  show Steps p.tables e below (T.setTop { method := m, pc := pc, locals := Ls, stack := _ :: rest, locked := none }) _
  jvm_step X.here [X.here.top, hx, hd, hm', hret, Value.isRef, ht]
  first | (intro acts; rw [hl _ acts rfl rfl rfl]) | rw [hl _ _ rfl rfl rfl]
  exact Steps.refl _
end New
end Jvm.RoadKit
namespace Jvm.Pilot.@@N@@
open Jvm Jvm.ClassFile Sem Op Lib Jvm.Free Jvm.Stand Jvm.LawKit Jvm.RoadKit Bundle Jvm.Pilot.@@N@@.Jvm.D
/-- from the frame g, where T stands, the body comes to its end, and its end is as QQ says -/
def own_End (p : Program) (e : Env) (below : List Frame) (s : State) (QQ : Option Value → Heap → List Loc → Prop) (rc rs : Nat) (T : State) (g : JFrame) : Prop :=
  ∃ s₂ o, Steps p.tables e below (T.setTop g) s₂ ∧ s₂.status = .running ∧ Ended s₂ below o ∧ ∃ v L, o = .returned v ∧ QQ v s₂.heap L ∧ FrameEnd s o s₂ L rc rs
section Own
variable {p : Program} {l : Launch} {e : Env} {R : Room} {s : State} {m : MethodId} {args : Array Value} {below : List Frame} {meth : Method} {c : Code} {T T' : State} {locs : List Loc} {cells slots : Nat} {QQ : Option Value → Heap → List Loc → Prop} {rc rs : Nat}
theorem own_End.go {g g' : JFrame} (st : ∀ t, Steps p.tables e below (T'.setTop g') t → Steps p.tables e below (T.setTop g) t) (h : own_End p e below s QQ rc rs T' g') : own_End p e below s QQ rc rs T g := by
  obtain ⟨s2, o, a, b⟩ := h
  exact ⟨s2, o, st _ a, b⟩
theorem own_leafI (X : Stand p l e R s m args below meth c T locs cells slots) (hx : p.tables.exec = Jvm.exec) (hk : meth.locks = false) {pc : Nat} {Ls : Array Slot} {z : Int32} {rest : List Value} (hret : meth.sig.returnType = some .int) (hd : decode c.code pc = .ok (.ireturn, 1)) (hq : QQ (some (.int z)) T.heap locs) (h1 : cells ≤ rc) (h2 : slots ≤ rs) : own_End p e below s QQ rc rs T (mkF m pc Ls (.int z :: rest)) := by
  obtain ⟨fs, hr, hrun, hended, hW, hsame⟩ := X.leave (v := some (.int z)) (fun h => by rw [hret] at h; cases h) hk
  exact ⟨_, _, retI X hx hret hd hr, hrun, hended, _, _, rfl, hq, ⟨_, rfl⟩, hW, hsame.mono h1 h2⟩
theorem own_leafN (X : Stand p l e R s m args below meth c T locs cells slots) (hx : p.tables.exec = Jvm.exec) (hk : meth.locks = false) {pc : Nat} {Ls : Array Slot} {z : Int32} {t : FieldType} {rest : List Value} (hret : meth.sig.returnType = some t) (ht : t = .boolean ∨ t = .byte ∨ t = .char ∨ t = .short) (hd : decode c.code pc = .ok (.ireturn, 1)) (hq : QQ (some (.int (nar t z))) T.heap locs) (h1 : cells ≤ rc) (h2 : slots ≤ rs) : own_End p e below s QQ rc rs T (mkF m pc Ls (.int z :: rest)) := by
  obtain ⟨fs, hr, hrun, hended, hW, hsame⟩ := X.leave (v := some (.int (nar t z))) (fun h => by rw [hret] at h; cases h) hk
  exact ⟨_, _, retN X hx hret ht hd hr, hrun, hended, _, _, rfl, hq, ⟨_, rfl⟩, hW, hsame.mono h1 h2⟩
theorem own_leafJ (X : Stand p l e R s m args below meth c T locs cells slots) (hx : p.tables.exec = Jvm.exec) (hk : meth.locks = false) {pc : Nat} {Ls : Array Slot} {z : Int64} {rest : List Value} (hret : meth.sig.returnType = some .long) (hd : decode c.code pc = .ok (.lreturn, 1)) (hq : QQ (some (.long z)) T.heap locs) (h1 : cells ≤ rc) (h2 : slots ≤ rs) : own_End p e below s QQ rc rs T (mkF m pc Ls (.long z :: rest)) := by
  obtain ⟨fs, hr, hrun, hended, hW, hsame⟩ := X.leave (v := some (.long z)) (fun h => by rw [hret] at h; cases h) hk
  exact ⟨_, _, retJ X hx hret hd hr, hrun, hended, _, _, rfl, hq, ⟨_, rfl⟩, hW, hsame.mono h1 h2⟩
theorem own_leafR (X : Stand p l e R s m args below meth c T locs cells slots) (hx : p.tables.exec = Jvm.exec) (hk : meth.locks = false) {pc : Nat} {Ls : Array Slot} {z : Addr} {t : FieldType} {rest : List Value} (hret : meth.sig.returnType = some t) (ht : t.isReference = true) (hd : decode c.code pc = .ok (.areturn, 1)) (hq : QQ (some (.ref z)) T.heap locs) (h1 : cells ≤ rc) (h2 : slots ≤ rs) : own_End p e below s QQ rc rs T (mkF m pc Ls (.ref z :: rest)) := by
  obtain ⟨fs, hr, hrun, hended, hW, hsame⟩ := X.leave (v := some (.ref z)) (fun h => by rw [hret] at h; cases h) hk
  exact ⟨_, _, retR X hx hret ht hd hr, hrun, hended, _, _, rfl, hq, ⟨_, rfl⟩, hW, hsame.mono h1 h2⟩
theorem own_leafV (X : Stand p l e R s m args below meth c T locs cells slots) (hx : p.tables.exec = Jvm.exec) (hk : meth.locks = false) {pc : Nat} {Ls : Array Slot} (hret : meth.sig.returnType = none) (hd : decode c.code pc = .ok (.return_, 1)) (hq : QQ none T.heap locs) (h1 : cells ≤ rc) (h2 : slots ≤ rs) : own_End p e below s QQ rc rs T (mkF m pc Ls []) := by
  obtain ⟨fs, hr, hrun, hended, hW, hsame⟩ := X.leave (v := none) (fun _ => rfl) hk
  exact ⟨_, _, X.returnOut hx hret hd hr, hrun, hended, _, _, rfl, hq, ⟨_, rfl⟩, hW, hsame.mono h1 h2⟩
end Own
theorem own_nb0 : nar .boolean (0 : Int32) = 0 := by decide
theorem own_nb1 : nar .boolean (1 : Int32) = 1 := by decide
theorem own_oneif {P : Prop} [Decidable P] {x y : Slot} (hx : One x) (hy : One y) : One (if P then x else y) := by split <;> assumption

theorem own_n1 {p0 v1 v7 : Int32} (h1 : v1 = (p0 &&& (2147483647 : Int32))) (h7 : v7 = (if v1 = (0 : Int32) then (1 : Int32) else v1)) : ¬ v7 < (1 : Int32) := by
  have e1 : (p0 &&& (2147483647 : Int32)).toInt = p0.toInt % (2 ^ 31 : Nat) := c_mask p0 2147483647 31 (by decide) (by decide)
  rw [← h1] at e1
  subst h7
  split
  · decide
  · rename_i h
    have h' : ¬ v1.toInt = (0 : Int32).toInt := fun q => h (Int32.toInt_inj.mp q)
    rw [Int32.lt_iff_toInt_lt]
    have z0 : (0 : Int32).toInt = 0 := by decide
    have z1 : (1 : Int32).toInt = 1 := by decide
    omega
theorem own_pd0 : parseMethodDescriptor "(I)I" = some ⟨[.int], some .int⟩ := by decide +kernel
theorem own_d1_0 : decode prog_11_method_2_code 0 = .ok (.iload_n 0, 1) := by decide +kernel
theorem own_d1_1 : decode prog_11_method_2_code 1 = .ok (.iconst 1, 1) := by decide +kernel
theorem own_d1_2 : decode prog_11_method_2_code 2 = .ok (.if_icmp .ge 17, 3) := by decide +kernel
theorem own_d1_19 : decode prog_11_method_2_code 19 = .ok (.iload_n 0, 1) := by decide +kernel
theorem own_d1_20 : decode prog_11_method_2_code 20 = .ok (.iconst 2, 1) := by decide +kernel
theorem own_d1_21 : decode prog_11_method_2_code 21 = .ok (.idiv, 1) := by decide +kernel
theorem own_d1_22 : decode prog_11_method_2_code 22 = .ok (.iconst 1, 1) := by decide +kernel
theorem own_d1_23 : decode prog_11_method_2_code 23 = .ok (.iadd, 1) := by decide +kernel
theorem own_d1_24 : decode prog_11_method_2_code 24 = .ok (.ireturn, 1) := by decide +kernel
theorem own_pn1 : plainName "com/example/dibs/dibs/Quorum" = true := by first | (simp [plainName, overriddenIn]; done) | decide +kernel
theorem own_ef1 (m : MethodId) (p0 : Int32) : entryFrame m #[(.int p0)] 1 = mkF m 0 #[.val (.int p0)] [] := by first | (simp [entryFrame, mkF, argsToLocals, Value.category]; done) | rfl
abbrev own_R1 : Room := { frames := 0, cells := 0, slots := 0, locals := 0 }
def own_F1 (p0 : Int32) : Int32 :=
  ((p0 / (2 : Int32)) + (1 : Int32))
def own_Q1 (p0 : Int32) (h0 : Heap) (v : Option Value) (h : Heap) (L : List Loc) : Prop :=  v = some (.int (own_F1 p0)) ∧ L = [] ∧ h = h0
set_option maxRecDepth 65536 in
set_option maxHeartbeats 40000000 in
theorem own_rm1 (l : Launch) (Z : State) (a0 : Array Value) (hw : ∀ d ∈ tables_1, d.before a0 Z = true) (ws : List Jvm.Cond) (p0 : Int32) (h0 : Heap) (hp : ¬ p0 < (1 : Int32)) :
    MetFree l (⟨"com/example/dibs/dibs/Quorum", "majority", "(I)I"⟩ : MethodName) (head1 (Jvm.Cond.code (⟨"com/example/dibs/dibs/Quorum", "majority", "(I)I"⟩ : MethodName) prog_11_method_2_code 1 (some .int) :: ws) own_R1) (fun a U => a = #[(.int p0)] ∧ Z.Warmed39 U.vm ∧ U.heap = h0) (fun _ _ _ _ _ => True) (fun _ U o U' => ∃ v L, o = .returned v ∧ own_Q1 p0 h0 v U'.heap L ∧ FrameEnd U o U' L own_R1.cells own_R1.slots) := by
  refine MetFree.of_bodySF (plainFor_of_name own_pn1) hisR ?_
  intro p e s m args below meth c s₁ Bd hml0 hP hK
  obtain ⟨rfl, hZ, hh⟩ := hP
  have hx := Bd.exec
  have hby := Bd.bytes
  have hml : c.maxLocals = 1 := hml0
  have hown : s.vm.findClass "com/example/dibs/dibs/Quorum" = some m.cls := findClass_of_methodNamed Bd.named
  have hnm := (name_of_methodNamed Bd.named Bd.method).1
  have X0 : Stand p l e own_R1 s m #[(.int p0)] below meth c s₁ [] 0 0 := Stand.of_body Bd
  have e0 : s₁.heap = h0 := by rw [← hh, Bd.state]; rfl
  show own_End p e below s (fun v h L => v = some (.int (own_F1 p0)) ∧ L = [] ∧ h = h0) own_R1.cells own_R1.slots s₁ (entryFrame m #[(.int p0)] 1)
  refine own_End.go (fun t k => castTop (own_ef1 m p0) k) ?_
  show own_End p e below s _ _ _ s₁ (mkF m 0 #[.val (.int p0)] [])
  have st1 : ∀ t, Steps p.tables e below (s₁.setTop (mkF m 24 #[.val (.int p0)] [(.int ((p0 / (2 : Int32)) + (1 : Int32)))])) t → Steps p.tables e below (s₁.setTop (mkF m 0 #[.val (.int p0)] [])) t := by
    intro t k
    show Steps p.tables e below (s₁.setTop (mkF m 0 #[.val (.int p0)] [])) _
    refine XS.iloadN X0.here hx rfl (hb hby own_d1_0) rfl ?_
    show Steps p.tables e below (s₁.setTop (mkF m 1 #[.val (.int p0)] [(.int p0)])) _
    refine XS.iconst X0.here hx rfl (hb hby own_d1_1) ?_
    show Steps p.tables e below (s₁.setTop (mkF m 2 #[.val (.int p0)] [(.int (1 : Int32)), (.int p0)])) _
    refine XS.icmpYes X0.here hx rfl (pc0 := 2) (pc' := 19) rfl (hb hby own_d1_2) rfl (flt hp).2.1 (by decide) (by decide) ?_
    show Steps p.tables e below (s₁.setTop (mkF m 19 #[.val (.int p0)] [])) _
    refine XS.iloadN X0.here hx rfl (hb hby own_d1_19) rfl ?_
    show Steps p.tables e below (s₁.setTop (mkF m 20 #[.val (.int p0)] [(.int p0)])) _
    refine XS.iconst X0.here hx rfl (hb hby own_d1_20) ?_
    show Steps p.tables e below (s₁.setTop (mkF m 21 #[.val (.int p0)] [(.int (2 : Int32)), (.int p0)])) _
    refine XS.idiv X0.here hx rfl (hb hby own_d1_21) rfl (by decide) ?_
    show Steps p.tables e below (s₁.setTop (mkF m 22 #[.val (.int p0)] [(.int (p0 / (2 : Int32)))])) _
    refine XS.iconst X0.here hx rfl (hb hby own_d1_22) ?_
    show Steps p.tables e below (s₁.setTop (mkF m 23 #[.val (.int p0)] [(.int (1 : Int32)), (.int (p0 / (2 : Int32)))])) _
    refine XS.iadd X0.here hx rfl (hb hby own_d1_23) rfl ?_
    exact k
  refine own_End.go (fun t k => st1 _ k) ?_
  exact own_leafI X0 hx Bd.notSynchronized Bd.returns (hb hby own_d1_24) ⟨congrArg (fun z => some (Value.int z)) (by
      simp only [own_F1, own_nb0, own_nb1]), rfl, e0⟩ (by decide) (by decide)
theorem own_pn0 : plainName "com/example/dibs/dibs/QuorumMajorityPinLaw" = true := by first | (simp [plainName, overriddenIn]; done) | decide +kernel
theorem own_ef0 (m : MethodId) (p0 : Int32) : entryFrame m #[(.int p0)] maxLocals = mkF m 0 #[.val (.int p0), .unset, .unset, .unset, .unset, .unset, .unset] [] := by first | (simp [entryFrame, mkF, argsToLocals, Value.category, maxLocals]; done) | rfl
def own_F0 (p0 : Int32) : Int32 :=
  let v1 : Int32 := (p0 &&& (2147483647 : Int32))
  let v7 : Int32 := (if v1 = (0 : Int32) then (1 : Int32) else v1)
  let v11 : Int32 := (own_F1 v7)
  let v12 : Int64 := (v11.toInt64)
  let v18 : Int32 := (if (v7.toInt64) < ((2 : Int64) * v12) then (1 : Int32) else (0 : Int32))
  let v24 : Int32 := (if (v7.toInt64) < ((2 : Int64) * (v12 - (1 : Int64))) then (0 : Int32) else (1 : Int32))
  let v34 : Int32 := (if v12 < (1 : Int64) then (0 : Int32) else (if (v7.toInt64) < v12 then (0 : Int32) else (1 : Int32)))
  if v18 = (0 : Int32) then
    (0 : Int32)
  else
    if v24 = (0 : Int32) then
      (0 : Int32)
    else
      if v34 = (0 : Int32) then
        (0 : Int32)
      else
        (1 : Int32)
def own_Q0 (p0 : Int32) (h0 : Heap) (n0 : Nat) (v : Option Value) (h : Heap) (L : List Loc) : Prop :=  v = some (.int (own_F0 p0)) ∧ Fr n0 L
set_option maxRecDepth 65536 in
set_option maxHeartbeats 40000000 in
theorem own_rm0 (l : Launch) (Z : State) (a0 : Array Value) (hw : ∀ d ∈ tables_1, d.before a0 Z = true) (ws : List Jvm.Cond) (p0 : Int32) (h0 : Heap) (n0 : Nat) (Z0 : n0 ≤ h0.size) :
    MetFree l x (head1 (Jvm.Cond.code x code maxLocals ret :: ws) room_1) (fun a U => a = #[(.int p0)] ∧ Z.Warmed39 U.vm ∧ U.heap = h0) (fun _ _ _ _ _ => True) (fun _ U o U' => ∃ v L, o = .returned v ∧ own_Q0 p0 h0 n0 v U'.heap L ∧ FrameEnd U o U' L room_1.cells room_1.slots) := by
  refine MetFree.of_bodySF (plainFor_of_name own_pn0) hisR ?_
  intro p e s m args below meth c s₁ Bd hml0 hP hK
  obtain ⟨rfl, hZ, hh⟩ := hP
  have hx := Bd.exec
  have hby := Bd.bytes
  have hml : c.maxLocals = 7 := hml0
  have hown : s.vm.findClass "com/example/dibs/dibs/QuorumMajorityPinLaw" = some m.cls := findClass_of_methodNamed Bd.named
  have hnm := (name_of_methodNamed Bd.named Bd.method).1
  have X0 : Stand p l e room_1 s m #[(.int p0)] below meth c s₁ [] 0 0 := Stand.of_body Bd
  have e0 : s₁.heap = h0 := by rw [← hh, Bd.state]; rfl
  show own_End p e below s (fun v h L => v = some (.int (own_F0 p0)) ∧ Fr n0 L) room_1.cells room_1.slots s₁ (entryFrame m #[(.int p0)] maxLocals)
  refine own_End.go (fun t k => castTop (own_ef0 m p0) k) ?_
  show own_End p e below s _ _ _ s₁ (mkF m 0 #[.val (.int p0), .unset, .unset, .unset, .unset, .unset, .unset] [])
  obtain ⟨v1, hv1⟩ : ∃ z : Int32, z = (p0 &&& (2147483647 : Int32)) := ⟨_, rfl⟩
  have st2 : ∀ t, Steps p.tables e below (s₁.setTop (mkF m 5 #[.val (.int p0), .val (.int v1), .unset, .unset, .unset, .unset, .unset] [])) t → Steps p.tables e below (s₁.setTop (mkF m 0 #[.val (.int p0), .unset, .unset, .unset, .unset, .unset, .unset] [])) t := by
    rw [hv1]
    intro t k
    show Steps p.tables e below (s₁.setTop (mkF m 0 #[.val (.int p0), .unset, .unset, .unset, .unset, .unset, .unset] [])) _
    refine XS.iloadN X0.here hx rfl (hb hby at_0) rfl ?_
    show Steps p.tables e below (s₁.setTop (mkF m 1 #[.val (.int p0), .unset, .unset, .unset, .unset, .unset, .unset] [(.int p0)])) _
    refine X0.ldcInt hx hown (mvT hZ (hw _ (List.mem_of_getElem? (i := 0) rfl))) (g := (mkF m 1 #[.val (.int p0), .unset, .unset, .unset, .unset, .unset, .unset] [(.int p0)])) rfl (hb hby at_1) _ ?_
    show Steps p.tables e below (s₁.setTop (mkF m 3 #[.val (.int p0), .unset, .unset, .unset, .unset, .unset, .unset] [(.int (2147483647 : Int32)), (.int p0)])) _
    refine XS.iand X0.here hx rfl (hb hby at_3) rfl ?_
    show Steps p.tables e below (s₁.setTop (mkF m 4 #[.val (.int p0), .unset, .unset, .unset, .unset, .unset, .unset] [(.int (p0 &&& (2147483647 : Int32)))])) _
    refine XS.istoreN X0.here hx rfl (hb hby at_4) rfl (l' := #[.val (.int p0), .val (.int (p0 &&& (2147483647 : Int32))), .unset, .unset, .unset, .unset, .unset]) rfl ?_
    exact k
  have st3 : ∀ t, Steps p.tables e below (s₁.setTop (mkF m 6 #[.val (.int p0), .val (.int v1), .unset, .unset, .unset, .unset, .unset] [(.int v1)])) t → Steps p.tables e below (s₁.setTop (mkF m 5 #[.val (.int p0), .val (.int v1), .unset, .unset, .unset, .unset, .unset] [])) t := by
    intro t k
    show Steps p.tables e below (s₁.setTop (mkF m 5 #[.val (.int p0), .val (.int v1), .unset, .unset, .unset, .unset, .unset] [])) _
    refine XS.iloadN X0.here hx rfl (hb hby at_5) rfl ?_
    exact k
  obtain ⟨v7, hv7⟩ : ∃ z : Int32, z = (if v1 = (0 : Int32) then (1 : Int32) else v1) := ⟨_, rfl⟩
  have st8 : ∀ t, Steps p.tables e below (s₁.setTop (mkF m 11 #[.val (.int p0), .val (.int v7), .unset, .unset, .unset, .unset, .unset] [])) t → Steps p.tables e below (s₁.setTop (mkF m 6 #[.val (.int p0), .val (.int v1), .unset, .unset, .unset, .unset, .unset] [(.int v1)])) t := by
    rw [hv7]
    by_cases hc6_4 : v1 = (0 : Int32)
    · repeat rw [if_pos hc6_4]
      have st5 : ∀ t, Steps p.tables e below (s₁.setTop (mkF m 11 #[.val (.int p0), .val (.int (1 : Int32)), .unset, .unset, .unset, .unset, .unset] [])) t → Steps p.tables e below (s₁.setTop (mkF m 6 #[.val (.int p0), .val (.int v1), .unset, .unset, .unset, .unset, .unset] [(.int v1)])) t := by
        intro t k
        show Steps p.tables e below (s₁.setTop (mkF m 6 #[.val (.int p0), .val (.int v1), .unset, .unset, .unset, .unset, .unset] [(.int v1)])) _
        refine XS.ifNo X0.here hx rfl (hb hby at_6) rfl ((if0 _ _).trans (teq hc6_4).2) ?_
        show Steps p.tables e below (s₁.setTop (mkF m 9 #[.val (.int p0), .val (.int v1), .unset, .unset, .unset, .unset, .unset] [])) _
        refine XS.iconst X0.here hx rfl (hb hby at_9) ?_
        show Steps p.tables e below (s₁.setTop (mkF m 10 #[.val (.int p0), .val (.int v1), .unset, .unset, .unset, .unset, .unset] [(.int (1 : Int32))])) _
        refine XS.istoreN X0.here hx rfl (hb hby at_10) rfl (l' := #[.val (.int p0), .val (.int (1 : Int32)), .unset, .unset, .unset, .unset, .unset]) rfl ?_
        exact k
      exact fun t k => st5 _ k
    · repeat rw [if_neg hc6_4]
      have st6 : ∀ t, Steps p.tables e below (s₁.setTop (mkF m 11 #[.val (.int p0), .val (.int v1), .unset, .unset, .unset, .unset, .unset] [])) t → Steps p.tables e below (s₁.setTop (mkF m 6 #[.val (.int p0), .val (.int v1), .unset, .unset, .unset, .unset, .unset] [(.int v1)])) t := by
        intro t k
        show Steps p.tables e below (s₁.setTop (mkF m 6 #[.val (.int p0), .val (.int v1), .unset, .unset, .unset, .unset, .unset] [(.int v1)])) _
        refine XS.ifYes X0.here hx rfl (pc0 := 6) (pc' := 11) rfl (hb hby at_6) rfl ((if0 _ _).trans (feq hc6_4).2) (by decide) (by decide) ?_
        exact k
      exact fun t k => st6 _ k
  have st9 : ∀ t, Steps p.tables e below (s₁.setTop (mkF m 12 #[.val (.int p0), .val (.int v7), .unset, .unset, .unset, .unset, .unset] [(.int v7)])) t → Steps p.tables e below (s₁.setTop (mkF m 11 #[.val (.int p0), .val (.int v7), .unset, .unset, .unset, .unset, .unset] [])) t := by
    intro t k
    show Steps p.tables e below (s₁.setTop (mkF m 11 #[.val (.int p0), .val (.int v7), .unset, .unset, .unset, .unset, .unset] [])) _
    refine XS.iloadN X0.here hx rfl (hb hby at_11) rfl ?_
    exact k
  obtain ⟨_, _, ⟨T10, L10, k10, n10⟩, -, X10, ⟨Lc10, hQ10, l10, y10, z10⟩, st10⟩ := Jvm.LawKit.callS X0 hx (y := (⟨"com/example/dibs/dibs/Quorum", "majority", "(I)I"⟩ : MethodName)) hown (mvT hZ (hw _ (List.mem_of_getElem? (i := 1) rfl))) (mvT hZ (hw _ (List.mem_of_getElem? (i := 2) rfl))) (mvT hZ (hw _ (List.mem_of_getElem? (i := 3) rfl))) (mvT hZ (hw _ (List.mem_of_getElem? (i := 4) rfl))) (by decide) (backOf (W := 0) (own_rm1 l Z a0 hw [] v7 h0 (own_n1 hv1 hv7)) hZ (hw _ (List.mem_of_getElem? (i := 4) rfl)) (hw _ (List.mem_of_getElem? (i := 3) rfl)) (by decide) (by decide)) (g := (mkF m 12 #[.val (.int p0), .val (.int v7), .unset, .unset, .unset, .unset, .unset] [(.int v7)])) rfl (by rw [hml]; rfl) (argsL := [(.int v7)]) (rest := []) (lenOf own_pd0 rfl) rfl (by show 2 * 0 + _ ≤ _; exact Nat.le_of_eq rfl) (hb hby at_12) (fun _ _ => ⟨rfl, e0, (by decide : 0 + 0 ≤ _), (by decide : 0 + 0 ≤ _)⟩)
  dsimp only [Pt.U, Pt.locs, Pt.cells, Pt.slots] at X10 l10 y10 z10 st10 hQ10
  subst l10 y10 z10
  obtain ⟨rfl, rfl, e10⟩ := hQ10
  have X10' : Stand p l e room_1 s m #[(.int p0)] below meth c T10 [] 0 0 := by first | exact X10 | (rw [List.append_nil] at X10; exact X10)
  obtain ⟨v11, hv11⟩ : ∃ z : Int32, z = (own_F1 v7) := ⟨_, rfl⟩
  rw [← hv11] at st10
  obtain ⟨v12, hv12⟩ : ∃ z : Int64, z = (v11.toInt64) := ⟨_, rfl⟩
  have st13 : ∀ t, Steps p.tables e below (T10.setTop (mkF m 17 #[.val (.int p0), .val (.int v7), .val (.long v12), .second, .unset, .unset, .unset] [])) t → Steps p.tables e below (T10.setTop (mkF m 15 #[.val (.int p0), .val (.int v7), .unset, .unset, .unset, .unset, .unset] [(.int v11)])) t := by
    rw [hv12]
    intro t k
    show Steps p.tables e below (T10.setTop (mkF m 15 #[.val (.int p0), .val (.int v7), .unset, .unset, .unset, .unset, .unset] [(.int v11)])) _
    refine XS.i2l X10'.here hx rfl (hb hby at_15) rfl ?_
    show Steps p.tables e below (T10.setTop (mkF m 16 #[.val (.int p0), .val (.int v7), .unset, .unset, .unset, .unset, .unset] [(.long (v11.toInt64))])) _
    refine XS.lstoreN X10'.here hx rfl (hb hby at_16) rfl (l' := #[.val (.int p0), .val (.int v7), .val (.long (v11.toInt64)), .second, .unset, .unset, .unset]) rfl ?_
    exact k
  have st14 : ∀ t, Steps p.tables e below (T10.setTop (mkF m 25 #[.val (.int p0), .val (.int v7), .val (.long v12), .second, .unset, .unset, .unset] [(.int (lcmpW ((2 : Int64) * v12) (v7.toInt64)))])) t → Steps p.tables e below (T10.setTop (mkF m 17 #[.val (.int p0), .val (.int v7), .val (.long v12), .second, .unset, .unset, .unset] [])) t := by
    intro t k
    show Steps p.tables e below (T10.setTop (mkF m 17 #[.val (.int p0), .val (.int v7), .val (.long v12), .second, .unset, .unset, .unset] [])) _
    refine X10'.ldc2Long hx hown (mvT hZ (hw _ (List.mem_of_getElem? (i := 5) rfl))) (g := (mkF m 17 #[.val (.int p0), .val (.int v7), .val (.long v12), .second, .unset, .unset, .unset] [])) rfl (hb hby at_17) _ ?_
    show Steps p.tables e below (T10.setTop (mkF m 20 #[.val (.int p0), .val (.int v7), .val (.long v12), .second, .unset, .unset, .unset] [(.long (2 : Int64))])) _
    refine XS.lloadN X10'.here hx rfl (hb hby at_20) rfl ?_
    show Steps p.tables e below (T10.setTop (mkF m 21 #[.val (.int p0), .val (.int v7), .val (.long v12), .second, .unset, .unset, .unset] [(.long v12), (.long (2 : Int64))])) _
    refine XS.lmul X10'.here hx rfl (hb hby at_21) rfl ?_
    show Steps p.tables e below (T10.setTop (mkF m 22 #[.val (.int p0), .val (.int v7), .val (.long v12), .second, .unset, .unset, .unset] [(.long ((2 : Int64) * v12))])) _
    refine XS.iloadN X10'.here hx rfl (hb hby at_22) rfl ?_
    show Steps p.tables e below (T10.setTop (mkF m 23 #[.val (.int p0), .val (.int v7), .val (.long v12), .second, .unset, .unset, .unset] [(.int v7), (.long ((2 : Int64) * v12))])) _
    refine XS.i2l X10'.here hx rfl (hb hby at_23) rfl ?_
    show Steps p.tables e below (T10.setTop (mkF m 24 #[.val (.int p0), .val (.int v7), .val (.long v12), .second, .unset, .unset, .unset] [(.long (v7.toInt64)), (.long ((2 : Int64) * v12))])) _
    refine XS.lcmp X10'.here hx rfl (hb hby at_24) rfl ?_
    exact k
  obtain ⟨v18, hv18⟩ : ∃ z : Int32, z = (if (v7.toInt64) < ((2 : Int64) * v12) then (1 : Int32) else (0 : Int32)) := ⟨_, rfl⟩
  have st19 : ∀ t, Steps p.tables e below (T10.setTop (mkF m 33 #[.val (.int p0), .val (.int v7), .val (.long v12), .second, .unset, .unset, .unset] [(.int v18)])) t → Steps p.tables e below (T10.setTop (mkF m 25 #[.val (.int p0), .val (.int v7), .val (.long v12), .second, .unset, .unset, .unset] [(.int (lcmpW ((2 : Int64) * v12) (v7.toInt64)))])) t := by
    rw [hv18]
    by_cases hc25_15 : (v7.toInt64) < ((2 : Int64) * v12)
    · repeat rw [if_pos hc25_15]
      have st16 : ∀ t, Steps p.tables e below (T10.setTop (mkF m 33 #[.val (.int p0), .val (.int v7), .val (.long v12), .second, .unset, .unset, .unset] [(.int (1 : Int32))])) t → Steps p.tables e below (T10.setTop (mkF m 25 #[.val (.int p0), .val (.int v7), .val (.long v12), .second, .unset, .unset, .unset] [(.int (lcmpW ((2 : Int64) * v12) (v7.toInt64)))])) t := by
        intro t k
        show Steps p.tables e below (T10.setTop (mkF m 25 #[.val (.int p0), .val (.int v7), .val (.long v12), .second, .unset, .unset, .unset] [(.int (lcmpW ((2 : Int64) * v12) (v7.toInt64)))])) _
        refine XS.ifNo X10'.here hx rfl (hb hby at_25) rfl ((if0 _ _).trans (tlt ((lw_gt ((2 : Int64) * v12) (v7.toInt64)).mpr hc25_15)).2.2.2) ?_
        show Steps p.tables e below (T10.setTop (mkF m 28 #[.val (.int p0), .val (.int v7), .val (.long v12), .second, .unset, .unset, .unset] [])) _
        refine XS.iconst X10'.here hx rfl (hb hby at_28) ?_
        show Steps p.tables e below (T10.setTop (mkF m 29 #[.val (.int p0), .val (.int v7), .val (.long v12), .second, .unset, .unset, .unset] [(.int (1 : Int32))])) _
        refine XS.goto X10'.here hx rfl (pc0 := 29) (pc' := 33) rfl (hb hby at_29) (by decide) (by decide) ?_
        exact k
      exact fun t k => st16 _ k
    · repeat rw [if_neg hc25_15]
      have st17 : ∀ t, Steps p.tables e below (T10.setTop (mkF m 33 #[.val (.int p0), .val (.int v7), .val (.long v12), .second, .unset, .unset, .unset] [(.int (0 : Int32))])) t → Steps p.tables e below (T10.setTop (mkF m 25 #[.val (.int p0), .val (.int v7), .val (.long v12), .second, .unset, .unset, .unset] [(.int (lcmpW ((2 : Int64) * v12) (v7.toInt64)))])) t := by
        intro t k
        show Steps p.tables e below (T10.setTop (mkF m 25 #[.val (.int p0), .val (.int v7), .val (.long v12), .second, .unset, .unset, .unset] [(.int (lcmpW ((2 : Int64) * v12) (v7.toInt64)))])) _
        refine XS.ifYes X10'.here hx rfl (pc0 := 25) (pc' := 32) rfl (hb hby at_25) rfl ((if0 _ _).trans (flt (mt (lw_gt ((2 : Int64) * v12) (v7.toInt64)).mp hc25_15)).2.2.2) (by decide) (by decide) ?_
        show Steps p.tables e below (T10.setTop (mkF m 32 #[.val (.int p0), .val (.int v7), .val (.long v12), .second, .unset, .unset, .unset] [])) _
        refine XS.iconst X10'.here hx rfl (hb hby at_32) ?_
        exact k
      exact fun t k => st17 _ k
  have st20 : ∀ t, Steps p.tables e below (T10.setTop (mkF m 45 #[.val (.int p0), .val (.int v7), .val (.long v12), .second, .val (.int v18), .unset, .unset] [(.int (lcmpW ((2 : Int64) * (v12 - (1 : Int64))) (v7.toInt64)))])) t → Steps p.tables e below (T10.setTop (mkF m 33 #[.val (.int p0), .val (.int v7), .val (.long v12), .second, .unset, .unset, .unset] [(.int v18)])) t := by
    intro t k
    show Steps p.tables e below (T10.setTop (mkF m 33 #[.val (.int p0), .val (.int v7), .val (.long v12), .second, .unset, .unset, .unset] [(.int v18)])) _
    refine XS.istore X10'.here hx rfl (hb hby at_33) rfl (l' := #[.val (.int p0), .val (.int v7), .val (.long v12), .second, .val (.int v18), .unset, .unset]) rfl ?_
    show Steps p.tables e below (T10.setTop (mkF m 35 #[.val (.int p0), .val (.int v7), .val (.long v12), .second, .val (.int v18), .unset, .unset] [])) _
    refine X10'.ldc2Long hx hown (mvT hZ (hw _ (List.mem_of_getElem? (i := 5) rfl))) (g := (mkF m 35 #[.val (.int p0), .val (.int v7), .val (.long v12), .second, .val (.int v18), .unset, .unset] [])) rfl (hb hby at_35) _ ?_
    show Steps p.tables e below (T10.setTop (mkF m 38 #[.val (.int p0), .val (.int v7), .val (.long v12), .second, .val (.int v18), .unset, .unset] [(.long (2 : Int64))])) _
    refine XS.lloadN X10'.here hx rfl (hb hby at_38) rfl ?_
    show Steps p.tables e below (T10.setTop (mkF m 39 #[.val (.int p0), .val (.int v7), .val (.long v12), .second, .val (.int v18), .unset, .unset] [(.long v12), (.long (2 : Int64))])) _
    refine XS.lconst X10'.here hx rfl (hb hby at_39) ?_
    show Steps p.tables e below (T10.setTop (mkF m 40 #[.val (.int p0), .val (.int v7), .val (.long v12), .second, .val (.int v18), .unset, .unset] [(.long (1 : Int64)), (.long v12), (.long (2 : Int64))])) _
    refine XS.lsub X10'.here hx rfl (hb hby at_40) rfl ?_
    show Steps p.tables e below (T10.setTop (mkF m 41 #[.val (.int p0), .val (.int v7), .val (.long v12), .second, .val (.int v18), .unset, .unset] [(.long (v12 - (1 : Int64))), (.long (2 : Int64))])) _
    refine XS.lmul X10'.here hx rfl (hb hby at_41) rfl ?_
    show Steps p.tables e below (T10.setTop (mkF m 42 #[.val (.int p0), .val (.int v7), .val (.long v12), .second, .val (.int v18), .unset, .unset] [(.long ((2 : Int64) * (v12 - (1 : Int64))))])) _
    refine XS.iloadN X10'.here hx rfl (hb hby at_42) rfl ?_
    show Steps p.tables e below (T10.setTop (mkF m 43 #[.val (.int p0), .val (.int v7), .val (.long v12), .second, .val (.int v18), .unset, .unset] [(.int v7), (.long ((2 : Int64) * (v12 - (1 : Int64))))])) _
    refine XS.i2l X10'.here hx rfl (hb hby at_43) rfl ?_
    show Steps p.tables e below (T10.setTop (mkF m 44 #[.val (.int p0), .val (.int v7), .val (.long v12), .second, .val (.int v18), .unset, .unset] [(.long (v7.toInt64)), (.long ((2 : Int64) * (v12 - (1 : Int64))))])) _
    refine XS.lcmp X10'.here hx rfl (hb hby at_44) rfl ?_
    exact k
  obtain ⟨v24, hv24⟩ : ∃ z : Int32, z = (if (v7.toInt64) < ((2 : Int64) * (v12 - (1 : Int64))) then (0 : Int32) else (1 : Int32)) := ⟨_, rfl⟩
  have st25 : ∀ t, Steps p.tables e below (T10.setTop (mkF m 53 #[.val (.int p0), .val (.int v7), .val (.long v12), .second, .val (.int v18), .unset, .unset] [(.int v24)])) t → Steps p.tables e below (T10.setTop (mkF m 45 #[.val (.int p0), .val (.int v7), .val (.long v12), .second, .val (.int v18), .unset, .unset] [(.int (lcmpW ((2 : Int64) * (v12 - (1 : Int64))) (v7.toInt64)))])) t := by
    rw [hv24]
    by_cases hc45_21 : (v7.toInt64) < ((2 : Int64) * (v12 - (1 : Int64)))
    · repeat rw [if_pos hc45_21]
      have st22 : ∀ t, Steps p.tables e below (T10.setTop (mkF m 53 #[.val (.int p0), .val (.int v7), .val (.long v12), .second, .val (.int v18), .unset, .unset] [(.int (0 : Int32))])) t → Steps p.tables e below (T10.setTop (mkF m 45 #[.val (.int p0), .val (.int v7), .val (.long v12), .second, .val (.int v18), .unset, .unset] [(.int (lcmpW ((2 : Int64) * (v12 - (1 : Int64))) (v7.toInt64)))])) t := by
        intro t k
        show Steps p.tables e below (T10.setTop (mkF m 45 #[.val (.int p0), .val (.int v7), .val (.long v12), .second, .val (.int v18), .unset, .unset] [(.int (lcmpW ((2 : Int64) * (v12 - (1 : Int64))) (v7.toInt64)))])) _
        refine XS.ifYes X10'.here hx rfl (pc0 := 45) (pc' := 52) rfl (hb hby at_45) rfl ((if0 _ _).trans (tlt ((lw_gt ((2 : Int64) * (v12 - (1 : Int64))) (v7.toInt64)).mpr hc45_21)).2.2.1) (by decide) (by decide) ?_
        show Steps p.tables e below (T10.setTop (mkF m 52 #[.val (.int p0), .val (.int v7), .val (.long v12), .second, .val (.int v18), .unset, .unset] [])) _
        refine XS.iconst X10'.here hx rfl (hb hby at_52) ?_
        exact k
      exact fun t k => st22 _ k
    · repeat rw [if_neg hc45_21]
      have st23 : ∀ t, Steps p.tables e below (T10.setTop (mkF m 53 #[.val (.int p0), .val (.int v7), .val (.long v12), .second, .val (.int v18), .unset, .unset] [(.int (1 : Int32))])) t → Steps p.tables e below (T10.setTop (mkF m 45 #[.val (.int p0), .val (.int v7), .val (.long v12), .second, .val (.int v18), .unset, .unset] [(.int (lcmpW ((2 : Int64) * (v12 - (1 : Int64))) (v7.toInt64)))])) t := by
        intro t k
        show Steps p.tables e below (T10.setTop (mkF m 45 #[.val (.int p0), .val (.int v7), .val (.long v12), .second, .val (.int v18), .unset, .unset] [(.int (lcmpW ((2 : Int64) * (v12 - (1 : Int64))) (v7.toInt64)))])) _
        refine XS.ifNo X10'.here hx rfl (hb hby at_45) rfl ((if0 _ _).trans (flt (mt (lw_gt ((2 : Int64) * (v12 - (1 : Int64))) (v7.toInt64)).mp hc45_21)).2.2.1) ?_
        show Steps p.tables e below (T10.setTop (mkF m 48 #[.val (.int p0), .val (.int v7), .val (.long v12), .second, .val (.int v18), .unset, .unset] [])) _
        refine XS.iconst X10'.here hx rfl (hb hby at_48) ?_
        show Steps p.tables e below (T10.setTop (mkF m 49 #[.val (.int p0), .val (.int v7), .val (.long v12), .second, .val (.int v18), .unset, .unset] [(.int (1 : Int32))])) _
        refine XS.goto X10'.here hx rfl (pc0 := 49) (pc' := 53) rfl (hb hby at_49) (by decide) (by decide) ?_
        exact k
      exact fun t k => st23 _ k
  have st26 : ∀ t, Steps p.tables e below (T10.setTop (mkF m 58 #[.val (.int p0), .val (.int v7), .val (.long v12), .second, .val (.int v18), .val (.int v24), .unset] [(.int (lcmpW v12 (1 : Int64)))])) t → Steps p.tables e below (T10.setTop (mkF m 53 #[.val (.int p0), .val (.int v7), .val (.long v12), .second, .val (.int v18), .unset, .unset] [(.int v24)])) t := by
    intro t k
    show Steps p.tables e below (T10.setTop (mkF m 53 #[.val (.int p0), .val (.int v7), .val (.long v12), .second, .val (.int v18), .unset, .unset] [(.int v24)])) _
    refine XS.istore X10'.here hx rfl (hb hby at_53) rfl (l' := #[.val (.int p0), .val (.int v7), .val (.long v12), .second, .val (.int v18), .val (.int v24), .unset]) rfl ?_
    show Steps p.tables e below (T10.setTop (mkF m 55 #[.val (.int p0), .val (.int v7), .val (.long v12), .second, .val (.int v18), .val (.int v24), .unset] [])) _
    refine XS.lloadN X10'.here hx rfl (hb hby at_55) rfl ?_
    show Steps p.tables e below (T10.setTop (mkF m 56 #[.val (.int p0), .val (.int v7), .val (.long v12), .second, .val (.int v18), .val (.int v24), .unset] [(.long v12)])) _
    refine XS.lconst X10'.here hx rfl (hb hby at_56) ?_
    show Steps p.tables e below (T10.setTop (mkF m 57 #[.val (.int p0), .val (.int v7), .val (.long v12), .second, .val (.int v18), .val (.int v24), .unset] [(.long (1 : Int64)), (.long v12)])) _
    refine XS.lcmp X10'.here hx rfl (hb hby at_57) rfl ?_
    exact k
  obtain ⟨v34, hv34⟩ : ∃ z : Int32, z = (if v12 < (1 : Int64) then (0 : Int32) else (if (v7.toInt64) < v12 then (0 : Int32) else (1 : Int32))) := ⟨_, rfl⟩
  have st35 : ∀ t, Steps p.tables e below (T10.setTop (mkF m 73 #[.val (.int p0), .val (.int v7), .val (.long v12), .second, .val (.int v18), .val (.int v24), .unset] [(.int v34)])) t → Steps p.tables e below (T10.setTop (mkF m 58 #[.val (.int p0), .val (.int v7), .val (.long v12), .second, .val (.int v18), .val (.int v24), .unset] [(.int (lcmpW v12 (1 : Int64)))])) t := by
    rw [hv34]
    by_cases hc58_27 : v12 < (1 : Int64)
    · repeat rw [if_pos hc58_27]
      have st28 : ∀ t, Steps p.tables e below (T10.setTop (mkF m 73 #[.val (.int p0), .val (.int v7), .val (.long v12), .second, .val (.int v18), .val (.int v24), .unset] [(.int (0 : Int32))])) t → Steps p.tables e below (T10.setTop (mkF m 58 #[.val (.int p0), .val (.int v7), .val (.long v12), .second, .val (.int v18), .val (.int v24), .unset] [(.int (lcmpW v12 (1 : Int64)))])) t := by
        intro t k
        show Steps p.tables e below (T10.setTop (mkF m 58 #[.val (.int p0), .val (.int v7), .val (.long v12), .second, .val (.int v18), .val (.int v24), .unset] [(.int (lcmpW v12 (1 : Int64)))])) _
        refine XS.ifYes X10'.here hx rfl (pc0 := 58) (pc' := 72) rfl (hb hby at_58) rfl ((if0 _ _).trans (tlt ((lw_lt v12 (1 : Int64)).mpr hc58_27)).1) (by decide) (by decide) ?_
        show Steps p.tables e below (T10.setTop (mkF m 72 #[.val (.int p0), .val (.int v7), .val (.long v12), .second, .val (.int v18), .val (.int v24), .unset] [])) _
        refine XS.iconst X10'.here hx rfl (hb hby at_72) ?_
        exact k
      exact fun t k => st28 _ k
    · repeat rw [if_neg hc58_27]
      have st29 : ∀ t, Steps p.tables e below (T10.setTop (mkF m 65 #[.val (.int p0), .val (.int v7), .val (.long v12), .second, .val (.int v18), .val (.int v24), .unset] [(.int (lcmpW v12 (v7.toInt64)))])) t → Steps p.tables e below (T10.setTop (mkF m 58 #[.val (.int p0), .val (.int v7), .val (.long v12), .second, .val (.int v18), .val (.int v24), .unset] [(.int (lcmpW v12 (1 : Int64)))])) t := by
        intro t k
        show Steps p.tables e below (T10.setTop (mkF m 58 #[.val (.int p0), .val (.int v7), .val (.long v12), .second, .val (.int v18), .val (.int v24), .unset] [(.int (lcmpW v12 (1 : Int64)))])) _
        refine XS.ifNo X10'.here hx rfl (hb hby at_58) rfl ((if0 _ _).trans (flt (mt (lw_lt v12 (1 : Int64)).mp hc58_27)).1) ?_
        show Steps p.tables e below (T10.setTop (mkF m 61 #[.val (.int p0), .val (.int v7), .val (.long v12), .second, .val (.int v18), .val (.int v24), .unset] [])) _
        refine XS.lloadN X10'.here hx rfl (hb hby at_61) rfl ?_
        show Steps p.tables e below (T10.setTop (mkF m 62 #[.val (.int p0), .val (.int v7), .val (.long v12), .second, .val (.int v18), .val (.int v24), .unset] [(.long v12)])) _
        refine XS.iloadN X10'.here hx rfl (hb hby at_62) rfl ?_
        show Steps p.tables e below (T10.setTop (mkF m 63 #[.val (.int p0), .val (.int v7), .val (.long v12), .second, .val (.int v18), .val (.int v24), .unset] [(.int v7), (.long v12)])) _
        refine XS.i2l X10'.here hx rfl (hb hby at_63) rfl ?_
        show Steps p.tables e below (T10.setTop (mkF m 64 #[.val (.int p0), .val (.int v7), .val (.long v12), .second, .val (.int v18), .val (.int v24), .unset] [(.long (v7.toInt64)), (.long v12)])) _
        refine XS.lcmp X10'.here hx rfl (hb hby at_64) rfl ?_
        exact k
      have st33 : ∀ t, Steps p.tables e below (T10.setTop (mkF m 73 #[.val (.int p0), .val (.int v7), .val (.long v12), .second, .val (.int v18), .val (.int v24), .unset] [(.int (if (v7.toInt64) < v12 then (0 : Int32) else (1 : Int32)))])) t → Steps p.tables e below (T10.setTop (mkF m 65 #[.val (.int p0), .val (.int v7), .val (.long v12), .second, .val (.int v18), .val (.int v24), .unset] [(.int (lcmpW v12 (v7.toInt64)))])) t := by
        by_cases hc65_30 : (v7.toInt64) < v12
        · repeat rw [if_pos hc65_30]
          have st31 : ∀ t, Steps p.tables e below (T10.setTop (mkF m 73 #[.val (.int p0), .val (.int v7), .val (.long v12), .second, .val (.int v18), .val (.int v24), .unset] [(.int (0 : Int32))])) t → Steps p.tables e below (T10.setTop (mkF m 65 #[.val (.int p0), .val (.int v7), .val (.long v12), .second, .val (.int v18), .val (.int v24), .unset] [(.int (lcmpW v12 (v7.toInt64)))])) t := by
            intro t k
            show Steps p.tables e below (T10.setTop (mkF m 65 #[.val (.int p0), .val (.int v7), .val (.long v12), .second, .val (.int v18), .val (.int v24), .unset] [(.int (lcmpW v12 (v7.toInt64)))])) _
            refine XS.ifYes X10'.here hx rfl (pc0 := 65) (pc' := 72) rfl (hb hby at_65) rfl ((if0 _ _).trans (tlt ((lw_gt v12 (v7.toInt64)).mpr hc65_30)).2.2.1) (by decide) (by decide) ?_
            show Steps p.tables e below (T10.setTop (mkF m 72 #[.val (.int p0), .val (.int v7), .val (.long v12), .second, .val (.int v18), .val (.int v24), .unset] [])) _
            refine XS.iconst X10'.here hx rfl (hb hby at_72) ?_
            exact k
          exact fun t k => st31 _ k
        · repeat rw [if_neg hc65_30]
          have st32 : ∀ t, Steps p.tables e below (T10.setTop (mkF m 73 #[.val (.int p0), .val (.int v7), .val (.long v12), .second, .val (.int v18), .val (.int v24), .unset] [(.int (1 : Int32))])) t → Steps p.tables e below (T10.setTop (mkF m 65 #[.val (.int p0), .val (.int v7), .val (.long v12), .second, .val (.int v18), .val (.int v24), .unset] [(.int (lcmpW v12 (v7.toInt64)))])) t := by
            intro t k
            show Steps p.tables e below (T10.setTop (mkF m 65 #[.val (.int p0), .val (.int v7), .val (.long v12), .second, .val (.int v18), .val (.int v24), .unset] [(.int (lcmpW v12 (v7.toInt64)))])) _
            refine XS.ifNo X10'.here hx rfl (hb hby at_65) rfl ((if0 _ _).trans (flt (mt (lw_gt v12 (v7.toInt64)).mp hc65_30)).2.2.1) ?_
            show Steps p.tables e below (T10.setTop (mkF m 68 #[.val (.int p0), .val (.int v7), .val (.long v12), .second, .val (.int v18), .val (.int v24), .unset] [])) _
            refine XS.iconst X10'.here hx rfl (hb hby at_68) ?_
            show Steps p.tables e below (T10.setTop (mkF m 69 #[.val (.int p0), .val (.int v7), .val (.long v12), .second, .val (.int v18), .val (.int v24), .unset] [(.int (1 : Int32))])) _
            refine XS.goto X10'.here hx rfl (pc0 := 69) (pc' := 73) rfl (hb hby at_69) (by decide) (by decide) ?_
            exact k
          exact fun t k => st32 _ k
      exact fun t k => st29 _ (st33 _ k)
  have st36 : ∀ t, Steps p.tables e below (T10.setTop (mkF m 77 #[.val (.int p0), .val (.int v7), .val (.long v12), .second, .val (.int v18), .val (.int v24), .val (.int v34)] [(.int v18)])) t → Steps p.tables e below (T10.setTop (mkF m 73 #[.val (.int p0), .val (.int v7), .val (.long v12), .second, .val (.int v18), .val (.int v24), .unset] [(.int v34)])) t := by
    intro t k
    show Steps p.tables e below (T10.setTop (mkF m 73 #[.val (.int p0), .val (.int v7), .val (.long v12), .second, .val (.int v18), .val (.int v24), .unset] [(.int v34)])) _
    refine XS.istore X10'.here hx rfl (hb hby at_73) rfl (l' := #[.val (.int p0), .val (.int v7), .val (.long v12), .second, .val (.int v18), .val (.int v24), .val (.int v34)]) rfl ?_
    show Steps p.tables e below (T10.setTop (mkF m 75 #[.val (.int p0), .val (.int v7), .val (.long v12), .second, .val (.int v18), .val (.int v24), .val (.int v34)] [])) _
    refine XS.iload X10'.here hx rfl (hb hby at_75) rfl ?_
    exact k
  refine own_End.go (fun t k => st2 _ (st3 _ (st8 _ (st9 _ (st10 _ (st13 _ (st14 _ (st19 _ (st20 _ (st25 _ (st26 _ (st35 _ (st36 _ k))))))))))))) ?_
  by_cases hc77_37 : v18 = (0 : Int32)
  · have st38 : ∀ t, Steps p.tables e below (T10.setTop (mkF m 95 #[.val (.int p0), .val (.int v7), .val (.long v12), .second, .val (.int v18), .val (.int v24), .val (.int v34)] [(.int (0 : Int32))])) t → Steps p.tables e below (T10.setTop (mkF m 77 #[.val (.int p0), .val (.int v7), .val (.long v12), .second, .val (.int v18), .val (.int v24), .val (.int v34)] [(.int v18)])) t := by
      intro t k
      show Steps p.tables e below (T10.setTop (mkF m 77 #[.val (.int p0), .val (.int v7), .val (.long v12), .second, .val (.int v18), .val (.int v24), .val (.int v34)] [(.int v18)])) _
      refine XS.ifYes X10'.here hx rfl (pc0 := 77) (pc' := 94) rfl (hb hby at_77) rfl ((if0 _ _).trans (teq hc77_37).1) (by decide) (by decide) ?_
      show Steps p.tables e below (T10.setTop (mkF m 94 #[.val (.int p0), .val (.int v7), .val (.long v12), .second, .val (.int v18), .val (.int v24), .val (.int v34)] [])) _
      refine XS.iconst X10'.here hx rfl (hb hby at_94) ?_
      exact k
    refine own_End.go (fun t k => st38 _ k) ?_
    exact own_leafN X10' hx Bd.notSynchronized (t := .boolean) Bd.returns (by simp) (hb hby at_95) ⟨congrArg (fun z => some (Value.int z)) (by
        subst hv1 hv7 hv11 hv12 hv18 hv24 hv34; simp only [own_F0, own_nb0, own_nb1, if_pos hc77_37]), Fr.nil n0⟩ (by decide) (by decide)
  · have st39 : ∀ t, Steps p.tables e below (T10.setTop (mkF m 82 #[.val (.int p0), .val (.int v7), .val (.long v12), .second, .val (.int v18), .val (.int v24), .val (.int v34)] [(.int v24)])) t → Steps p.tables e below (T10.setTop (mkF m 77 #[.val (.int p0), .val (.int v7), .val (.long v12), .second, .val (.int v18), .val (.int v24), .val (.int v34)] [(.int v18)])) t := by
      intro t k
      show Steps p.tables e below (T10.setTop (mkF m 77 #[.val (.int p0), .val (.int v7), .val (.long v12), .second, .val (.int v18), .val (.int v24), .val (.int v34)] [(.int v18)])) _
      refine XS.ifNo X10'.here hx rfl (hb hby at_77) rfl ((if0 _ _).trans (feq hc77_37).1) ?_
      show Steps p.tables e below (T10.setTop (mkF m 80 #[.val (.int p0), .val (.int v7), .val (.long v12), .second, .val (.int v18), .val (.int v24), .val (.int v34)] [])) _
      refine XS.iload X10'.here hx rfl (hb hby at_80) rfl ?_
      exact k
    refine own_End.go (fun t k => st39 _ k) ?_
    by_cases hc82_40 : v24 = (0 : Int32)
    · have st41 : ∀ t, Steps p.tables e below (T10.setTop (mkF m 95 #[.val (.int p0), .val (.int v7), .val (.long v12), .second, .val (.int v18), .val (.int v24), .val (.int v34)] [(.int (0 : Int32))])) t → Steps p.tables e below (T10.setTop (mkF m 82 #[.val (.int p0), .val (.int v7), .val (.long v12), .second, .val (.int v18), .val (.int v24), .val (.int v34)] [(.int v24)])) t := by
        intro t k
        show Steps p.tables e below (T10.setTop (mkF m 82 #[.val (.int p0), .val (.int v7), .val (.long v12), .second, .val (.int v18), .val (.int v24), .val (.int v34)] [(.int v24)])) _
        refine XS.ifYes X10'.here hx rfl (pc0 := 82) (pc' := 94) rfl (hb hby at_82) rfl ((if0 _ _).trans (teq hc82_40).1) (by decide) (by decide) ?_
        show Steps p.tables e below (T10.setTop (mkF m 94 #[.val (.int p0), .val (.int v7), .val (.long v12), .second, .val (.int v18), .val (.int v24), .val (.int v34)] [])) _
        refine XS.iconst X10'.here hx rfl (hb hby at_94) ?_
        exact k
      refine own_End.go (fun t k => st41 _ k) ?_
      exact own_leafN X10' hx Bd.notSynchronized (t := .boolean) Bd.returns (by simp) (hb hby at_95) ⟨congrArg (fun z => some (Value.int z)) (by
          subst hv1 hv7 hv11 hv12 hv18 hv24 hv34; simp only [own_F0, own_nb0, own_nb1, if_neg hc77_37, if_pos hc82_40]), Fr.nil n0⟩ (by decide) (by decide)
    · have st42 : ∀ t, Steps p.tables e below (T10.setTop (mkF m 87 #[.val (.int p0), .val (.int v7), .val (.long v12), .second, .val (.int v18), .val (.int v24), .val (.int v34)] [(.int v34)])) t → Steps p.tables e below (T10.setTop (mkF m 82 #[.val (.int p0), .val (.int v7), .val (.long v12), .second, .val (.int v18), .val (.int v24), .val (.int v34)] [(.int v24)])) t := by
        intro t k
        show Steps p.tables e below (T10.setTop (mkF m 82 #[.val (.int p0), .val (.int v7), .val (.long v12), .second, .val (.int v18), .val (.int v24), .val (.int v34)] [(.int v24)])) _
        refine XS.ifNo X10'.here hx rfl (hb hby at_82) rfl ((if0 _ _).trans (feq hc82_40).1) ?_
        show Steps p.tables e below (T10.setTop (mkF m 85 #[.val (.int p0), .val (.int v7), .val (.long v12), .second, .val (.int v18), .val (.int v24), .val (.int v34)] [])) _
        refine XS.iload X10'.here hx rfl (hb hby at_85) rfl ?_
        exact k
      refine own_End.go (fun t k => st42 _ k) ?_
      by_cases hc87_43 : v34 = (0 : Int32)
      · have st44 : ∀ t, Steps p.tables e below (T10.setTop (mkF m 95 #[.val (.int p0), .val (.int v7), .val (.long v12), .second, .val (.int v18), .val (.int v24), .val (.int v34)] [(.int (0 : Int32))])) t → Steps p.tables e below (T10.setTop (mkF m 87 #[.val (.int p0), .val (.int v7), .val (.long v12), .second, .val (.int v18), .val (.int v24), .val (.int v34)] [(.int v34)])) t := by
          intro t k
          show Steps p.tables e below (T10.setTop (mkF m 87 #[.val (.int p0), .val (.int v7), .val (.long v12), .second, .val (.int v18), .val (.int v24), .val (.int v34)] [(.int v34)])) _
          refine XS.ifYes X10'.here hx rfl (pc0 := 87) (pc' := 94) rfl (hb hby at_87) rfl ((if0 _ _).trans (teq hc87_43).1) (by decide) (by decide) ?_
          show Steps p.tables e below (T10.setTop (mkF m 94 #[.val (.int p0), .val (.int v7), .val (.long v12), .second, .val (.int v18), .val (.int v24), .val (.int v34)] [])) _
          refine XS.iconst X10'.here hx rfl (hb hby at_94) ?_
          exact k
        refine own_End.go (fun t k => st44 _ k) ?_
        exact own_leafN X10' hx Bd.notSynchronized (t := .boolean) Bd.returns (by simp) (hb hby at_95) ⟨congrArg (fun z => some (Value.int z)) (by
            subst hv1 hv7 hv11 hv12 hv18 hv24 hv34; simp only [own_F0, own_nb0, own_nb1, if_neg hc77_37, if_neg hc82_40, if_pos hc87_43]), Fr.nil n0⟩ (by decide) (by decide)
      · have st45 : ∀ t, Steps p.tables e below (T10.setTop (mkF m 95 #[.val (.int p0), .val (.int v7), .val (.long v12), .second, .val (.int v18), .val (.int v24), .val (.int v34)] [(.int (1 : Int32))])) t → Steps p.tables e below (T10.setTop (mkF m 87 #[.val (.int p0), .val (.int v7), .val (.long v12), .second, .val (.int v18), .val (.int v24), .val (.int v34)] [(.int v34)])) t := by
          intro t k
          show Steps p.tables e below (T10.setTop (mkF m 87 #[.val (.int p0), .val (.int v7), .val (.long v12), .second, .val (.int v18), .val (.int v24), .val (.int v34)] [(.int v34)])) _
          refine XS.ifNo X10'.here hx rfl (hb hby at_87) rfl ((if0 _ _).trans (feq hc87_43).1) ?_
          show Steps p.tables e below (T10.setTop (mkF m 90 #[.val (.int p0), .val (.int v7), .val (.long v12), .second, .val (.int v18), .val (.int v24), .val (.int v34)] [])) _
          refine XS.iconst X10'.here hx rfl (hb hby at_90) ?_
          show Steps p.tables e below (T10.setTop (mkF m 91 #[.val (.int p0), .val (.int v7), .val (.long v12), .second, .val (.int v18), .val (.int v24), .val (.int v34)] [(.int (1 : Int32))])) _
          refine XS.goto X10'.here hx rfl (pc0 := 91) (pc' := 95) rfl (hb hby at_91) (by decide) (by decide) ?_
          exact k
        refine own_End.go (fun t k => st45 _ k) ?_
        exact own_leafN X10' hx Bd.notSynchronized (t := .boolean) Bd.returns (by simp) (hb hby at_95) ⟨congrArg (fun z => some (Value.int z)) (by
            subst hv1 hv7 hv11 hv12 hv18 hv24 hv34; simp only [own_F0, own_nb0, own_nb1, if_neg hc77_37, if_neg hc82_40, if_neg hc87_43]), Fr.nil n0⟩ (by decide) (by decide)
theorem own_plain (p0 : Int32) : own_F0 p0 = 1 := by
  have e1 : (p0 &&& (2147483647 : Int32)).toInt = p0.toInt % (2 ^ 31 : Nat) := c_mask p0 2147483647 31 (by decide) (by decide)
  have z0 : (0 : Int32).toInt = 0 := by decide
  have z1 : (1 : Int32).toInt = 1 := by decide
  have y1 : (1 : Int64).toInt = 1 := by decide
  have y2 : (2 : Int64).toInt = 2 := by decide
  obtain ⟨n, hn⟩ : ∃ z : Int32, z = (if (p0 &&& (2147483647 : Int32)) = (0 : Int32) then (1 : Int32) else (p0 &&& (2147483647 : Int32))) := ⟨_, rfl⟩
  have hb : 1 ≤ n.toInt ∧ n.toInt < 2147483648 := by
    have h := own_n1 rfl hn
    rw [Int32.lt_iff_toInt_lt] at h
    have := rng32 n
    omega
  have d1 := (c_idiv n 2 2 (by decide) (by decide)).1 (by omega)
  have a1 := c_iadd (n / 2) 1
  have r1 := rng32 (n / 2 + 1)
  have w0 : (n / 2 + 1).toInt64.toInt = (n / 2 + 1).toInt := c_i2l _
  have w1 : n.toInt64.toInt = n.toInt := c_i2l _
  have m1 := c_lmul 2 (n / 2 + 1).toInt64
  have s1 := c_lsub (n / 2 + 1).toInt64 1
  have m2 := c_lmul 2 ((n / 2 + 1).toInt64 - 1)
  rw [y2] at m1 m2
  have r2 := rng64 (2 * (n / 2 + 1).toInt64)
  have r3 := rng64 ((n / 2 + 1).toInt64 - 1)
  have r4 := rng64 (2 * ((n / 2 + 1).toInt64 - 1))
  have k1 : n.toInt64 < 2 * (n / 2 + 1).toInt64 := by rw [Int64.lt_iff_toInt_lt]; omega
  have k2 : ¬ n.toInt64 < 2 * ((n / 2 + 1).toInt64 - 1) := by rw [Int64.lt_iff_toInt_lt]; omega
  have k3 : ¬ (n / 2 + 1).toInt64 < 1 := by rw [Int64.lt_iff_toInt_lt]; omega
  have k4 : ¬ n.toInt64 < (n / 2 + 1).toInt64 := by rw [Int64.lt_iff_toInt_lt]; omega
  simp only [own_F0, own_F1, ← hn]
  simp only [if_pos k1, if_neg k2, if_neg k3, if_neg k4]
  decide

set_option maxRecDepth 65536 in
set_option maxHeartbeats 40000000 in
theorem comes_1 {Post : Tables → Env → Array Value → State → Outcome → State → Prop} (hpost : ∀ tb e args s v u, (limb_1_1.after args s (.returned v) u = true ∧ limb_1_2.after args s (.returned v) u = true ∧ True) → FrameEnd s (.returned v) u (Jvm.fieldLocs frame_1_writes args s ++ Jvm.arrayLocs frame_1_arrays args s ++ Jvm.staticLocs frame_1_statics s) 0 0 → Post tb e args s (.returned v) u) :
    ArmFor flags0 classFile x code maxLocals ret World_1 tables_1 room_1 Calls_1 rest_1 Pre_1 Post := by
  intro l hfl _ _ p e ha hc hk s m args below hf hA hF happ hP
  obtain ⟨hcalls, hrest, hpre⟩ := hP
  obtain ⟨-, -, -, hnamed, -, -, -, hat⟩ := (Spec.applies_iff hf).mp happ
  obtain ⟨hg, hn⟩ := and_e (Cond.before_iff.mp (show (Jvm.Cond.and given_1 narrow_1).before args s = true from hpre))
  obtain ⟨g1, g2⟩ := and_e hg
  obtain ⟨w0, rfl⟩ : ∃ w0 : Value, args = #[w0] := by
    have hs : args.size = 1 := by simpa [Cond.value, given_1] using g1
    obtain ⟨L⟩ := args
    match L, hs with
    | [w0], _ => exact ⟨w0, rfl⟩
  have hw := fun d (hd : d ∈ tables_1) => atoms_spec (ws := Jvm.Cond.code x code maxLocals ret :: tables_1) hat d (List.mem_cons_of_mem _ hd)
  obtain ⟨i0, ei0⟩ := is_v g2
  obtain rfl : w0 = (.int i0) := Option.some.inj ei0
  obtain ⟨n, o, h1, h2, h3, _, L, rfl, ⟨hv, N⟩, hq⟩ := own_rm0 l s _ hw tables_1 i0 s.heap s.heap.size (Nat.le_refl _) p e ha hc hk s m _ below hf ((Spec.applies_iff_loose hf).mp happ).1 ⟨rfl, State.Warmed39.refl s, rfl⟩ trivial
  rw [own_plain i0] at hv
  subst hv
  refine ⟨n, _, h1, h2, h3, hpost _ _ _ _ _ _ ⟨Cond.after_iff.mpr rfl, Cond.after_iff.mpr (eq_i res_at (Term.int_eval (1)) rfl), trivial⟩ ⟨hq.1, hq.2.1, (hq.2.2.sift fun y hy => Or.inr (N y hy)).mono (by decide) (by decide)⟩⟩
theorem main_1_1 : Claimed_1_1 := comes_1 fun _ _ _ _ _ _ h hF => ⟨h.1, hF⟩
theorem main_1_2 : Claimed_1_2 := comes_1 fun _ _ _ _ _ _ h hF => ⟨h.2.1, hF⟩
end Jvm.Pilot.@@N@@
namespace Jvm.Pilot.@@N@@
open Jvm Jvm.ClassFile Sem Op Lib Jvm.Free Jvm.Stand Jvm.Pilot.@@N@@.Jvm.D
/-! MADE BY PROGRAM (witnessworld.py) out of the Statement's table words and the real class files: 9 classes; the members and pool entries that the words name. The judged class is class 1, her method 1. -/
namespace start1
open Jvm.ClassFile
def u (s : String) : CpInfo := .utf8 (stringToUtf16 s)
/-- a pool by its gaps: so many unusable entries, then the entry; so many at the end -/
def gap : Nat → List CpInfo → List CpInfo
  | 0, r => r
  | n + 1, r => .unusable :: gap n r
def poolList (es : List (Nat × CpInfo)) (last : Nat) : List CpInfo := es.foldr (fun e r => gap e.1 (e.2 :: r)) (gap last [])
def pool (es : List (Nat × CpInfo)) (last : Nat) : Array CpInfo := ⟨poolList es last⟩
def fileOf (pool : Array CpInfo) (this : Nat) (attrs : Array Attribute := #[]) (ms : Array MethodInfo := #[]) (fl : Nat := 33) (sup : Nat := 0) (ifs : Array Nat := #[]) (fds : Array FieldInfo := #[]) : ClassFile where
  minorVersion := 0
  majorVersion := 65
  constantPool := pool
  accessFlags := fl
  thisClass := this
  superClass := sup
  interfaces := ifs
  fields := fds
  methods := ms
  attributes := attrs
def plain (name : String) (sup : Option ClassId) : Class where
  name := name
  kind := .ordinary
  loader := none
  accessFlags := 33
  super := sup
  interfaces := #[]
  cf := none
  fields := #[]
  methods := #[]
  instanceTypes := #[]
  staticTypes := #[]
  resolved := #[]
  callSites := []
  init := .initialized
  statics := none
  mirror := none

def pool0 : Array CpInfo := pool [(5, u "<init>"), (0, u "()V"), (1, .class_ 10), (1, u "java/lang/Object")] 113

def k0m0 : Method := { name := "<init>", desc := "()V", sig := { parameters := [], returnType := none }, accessFlags := 1, code := none }
/-- java/lang/Object -/
def k0 : Class := { plain "java/lang/Object" none with
  accessFlags := 33
  interfaces := #[]
  cf := some (fileOf pool0 8 #[] #[{ accessFlags := 1, nameIndex := 5, descriptorIndex := 6, attributes := #[] }] 33 0 #[] #[])
  fields := #[]
  methods := #[k0m0]
  instanceTypes := #[]
  staticTypes := #[]
  resolved := Array.replicate 124 none
  statics := none }

def pool1 : Array CpInfo := pool [(2, .class_ 4), (1, u "java/lang/Object"), (0, u "<init>"), (0, u "()V"), (0, .integer 2147483647), (0, .methodref 9 10), (0, .class_ 11), (0, .nameAndType 12 13), (0, u "com/example/dibs/dibs/Quorum"), (0, u "majority"), (0, u "(I)I"), (0, .long 2), (1, .class_ 17), (0, u "com/example/dibs/dibs/QuorumMajorityPinLaw"), (2, u "law"), (0, u "(I)Z")] 3

def k1m0 : Method := { name := "<init>", desc := "()V", sig := { parameters := [], returnType := none }, accessFlags := 2, code := none }
def k1c1 : Code := { maxStack := 6, maxLocals := 7, code := code, exceptionTable := #[], attributes := #[] }
def k1m1 : Method := { name := "law", desc := "(I)Z", sig := { parameters := [.int], returnType := some .boolean }, accessFlags := 9, code := some k1c1 }
/-- com/example/dibs/dibs/QuorumMajorityPinLaw -/
def k1 : Class := { plain "com/example/dibs/dibs/QuorumMajorityPinLaw" (some 0) with
  accessFlags := 49
  interfaces := #[]
  cf := some (fileOf pool1 16 #[] #[{ accessFlags := 2, nameIndex := 5, descriptorIndex := 6, attributes := #[] }, { accessFlags := 9, nameIndex := 20, descriptorIndex := 21, attributes := #[] }] 49 2 #[] #[])
  fields := #[]
  methods := #[k1m0, k1m1]
  instanceTypes := #[]
  staticTypes := #[]
  resolved := Array.replicate 25 none
  statics := none }

def pool2 : Array CpInfo := pool [(2, .class_ 4), (1, u "java/lang/Object"), (0, u "<init>"), (0, u "()V"), (10, .class_ 19), (1, u "com/example/dibs/dibs/Quorum"), (22, u "majority"), (0, u "(I)I")] 27

def k2m0 : Method := { name := "<init>", desc := "()V", sig := { parameters := [], returnType := none }, accessFlags := 2, code := none }
def k2c1 : Code := { maxStack := 3, maxLocals := 1, code := prog_11_method_2_code, exceptionTable := #[], attributes := #[] }
def k2m1 : Method := { name := "majority", desc := "(I)I", sig := { parameters := [.int], returnType := some .int }, accessFlags := 8, code := some k2c1 }
/-- com/example/dibs/dibs/Quorum -/
def k2 : Class := { plain "com/example/dibs/dibs/Quorum" (some 0) with
  accessFlags := 32
  interfaces := #[]
  cf := some (fileOf pool2 17 #[] #[{ accessFlags := 2, nameIndex := 5, descriptorIndex := 6, attributes := #[] }, { accessFlags := 8, nameIndex := 42, descriptorIndex := 43, attributes := #[] }] 32 2 #[] #[])
  fields := #[]
  methods := #[k2m0, k2m1]
  instanceTypes := #[]
  staticTypes := #[]
  resolved := Array.replicate 71 none
  statics := none }

def pool3 : Array CpInfo := pool [(1, u "java/lang/Cloneable"), (0, .class_ 1), (0, u "java/lang/Object"), (0, .class_ 3)] 3

/-- java/lang/Cloneable -/
def k3 : Class := { plain "java/lang/Cloneable" (some 0) with
  accessFlags := 1537
  interfaces := #[]
  cf := some (fileOf pool3 2 #[] #[] 1537 4 #[] #[])
  fields := #[]
  methods := #[]
  instanceTypes := #[]
  staticTypes := #[]
  resolved := Array.replicate 8 none
  statics := none }

def pool4 : Array CpInfo := pool [(1, u "java/io/Serializable"), (0, .class_ 1), (0, u "java/lang/Object"), (0, .class_ 3)] 3

/-- java/io/Serializable -/
def k4 : Class := { plain "java/io/Serializable" (some 0) with
  accessFlags := 1537
  interfaces := #[]
  cf := some (fileOf pool4 2 #[] #[] 1537 4 #[] #[])
  fields := #[]
  methods := #[]
  instanceTypes := #[]
  staticTypes := #[]
  resolved := Array.replicate 8 none
  statics := none }

/-- the primitive byte -/
def k5 : Class := { plain "byte" none with kind := .primitive 'B', accessFlags := 0x411 }
/-- [B -/
def k6 : Class := { plain "[B" (some 0) with kind := .array 5 .byte, interfaces := #[3, 4], accessFlags := 1041 }

/-- the primitive int -/
def k7 : Class := { plain "int" none with kind := .primitive 'I', accessFlags := 0x411 }
/-- [I -/
def k8 : Class := { plain "[I" (some 0) with kind := .array 7 .int, interfaces := #[3, 4], accessFlags := 1041 }

def heap : Heap := #[]
def classes : Array Class := #[k0, k1, k2, k3, k4, k5, k6, k7, k8]
def interned : List (Array UInt16 × Addr) := []
def slotsUsed : Nat := 0
def theMethod : MethodId := ⟨1, 1⟩
def args0 : Array Value := #[.int 5]
def aboutOver (below : List Frame) : State where
  vm := { classes := classes, interned := interned.toArray }
  heap := heap
  slotsUsed := slotsUsed
  threads := #[{ frames := .invoking theMethod args0 :: below }]
def below0 : List Frame := [.native { method := ⟨0, 0⟩, args := #[] }]
def about1 : State := aboutOver below0
def p0 : Program := .bare "" "" ""
def e0 : Env := launch0.env 0 0 0
theorem w_frames : about1.frames = Frame.invoking theMethod args0 :: below0 := rfl
set_option maxRecDepth 65536 in
theorem w_args : argsFit about1.vm theMethod args0 = true := by decide +kernel
set_option maxRecDepth 65536 in
theorem w_heap : heapFits about1 = true := by decide +kernel
set_option maxRecDepth 65536 in
theorem w_runnable : about1.curStatus? = some .runnable := by decide +kernel
set_option maxRecDepth 65536 in
theorem w_alone : about1.alone = true := by decide +kernel
set_option maxRecDepth 65536 in
theorem w_named : about1.methodNamed? x = some theMethod := by decide +kernel
set_option maxRecDepth 65536 in
theorem w_hears : about1.hears theMethod below0 = true := by decide +kernel
set_option maxRecDepth 65536 in
theorem w_ripe : about1.ripe theMethod args0 below0 = true := by decide +kernel
theorem w_running : about1.status = .running := rfl
set_option maxRecDepth 65536 in
theorem w_room : about1.hasRoom e0.platform room_1 = true :=
  launch0.hasRoom_least _ room_1 (by decide +kernel) (by decide +kernel) (by decide +kernel) (by decide +kernel) (by decide +kernel) (by decide +kernel)
theorem allAtoms_all (ts : List Jvm.Cond) (a : Array Jvm.Value) (st : Jvm.State) : (allAtoms ts).before a st = ts.all (fun c => c.before a st) := by
  induction ts with
  | nil => rfl
  | cons c t ih =>
    show (Jvm.Cond.and c (allAtoms t)).before a st = _
    rw [Jvm.Cond.before_and, ih, List.all_cons]
def words1 : List Jvm.Cond := Jvm.Cond.code x code maxLocals ret :: tables_1
/-- a 'code' word, met by the world's own term for the bytes: nothing is compared byte by byte -/
theorem code_word {y : MethodName} {bytes : ByteArray} {mx : Nat} {rt : Option FieldType} {a : Array Value} {s : State} {m : MethodId} {meth : Method} {c : Code} (h1 : s.methodNamed? y = some m) (h2 : s.vm.method? m = some meth) (h3 : meth.code = some c) (h4 : c.code = bytes)
    (h5 : (c.maxLocals == mx && c.exceptionTable.isEmpty && decide (c.maxStack ≤ mostOperands) && decide (meth.sig.returnType = rt) && !meth.locks && decide (parseMethodDescriptor y.desc = some meth.sig)) = true) : (Jvm.Cond.code y bytes mx rt).before a s = true := by
  simp only [Bool.and_eq_true, beq_iff_eq, Bool.not_eq_true', decide_eq_true_eq] at h5
  obtain ⟨⟨⟨⟨⟨g1, g2⟩, g3⟩, g4⟩, g5⟩, g6⟩ := h5
  simp [Cond.before, Cond.holds, Cond.value, h1, h2, h3, h4, g1, g2, g3, g4, g5, g6]
def isCode : Jvm.Cond → Bool
  | .code _ _ _ _ => true
  | _ => false
theorem all_split {L : List Jvm.Cond} {P : Jvm.Cond → Bool} (h1 : L.all (fun c => isCode c || P c) = true) (h2 : ∀ c ∈ L.filter isCode, P c = true) : L.all P = true := by
  refine List.all_eq_true.mpr fun c hc => ?_
  have h := List.all_eq_true.mp h1 c hc
  rcases Bool.eq_false_or_eq_true (isCode c) with hi | hi
  · exact h2 c (List.mem_filter.mpr ⟨hc, hi⟩)
  · simpa [hi] using h
set_option maxRecDepth 65536 in
theorem w_c0 : (Jvm.Cond.code x code maxLocals ret).before args0 about1 = true := code_word (m := ⟨1, 1⟩) (meth := k1m1) (c := k1c1) (by decide +kernel) rfl rfl rfl (by decide +kernel)
set_option maxRecDepth 65536 in
theorem w_c1 : (Jvm.Cond.code ({ cls := "com/example/dibs/dibs/Quorum", name := "majority", desc := "(I)I" } : Jvm.MethodName) prog_11_method_2_code (1 : Nat) (Option.some Jvm.ClassFile.FieldType.int)).before args0 about1 = true := code_word (m := ⟨2, 1⟩) (meth := k2m1) (c := k2c1) (by decide +kernel) rfl rfl rfl (by decide +kernel)
def codes1 : List Jvm.Cond := [Jvm.Cond.code x code maxLocals ret, Jvm.Cond.code ({ cls := "com/example/dibs/dibs/Quorum", name := "majority", desc := "(I)I" } : Jvm.MethodName) prog_11_method_2_code (1 : Nat) (Option.some Jvm.ClassFile.FieldType.int)]
set_option maxRecDepth 65536 in
theorem codes_eq : words1.filter isCode = codes1 := rfl
theorem w_codes : ∀ c ∈ words1.filter isCode, c.before args0 about1 = true := by
  rw [codes_eq]
  intro c hc
  simp only [codes1, List.mem_cons, List.not_mem_nil, or_false] at hc
  rcases hc with rfl | rfl
  · exact w_c0
  · exact w_c1
set_option maxRecDepth 65536 in
theorem w_t1 : words1.all (fun c => isCode c || c.before args0 about1) = true := by decide +kernel
theorem w_tables : (allAtoms (Jvm.Cond.code x code maxLocals ret :: tables_1)).before args0 about1 = true := by
  rw [allAtoms_all]
  show words1.all (fun c => c.before args0 about1) = true
  refine all_split ?_ w_codes
  rw [w_t1]
set_option maxRecDepth 65536 in
theorem w_case : (Jvm.Cond.and given_1 narrow_1).before args0 about1 = true := by decide +kernel
theorem w_applies : (headSpec (Jvm.Cond.code x code maxLocals ret :: tables_1) room_1).applies x e0.platform about1 = true :=
  (Spec.applies_iff w_frames).mpr ⟨w_running, w_runnable, w_alone, w_named, w_hears, w_ripe, w_room, w_tables⟩
theorem atStart : AtStart classFile x code maxLocals ret World_1 tables_1 room_1 Calls_1 rest_1 Pre_1 launch0 p0 e0 about1 theMethod args0 below0 :=
  ⟨lists_1, trivial, launch0.admits_env _ _ _, launch0.least_env, fairChoices_fair.cas, fairChoices_fair.clock, w_frames, w_args, w_heap, w_applies, trivial, trivial, w_case⟩
end start1
theorem witness_1 : WitnessClaimed_1 := ⟨start1.p0, start1.e0, start1.about1, start1.theMethod, start1.args0, start1.below0, start1.atStart⟩
end Jvm.Pilot.@@N@@
