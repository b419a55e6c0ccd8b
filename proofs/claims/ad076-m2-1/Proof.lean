import JvmDerived
import JvmDerived.Pilot.@@N@@Statement
import JvmDerived.Pilot.@@N@@Code
set_option linter.unusedVariables false
set_option linter.unusedSimpArgs false
namespace Jvm.RoadKit
open Sem ClassFile Op Lib Jvm.Stand Jvm.Free Jvm.LawKit
section New
variable {p : Program} {l : Launch} {e : Env} {R : Room} {s : State} {m : MethodId} {args : Array Value} {below : List Frame} {meth : Method} {c : Code} {T : State} {locs : List Loc} {cells slots : Nat}
theorem retI (X : Stand p l e R s m args below meth c T locs cells slots) (hx : p.tables.exec = Jvm.exec) {pc : Nat} {Ls : Array Slot} {z : Int32} {rest : List Value} (hret : meth.sig.returnType = some .int) (hd : decode c.code pc = .ok (.ireturn, 1)) {fs : List Frame}
    (hl : ∀ (f : JFrame) (acts : List Action), f.method = m → f.locked = none → f.entered = [] → (doReturn e (T.setTop f) acts (some (.int z))).1 = T.setFrames fs) : Steps p.tables e below (T.setTop (mkF m pc Ls (.int z :: rest))) (T.setFrames fs) := by
  have hm' : T.vm.method? m = some meth := X.method'
  have hn : narrow .int (.int z) = .int z := rfl
  show Steps p.tables e below (T.setTop { method := m, pc := pc, locals := Ls, stack := _ :: rest, locked := none }) _
  jvm_step X.here [X.here.top, hx, hd, hm', hret, hn]
  first | (intro acts; rw [hl _ acts rfl rfl rfl]) | rw [hl _ _ rfl rfl rfl]
  exact Steps.refl _
theorem retJ (X : Stand p l e R s m args below meth c T locs cells slots) (hx : p.tables.exec = Jvm.exec) {pc : Nat} {Ls : Array Slot} {z : Int64} {rest : List Value} (hret : meth.sig.returnType = some .long) (hd : decode c.code pc = .ok (.lreturn, 1)) {fs : List Frame}
    (hl : ∀ (f : JFrame) (acts : List Action), f.method = m → f.locked = none → f.entered = [] → (doReturn e (T.setTop f) acts (some (.long z))).1 = T.setFrames fs) : Steps p.tables e below (T.setTop (mkF m pc Ls (.long z :: rest))) (T.setFrames fs) := by
  have hm' : T.vm.method? m = some meth := X.method'
  show Steps p.tables e below (T.setTop { method := m, pc := pc, locals := Ls, stack := _ :: rest, locked := none }) _
  jvm_step X.here [X.here.top, hx, hd, hm', hret]
  first | (intro acts; rw [hl _ acts rfl rfl rfl]) | rw [hl _ _ rfl rfl rfl]
  exact Steps.refl _
theorem retR (X : Stand p l e R s m args below meth c T locs cells slots) (hx : p.tables.exec = Jvm.exec) {pc : Nat} {Ls : Array Slot} {z : Addr} {t : FieldType} {rest : List Value} (hret : meth.sig.returnType = some t) (ht : t.isReference = true) (hd : decode c.code pc = .ok (.areturn, 1)) {fs : List Frame}
    (hl : ∀ (f : JFrame) (acts : List Action), f.method = m → f.locked = none → f.entered = [] → (doReturn e (T.setTop f) acts (some (.ref z))).1 = T.setFrames fs) : Steps p.tables e below (T.setTop (mkF m pc Ls (.ref z :: rest))) (T.setFrames fs) := by
  have hm' : T.vm.method? m = some meth := X.method'
  show Steps p.tables e below (T.setTop { method := m, pc := pc, locals := Ls, stack := _ :: rest, locked := none }) _
  jvm_step X.here [X.here.top, hx, hd, hm', hret, Value.isRef, ht]
  first | (intro acts; rw [hl _ acts rfl rfl rfl]) | rw [hl _ _ rfl rfl rfl]
  exact Steps.refl _
end New
end Jvm.RoadKit
namespace Jvm.Pilot.@@N@@
open Jvm Jvm.ClassFile Sem Op Lib Jvm.Free Jvm.Stand Jvm.LawKit Jvm.RoadKit Bundle Jvm.Pilot.@@N@@.Jvm.D
/-- from the frame g, where T stands, the body comes to its end, and its end is as QQ says -/
def own_End (p : Program) (e : Env) (below : List Frame) (s : State) (QQ : Option Value → Heap → List Loc → Prop) (rc rs : Nat) (T : State) (g : JFrame) : Prop :=
  ∃ s₂ o, Steps p.tables e below (T.setTop g) s₂ ∧ s₂.status = .running ∧ Ended s₂ below o ∧ ∃ v L, o = .returned v ∧ QQ v s₂.heap L ∧ FrameEnd s o s₂ L rc rs
section Own
variable {p : Program} {l : Launch} {e : Env} {R : Room} {s : State} {m : MethodId} {args : Array Value} {below : List Frame} {meth : Method} {c : Code} {T T' : State} {locs : List Loc} {cells slots : Nat} {QQ : Option Value → Heap → List Loc → Prop} {rc rs : Nat}
theorem own_End.go {g g' : JFrame} (st : ∀ t, Steps p.tables e below (T'.setTop g') t → Steps p.tables e below (T.setTop g) t) (h : own_End p e below s QQ rc rs T' g') : own_End p e below s QQ rc rs T g := by
  obtain ⟨s2, o, a, b⟩ := h
  exact ⟨s2, o, st _ a, b⟩
theorem own_leafI (X : Stand p l e R s m args below meth c T locs cells slots) (hx : p.tables.exec = Jvm.exec) (hk : meth.locks = false) {pc : Nat} {Ls : Array Slot} {z : Int32} {rest : List Value} (hret : meth.sig.returnType = some .int) (hd : decode c.code pc = .ok (.ireturn, 1)) (hq : QQ (some (.int z)) T.heap locs) (h1 : cells ≤ rc) (h2 : slots ≤ rs) : own_End p e below s QQ rc rs T (mkF m pc Ls (.int z :: rest)) := by
  obtain ⟨fs, hr, hrun, hended, hW, hsame⟩ := X.leave (v := some (.int z)) (fun h => by rw [hret] at h; cases h) hk
  exact ⟨_, _, retI X hx hret hd hr, hrun, hended, _, _, rfl, hq, ⟨_, rfl⟩, hW, hsame.mono h1 h2⟩
theorem own_leafN (X : Stand p l e R s m args below meth c T locs cells slots) (hx : p.tables.exec = Jvm.exec) (hk : meth.locks = false) {pc : Nat} {Ls : Array Slot} {z : Int32} {t : FieldType} {rest : List Value} (hret : meth.sig.returnType = some t) (ht : t = .boolean ∨ t = .byte ∨ t = .char ∨ t = .short) (hd : decode c.code pc = .ok (.ireturn, 1)) (hq : QQ (some (.int (nar t z))) T.heap locs) (h1 : cells ≤ rc) (h2 : slots ≤ rs) : own_End p e below s QQ rc rs T (mkF m pc Ls (.int z :: rest)) := by
  obtain ⟨fs, hr, hrun, hended, hW, hsame⟩ := X.leave (v := some (.int (nar t z))) (fun h => by rw [hret] at h; cases h) hk
  exact ⟨_, _, retN X hx hret ht hd hr, hrun, hended, _, _, rfl, hq, ⟨_, rfl⟩, hW, hsame.mono h1 h2⟩
theorem own_leafJ (X : Stand p l e R s m args below meth c T locs cells slots) (hx : p.tables.exec = Jvm.exec) (hk : meth.locks = false) {pc : Nat} {Ls : Array Slot} {z : Int64} {rest : List Value} (hret : meth.sig.returnType = some .long) (hd : decode c.code pc = .ok (.lreturn, 1)) (hq : QQ (some (.long z)) T.heap locs) (h1 : cells ≤ rc) (h2 : slots ≤ rs) : own_End p e below s QQ rc rs T (mkF m pc Ls (.long z :: rest)) := by
  obtain ⟨fs, hr, hrun, hended, hW, hsame⟩ := X.leave (v := some (.long z)) (fun h => by rw [hret] at h; cases h) hk
  exact ⟨_, _, retJ X hx hret hd hr, hrun, hended, _, _, rfl, hq, ⟨_, rfl⟩, hW, hsame.mono h1 h2⟩
theorem own_leafR (X : Stand p l e R s m args below meth c T locs cells slots) (hx : p.tables.exec = Jvm.exec) (hk : meth.locks = false) {pc : Nat} {Ls : Array Slot} {z : Addr} {t : FieldType} {rest : List Value} (hret : meth.sig.returnType = some t) (ht : t.isReference = true) (hd : decode c.code pc = .ok (.areturn, 1)) (hq : QQ (some (.ref z)) T.heap locs) (h1 : cells ≤ rc) (h2 : slots ≤ rs) : own_End p e below s QQ rc rs T (mkF m pc Ls (.ref z :: rest)) := by
  obtain ⟨fs, hr, hrun, hended, hW, hsame⟩ := X.leave (v := some (.ref z)) (fun h => by rw [hret] at h; cases h) hk
  exact ⟨_, _, retR X hx hret ht hd hr, hrun, hended, _, _, rfl, hq, ⟨_, rfl⟩, hW, hsame.mono h1 h2⟩
theorem own_leafV (X : Stand p l e R s m args below meth c T locs cells slots) (hx : p.tables.exec = Jvm.exec) (hk : meth.locks = false) {pc : Nat} {Ls : Array Slot} (hret : meth.sig.returnType = none) (hd : decode c.code pc = .ok (.return_, 1)) (hq : QQ none T.heap locs) (h1 : cells ≤ rc) (h2 : slots ≤ rs) : own_End p e below s QQ rc rs T (mkF m pc Ls []) := by
  obtain ⟨fs, hr, hrun, hended, hW, hsame⟩ := X.leave (v := none) (fun _ => rfl) hk
  exact ⟨_, _, X.returnOut hx hret hd hr, hrun, hended, _, _, rfl, hq, ⟨_, rfl⟩, hW, hsame.mono h1 h2⟩
end Own
theorem own_nb0 : nar .boolean (0 : Int32) = 0 := by decide
theorem own_nb1 : nar .boolean (1 : Int32) = 1 := by decide
theorem own_oneif {P : Prop} [Decidable P] {x y : Slot} (hx : One x) (hy : One y) : One (if P then x else y) := by split <;> assumption

theorem own_pd0 : parseMethodDescriptor "(JJ)J" = some ⟨[.long, .long], some .long⟩ := by decide +kernel
theorem own_pd1 : parseMethodDescriptor "(J)J" = some ⟨[.long], some .long⟩ := by decide +kernel
theorem own_d1_0 : decode prog_11_method_4_code 0 = .ok (.lload_n 2, 1) := by decide +kernel
theorem own_d1_1 : decode prog_11_method_4_code 1 = .ok (.lload_n 0, 1) := by decide +kernel
theorem own_d1_2 : decode prog_11_method_4_code 2 = .ok (.lsub, 1) := by decide +kernel
theorem own_d1_3 : decode prog_11_method_4_code 3 = .ok (.ldc2_w 29, 3) := by decide +kernel
theorem own_d1_6 : decode prog_11_method_4_code 6 = .ok (.ladd, 1) := by decide +kernel
theorem own_d1_7 : decode prog_11_method_4_code 7 = .ok (.ldc2_w 31, 3) := by decide +kernel
theorem own_d1_10 : decode prog_11_method_4_code 10 = .ok (.ldiv, 1) := by decide +kernel
theorem own_d1_11 : decode prog_11_method_4_code 11 = .ok (.lreturn, 1) := by decide +kernel
theorem own_pn1 : plainName "com/example/dibs/dibs/Quorum" = true := by first | (simp [plainName, overriddenIn]; done) | decide +kernel
theorem own_ef1 (m : MethodId) (q0 : Int64) (q1 : Int64) : entryFrame m #[(.long q0), (.long q1)] 4 = mkF m 0 #[.val (.long q0), .second, .val (.long q1), .second] [] := by first | (simp [entryFrame, mkF, argsToLocals, Value.category]; done) | rfl
abbrev own_R1 : Room := { frames := 0, cells := 0, slots := 0, locals := 0 }
def own_F1 (q0 : Int64) (q1 : Int64) : Int64 :=
  (((q1 - q0) + (999999 : Int64)) / (1000000 : Int64))
def own_Q1 (q0 : Int64) (q1 : Int64) (h0 : Heap) (v : Option Value) (h : Heap) (L : List Loc) : Prop :=  v = some (.long (own_F1 q0 q1)) ∧ L = [] ∧ h = h0
set_option maxRecDepth 65536 in
set_option maxHeartbeats 40000000 in
theorem own_rm1 (l : Launch) (Z : State) (a0 : Array Value) (hw : ∀ d ∈ tables_1, d.before a0 Z = true) (ws : List Jvm.Cond) (q0 : Int64) (q1 : Int64) (h0 : Heap) :
    MetFree l (⟨"com/example/dibs/dibs/Quorum", "elapsedMs", "(JJ)J"⟩ : MethodName) (head1 (Jvm.Cond.code (⟨"com/example/dibs/dibs/Quorum", "elapsedMs", "(JJ)J"⟩ : MethodName) prog_11_method_4_code 4 (some .long) :: ws) own_R1) (fun a U => a = #[(.long q0), (.long q1)] ∧ Z.Warmed39 U.vm ∧ U.heap = h0) (fun _ _ _ _ _ => True) (fun _ U o U' => ∃ v L, o = .returned v ∧ own_Q1 q0 q1 h0 v U'.heap L ∧ FrameEnd U o U' L own_R1.cells own_R1.slots) := by
  refine MetFree.of_bodySF (plainFor_of_name own_pn1) hisR ?_
  intro p e s m args below meth c s₁ Bd hml0 hP hK
  obtain ⟨rfl, hZ, hh⟩ := hP
  have hx := Bd.exec
  have hby := Bd.bytes
  have hml : c.maxLocals = 4 := hml0
  have hown : s.vm.findClass "com/example/dibs/dibs/Quorum" = some m.cls := findClass_of_methodNamed Bd.named
  have hnm := (name_of_methodNamed Bd.named Bd.method).1
  have X0 : Stand p l e own_R1 s m #[(.long q0), (.long q1)] below meth c s₁ [] 0 0 := Stand.of_body Bd
  have e0 : s₁.heap = h0 := by rw [← hh, Bd.state]; rfl
  show own_End p e below s (fun v h L => v = some (.long (own_F1 q0 q1)) ∧ L = [] ∧ h = h0) own_R1.cells own_R1.slots s₁ (entryFrame m #[(.long q0), (.long q1)] 4)
  refine own_End.go (fun t k => castTop (own_ef1 m q0 q1) k) ?_
  show own_End p e below s _ _ _ s₁ (mkF m 0 #[.val (.long q0), .second, .val (.long q1), .second] [])
  have st1 : ∀ t, Steps p.tables e below (s₁.setTop (mkF m 11 #[.val (.long q0), .second, .val (.long q1), .second] [(.long (((q1 - q0) + (999999 : Int64)) / (1000000 : Int64)))])) t → Steps p.tables e below (s₁.setTop (mkF m 0 #[.val (.long q0), .second, .val (.long q1), .second] [])) t := by
    intro t k
    show Steps p.tables e below (s₁.setTop (mkF m 0 #[.val (.long q0), .second, .val (.long q1), .second] [])) _
    refine XS.lloadN X0.here hx rfl (hb hby own_d1_0) rfl ?_
    show Steps p.tables e below (s₁.setTop (mkF m 1 #[.val (.long q0), .second, .val (.long q1), .second] [(.long q1)])) _
    refine XS.lloadN X0.here hx rfl (hb hby own_d1_1) rfl ?_
    show Steps p.tables e below (s₁.setTop (mkF m 2 #[.val (.long q0), .second, .val (.long q1), .second] [(.long q0), (.long q1)])) _
    refine XS.lsub X0.here hx rfl (hb hby own_d1_2) rfl ?_
    show Steps p.tables e below (s₁.setTop (mkF m 3 #[.val (.long q0), .second, .val (.long q1), .second] [(.long (q1 - q0))])) _
    refine X0.ldc2Long hx hown (mvT hZ (hw _ (List.mem_of_getElem? (i := 6) rfl))) (g := (mkF m 3 #[.val (.long q0), .second, .val (.long q1), .second] [(.long (q1 - q0))])) rfl (hb hby own_d1_3) _ ?_
    show Steps p.tables e below (s₁.setTop (mkF m 6 #[.val (.long q0), .second, .val (.long q1), .second] [(.long (999999 : Int64)), (.long (q1 - q0))])) _
    refine XS.ladd X0.here hx rfl (hb hby own_d1_6) rfl ?_
    show Steps p.tables e below (s₁.setTop (mkF m 7 #[.val (.long q0), .second, .val (.long q1), .second] [(.long ((q1 - q0) + (999999 : Int64)))])) _
    refine X0.ldc2Long hx hown (mvT hZ (hw _ (List.mem_of_getElem? (i := 7) rfl))) (g := (mkF m 7 #[.val (.long q0), .second, .val (.long q1), .second] [(.long ((q1 - q0) + (999999 : Int64)))])) rfl (hb hby own_d1_7) _ ?_
    show Steps p.tables e below (s₁.setTop (mkF m 10 #[.val (.long q0), .second, .val (.long q1), .second] [(.long (1000000 : Int64)), (.long ((q1 - q0) + (999999 : Int64)))])) _
    refine XS.ldiv X0.here hx rfl (hb hby own_d1_10) rfl (by decide) ?_
    exact k
  refine own_End.go (fun t k => st1 _ k) ?_
  exact own_leafJ X0 hx Bd.notSynchronized Bd.returns (hb hby own_d1_11) ⟨congrArg (fun z => some (Value.long z)) (by
      simp only [own_F1, own_nb0, own_nb1]), rfl, e0⟩ (by decide) (by decide)
theorem own_d2_0 : decode method_3_code 0 = .ok (.lload_n 0, 1) := by decide +kernel
theorem own_d2_1 : decode method_3_code 1 = .ok (.ldc2_w 25, 3) := by decide +kernel
theorem own_d2_4 : decode method_3_code 4 = .ok (.ldiv, 1) := by decide +kernel
theorem own_d2_5 : decode method_3_code 5 = .ok (.lstore_n 2, 1) := by decide +kernel
theorem own_d2_6 : decode method_3_code 6 = .ok (.lload_n 0, 1) := by decide +kernel
theorem own_d2_7 : decode method_3_code 7 = .ok (.ldc2_w 25, 3) := by decide +kernel
theorem own_d2_10 : decode method_3_code 10 = .ok (.lrem, 1) := by decide +kernel
theorem own_d2_11 : decode method_3_code 11 = .ok (.lstore 4, 2) := by decide +kernel
theorem own_d2_13 : decode method_3_code 13 = .ok (.lload 4, 2) := by decide +kernel
theorem own_d2_15 : decode method_3_code 15 = .ok (.lconst 0, 1) := by decide +kernel
theorem own_d2_16 : decode method_3_code 16 = .ok (.lcmp, 1) := by decide +kernel
theorem own_d2_17 : decode method_3_code 17 = .ok (.ifCond .eq 7, 3) := by decide +kernel
theorem own_d2_20 : decode method_3_code 20 = .ok (.lload_n 2, 1) := by decide +kernel
theorem own_d2_21 : decode method_3_code 21 = .ok (.lconst 1, 1) := by decide +kernel
theorem own_d2_22 : decode method_3_code 22 = .ok (.ladd, 1) := by decide +kernel
theorem own_d2_23 : decode method_3_code 23 = .ok (.lreturn, 1) := by decide +kernel
theorem own_d2_24 : decode method_3_code 24 = .ok (.lload_n 2, 1) := by decide +kernel
theorem own_d2_25 : decode method_3_code 25 = .ok (.lreturn, 1) := by decide +kernel
theorem own_pn2 : plainName "com/example/dibs/dibs/QuorumElapsedMsPinLaw" = true := by first | (simp [plainName, overriddenIn]; done) | decide +kernel
theorem own_ef2 (m : MethodId) (q0 : Int64) : entryFrame m #[(.long q0)] 6 = mkF m 0 #[.val (.long q0), .second, .unset, .unset, .unset, .unset] [] := by first | (simp [entryFrame, mkF, argsToLocals, Value.category]; done) | rfl
abbrev own_R2 : Room := { frames := 0, cells := 0, slots := 0, locals := 0 }
def own_F2 (q0 : Int64) : Int64 :=
  let v1 : Int64 := (q0 / (1000000 : Int64))
  let v3 : Int64 := (q0 - (q0 / (1000000 : Int64)) * (1000000 : Int64))
  if v3 = (0 : Int64) then
    v1
  else
    (v1 + (1 : Int64))
def own_Q2 (q0 : Int64) (h0 : Heap) (v : Option Value) (h : Heap) (L : List Loc) : Prop :=  v = some (.long (own_F2 q0)) ∧ L = [] ∧ h = h0
set_option maxRecDepth 65536 in
set_option maxHeartbeats 40000000 in
theorem own_rm2 (l : Launch) (Z : State) (a0 : Array Value) (hw : ∀ d ∈ tables_1, d.before a0 Z = true) (ws : List Jvm.Cond) (q0 : Int64) (h0 : Heap) :
    MetFree l (⟨"com/example/dibs/dibs/QuorumElapsedMsPinLaw", "ceilMs", "(J)J"⟩ : MethodName) (head1 (Jvm.Cond.code (⟨"com/example/dibs/dibs/QuorumElapsedMsPinLaw", "ceilMs", "(J)J"⟩ : MethodName) method_3_code 6 (some .long) :: ws) own_R2) (fun a U => a = #[(.long q0)] ∧ Z.Warmed39 U.vm ∧ U.heap = h0) (fun _ _ _ _ _ => True) (fun _ U o U' => ∃ v L, o = .returned v ∧ own_Q2 q0 h0 v U'.heap L ∧ FrameEnd U o U' L own_R2.cells own_R2.slots) := by
  refine MetFree.of_bodySF (plainFor_of_name own_pn2) hisR ?_
  intro p e s m args below meth c s₁ Bd hml0 hP hK
  obtain ⟨rfl, hZ, hh⟩ := hP
  have hx := Bd.exec
  have hby := Bd.bytes
  have hml : c.maxLocals = 6 := hml0
  have hown : s.vm.findClass "com/example/dibs/dibs/QuorumElapsedMsPinLaw" = some m.cls := findClass_of_methodNamed Bd.named
  have hnm := (name_of_methodNamed Bd.named Bd.method).1
  have X0 : Stand p l e own_R2 s m #[(.long q0)] below meth c s₁ [] 0 0 := Stand.of_body Bd
  have e0 : s₁.heap = h0 := by rw [← hh, Bd.state]; rfl
  show own_End p e below s (fun v h L => v = some (.long (own_F2 q0)) ∧ L = [] ∧ h = h0) own_R2.cells own_R2.slots s₁ (entryFrame m #[(.long q0)] 6)
  refine own_End.go (fun t k => castTop (own_ef2 m q0) k) ?_
  show own_End p e below s _ _ _ s₁ (mkF m 0 #[.val (.long q0), .second, .unset, .unset, .unset, .unset] [])
  obtain ⟨v1, hv1⟩ : ∃ z : Int64, z = (q0 / (1000000 : Int64)) := ⟨_, rfl⟩
  have st2 : ∀ t, Steps p.tables e below (s₁.setTop (mkF m 6 #[.val (.long q0), .second, .val (.long v1), .second, .unset, .unset] [])) t → Steps p.tables e below (s₁.setTop (mkF m 0 #[.val (.long q0), .second, .unset, .unset, .unset, .unset] [])) t := by
    rw [hv1]
    intro t k
    show Steps p.tables e below (s₁.setTop (mkF m 0 #[.val (.long q0), .second, .unset, .unset, .unset, .unset] [])) _
    refine XS.lloadN X0.here hx rfl (hb hby own_d2_0) rfl ?_
    show Steps p.tables e below (s₁.setTop (mkF m 1 #[.val (.long q0), .second, .unset, .unset, .unset, .unset] [(.long q0)])) _
    refine X0.ldc2Long hx hown (mvT hZ (hw _ (List.mem_of_getElem? (i := 12) rfl))) (g := (mkF m 1 #[.val (.long q0), .second, .unset, .unset, .unset, .unset] [(.long q0)])) rfl (hb hby own_d2_1) _ ?_
    show Steps p.tables e below (s₁.setTop (mkF m 4 #[.val (.long q0), .second, .unset, .unset, .unset, .unset] [(.long (1000000 : Int64)), (.long q0)])) _
    refine XS.ldiv X0.here hx rfl (hb hby own_d2_4) rfl (by decide) ?_
    show Steps p.tables e below (s₁.setTop (mkF m 5 #[.val (.long q0), .second, .unset, .unset, .unset, .unset] [(.long (q0 / (1000000 : Int64)))])) _
    refine XS.lstoreN X0.here hx rfl (hb hby own_d2_5) rfl (l' := #[.val (.long q0), .second, .val (.long (q0 / (1000000 : Int64))), .second, .unset, .unset]) rfl ?_
    exact k
  obtain ⟨v3, hv3⟩ : ∃ z : Int64, z = (q0 - (q0 / (1000000 : Int64)) * (1000000 : Int64)) := ⟨_, rfl⟩
  have st4 : ∀ t, Steps p.tables e below (s₁.setTop (mkF m 13 #[.val (.long q0), .second, .val (.long v1), .second, .val (.long v3), .second] [])) t → Steps p.tables e below (s₁.setTop (mkF m 6 #[.val (.long q0), .second, .val (.long v1), .second, .unset, .unset] [])) t := by
    rw [hv3]
    intro t k
    show Steps p.tables e below (s₁.setTop (mkF m 6 #[.val (.long q0), .second, .val (.long v1), .second, .unset, .unset] [])) _
    refine XS.lloadN X0.here hx rfl (hb hby own_d2_6) rfl ?_
    show Steps p.tables e below (s₁.setTop (mkF m 7 #[.val (.long q0), .second, .val (.long v1), .second, .unset, .unset] [(.long q0)])) _
    refine X0.ldc2Long hx hown (mvT hZ (hw _ (List.mem_of_getElem? (i := 12) rfl))) (g := (mkF m 7 #[.val (.long q0), .second, .val (.long v1), .second, .unset, .unset] [(.long q0)])) rfl (hb hby own_d2_7) _ ?_
    show Steps p.tables e below (s₁.setTop (mkF m 10 #[.val (.long q0), .second, .val (.long v1), .second, .unset, .unset] [(.long (1000000 : Int64)), (.long q0)])) _
    refine XS.lrem X0.here hx rfl (hb hby own_d2_10) rfl (by decide) ?_
    show Steps p.tables e below (s₁.setTop (mkF m 11 #[.val (.long q0), .second, .val (.long v1), .second, .unset, .unset] [(.long (q0 - (q0 / (1000000 : Int64)) * (1000000 : Int64)))])) _
    refine XS.lstore X0.here hx rfl (hb hby own_d2_11) rfl (l' := #[.val (.long q0), .second, .val (.long v1), .second, .val (.long (q0 - (q0 / (1000000 : Int64)) * (1000000 : Int64))), .second]) rfl ?_
    exact k
  have st5 : ∀ t, Steps p.tables e below (s₁.setTop (mkF m 17 #[.val (.long q0), .second, .val (.long v1), .second, .val (.long v3), .second] [(.int (lcmpW v3 (0 : Int64)))])) t → Steps p.tables e below (s₁.setTop (mkF m 13 #[.val (.long q0), .second, .val (.long v1), .second, .val (.long v3), .second] [])) t := by
    intro t k
    show Steps p.tables e below (s₁.setTop (mkF m 13 #[.val (.long q0), .second, .val (.long v1), .second, .val (.long v3), .second] [])) _
    refine XS.lload X0.here hx rfl (hb hby own_d2_13) rfl ?_
    show Steps p.tables e below (s₁.setTop (mkF m 15 #[.val (.long q0), .second, .val (.long v1), .second, .val (.long v3), .second] [(.long v3)])) _
    refine XS.lconst X0.here hx rfl (hb hby own_d2_15) ?_
    show Steps p.tables e below (s₁.setTop (mkF m 16 #[.val (.long q0), .second, .val (.long v1), .second, .val (.long v3), .second] [(.long (0 : Int64)), (.long v3)])) _
    refine XS.lcmp X0.here hx rfl (hb hby own_d2_16) rfl ?_
    exact k
  refine own_End.go (fun t k => st2 _ (st4 _ (st5 _ k))) ?_
  by_cases hc17_6 : v3 = (0 : Int64)
  · have st7 : ∀ t, Steps p.tables e below (s₁.setTop (mkF m 25 #[.val (.long q0), .second, .val (.long v1), .second, .val (.long v3), .second] [(.long v1)])) t → Steps p.tables e below (s₁.setTop (mkF m 17 #[.val (.long q0), .second, .val (.long v1), .second, .val (.long v3), .second] [(.int (lcmpW v3 (0 : Int64)))])) t := by
      intro t k
      show Steps p.tables e below (s₁.setTop (mkF m 17 #[.val (.long q0), .second, .val (.long v1), .second, .val (.long v3), .second] [(.int (lcmpW v3 (0 : Int64)))])) _
      refine XS.ifYes X0.here hx rfl (pc0 := 17) (pc' := 24) rfl (hb hby own_d2_17) rfl ((if0 _ _).trans (teq ((lw_eq v3 (0 : Int64)).mpr hc17_6)).1) (by decide) (by decide) ?_
      show Steps p.tables e below (s₁.setTop (mkF m 24 #[.val (.long q0), .second, .val (.long v1), .second, .val (.long v3), .second] [])) _
      refine XS.lloadN X0.here hx rfl (hb hby own_d2_24) rfl ?_
      exact k
    refine own_End.go (fun t k => st7 _ k) ?_
    exact own_leafJ X0 hx Bd.notSynchronized Bd.returns (hb hby own_d2_25) ⟨congrArg (fun z => some (Value.long z)) (by
        subst hv1 hv3; simp only [own_F2, own_nb0, own_nb1, if_pos hc17_6]), rfl, e0⟩ (by decide) (by decide)
  · have st8 : ∀ t, Steps p.tables e below (s₁.setTop (mkF m 23 #[.val (.long q0), .second, .val (.long v1), .second, .val (.long v3), .second] [(.long (v1 + (1 : Int64)))])) t → Steps p.tables e below (s₁.setTop (mkF m 17 #[.val (.long q0), .second, .val (.long v1), .second, .val (.long v3), .second] [(.int (lcmpW v3 (0 : Int64)))])) t := by
      intro t k
      show Steps p.tables e below (s₁.setTop (mkF m 17 #[.val (.long q0), .second, .val (.long v1), .second, .val (.long v3), .second] [(.int (lcmpW v3 (0 : Int64)))])) _
      refine XS.ifNo X0.here hx rfl (hb hby own_d2_17) rfl ((if0 _ _).trans (feq (mt (lw_eq v3 (0 : Int64)).mp hc17_6)).1) ?_
      show Steps p.tables e below (s₁.setTop (mkF m 20 #[.val (.long q0), .second, .val (.long v1), .second, .val (.long v3), .second] [])) _
      refine XS.lloadN X0.here hx rfl (hb hby own_d2_20) rfl ?_
      show Steps p.tables e below (s₁.setTop (mkF m 21 #[.val (.long q0), .second, .val (.long v1), .second, .val (.long v3), .second] [(.long v1)])) _
      refine XS.lconst X0.here hx rfl (hb hby own_d2_21) ?_
      show Steps p.tables e below (s₁.setTop (mkF m 22 #[.val (.long q0), .second, .val (.long v1), .second, .val (.long v3), .second] [(.long (1 : Int64)), (.long v1)])) _
      refine XS.ladd X0.here hx rfl (hb hby own_d2_22) rfl ?_
      exact k
    refine own_End.go (fun t k => st8 _ k) ?_
    exact own_leafJ X0 hx Bd.notSynchronized Bd.returns (hb hby own_d2_23) ⟨congrArg (fun z => some (Value.long z)) (by
        subst hv1 hv3; simp only [own_F2, own_nb0, own_nb1, if_neg hc17_6]), rfl, e0⟩ (by decide) (by decide)
theorem own_pn0 : plainName "com/example/dibs/dibs/QuorumElapsedMsPinLaw" = true := by first | (simp [plainName, overriddenIn]; done) | decide +kernel
theorem own_ef0 (m : MethodId) (q0 : Int64) (q1 : Int64) : entryFrame m #[(.long q0), (.long q1)] maxLocals = mkF m 0 #[.val (.long q0), .second, .val (.long q1), .second, .unset, .unset, .unset, .unset, .unset, .unset, .unset, .unset] [] := by first | (simp [entryFrame, mkF, argsToLocals, Value.category, maxLocals]; done) | rfl
def own_F0 (q0 : Int64) (q1 : Int64) : Int32 :=
  let v1 : Int64 := ((q1 &&& (9223372036854775807 : Int64)) - ((q1 &&& (9223372036854775807 : Int64)) / (9223372036853775809 : Int64)) * (9223372036853775809 : Int64))
  let v3 : Int64 := (q0 + v1)
  let v7 : Int64 := (own_F1 q0 v3)
  let v10 : Int64 := (own_F2 v1)
  if v7 = v10 then
    (1 : Int32)
  else
    (0 : Int32)
def own_Q0 (q0 : Int64) (q1 : Int64) (h0 : Heap) (n0 : Nat) (v : Option Value) (h : Heap) (L : List Loc) : Prop :=  v = some (.int (own_F0 q0 q1)) ∧ Fr n0 L
set_option maxRecDepth 65536 in
set_option maxHeartbeats 40000000 in
theorem own_rm0 (l : Launch) (Z : State) (a0 : Array Value) (hw : ∀ d ∈ tables_1, d.before a0 Z = true) (ws : List Jvm.Cond) (q0 : Int64) (q1 : Int64) (h0 : Heap) (n0 : Nat) (Z0 : n0 ≤ h0.size) :
    MetFree l x (head1 (Jvm.Cond.code x code maxLocals ret :: ws) room_1) (fun a U => a = #[(.long q0), (.long q1)] ∧ Z.Warmed39 U.vm ∧ U.heap = h0) (fun _ _ _ _ _ => True) (fun _ U o U' => ∃ v L, o = .returned v ∧ own_Q0 q0 q1 h0 n0 v U'.heap L ∧ FrameEnd U o U' L room_1.cells room_1.slots) := by
  refine MetFree.of_bodySF (plainFor_of_name own_pn0) hisR ?_
  intro p e s m args below meth c s₁ Bd hml0 hP hK
  obtain ⟨rfl, hZ, hh⟩ := hP
  have hx := Bd.exec
  have hby := Bd.bytes
  have hml : c.maxLocals = 12 := hml0
  have hown : s.vm.findClass "com/example/dibs/dibs/QuorumElapsedMsPinLaw" = some m.cls := findClass_of_methodNamed Bd.named
  have hnm := (name_of_methodNamed Bd.named Bd.method).1
  have X0 : Stand p l e room_1 s m #[(.long q0), (.long q1)] below meth c s₁ [] 0 0 := Stand.of_body Bd
  have e0 : s₁.heap = h0 := by rw [← hh, Bd.state]; rfl
  show own_End p e below s (fun v h L => v = some (.int (own_F0 q0 q1)) ∧ Fr n0 L) room_1.cells room_1.slots s₁ (entryFrame m #[(.long q0), (.long q1)] maxLocals)
  refine own_End.go (fun t k => castTop (own_ef0 m q0 q1) k) ?_
  show own_End p e below s _ _ _ s₁ (mkF m 0 #[.val (.long q0), .second, .val (.long q1), .second, .unset, .unset, .unset, .unset, .unset, .unset, .unset, .unset] [])
  obtain ⟨v1, hv1⟩ : ∃ z : Int64, z = ((q1 &&& (9223372036854775807 : Int64)) - ((q1 &&& (9223372036854775807 : Int64)) / (9223372036853775809 : Int64)) * (9223372036853775809 : Int64)) := ⟨_, rfl⟩
  have st2 : ∀ t, Steps p.tables e below (s₁.setTop (mkF m 11 #[.val (.long q0), .second, .val (.long q1), .second, .val (.long v1), .second, .unset, .unset, .unset, .unset, .unset, .unset] [])) t → Steps p.tables e below (s₁.setTop (mkF m 0 #[.val (.long q0), .second, .val (.long q1), .second, .unset, .unset, .unset, .unset, .unset, .unset, .unset, .unset] [])) t := by
    rw [hv1]
    intro t k
    show Steps p.tables e below (s₁.setTop (mkF m 0 #[.val (.long q0), .second, .val (.long q1), .second, .unset, .unset, .unset, .unset, .unset, .unset, .unset, .unset] [])) _
    refine XS.lloadN X0.here hx rfl (hb hby at_0) rfl ?_
    show Steps p.tables e below (s₁.setTop (mkF m 1 #[.val (.long q0), .second, .val (.long q1), .second, .unset, .unset, .unset, .unset, .unset, .unset, .unset, .unset] [(.long q1)])) _
    refine X0.ldc2Long hx hown (mvT hZ (hw _ (List.mem_of_getElem? (i := 0) rfl))) (g := (mkF m 1 #[.val (.long q0), .second, .val (.long q1), .second, .unset, .unset, .unset, .unset, .unset, .unset, .unset, .unset] [(.long q1)])) rfl (hb hby at_1) _ ?_
    show Steps p.tables e below (s₁.setTop (mkF m 4 #[.val (.long q0), .second, .val (.long q1), .second, .unset, .unset, .unset, .unset, .unset, .unset, .unset, .unset] [(.long (9223372036854775807 : Int64)), (.long q1)])) _
    refine XS.land X0.here hx rfl (hb hby at_4) rfl ?_
    show Steps p.tables e below (s₁.setTop (mkF m 5 #[.val (.long q0), .second, .val (.long q1), .second, .unset, .unset, .unset, .unset, .unset, .unset, .unset, .unset] [(.long (q1 &&& (9223372036854775807 : Int64)))])) _
    refine X0.ldc2Long hx hown (mvT hZ (hw _ (List.mem_of_getElem? (i := 1) rfl))) (g := (mkF m 5 #[.val (.long q0), .second, .val (.long q1), .second, .unset, .unset, .unset, .unset, .unset, .unset, .unset, .unset] [(.long (q1 &&& (9223372036854775807 : Int64)))])) rfl (hb hby at_5) _ ?_
    show Steps p.tables e below (s₁.setTop (mkF m 8 #[.val (.long q0), .second, .val (.long q1), .second, .unset, .unset, .unset, .unset, .unset, .unset, .unset, .unset] [(.long (9223372036853775809 : Int64)), (.long (q1 &&& (9223372036854775807 : Int64)))])) _
    refine XS.lrem X0.here hx rfl (hb hby at_8) rfl (by decide) ?_
    show Steps p.tables e below (s₁.setTop (mkF m 9 #[.val (.long q0), .second, .val (.long q1), .second, .unset, .unset, .unset, .unset, .unset, .unset, .unset, .unset] [(.long ((q1 &&& (9223372036854775807 : Int64)) - ((q1 &&& (9223372036854775807 : Int64)) / (9223372036853775809 : Int64)) * (9223372036853775809 : Int64)))])) _
    refine XS.lstore X0.here hx rfl (hb hby at_9) rfl (l' := #[.val (.long q0), .second, .val (.long q1), .second, .val (.long ((q1 &&& (9223372036854775807 : Int64)) - ((q1 &&& (9223372036854775807 : Int64)) / (9223372036853775809 : Int64)) * (9223372036853775809 : Int64))), .second, .unset, .unset, .unset, .unset, .unset, .unset]) rfl ?_
    exact k
  obtain ⟨v3, hv3⟩ : ∃ z : Int64, z = (q0 + v1) := ⟨_, rfl⟩
  have st4 : ∀ t, Steps p.tables e below (s₁.setTop (mkF m 17 #[.val (.long q0), .second, .val (.long q1), .second, .val (.long v1), .second, .val (.long v3), .second, .unset, .unset, .unset, .unset] [])) t → Steps p.tables e below (s₁.setTop (mkF m 11 #[.val (.long q0), .second, .val (.long q1), .second, .val (.long v1), .second, .unset, .unset, .unset, .unset, .unset, .unset] [])) t := by
    rw [hv3]
    intro t k
    show Steps p.tables e below (s₁.setTop (mkF m 11 #[.val (.long q0), .second, .val (.long q1), .second, .val (.long v1), .second, .unset, .unset, .unset, .unset, .unset, .unset] [])) _
    refine XS.lloadN X0.here hx rfl (hb hby at_11) rfl ?_
    show Steps p.tables e below (s₁.setTop (mkF m 12 #[.val (.long q0), .second, .val (.long q1), .second, .val (.long v1), .second, .unset, .unset, .unset, .unset, .unset, .unset] [(.long q0)])) _
    refine XS.lload X0.here hx rfl (hb hby at_12) rfl ?_
    show Steps p.tables e below (s₁.setTop (mkF m 14 #[.val (.long q0), .second, .val (.long q1), .second, .val (.long v1), .second, .unset, .unset, .unset, .unset, .unset, .unset] [(.long v1), (.long q0)])) _
    refine XS.ladd X0.here hx rfl (hb hby at_14) rfl ?_
    show Steps p.tables e below (s₁.setTop (mkF m 15 #[.val (.long q0), .second, .val (.long q1), .second, .val (.long v1), .second, .unset, .unset, .unset, .unset, .unset, .unset] [(.long (q0 + v1))])) _
    refine XS.lstore X0.here hx rfl (hb hby at_15) rfl (l' := #[.val (.long q0), .second, .val (.long q1), .second, .val (.long v1), .second, .val (.long (q0 + v1)), .second, .unset, .unset, .unset, .unset]) rfl ?_
    exact k
  have st5 : ∀ t, Steps p.tables e below (s₁.setTop (mkF m 20 #[.val (.long q0), .second, .val (.long q1), .second, .val (.long v1), .second, .val (.long v3), .second, .unset, .unset, .unset, .unset] [(.long v3), (.long q0)])) t → Steps p.tables e below (s₁.setTop (mkF m 17 #[.val (.long q0), .second, .val (.long q1), .second, .val (.long v1), .second, .val (.long v3), .second, .unset, .unset, .unset, .unset] [])) t := by
    intro t k
    show Steps p.tables e below (s₁.setTop (mkF m 17 #[.val (.long q0), .second, .val (.long q1), .second, .val (.long v1), .second, .val (.long v3), .second, .unset, .unset, .unset, .unset] [])) _
    refine XS.lloadN X0.here hx rfl (hb hby at_17) rfl ?_
    show Steps p.tables e below (s₁.setTop (mkF m 18 #[.val (.long q0), .second, .val (.long q1), .second, .val (.long v1), .second, .val (.long v3), .second, .unset, .unset, .unset, .unset] [(.long q0)])) _
    refine XS.lload X0.here hx rfl (hb hby at_18) rfl ?_
    exact k
  obtain ⟨_, _, ⟨T6, L6, k6, n6⟩, -, X6, ⟨Lc6, hQ6, l6, y6, z6⟩, st6⟩ := Jvm.LawKit.callS X0 hx (y := (⟨"com/example/dibs/dibs/Quorum", "elapsedMs", "(JJ)J"⟩ : MethodName)) hown (mvT hZ (hw _ (List.mem_of_getElem? (i := 2) rfl))) (mvT hZ (hw _ (List.mem_of_getElem? (i := 3) rfl))) (mvT hZ (hw _ (List.mem_of_getElem? (i := 4) rfl))) (mvT hZ (hw _ (List.mem_of_getElem? (i := 5) rfl))) (by decide) (backOf (W := 0) (own_rm1 l Z a0 hw [] q0 v3 h0) hZ (hw _ (List.mem_of_getElem? (i := 5) rfl)) (hw _ (List.mem_of_getElem? (i := 4) rfl)) (by decide) (by decide)) (g := (mkF m 20 #[.val (.long q0), .second, .val (.long q1), .second, .val (.long v1), .second, .val (.long v3), .second, .unset, .unset, .unset, .unset] [(.long v3), (.long q0)])) rfl (by rw [hml]; rfl) (argsL := [(.long q0), (.long v3)]) (rest := []) (lenOf own_pd0 rfl) rfl (by show 2 * 0 + _ ≤ _; exact Nat.le_of_eq rfl) (hb hby at_20) (fun _ _ => ⟨rfl, e0, (by decide : 0 + 0 ≤ _), (by decide : 0 + 0 ≤ _)⟩)
  dsimp only [Pt.U, Pt.locs, Pt.cells, Pt.slots] at X6 l6 y6 z6 st6 hQ6
  subst l6 y6 z6
  obtain ⟨rfl, rfl, e6⟩ := hQ6
  have X6' : Stand p l e room_1 s m #[(.long q0), (.long q1)] below meth c T6 [] 0 0 := by first | exact X6 | (rw [List.append_nil] at X6; exact X6)
  obtain ⟨v7, hv7⟩ : ∃ z : Int64, z = (own_F1 q0 v3) := ⟨_, rfl⟩
  rw [← hv7] at st6
  have st8 : ∀ t, Steps p.tables e below (T6.setTop (mkF m 27 #[.val (.long q0), .second, .val (.long q1), .second, .val (.long v1), .second, .val (.long v3), .second, .val (.long v7), .second, .unset, .unset] [(.long v1)])) t → Steps p.tables e below (T6.setTop (mkF m 23 #[.val (.long q0), .second, .val (.long q1), .second, .val (.long v1), .second, .val (.long v3), .second, .unset, .unset, .unset, .unset] [(.long v7)])) t := by
    intro t k
    show Steps p.tables e below (T6.setTop (mkF m 23 #[.val (.long q0), .second, .val (.long q1), .second, .val (.long v1), .second, .val (.long v3), .second, .unset, .unset, .unset, .unset] [(.long v7)])) _
    refine XS.lstore X6'.here hx rfl (hb hby at_23) rfl (l' := #[.val (.long q0), .second, .val (.long q1), .second, .val (.long v1), .second, .val (.long v3), .second, .val (.long v7), .second, .unset, .unset]) rfl ?_
    show Steps p.tables e below (T6.setTop (mkF m 25 #[.val (.long q0), .second, .val (.long q1), .second, .val (.long v1), .second, .val (.long v3), .second, .val (.long v7), .second, .unset, .unset] [])) _
    refine XS.lload X6'.here hx rfl (hb hby at_25) rfl ?_
    exact k
  obtain ⟨_, _, ⟨T9, L9, k9, n9⟩, -, X9, ⟨Lc9, hQ9, l9, y9, z9⟩, st9⟩ := Jvm.LawKit.callS X6' hx (y := (⟨"com/example/dibs/dibs/QuorumElapsedMsPinLaw", "ceilMs", "(J)J"⟩ : MethodName)) hown (mvT hZ (hw _ (List.mem_of_getElem? (i := 8) rfl))) (mvT hZ (hw _ (List.mem_of_getElem? (i := 9) rfl))) (mvT hZ (hw _ (List.mem_of_getElem? (i := 10) rfl))) (mvT hZ (hw _ (List.mem_of_getElem? (i := 11) rfl))) (by decide) (backOf (W := 0) (own_rm2 l Z a0 hw [] v1 h0) hZ (hw _ (List.mem_of_getElem? (i := 11) rfl)) (hw _ (List.mem_of_getElem? (i := 10) rfl)) (by decide) (by decide)) (g := (mkF m 27 #[.val (.long q0), .second, .val (.long q1), .second, .val (.long v1), .second, .val (.long v3), .second, .val (.long v7), .second, .unset, .unset] [(.long v1)])) rfl (by rw [hml]; rfl) (argsL := [(.long v1)]) (rest := []) (lenOf own_pd1 rfl) rfl (by show 2 * 0 + _ ≤ _; exact Nat.le_of_eq rfl) (hb hby at_27) (fun _ _ => ⟨rfl, e6, (by decide : 0 + 0 ≤ _), (by decide : 0 + 0 ≤ _)⟩)
  dsimp only [Pt.U, Pt.locs, Pt.cells, Pt.slots] at X9 l9 y9 z9 st9 hQ9
  subst l9 y9 z9
  obtain ⟨rfl, rfl, e9⟩ := hQ9
  have X9' : Stand p l e room_1 s m #[(.long q0), (.long q1)] below meth c T9 [] 0 0 := by first | exact X9 | (rw [List.append_nil] at X9; exact X9)
  obtain ⟨v10, hv10⟩ : ∃ z : Int64, z = (own_F2 v1) := ⟨_, rfl⟩
  rw [← hv10] at st9
  have st11 : ∀ t, Steps p.tables e below (T9.setTop (mkF m 37 #[.val (.long q0), .second, .val (.long q1), .second, .val (.long v1), .second, .val (.long v3), .second, .val (.long v7), .second, .val (.long v10), .second] [(.int (lcmpW v7 v10))])) t → Steps p.tables e below (T9.setTop (mkF m 30 #[.val (.long q0), .second, .val (.long q1), .second, .val (.long v1), .second, .val (.long v3), .second, .val (.long v7), .second, .unset, .unset] [(.long v10)])) t := by
    intro t k
    show Steps p.tables e below (T9.setTop (mkF m 30 #[.val (.long q0), .second, .val (.long q1), .second, .val (.long v1), .second, .val (.long v3), .second, .val (.long v7), .second, .unset, .unset] [(.long v10)])) _
    refine XS.lstore X9'.here hx rfl (hb hby at_30) rfl (l' := #[.val (.long q0), .second, .val (.long q1), .second, .val (.long v1), .second, .val (.long v3), .second, .val (.long v7), .second, .val (.long v10), .second]) rfl ?_
    show Steps p.tables e below (T9.setTop (mkF m 32 #[.val (.long q0), .second, .val (.long q1), .second, .val (.long v1), .second, .val (.long v3), .second, .val (.long v7), .second, .val (.long v10), .second] [])) _
    refine XS.lload X9'.here hx rfl (hb hby at_32) rfl ?_
    show Steps p.tables e below (T9.setTop (mkF m 34 #[.val (.long q0), .second, .val (.long q1), .second, .val (.long v1), .second, .val (.long v3), .second, .val (.long v7), .second, .val (.long v10), .second] [(.long v7)])) _
    refine XS.lload X9'.here hx rfl (hb hby at_34) rfl ?_
    show Steps p.tables e below (T9.setTop (mkF m 36 #[.val (.long q0), .second, .val (.long q1), .second, .val (.long v1), .second, .val (.long v3), .second, .val (.long v7), .second, .val (.long v10), .second] [(.long v10), (.long v7)])) _
    refine XS.lcmp X9'.here hx rfl (hb hby at_36) rfl ?_
    exact k
  refine own_End.go (fun t k => st2 _ (st4 _ (st5 _ (st6 _ (st8 _ (st9 _ (st11 _ k))))))) ?_
  by_cases hc37_12 : v7 = v10
  · have st13 : ∀ t, Steps p.tables e below (T9.setTop (mkF m 45 #[.val (.long q0), .second, .val (.long q1), .second, .val (.long v1), .second, .val (.long v3), .second, .val (.long v7), .second, .val (.long v10), .second] [(.int (1 : Int32))])) t → Steps p.tables e below (T9.setTop (mkF m 37 #[.val (.long q0), .second, .val (.long q1), .second, .val (.long v1), .second, .val (.long v3), .second, .val (.long v7), .second, .val (.long v10), .second] [(.int (lcmpW v7 v10))])) t := by
      intro t k
      show Steps p.tables e below (T9.setTop (mkF m 37 #[.val (.long q0), .second, .val (.long q1), .second, .val (.long v1), .second, .val (.long v3), .second, .val (.long v7), .second, .val (.long v10), .second] [(.int (lcmpW v7 v10))])) _
      refine XS.ifNo X9'.here hx rfl (hb hby at_37) rfl ((if0 _ _).trans (teq ((lw_eq v7 v10).mpr hc37_12)).2) ?_
      show Steps p.tables e below (T9.setTop (mkF m 40 #[.val (.long q0), .second, .val (.long q1), .second, .val (.long v1), .second, .val (.long v3), .second, .val (.long v7), .second, .val (.long v10), .second] [])) _
      refine XS.iconst X9'.here hx rfl (hb hby at_40) ?_
      show Steps p.tables e below (T9.setTop (mkF m 41 #[.val (.long q0), .second, .val (.long q1), .second, .val (.long v1), .second, .val (.long v3), .second, .val (.long v7), .second, .val (.long v10), .second] [(.int (1 : Int32))])) _
      refine XS.goto X9'.here hx rfl (pc0 := 41) (pc' := 45) rfl (hb hby at_41) (by decide) (by decide) ?_
      exact k
    refine own_End.go (fun t k => st13 _ k) ?_
    exact own_leafN X9' hx Bd.notSynchronized (t := .boolean) Bd.returns (by simp) (hb hby at_45) ⟨congrArg (fun z => some (Value.int z)) (by
        subst hv1 hv3 hv7 hv10; simp only [own_F0, own_nb0, own_nb1, if_pos hc37_12]), Fr.nil n0⟩ (by decide) (by decide)
  · have st14 : ∀ t, Steps p.tables e below (T9.setTop (mkF m 45 #[.val (.long q0), .second, .val (.long q1), .second, .val (.long v1), .second, .val (.long v3), .second, .val (.long v7), .second, .val (.long v10), .second] [(.int (0 : Int32))])) t → Steps p.tables e below (T9.setTop (mkF m 37 #[.val (.long q0), .second, .val (.long q1), .second, .val (.long v1), .second, .val (.long v3), .second, .val (.long v7), .second, .val (.long v10), .second] [(.int (lcmpW v7 v10))])) t := by
      intro t k
      show Steps p.tables e below (T9.setTop (mkF m 37 #[.val (.long q0), .second, .val (.long q1), .second, .val (.long v1), .second, .val (.long v3), .second, .val (.long v7), .second, .val (.long v10), .second] [(.int (lcmpW v7 v10))])) _
      refine XS.ifYes X9'.here hx rfl (pc0 := 37) (pc' := 44) rfl (hb hby at_37) rfl ((if0 _ _).trans (feq (mt (lw_eq v7 v10).mp hc37_12)).2) (by decide) (by decide) ?_
      show Steps p.tables e below (T9.setTop (mkF m 44 #[.val (.long q0), .second, .val (.long q1), .second, .val (.long v1), .second, .val (.long v3), .second, .val (.long v7), .second, .val (.long v10), .second] [])) _
      refine XS.iconst X9'.here hx rfl (hb hby at_44) ?_
      exact k
    refine own_End.go (fun t k => st14 _ k) ?_
    exact own_leafN X9' hx Bd.notSynchronized (t := .boolean) Bd.returns (by simp) (hb hby at_45) ⟨congrArg (fun z => some (Value.int z)) (by
        subst hv1 hv3 hv7 hv10; simp only [own_F0, own_nb0, own_nb1, if_neg hc37_12]), Fr.nil n0⟩ (by decide) (by decide)
theorem own_d (q1 : Int64) : 0 ≤ ((q1 &&& (9223372036854775807 : Int64)) - ((q1 &&& (9223372036854775807 : Int64)) / (9223372036853775809 : Int64)) * (9223372036853775809 : Int64)).toInt ∧ ((q1 &&& (9223372036854775807 : Int64)) - ((q1 &&& (9223372036854775807 : Int64)) / (9223372036853775809 : Int64)) * (9223372036853775809 : Int64)).toInt < 9223372036853775809 := by
  have e1 : (q1 &&& (9223372036854775807 : Int64)).toInt = q1.toInt % (2 ^ 63 : Nat) := c_maskL q1 9223372036854775807 63 (by decide) (by decide)
  have e2 := (c_lrem (q1 &&& (9223372036854775807 : Int64)) 9223372036853775809 9223372036853775809 (by decide)).1 (by rw [e1]; exact Int.emod_nonneg _ (by decide))
  rw [e2]
  exact ⟨Int.emod_nonneg _ (by decide), Int.emod_lt_of_pos _ (by decide)⟩
theorem own_same (q0 d : Int64) : (q0 + d) - q0 = d := by rw [Int64.add_comm, Int64.add_sub_cancel]
theorem own_up (d : Int64) (hb : 0 ≤ d.toInt ∧ d.toInt < 9223372036853775809) : (d + 999999).toInt = d.toInt + 999999 := by
  have a := c_ladd d 999999
  have r := rng64 (d + 999999)
  have y9 : (999999 : Int64).toInt = 999999 := by decide
  rw [y9] at a
  omega
theorem own_one (x : Int64) (hb : 0 ≤ x.toInt ∧ x.toInt < 9223372036854775807) : (x + 1).toInt = x.toInt + 1 := by
  have a := c_ladd x 1
  have r := rng64 (x + 1)
  have y : (1 : Int64).toInt = 1 := by decide
  rw [y] at a
  omega
theorem own_ceil (d : Int64) (hb : 0 ≤ d.toInt ∧ d.toInt < 9223372036853775809) : (d + 999999) / 1000000 = own_F2 d := by
  have f := (c_ldiv (d + 999999) 1000000 1000000 (by decide) (by decide)).1 (by rw [own_up d hb]; omega)
  rw [own_up d hb] at f
  have g1 := (c_ldiv d 1000000 1000000 (by decide) (by decide)).1 hb.1
  have g2 := (c_lrem d 1000000 1000000 (by decide)).1 hb.1
  have g3 := own_one (d / 1000000) (by rw [g1]; omega)
  have y0 : (0 : Int64).toInt = 0 := by decide
  unfold own_F2
  simp only []
  by_cases h : (d - d / 1000000 * 1000000) = 0
  · rw [if_pos h, ← Int64.toInt_inj, f, g1]
    rw [h, y0] at g2
    omega
  · rw [if_neg h, ← Int64.toInt_inj, f, g3, g1]
    have h' : ¬ (d - d / 1000000 * 1000000).toInt = 0 := fun q => h (Int64.toInt_inj.mp (by rw [q, y0]))
    rw [g2] at h'
    omega
theorem own_plain (q0 q1 : Int64) : own_F0 q0 q1 = 1 := by
  unfold own_F0
  simp only []
  have hb := own_d q1
  generalize ((q1 &&& (9223372036854775807 : Int64)) - ((q1 &&& (9223372036854775807 : Int64)) / (9223372036853775809 : Int64)) * (9223372036853775809 : Int64)) = d at hb ⊢
  have key : own_F1 q0 (q0 + d) = own_F2 d := by
    unfold own_F1
    rw [own_same, own_ceil d hb]
  rw [if_pos key]

set_option maxRecDepth 65536 in
set_option maxHeartbeats 40000000 in
theorem comes_1 {Post : Tables → Env → Array Value → State → Outcome → State → Prop} (hpost : ∀ tb e args s v u, (limb_1_1.after args s (.returned v) u = true ∧ limb_1_2.after args s (.returned v) u = true ∧ True) → FrameEnd s (.returned v) u (Jvm.fieldLocs frame_1_writes args s ++ Jvm.arrayLocs frame_1_arrays args s ++ Jvm.staticLocs frame_1_statics s) 0 0 → Post tb e args s (.returned v) u) :
    ArmFor flags0 classFile x code maxLocals ret World_1 tables_1 room_1 Calls_1 rest_1 Pre_1 Post := by
  intro l hfl _ _ p e ha hc hk s m args below hf hA hF happ hP
  obtain ⟨hcalls, hrest, hpre⟩ := hP
  obtain ⟨-, -, -, hnamed, -, -, -, hat⟩ := (Spec.applies_iff hf).mp happ
  obtain ⟨hg, hn⟩ := and_e (Cond.before_iff.mp (show (Jvm.Cond.and given_1 narrow_1).before args s = true from hpre))
  obtain ⟨g1, g2⟩ := and_e hg
  obtain ⟨ga0, gb0⟩ := and_e g2
  obtain ⟨w0, w1, rfl⟩ : ∃ w0 w1 : Value, args = #[w0, w1] := by
    have hs : args.size = 2 := by simpa [Cond.value, given_1] using g1
    obtain ⟨L⟩ := args
    match L, hs with
    | [w0, w1], _ => exact ⟨w0, w1, rfl⟩
  have hw := fun d (hd : d ∈ tables_1) => atoms_spec (ws := Jvm.Cond.code x code maxLocals ret :: tables_1) hat d (List.mem_cons_of_mem _ hd)
  obtain ⟨i0, ei0⟩ := isL_v ga0
  obtain rfl : w0 = (.long i0) := Option.some.inj ei0
  obtain ⟨i1, ei1⟩ := isL_v gb0
  obtain rfl : w1 = (.long i1) := Option.some.inj ei1
  obtain ⟨n, o, h1, h2, h3, _, L, rfl, ⟨hv, N⟩, hq⟩ := own_rm0 l s _ hw tables_1 i0 i1 s.heap s.heap.size (Nat.le_refl _) p e ha hc hk s m _ below hf ((Spec.applies_iff_loose hf).mp happ).1 ⟨rfl, State.Warmed39.refl s, rfl⟩ trivial
  rw [own_plain i0 i1] at hv
  subst hv
  refine ⟨n, _, h1, h2, h3, hpost _ _ _ _ _ _ ⟨Cond.after_iff.mpr rfl, Cond.after_iff.mpr (eq_i res_at (Term.int_eval (1)) rfl), trivial⟩ ⟨hq.1, hq.2.1, (hq.2.2.sift fun y hy => Or.inr (N y hy)).mono (by decide) (by decide)⟩⟩
theorem main_1_1 : Claimed_1_1 := comes_1 fun _ _ _ _ _ _ h hF => ⟨h.1, hF⟩
theorem main_1_2 : Claimed_1_2 := comes_1 fun _ _ _ _ _ _ h hF => ⟨h.2.1, hF⟩
end Jvm.Pilot.@@N@@
namespace Jvm.Pilot.@@N@@
open Jvm Jvm.ClassFile Sem Op Lib Jvm.Free Jvm.Stand Jvm.Pilot.@@N@@.Jvm.D
/-! MADE BY PROGRAM (witnessworld.py) out of the Statement's table words and the real class files: 9 classes; the members and pool entries that the words name. The judged class is class 1, her method 1. -/
namespace start1
open Jvm.ClassFile
def u (s : String) : CpInfo := .utf8 (stringToUtf16 s)
/-- a pool by its gaps: so many unusable entries, then the entry; so many at the end -/
def gap : Nat → List CpInfo → List CpInfo
  | 0, r => r
  | n + 1, r => .unusable :: gap n r
def poolList (es : List (Nat × CpInfo)) (last : Nat) : List CpInfo := es.foldr (fun e r => gap e.1 (e.2 :: r)) (gap last [])
def pool (es : List (Nat × CpInfo)) (last : Nat) : Array CpInfo := ⟨poolList es last⟩
def fileOf (pool : Array CpInfo) (this : Nat) (attrs : Array Attribute := #[]) (ms : Array MethodInfo := #[]) (fl : Nat := 33) (sup : Nat := 0) (ifs : Array Nat := #[]) (fds : Array FieldInfo := #[]) : ClassFile where
  minorVersion := 0
  majorVersion := 65
  constantPool := pool
  accessFlags := fl
  thisClass := this
  superClass := sup
  interfaces := ifs
  fields := fds
  methods := ms
  attributes := attrs
def plain (name : String) (sup : Option ClassId) : Class where
  name := name
  kind := .ordinary
  loader := none
  accessFlags := 33
  super := sup
  interfaces := #[]
  cf := none
  fields := #[]
  methods := #[]
  instanceTypes := #[]
  staticTypes := #[]
  resolved := #[]
  callSites := []
  init := .initialized
  statics := none
  mirror := none

def pool0 : Array CpInfo := pool [(5, u "<init>"), (0, u "()V"), (1, .class_ 10), (1, u "java/lang/Object")] 113

def k0m0 : Method := { name := "<init>", desc := "()V", sig := { parameters := [], returnType := none }, accessFlags := 1, code := none }
/-- java/lang/Object -/
def k0 : Class := { plain "java/lang/Object" none with
  accessFlags := 33
  interfaces := #[]
  cf := some (fileOf pool0 8 #[] #[{ accessFlags := 1, nameIndex := 5, descriptorIndex := 6, attributes := #[] }] 33 0 #[] #[])
  fields := #[]
  methods := #[k0m0]
  instanceTypes := #[]
  staticTypes := #[]
  resolved := Array.replicate 124 none
  statics := none }

def pool1 : Array CpInfo := pool [(2, .class_ 4), (1, u "java/lang/Object"), (0, u "<init>"), (0, u "()V"), (2, .long 9223372036854775807), (1, .long 9223372036853775809), (1, .methodref 14 15), (0, .class_ 16), (0, .nameAndType 17 18), (0, u "com/example/dibs/dibs/Quorum"), (0, u "elapsedMs"), (0, u "(JJ)J"), (0, .methodref 20 21), (0, .class_ 22), (0, .nameAndType 23 24), (0, u "com/example/dibs/dibs/QuorumElapsedMsPinLaw"), (0, u "ceilMs"), (0, u "(J)J"), (0, .long 1000000), (3, u "law"), (0, u "(JJ)Z")] 3

def k1m0 : Method := { name := "<init>", desc := "()V", sig := { parameters := [], returnType := none }, accessFlags := 2, code := none }
def k1c1 : Code := { maxStack := 4, maxLocals := 12, code := code, exceptionTable := #[], attributes := #[] }
def k1m1 : Method := { name := "law", desc := "(JJ)Z", sig := { parameters := [.long, .long], returnType := some .boolean }, accessFlags := 9, code := some k1c1 }
def k1c2 : Code := { maxStack := 4, maxLocals := 6, code := method_3_code, exceptionTable := #[], attributes := #[] }
def k1m2 : Method := { name := "ceilMs", desc := "(J)J", sig := { parameters := [.long], returnType := some .long }, accessFlags := 10, code := some k1c2 }
/-- com/example/dibs/dibs/QuorumElapsedMsPinLaw -/
def k1 : Class := { plain "com/example/dibs/dibs/QuorumElapsedMsPinLaw" (some 0) with
  accessFlags := 49
  interfaces := #[]
  cf := some (fileOf pool1 20 #[] #[{ accessFlags := 2, nameIndex := 5, descriptorIndex := 6, attributes := #[] }, { accessFlags := 9, nameIndex := 29, descriptorIndex := 30, attributes := #[] }, { accessFlags := 10, nameIndex := 23, descriptorIndex := 24, attributes := #[] }] 49 2 #[] #[])
  fields := #[]
  methods := #[k1m0, k1m1, k1m2]
  instanceTypes := #[]
  staticTypes := #[]
  resolved := Array.replicate 34 none
  statics := none }

def pool2 : Array CpInfo := pool [(2, .class_ 4), (1, u "java/lang/Object"), (0, u "<init>"), (0, u "()V"), (10, .class_ 19), (1, u "com/example/dibs/dibs/Quorum"), (9, .long 999999), (1, .long 1000000), (14, u "(JJ)J"), (0, u "elapsedMs")] 23

def k2m0 : Method := { name := "<init>", desc := "()V", sig := { parameters := [], returnType := none }, accessFlags := 2, code := none }
def k2c1 : Code := { maxStack := 4, maxLocals := 4, code := prog_11_method_4_code, exceptionTable := #[], attributes := #[] }
def k2m1 : Method := { name := "elapsedMs", desc := "(JJ)J", sig := { parameters := [.long, .long], returnType := some .long }, accessFlags := 8, code := some k2c1 }
/-- com/example/dibs/dibs/Quorum -/
def k2 : Class := { plain "com/example/dibs/dibs/Quorum" (some 0) with
  accessFlags := 32
  interfaces := #[]
  cf := some (fileOf pool2 17 #[] #[{ accessFlags := 2, nameIndex := 5, descriptorIndex := 6, attributes := #[] }, { accessFlags := 8, nameIndex := 47, descriptorIndex := 46, attributes := #[] }] 32 2 #[] #[])
  fields := #[]
  methods := #[k2m0, k2m1]
  instanceTypes := #[]
  staticTypes := #[]
  resolved := Array.replicate 71 none
  statics := none }

def pool3 : Array CpInfo := pool [(1, u "java/lang/Cloneable"), (0, .class_ 1), (0, u "java/lang/Object"), (0, .class_ 3)] 3

/-- java/lang/Cloneable -/
def k3 : Class := { plain "java/lang/Cloneable" (some 0) with
  accessFlags := 1537
  interfaces := #[]
  cf := some (fileOf pool3 2 #[] #[] 1537 4 #[] #[])
  fields := #[]
  methods := #[]
  instanceTypes := #[]
  staticTypes := #[]
  resolved := Array.replicate 8 none
  statics := none }

def pool4 : Array CpInfo := pool [(1, u "java/io/Serializable"), (0, .class_ 1), (0, u "java/lang/Object"), (0, .class_ 3)] 3

/-- java/io/Serializable -/
def k4 : Class := { plain "java/io/Serializable" (some 0) with
  accessFlags := 1537
  interfaces := #[]
  cf := some (fileOf pool4 2 #[] #[] 1537 4 #[] #[])
  fields := #[]
  methods := #[]
  instanceTypes := #[]
  staticTypes := #[]
  resolved := Array.replicate 8 none
  statics := none }

/-- the primitive byte -/
def k5 : Class := { plain "byte" none with kind := .primitive 'B', accessFlags := 0x411 }
/-- [B -/
def k6 : Class := { plain "[B" (some 0) with kind := .array 5 .byte, interfaces := #[3, 4], accessFlags := 1041 }

/-- the primitive int -/
def k7 : Class := { plain "int" none with kind := .primitive 'I', accessFlags := 0x411 }
/-- [I -/
def k8 : Class := { plain "[I" (some 0) with kind := .array 7 .int, interfaces := #[3, 4], accessFlags := 1041 }

def heap : Heap := #[]
def classes : Array Class := #[k0, k1, k2, k3, k4, k5, k6, k7, k8]
def interned : List (Array UInt16 × Addr) := []
def slotsUsed : Nat := 0
def theMethod : MethodId := ⟨1, 1⟩
def args0 : Array Value := #[.long 5, .long 5]
def aboutOver (below : List Frame) : State where
  vm := { classes := classes, interned := interned.toArray }
  heap := heap
  slotsUsed := slotsUsed
  threads := #[{ frames := .invoking theMethod args0 :: below }]
def below0 : List Frame := [.native { method := ⟨0, 0⟩, args := #[] }]
def about1 : State := aboutOver below0
def p0 : Program := .bare "" "" ""
def e0 : Env := launch0.env 0 0 0
theorem w_frames : about1.frames = Frame.invoking theMethod args0 :: below0 := rfl
set_option maxRecDepth 65536 in
theorem w_args : argsFit about1.vm theMethod args0 = true := by decide +kernel
set_option maxRecDepth 65536 in
theorem w_heap : heapFits about1 = true := by decide +kernel
set_option maxRecDepth 65536 in
theorem w_runnable : about1.curStatus? = some .runnable := by decide +kernel
set_option maxRecDepth 65536 in
theorem w_alone : about1.alone = true := by decide +kernel
set_option maxRecDepth 65536 in
theorem w_named : about1.methodNamed? x = some theMethod := by decide +kernel
set_option maxRecDepth 65536 in
theorem w_hears : about1.hears theMethod below0 = true := by decide +kernel
set_option maxRecDepth 65536 in
theorem w_ripe : about1.ripe theMethod args0 below0 = true := by decide +kernel
theorem w_running : about1.status = .running := rfl
set_option maxRecDepth 65536 in
theorem w_room : about1.hasRoom e0.platform room_1 = true :=
  launch0.hasRoom_least _ room_1 (by decide +kernel) (by decide +kernel) (by decide +kernel) (by decide +kernel) (by decide +kernel) (by decide +kernel)
theorem allAtoms_all (ts : List Jvm.Cond) (a : Array Jvm.Value) (st : Jvm.State) : (allAtoms ts).before a st = ts.all (fun c => c.before a st) := by
  induction ts with
  | nil => rfl
  | cons c t ih =>
    show (Jvm.Cond.and c (allAtoms t)).before a st = _
    rw [Jvm.Cond.before_and, ih, List.all_cons]
def words1 : List Jvm.Cond := Jvm.Cond.code x code maxLocals ret :: tables_1
/-- a 'code' word, met by the world's own term for the bytes: nothing is compared byte by byte -/
theorem code_word {y : MethodName} {bytes : ByteArray} {mx : Nat} {rt : Option FieldType} {a : Array Value} {s : State} {m : MethodId} {meth : Method} {c : Code} (h1 : s.methodNamed? y = some m) (h2 : s.vm.method? m = some meth) (h3 : meth.code = some c) (h4 : c.code = bytes)
    (h5 : (c.maxLocals == mx && c.exceptionTable.isEmpty && decide (c.maxStack ≤ mostOperands) && decide (meth.sig.returnType = rt) && !meth.locks && decide (parseMethodDescriptor y.desc = some meth.sig)) = true) : (Jvm.Cond.code y bytes mx rt).before a s = true := by
  simp only [Bool.and_eq_true, beq_iff_eq, Bool.not_eq_true', decide_eq_true_eq] at h5
  obtain ⟨⟨⟨⟨⟨g1, g2⟩, g3⟩, g4⟩, g5⟩, g6⟩ := h5
  simp [Cond.before, Cond.holds, Cond.value, h1, h2, h3, h4, g1, g2, g3, g4, g5, g6]
def isCode : Jvm.Cond → Bool
  | .code _ _ _ _ => true
  | _ => false
theorem all_split {L : List Jvm.Cond} {P : Jvm.Cond → Bool} (h1 : L.all (fun c => isCode c || P c) = true) (h2 : ∀ c ∈ L.filter isCode, P c = true) : L.all P = true := by
  refine List.all_eq_true.mpr fun c hc => ?_
  have h := List.all_eq_true.mp h1 c hc
  rcases Bool.eq_false_or_eq_true (isCode c) with hi | hi
  · exact h2 c (List.mem_filter.mpr ⟨hc, hi⟩)
  · simpa [hi] using h
set_option maxRecDepth 65536 in
theorem w_c0 : (Jvm.Cond.code x code maxLocals ret).before args0 about1 = true := code_word (m := ⟨1, 1⟩) (meth := k1m1) (c := k1c1) (by decide +kernel) rfl rfl rfl (by decide +kernel)
set_option maxRecDepth 65536 in
theorem w_c1 : (Jvm.Cond.code ({ cls := "com/example/dibs/dibs/Quorum", name := "elapsedMs", desc := "(JJ)J" } : Jvm.MethodName) prog_11_method_4_code (4 : Nat) (Option.some Jvm.ClassFile.FieldType.long)).before args0 about1 = true := code_word (m := ⟨2, 1⟩) (meth := k2m1) (c := k2c1) (by decide +kernel) rfl rfl rfl (by decide +kernel)
set_option maxRecDepth 65536 in
theorem w_c2 : (Jvm.Cond.code ({ cls := "com/example/dibs/dibs/QuorumElapsedMsPinLaw", name := "ceilMs", desc := "(J)J" } : Jvm.MethodName) method_3_code (6 : Nat) (Option.some Jvm.ClassFile.FieldType.long)).before args0 about1 = true := code_word (m := ⟨1, 2⟩) (meth := k1m2) (c := k1c2) (by decide +kernel) rfl rfl rfl (by decide +kernel)
def codes1 : List Jvm.Cond := [Jvm.Cond.code x code maxLocals ret, Jvm.Cond.code ({ cls := "com/example/dibs/dibs/Quorum", name := "elapsedMs", desc := "(JJ)J" } : Jvm.MethodName) prog_11_method_4_code (4 : Nat) (Option.some Jvm.ClassFile.FieldType.long), Jvm.Cond.code ({ cls := "com/example/dibs/dibs/QuorumElapsedMsPinLaw", name := "ceilMs", desc := "(J)J" } : Jvm.MethodName) method_3_code (6 : Nat) (Option.some Jvm.ClassFile.FieldType.long)]
set_option maxRecDepth 65536 in
theorem codes_eq : words1.filter isCode = codes1 := rfl
theorem w_codes : ∀ c ∈ words1.filter isCode, c.before args0 about1 = true := by
  rw [codes_eq]
  intro c hc
  simp only [codes1, List.mem_cons, List.not_mem_nil, or_false] at hc
  rcases hc with rfl | rfl | rfl
  · exact w_c0
  · exact w_c1
  · exact w_c2
set_option maxRecDepth 65536 in
theorem w_t1 : words1.all (fun c => isCode c || c.before args0 about1) = true := by decide +kernel
theorem w_tables : (allAtoms (Jvm.Cond.code x code maxLocals ret :: tables_1)).before args0 about1 = true := by
  rw [allAtoms_all]
  show words1.all (fun c => c.before args0 about1) = true
  refine all_split ?_ w_codes
  rw [w_t1]
set_option maxRecDepth 65536 in
theorem w_case : (Jvm.Cond.and given_1 narrow_1).before args0 about1 = true := by decide +kernel
theorem w_applies : (headSpec (Jvm.Cond.code x code maxLocals ret :: tables_1) room_1).applies x e0.platform about1 = true :=
  (Spec.applies_iff w_frames).mpr ⟨w_running, w_runnable, w_alone, w_named, w_hears, w_ripe, w_room, w_tables⟩
theorem atStart : AtStart classFile x code maxLocals ret World_1 tables_1 room_1 Calls_1 rest_1 Pre_1 launch0 p0 e0 about1 theMethod args0 below0 :=
  ⟨lists_1, trivial, launch0.admits_env _ _ _, launch0.least_env, fairChoices_fair.cas, fairChoices_fair.clock, w_frames, w_args, w_heap, w_applies, trivial, trivial, w_case⟩
end start1
theorem witness_1 : WitnessClaimed_1 := ⟨start1.p0, start1.e0, start1.about1, start1.theMethod, start1.args0, start1.below0, start1.atStart⟩
end Jvm.Pilot.@@N@@
