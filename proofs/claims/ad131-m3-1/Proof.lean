import JvmDerived
import JvmDerived.Pilot.@@N@@Statement
import JvmDerived.Pilot.@@N@@Code
set_option linter.unusedVariables false
set_option linter.unusedSimpArgs false
namespace Jvm.RoadKit
open Sem ClassFile Op Lib Jvm.Stand Jvm.Free Jvm.LawKit
section New
variable {p : Program} {l : Launch} {e : Env} {R : Room} {s : State} {m : MethodId} {args : Array Value} {below : List Frame} {meth : Method} {c : Code} {T : State} {locs : List Loc} {cells slots : Nat}
theorem retI (X : Stand p l e R s m args below meth c T locs cells slots) (hx : p.tables.exec = Jvm.exec) {pc : Nat} {Ls : Array Slot} {z : Int32} {rest : List Value} (hret : meth.sig.returnType = some .int) (hd : decode c.code pc = .ok (.ireturn, 1)) {fs : List Frame}
    (hl : ∀ (f : JFrame) (acts : List Action), f.method = m → f.locked = none → f.entered = [] → (doReturn e (T.setTop f) acts (some (.int z))).1 = T.setFrames fs) : Steps p.tables e below (T.setTop (mkF m pc Ls (.int z :: rest))) (T.setFrames fs) := by
  have hm' : T.vm.method? m = some meth := X.method'
  have hn : narrow .int (.int z) = .int z := rfl
  show Steps p.tables e below (T.setTop { method := m, pc := pc, locals := Ls, stack := _ :: rest, locked := none }) _
  jvm_step X.here [X.here.top, hx, hd, hm', hret, hn]
  first | (intro acts; rw [hl _ acts rfl rfl rfl]) | rw [hl _ _ rfl rfl rfl]
  exact Steps.refl _
theorem retJ (X : Stand p l e R s m args below meth c T locs cells slots) (hx : p.tables.exec = Jvm.exec) {pc : Nat} {Ls : Array Slot} {z : Int64} {rest : List Value} (hret : meth.sig.returnType = some .long) (hd : decode c.code pc = .ok (.lreturn, 1)) {fs : List Frame}
    (hl : ∀ (f : JFrame) (acts : List Action), f.method = m → f.locked = none → f.entered = [] → (doReturn e (T.setTop f) acts (some (.long z))).1 = T.setFrames fs) : Steps p.tables e below (T.setTop (mkF m pc Ls (.long z :: rest))) (T.setFrames fs) := by
  have hm' : T.vm.method? m = some meth := X.method'
  show Steps p.tables e below (T.setTop { method := m, pc := pc, locals := Ls, stack := _ :: rest, locked := none }) _
  jvm_step X.here [X.here.top, hx, hd, hm', hret]
  first | (intro acts; rw [hl _ acts rfl rfl rfl]) | rw [hl _ _ rfl rfl rfl]
  exact Steps.refl _
theorem retR (X : Stand p l e R s m args below meth c T locs cells slots) (hx : p.tables.exec = Jvm.exec) {pc : Nat} {Ls : Array Slot} {z : Addr} {t : FieldType} {rest : List Value} (hret : meth.sig.returnType = some t) (ht : t.isReference = true) (hd : decode c.code pc = .ok (.areturn, 1)) {fs : List Frame}
    (hl : ∀ (f : JFrame) (acts : List Action), f.method = m → f.locked = none → f.entered = [] → (doReturn e (T.setTop f) acts (some (.ref z))).1 = T.setFrames fs) : Steps p.tables e below (T.setTop (mkF m pc Ls (.ref z :: rest))) (T.setFrames fs) := by
  have hm' : T.vm.method? m = some meth := X.method'
  show Steps p.tables e below (T.setTop { method := m, pc := pc, locals := Ls, stack := _ :: rest, locked := none }) _
  jvm_step X.here [X.here.top, hx, hd, hm', hret, Value.isRef, ht]
  first | (intro acts; rw [hl _ acts rfl rfl rfl]) | rw [hl _ _ rfl rfl rfl]
  exact Steps.refl _
end New
end Jvm.RoadKit
namespace Jvm.Pilot.@@N@@
open Jvm Jvm.ClassFile Sem Op Lib Jvm.Free Jvm.Stand Jvm.LawKit Jvm.RoadKit Bundle Jvm.Pilot.@@N@@.Jvm.D
/-- from the frame g, where T stands, the body comes to its end, and its end is as QQ says -/
def own_End (p : Program) (e : Env) (below : List Frame) (s : State) (QQ : Option Value → Heap → List Loc → Prop) (rc rs : Nat) (T : State) (g : JFrame) : Prop :=
  ∃ s₂ o, Steps p.tables e below (T.setTop g) s₂ ∧ s₂.status = .running ∧ Ended s₂ below o ∧ ∃ v L, o = .returned v ∧ QQ v s₂.heap L ∧ FrameEnd s o s₂ L rc rs
section Own
variable {p : Program} {l : Launch} {e : Env} {R : Room} {s : State} {m : MethodId} {args : Array Value} {below : List Frame} {meth : Method} {c : Code} {T T' : State} {locs : List Loc} {cells slots : Nat} {QQ : Option Value → Heap → List Loc → Prop} {rc rs : Nat}
theorem own_End.go {g g' : JFrame} (st : ∀ t, Steps p.tables e below (T'.setTop g') t → Steps p.tables e below (T.setTop g) t) (h : own_End p e below s QQ rc rs T' g') : own_End p e below s QQ rc rs T g := by
  obtain ⟨s2, o, a, b⟩ := h
  exact ⟨s2, o, st _ a, b⟩
theorem own_leafI (X : Stand p l e R s m args below meth c T locs cells slots) (hx : p.tables.exec = Jvm.exec) (hk : meth.locks = false) {pc : Nat} {Ls : Array Slot} {z : Int32} {rest : List Value} (hret : meth.sig.returnType = some .int) (hd : decode c.code pc = .ok (.ireturn, 1)) (hq : QQ (some (.int z)) T.heap locs) (h1 : cells ≤ rc) (h2 : slots ≤ rs) : own_End p e below s QQ rc rs T (mkF m pc Ls (.int z :: rest)) := by
  obtain ⟨fs, hr, hrun, hended, hW, hsame⟩ := X.leave (v := some (.int z)) (fun h => by rw [hret] at h; cases h) hk
  exact ⟨_, _, retI X hx hret hd hr, hrun, hended, _, _, rfl, hq, ⟨_, rfl⟩, hW, hsame.mono h1 h2⟩
theorem own_leafN (X : Stand p l e R s m args below meth c T locs cells slots) (hx : p.tables.exec = Jvm.exec) (hk : meth.locks = false) {pc : Nat} {Ls : Array Slot} {z : Int32} {t : FieldType} {rest : List Value} (hret : meth.sig.returnType = some t) (ht : t = .boolean ∨ t = .byte ∨ t = .char ∨ t = .short) (hd : decode c.code pc = .ok (.ireturn, 1)) (hq : QQ (some (.int (nar t z))) T.heap locs) (h1 : cells ≤ rc) (h2 : slots ≤ rs) : own_End p e below s QQ rc rs T (mkF m pc Ls (.int z :: rest)) := by
  obtain ⟨fs, hr, hrun, hended, hW, hsame⟩ := X.leave (v := some (.int (nar t z))) (fun h => by rw [hret] at h; cases h) hk
  exact ⟨_, _, retN X hx hret ht hd hr, hrun, hended, _, _, rfl, hq, ⟨_, rfl⟩, hW, hsame.mono h1 h2⟩
theorem own_leafJ (X : Stand p l e R s m args below meth c T locs cells slots) (hx : p.tables.exec = Jvm.exec) (hk : meth.locks = false) {pc : Nat} {Ls : Array Slot} {z : Int64} {rest : List Value} (hret : meth.sig.returnType = some .long) (hd : decode c.code pc = .ok (.lreturn, 1)) (hq : QQ (some (.long z)) T.heap locs) (h1 : cells ≤ rc) (h2 : slots ≤ rs) : own_End p e below s QQ rc rs T (mkF m pc Ls (.long z :: rest)) := by
  obtain ⟨fs, hr, hrun, hended, hW, hsame⟩ := X.leave (v := some (.long z)) (fun h => by rw [hret] at h; cases h) hk
  exact ⟨_, _, retJ X hx hret hd hr, hrun, hended, _, _, rfl, hq, ⟨_, rfl⟩, hW, hsame.mono h1 h2⟩
theorem own_leafR (X : Stand p l e R s m args below meth c T locs cells slots) (hx : p.tables.exec = Jvm.exec) (hk : meth.locks = false) {pc : Nat} {Ls : Array Slot} {z : Addr} {t : FieldType} {rest : List Value} (hret : meth.sig.returnType = some t) (ht : t.isReference = true) (hd : decode c.code pc = .ok (.areturn, 1)) (hq : QQ (some (.ref z)) T.heap locs) (h1 : cells ≤ rc) (h2 : slots ≤ rs) : own_End p e below s QQ rc rs T (mkF m pc Ls (.ref z :: rest)) := by
  obtain ⟨fs, hr, hrun, hended, hW, hsame⟩ := X.leave (v := some (.ref z)) (fun h => by rw [hret] at h; cases h) hk
  exact ⟨_, _, retR X hx hret ht hd hr, hrun, hended, _, _, rfl, hq, ⟨_, rfl⟩, hW, hsame.mono h1 h2⟩
theorem own_leafV (X : Stand p l e R s m args below meth c T locs cells slots) (hx : p.tables.exec = Jvm.exec) (hk : meth.locks = false) {pc : Nat} {Ls : Array Slot} (hret : meth.sig.returnType = none) (hd : decode c.code pc = .ok (.return_, 1)) (hq : QQ none T.heap locs) (h1 : cells ≤ rc) (h2 : slots ≤ rs) : own_End p e below s QQ rc rs T (mkF m pc Ls []) := by
  obtain ⟨fs, hr, hrun, hended, hW, hsame⟩ := X.leave (v := none) (fun _ => rfl) hk
  exact ⟨_, _, X.returnOut hx hret hd hr, hrun, hended, _, _, rfl, hq, ⟨_, rfl⟩, hW, hsame.mono h1 h2⟩
end Own
theorem own_nb0 : nar .boolean (0 : Int32) = 0 := by decide
theorem own_nb1 : nar .boolean (1 : Int32) = 1 := by decide
theorem own_oneif {P : Prop} [Decidable P] {x y : Slot} (hx : One x) (hy : One y) : One (if P then x else y) := by split <;> assumption

theorem own_pd0 : parseMethodDescriptor "(JI)J" = some ⟨[.long, .int], some .long⟩ := by decide +kernel
theorem own_pd1 : parseMethodDescriptor "(JJ)J" = some ⟨[.long, .long], some .long⟩ := by decide +kernel
theorem own_d1_0 : decode method_2_code 0 = .ok (.iload_n 2, 1) := by decide +kernel
theorem own_d1_1 : decode method_2_code 1 = .ok (.iconst 1, 1) := by decide +kernel
theorem own_d1_2 : decode method_2_code 2 = .ok (.if_icmp .ne 7, 3) := by decide +kernel
theorem own_d1_5 : decode method_2_code 5 = .ok (.ldc2_w 9, 3) := by decide +kernel
theorem own_d1_8 : decode method_2_code 8 = .ok (.lreturn, 1) := by decide +kernel
theorem own_d1_9 : decode method_2_code 9 = .ok (.iload_n 2, 1) := by decide +kernel
theorem own_d1_10 : decode method_2_code 10 = .ok (.iconst 2, 1) := by decide +kernel
theorem own_d1_11 : decode method_2_code 11 = .ok (.if_icmp .ne 13, 3) := by decide +kernel
theorem own_d1_14 : decode method_2_code 14 = .ok (.ldc2_w 11, 3) := by decide +kernel
theorem own_d1_17 : decode method_2_code 17 = .ok (.lload_n 0, 1) := by decide +kernel
theorem own_d1_18 : decode method_2_code 18 = .ok (.ldc2_w 13, 3) := by decide +kernel
theorem own_d1_21 : decode method_2_code 21 = .ok (.land, 1) := by decide +kernel
theorem own_d1_22 : decode method_2_code 22 = .ok (.lsub, 1) := by decide +kernel
theorem own_d1_23 : decode method_2_code 23 = .ok (.lreturn, 1) := by decide +kernel
theorem own_d1_24 : decode method_2_code 24 = .ok (.iload_n 2, 1) := by decide +kernel
theorem own_d1_25 : decode method_2_code 25 = .ok (.iconst 3, 1) := by decide +kernel
theorem own_d1_26 : decode method_2_code 26 = .ok (.if_icmp .ne 9, 3) := by decide +kernel
theorem own_d1_29 : decode method_2_code 29 = .ok (.lload_n 0, 1) := by decide +kernel
theorem own_d1_30 : decode method_2_code 30 = .ok (.ldc2_w 13, 3) := by decide +kernel
theorem own_d1_33 : decode method_2_code 33 = .ok (.land, 1) := by decide +kernel
theorem own_d1_34 : decode method_2_code 34 = .ok (.lreturn, 1) := by decide +kernel
theorem own_d1_35 : decode method_2_code 35 = .ok (.lload_n 0, 1) := by decide +kernel
theorem own_d1_36 : decode method_2_code 36 = .ok (.ldc2_w 9, 3) := by decide +kernel
theorem own_d1_39 : decode method_2_code 39 = .ok (.land, 1) := by decide +kernel
theorem own_d1_40 : decode method_2_code 40 = .ok (.lreturn, 1) := by decide +kernel
theorem own_pn1 : plainName "com/example/wireform/wireform/LeastSizePlusPinLaw" = true := by first | (simp [plainName, overriddenIn]; done) | decide +kernel
theorem own_ef1 (m : MethodId) (q0 : Int64) (p1 : Int32) : entryFrame m #[(.long q0), (.int p1)] 3 = mkF m 0 #[.val (.long q0), .second, .val (.int p1)] [] := by first | (simp [entryFrame, mkF, argsToLocals, Value.category]; done) | rfl
abbrev own_R1 : Room := { frames := 0, cells := 0, slots := 0, locals := 0 }
def own_F1 (q0 : Int64) (p1 : Int32) : Int64 :=
  if p1 = (1 : Int32) then
    (9223372036854775807 : Int64)
  else
    if p1 = (2 : Int32) then
      ((9223372036854775806 : Int64) - (q0 &&& (255 : Int64)))
    else
      if p1 = (3 : Int32) then
        (q0 &&& (255 : Int64))
      else
        (q0 &&& (9223372036854775807 : Int64))
def own_Q1 (q0 : Int64) (p1 : Int32) (h0 : Heap) (v : Option Value) (h : Heap) (L : List Loc) : Prop :=  v = some (.long (own_F1 q0 p1)) ∧ L = [] ∧ h = h0
set_option maxRecDepth 65536 in
set_option maxHeartbeats 40000000 in
theorem own_rm1 (l : Launch) (Z : State) (a0 : Array Value) (hw : ∀ d ∈ tables_1, d.before a0 Z = true) (ws : List Jvm.Cond) (q0 : Int64) (p1 : Int32) (h0 : Heap) :
    MetFree l (⟨"com/example/wireform/wireform/LeastSizePlusPinLaw", "pick", "(JI)J"⟩ : MethodName) (head1 (Jvm.Cond.code (⟨"com/example/wireform/wireform/LeastSizePlusPinLaw", "pick", "(JI)J"⟩ : MethodName) method_2_code 3 (some .long) :: ws) own_R1) (fun a U => a = #[(.long q0), (.int p1)] ∧ Z.Warmed39 U.vm ∧ U.heap = h0) (fun _ _ _ _ _ => True) (fun _ U o U' => ∃ v L, o = .returned v ∧ own_Q1 q0 p1 h0 v U'.heap L ∧ FrameEnd U o U' L own_R1.cells own_R1.slots) := by
  refine MetFree.of_bodySF (plainFor_of_name own_pn1) hisR ?_
  intro p e s m args below meth c s₁ Bd hml0 hP hK
  obtain ⟨rfl, hZ, hh⟩ := hP
  have hx := Bd.exec
  have hby := Bd.bytes
  have hml : c.maxLocals = 3 := hml0
  have hown : s.vm.findClass "com/example/wireform/wireform/LeastSizePlusPinLaw" = some m.cls := findClass_of_methodNamed Bd.named
  have hnm := (name_of_methodNamed Bd.named Bd.method).1
  have X0 : Stand p l e own_R1 s m #[(.long q0), (.int p1)] below meth c s₁ [] 0 0 := Stand.of_body Bd
  have e0 : s₁.heap = h0 := by rw [← hh, Bd.state]; rfl
  show own_End p e below s (fun v h L => v = some (.long (own_F1 q0 p1)) ∧ L = [] ∧ h = h0) own_R1.cells own_R1.slots s₁ (entryFrame m #[(.long q0), (.int p1)] 3)
  refine own_End.go (fun t k => castTop (own_ef1 m q0 p1) k) ?_
  show own_End p e below s _ _ _ s₁ (mkF m 0 #[.val (.long q0), .second, .val (.int p1)] [])
  have st1 : ∀ t, Steps p.tables e below (s₁.setTop (mkF m 2 #[.val (.long q0), .second, .val (.int p1)] [(.int (1 : Int32)), (.int p1)])) t → Steps p.tables e below (s₁.setTop (mkF m 0 #[.val (.long q0), .second, .val (.int p1)] [])) t := by
    intro t k
    show Steps p.tables e below (s₁.setTop (mkF m 0 #[.val (.long q0), .second, .val (.int p1)] [])) _
    refine XS.iloadN X0.here hx rfl (hb hby own_d1_0) rfl ?_
    show Steps p.tables e below (s₁.setTop (mkF m 1 #[.val (.long q0), .second, .val (.int p1)] [(.int p1)])) _
    refine XS.iconst X0.here hx rfl (hb hby own_d1_1) ?_
    exact k
  refine own_End.go (fun t k => st1 _ k) ?_
  by_cases hc2_2 : p1 = (1 : Int32)
  · have st3 : ∀ t, Steps p.tables e below (s₁.setTop (mkF m 8 #[.val (.long q0), .second, .val (.int p1)] [(.long (9223372036854775807 : Int64))])) t → Steps p.tables e below (s₁.setTop (mkF m 2 #[.val (.long q0), .second, .val (.int p1)] [(.int (1 : Int32)), (.int p1)])) t := by
      intro t k
      show Steps p.tables e below (s₁.setTop (mkF m 2 #[.val (.long q0), .second, .val (.int p1)] [(.int (1 : Int32)), (.int p1)])) _
      refine XS.icmpNo X0.here hx rfl (hb hby own_d1_2) rfl (teq hc2_2).2 ?_
      show Steps p.tables e below (s₁.setTop (mkF m 5 #[.val (.long q0), .second, .val (.int p1)] [])) _
      refine X0.ldc2Long hx hown (mvT hZ (hw _ (List.mem_of_getElem? (i := 4) rfl))) (g := (mkF m 5 #[.val (.long q0), .second, .val (.int p1)] [])) rfl (hb hby own_d1_5) _ ?_
      exact k
    refine own_End.go (fun t k => st3 _ k) ?_
    exact own_leafJ X0 hx Bd.notSynchronized Bd.returns (hb hby own_d1_8) ⟨congrArg (fun z => some (Value.long z)) (by
        simp only [own_F1, own_nb0, own_nb1, if_pos hc2_2]), rfl, e0⟩ (by decide) (by decide)
  · have st4 : ∀ t, Steps p.tables e below (s₁.setTop (mkF m 11 #[.val (.long q0), .second, .val (.int p1)] [(.int (2 : Int32)), (.int p1)])) t → Steps p.tables e below (s₁.setTop (mkF m 2 #[.val (.long q0), .second, .val (.int p1)] [(.int (1 : Int32)), (.int p1)])) t := by
      intro t k
      show Steps p.tables e below (s₁.setTop (mkF m 2 #[.val (.long q0), .second, .val (.int p1)] [(.int (1 : Int32)), (.int p1)])) _
      refine XS.icmpYes X0.here hx rfl (pc0 := 2) (pc' := 9) rfl (hb hby own_d1_2) rfl (feq hc2_2).2 (by decide) (by decide) ?_
      show Steps p.tables e below (s₁.setTop (mkF m 9 #[.val (.long q0), .second, .val (.int p1)] [])) _
      refine XS.iloadN X0.here hx rfl (hb hby own_d1_9) rfl ?_
      show Steps p.tables e below (s₁.setTop (mkF m 10 #[.val (.long q0), .second, .val (.int p1)] [(.int p1)])) _
      refine XS.iconst X0.here hx rfl (hb hby own_d1_10) ?_
      exact k
    refine own_End.go (fun t k => st4 _ k) ?_
    by_cases hc11_5 : p1 = (2 : Int32)
    · have st6 : ∀ t, Steps p.tables e below (s₁.setTop (mkF m 23 #[.val (.long q0), .second, .val (.int p1)] [(.long ((9223372036854775806 : Int64) - (q0 &&& (255 : Int64))))])) t → Steps p.tables e below (s₁.setTop (mkF m 11 #[.val (.long q0), .second, .val (.int p1)] [(.int (2 : Int32)), (.int p1)])) t := by
        intro t k
        show Steps p.tables e below (s₁.setTop (mkF m 11 #[.val (.long q0), .second, .val (.int p1)] [(.int (2 : Int32)), (.int p1)])) _
        refine XS.icmpNo X0.here hx rfl (hb hby own_d1_11) rfl (teq hc11_5).2 ?_
        show Steps p.tables e below (s₁.setTop (mkF m 14 #[.val (.long q0), .second, .val (.int p1)] [])) _
        refine X0.ldc2Long hx hown (mvT hZ (hw _ (List.mem_of_getElem? (i := 12) rfl))) (g := (mkF m 14 #[.val (.long q0), .second, .val (.int p1)] [])) rfl (hb hby own_d1_14) _ ?_
        show Steps p.tables e below (s₁.setTop (mkF m 17 #[.val (.long q0), .second, .val (.int p1)] [(.long (9223372036854775806 : Int64))])) _
        refine XS.lloadN X0.here hx rfl (hb hby own_d1_17) rfl ?_
        show Steps p.tables e below (s₁.setTop (mkF m 18 #[.val (.long q0), .second, .val (.int p1)] [(.long q0), (.long (9223372036854775806 : Int64))])) _
        refine X0.ldc2Long hx hown (mvT hZ (hw _ (List.mem_of_getElem? (i := 11) rfl))) (g := (mkF m 18 #[.val (.long q0), .second, .val (.int p1)] [(.long q0), (.long (9223372036854775806 : Int64))])) rfl (hb hby own_d1_18) _ ?_
        show Steps p.tables e below (s₁.setTop (mkF m 21 #[.val (.long q0), .second, .val (.int p1)] [(.long (255 : Int64)), (.long q0), (.long (9223372036854775806 : Int64))])) _
        refine XS.land X0.here hx rfl (hb hby own_d1_21) rfl ?_
        show Steps p.tables e below (s₁.setTop (mkF m 22 #[.val (.long q0), .second, .val (.int p1)] [(.long (q0 &&& (255 : Int64))), (.long (9223372036854775806 : Int64))])) _
        refine XS.lsub X0.here hx rfl (hb hby own_d1_22) rfl ?_
        exact k
      refine own_End.go (fun t k => st6 _ k) ?_
      exact own_leafJ X0 hx Bd.notSynchronized Bd.returns (hb hby own_d1_23) ⟨congrArg (fun z => some (Value.long z)) (by
          simp only [own_F1, own_nb0, own_nb1, if_neg hc2_2, if_pos hc11_5]), rfl, e0⟩ (by decide) (by decide)
    · have st7 : ∀ t, Steps p.tables e below (s₁.setTop (mkF m 26 #[.val (.long q0), .second, .val (.int p1)] [(.int (3 : Int32)), (.int p1)])) t → Steps p.tables e below (s₁.setTop (mkF m 11 #[.val (.long q0), .second, .val (.int p1)] [(.int (2 : Int32)), (.int p1)])) t := by
        intro t k
        show Steps p.tables e below (s₁.setTop (mkF m 11 #[.val (.long q0), .second, .val (.int p1)] [(.int (2 : Int32)), (.int p1)])) _
        refine XS.icmpYes X0.here hx rfl (pc0 := 11) (pc' := 24) rfl (hb hby own_d1_11) rfl (feq hc11_5).2 (by decide) (by decide) ?_
        show Steps p.tables e below (s₁.setTop (mkF m 24 #[.val (.long q0), .second, .val (.int p1)] [])) _
        refine XS.iloadN X0.here hx rfl (hb hby own_d1_24) rfl ?_
        show Steps p.tables e below (s₁.setTop (mkF m 25 #[.val (.long q0), .second, .val (.int p1)] [(.int p1)])) _
        refine XS.iconst X0.here hx rfl (hb hby own_d1_25) ?_
        exact k
      refine own_End.go (fun t k => st7 _ k) ?_
      by_cases hc26_8 : p1 = (3 : Int32)
      · have st9 : ∀ t, Steps p.tables e below (s₁.setTop (mkF m 34 #[.val (.long q0), .second, .val (.int p1)] [(.long (q0 &&& (255 : Int64)))])) t → Steps p.tables e below (s₁.setTop (mkF m 26 #[.val (.long q0), .second, .val (.int p1)] [(.int (3 : Int32)), (.int p1)])) t := by
          intro t k
          show Steps p.tables e below (s₁.setTop (mkF m 26 #[.val (.long q0), .second, .val (.int p1)] [(.int (3 : Int32)), (.int p1)])) _
          refine XS.icmpNo X0.here hx rfl (hb hby own_d1_26) rfl (teq hc26_8).2 ?_
          show Steps p.tables e below (s₁.setTop (mkF m 29 #[.val (.long q0), .second, .val (.int p1)] [])) _
          refine XS.lloadN X0.here hx rfl (hb hby own_d1_29) rfl ?_
          show Steps p.tables e below (s₁.setTop (mkF m 30 #[.val (.long q0), .second, .val (.int p1)] [(.long q0)])) _
          refine X0.ldc2Long hx hown (mvT hZ (hw _ (List.mem_of_getElem? (i := 11) rfl))) (g := (mkF m 30 #[.val (.long q0), .second, .val (.int p1)] [(.long q0)])) rfl (hb hby own_d1_30) _ ?_
          show Steps p.tables e below (s₁.setTop (mkF m 33 #[.val (.long q0), .second, .val (.int p1)] [(.long (255 : Int64)), (.long q0)])) _
          refine XS.land X0.here hx rfl (hb hby own_d1_33) rfl ?_
          exact k
        refine own_End.go (fun t k => st9 _ k) ?_
        exact own_leafJ X0 hx Bd.notSynchronized Bd.returns (hb hby own_d1_34) ⟨congrArg (fun z => some (Value.long z)) (by
            simp only [own_F1, own_nb0, own_nb1, if_neg hc2_2, if_neg hc11_5, if_pos hc26_8]), rfl, e0⟩ (by decide) (by decide)
      · have st10 : ∀ t, Steps p.tables e below (s₁.setTop (mkF m 40 #[.val (.long q0), .second, .val (.int p1)] [(.long (q0 &&& (9223372036854775807 : Int64)))])) t → Steps p.tables e below (s₁.setTop (mkF m 26 #[.val (.long q0), .second, .val (.int p1)] [(.int (3 : Int32)), (.int p1)])) t := by
          intro t k
          show Steps p.tables e below (s₁.setTop (mkF m 26 #[.val (.long q0), .second, .val (.int p1)] [(.int (3 : Int32)), (.int p1)])) _
          refine XS.icmpYes X0.here hx rfl (pc0 := 26) (pc' := 35) rfl (hb hby own_d1_26) rfl (feq hc26_8).2 (by decide) (by decide) ?_
          show Steps p.tables e below (s₁.setTop (mkF m 35 #[.val (.long q0), .second, .val (.int p1)] [])) _
          refine XS.lloadN X0.here hx rfl (hb hby own_d1_35) rfl ?_
          show Steps p.tables e below (s₁.setTop (mkF m 36 #[.val (.long q0), .second, .val (.int p1)] [(.long q0)])) _
          refine X0.ldc2Long hx hown (mvT hZ (hw _ (List.mem_of_getElem? (i := 4) rfl))) (g := (mkF m 36 #[.val (.long q0), .second, .val (.int p1)] [(.long q0)])) rfl (hb hby own_d1_36) _ ?_
          show Steps p.tables e below (s₁.setTop (mkF m 39 #[.val (.long q0), .second, .val (.int p1)] [(.long (9223372036854775807 : Int64)), (.long q0)])) _
          refine XS.land X0.here hx rfl (hb hby own_d1_39) rfl ?_
          exact k
        refine own_End.go (fun t k => st10 _ k) ?_
        exact own_leafJ X0 hx Bd.notSynchronized Bd.returns (hb hby own_d1_40) ⟨congrArg (fun z => some (Value.long z)) (by
            simp only [own_F1, own_nb0, own_nb1, if_neg hc2_2, if_neg hc11_5, if_neg hc26_8]), rfl, e0⟩ (by decide) (by decide)
theorem own_d2_0 : decode prog_40_method_2_code 0 = .ok (.lload_n 0, 1) := by decide +kernel
theorem own_d2_1 : decode prog_40_method_2_code 1 = .ok (.ldc2_w 11, 3) := by decide +kernel
theorem own_d2_4 : decode prog_40_method_2_code 4 = .ok (.lcmp, 1) := by decide +kernel
theorem own_d2_5 : decode prog_40_method_2_code 5 = .ok (.ifCond .eq 11, 3) := by decide +kernel
theorem own_d2_8 : decode prog_40_method_2_code 8 = .ok (.lload_n 2, 1) := by decide +kernel
theorem own_d2_9 : decode prog_40_method_2_code 9 = .ok (.ldc2_w 11, 3) := by decide +kernel
theorem own_d2_12 : decode prog_40_method_2_code 12 = .ok (.lcmp, 1) := by decide +kernel
theorem own_d2_13 : decode prog_40_method_2_code 13 = .ok (.ifCond .ne 11, 3) := by decide +kernel
theorem own_d2_16 : decode prog_40_method_2_code 16 = .ok (.ldc2_w 11, 3) := by decide +kernel
theorem own_d2_19 : decode prog_40_method_2_code 19 = .ok (.lstore 4, 2) := by decide +kernel
theorem own_d2_21 : decode prog_40_method_2_code 21 = .ok (.goto 24, 3) := by decide +kernel
theorem own_d2_24 : decode prog_40_method_2_code 24 = .ok (.lload_n 0, 1) := by decide +kernel
theorem own_d2_25 : decode prog_40_method_2_code 25 = .ok (.ldc2_w 13, 3) := by decide +kernel
theorem own_d2_28 : decode prog_40_method_2_code 28 = .ok (.lload_n 2, 1) := by decide +kernel
theorem own_d2_29 : decode prog_40_method_2_code 29 = .ok (.lsub, 1) := by decide +kernel
theorem own_d2_30 : decode prog_40_method_2_code 30 = .ok (.lcmp, 1) := by decide +kernel
theorem own_d2_31 : decode prog_40_method_2_code 31 = .ok (.ifCond .le 9, 3) := by decide +kernel
theorem own_d2_34 : decode prog_40_method_2_code 34 = .ok (.ldc2_w 13, 3) := by decide +kernel
theorem own_d2_37 : decode prog_40_method_2_code 37 = .ok (.goto 6, 3) := by decide +kernel
theorem own_d2_40 : decode prog_40_method_2_code 40 = .ok (.lload_n 0, 1) := by decide +kernel
theorem own_d2_41 : decode prog_40_method_2_code 41 = .ok (.lload_n 2, 1) := by decide +kernel
theorem own_d2_42 : decode prog_40_method_2_code 42 = .ok (.ladd, 1) := by decide +kernel
theorem own_d2_43 : decode prog_40_method_2_code 43 = .ok (.lstore 4, 2) := by decide +kernel
theorem own_d2_45 : decode prog_40_method_2_code 45 = .ok (.lload 4, 2) := by decide +kernel
theorem own_d2_47 : decode prog_40_method_2_code 47 = .ok (.lreturn, 1) := by decide +kernel
theorem own_pn2 : plainName "com/example/wireform/wireform/LeastSize" = true := by first | (simp [plainName, overriddenIn]; done) | decide +kernel
theorem own_ef2 (m : MethodId) (q0 : Int64) (q1 : Int64) : entryFrame m #[(.long q0), (.long q1)] 6 = mkF m 0 #[.val (.long q0), .second, .val (.long q1), .second, .unset, .unset] [] := by first | (simp [entryFrame, mkF, argsToLocals, Value.category]; done) | rfl
abbrev own_R2 : Room := { frames := 0, cells := 0, slots := 0, locals := 0 }
def own_F2 (q0 : Int64) (q1 : Int64) : Int64 :=
  if q0 = (9223372036854775807 : Int64) then
    (9223372036854775807 : Int64)
  else
    if q1 = (9223372036854775807 : Int64) then
      (9223372036854775807 : Int64)
    else
      let v11 : Int64 := (if ((9223372036854775806 : Int64) - q1) < q0 then (9223372036854775806 : Int64) else (q0 + q1))
      v11
def own_Q2 (q0 : Int64) (q1 : Int64) (h0 : Heap) (v : Option Value) (h : Heap) (L : List Loc) : Prop :=  v = some (.long (own_F2 q0 q1)) ∧ L = [] ∧ h = h0
set_option maxRecDepth 65536 in
set_option maxHeartbeats 40000000 in
theorem own_rm2 (l : Launch) (Z : State) (a0 : Array Value) (hw : ∀ d ∈ tables_1, d.before a0 Z = true) (ws : List Jvm.Cond) (q0 : Int64) (q1 : Int64) (h0 : Heap) :
    MetFree l (⟨"com/example/wireform/wireform/LeastSize", "plus", "(JJ)J"⟩ : MethodName) (head1 (Jvm.Cond.code (⟨"com/example/wireform/wireform/LeastSize", "plus", "(JJ)J"⟩ : MethodName) prog_40_method_2_code 6 (some .long) :: ws) own_R2) (fun a U => a = #[(.long q0), (.long q1)] ∧ Z.Warmed39 U.vm ∧ U.heap = h0) (fun _ _ _ _ _ => True) (fun _ U o U' => ∃ v L, o = .returned v ∧ own_Q2 q0 q1 h0 v U'.heap L ∧ FrameEnd U o U' L own_R2.cells own_R2.slots) := by
  refine MetFree.of_bodySF (plainFor_of_name own_pn2) hisR ?_
  intro p e s m args below meth c s₁ Bd hml0 hP hK
  obtain ⟨rfl, hZ, hh⟩ := hP
  have hx := Bd.exec
  have hby := Bd.bytes
  have hml : c.maxLocals = 6 := hml0
  have hown : s.vm.findClass "com/example/wireform/wireform/LeastSize" = some m.cls := findClass_of_methodNamed Bd.named
  have hnm := (name_of_methodNamed Bd.named Bd.method).1
  have X0 : Stand p l e own_R2 s m #[(.long q0), (.long q1)] below meth c s₁ [] 0 0 := Stand.of_body Bd
  have e0 : s₁.heap = h0 := by rw [← hh, Bd.state]; rfl
  show own_End p e below s (fun v h L => v = some (.long (own_F2 q0 q1)) ∧ L = [] ∧ h = h0) own_R2.cells own_R2.slots s₁ (entryFrame m #[(.long q0), (.long q1)] 6)
  refine own_End.go (fun t k => castTop (own_ef2 m q0 q1) k) ?_
  show own_End p e below s _ _ _ s₁ (mkF m 0 #[.val (.long q0), .second, .val (.long q1), .second, .unset, .unset] [])
  have st1 : ∀ t, Steps p.tables e below (s₁.setTop (mkF m 5 #[.val (.long q0), .second, .val (.long q1), .second, .unset, .unset] [(.int (lcmpW q0 (9223372036854775807 : Int64)))])) t → Steps p.tables e below (s₁.setTop (mkF m 0 #[.val (.long q0), .second, .val (.long q1), .second, .unset, .unset] [])) t := by
    intro t k
    show Steps p.tables e below (s₁.setTop (mkF m 0 #[.val (.long q0), .second, .val (.long q1), .second, .unset, .unset] [])) _
    refine XS.lloadN X0.here hx rfl (hb hby own_d2_0) rfl ?_
    show Steps p.tables e below (s₁.setTop (mkF m 1 #[.val (.long q0), .second, .val (.long q1), .second, .unset, .unset] [(.long q0)])) _
    refine X0.ldc2Long hx hown (mvT hZ (hw _ (List.mem_of_getElem? (i := 9) rfl))) (g := (mkF m 1 #[.val (.long q0), .second, .val (.long q1), .second, .unset, .unset] [(.long q0)])) rfl (hb hby own_d2_1) _ ?_
    show Steps p.tables e below (s₁.setTop (mkF m 4 #[.val (.long q0), .second, .val (.long q1), .second, .unset, .unset] [(.long (9223372036854775807 : Int64)), (.long q0)])) _
    refine XS.lcmp X0.here hx rfl (hb hby own_d2_4) rfl ?_
    exact k
  refine own_End.go (fun t k => st1 _ k) ?_
  by_cases hc5_2 : q0 = (9223372036854775807 : Int64)
  · have st3 : ∀ t, Steps p.tables e below (s₁.setTop (mkF m 47 #[.val (.long q0), .second, .val (.long q1), .second, .val (.long (9223372036854775807 : Int64)), .second] [(.long (9223372036854775807 : Int64))])) t → Steps p.tables e below (s₁.setTop (mkF m 5 #[.val (.long q0), .second, .val (.long q1), .second, .unset, .unset] [(.int (lcmpW q0 (9223372036854775807 : Int64)))])) t := by
      intro t k
      show Steps p.tables e below (s₁.setTop (mkF m 5 #[.val (.long q0), .second, .val (.long q1), .second, .unset, .unset] [(.int (lcmpW q0 (9223372036854775807 : Int64)))])) _
      refine XS.ifYes X0.here hx rfl (pc0 := 5) (pc' := 16) rfl (hb hby own_d2_5) rfl ((if0 _ _).trans (teq ((lw_eq q0 (9223372036854775807 : Int64)).mpr hc5_2)).1) (by decide) (by decide) ?_
      show Steps p.tables e below (s₁.setTop (mkF m 16 #[.val (.long q0), .second, .val (.long q1), .second, .unset, .unset] [])) _
      refine X0.ldc2Long hx hown (mvT hZ (hw _ (List.mem_of_getElem? (i := 9) rfl))) (g := (mkF m 16 #[.val (.long q0), .second, .val (.long q1), .second, .unset, .unset] [])) rfl (hb hby own_d2_16) _ ?_
      show Steps p.tables e below (s₁.setTop (mkF m 19 #[.val (.long q0), .second, .val (.long q1), .second, .unset, .unset] [(.long (9223372036854775807 : Int64))])) _
      refine XS.lstore X0.here hx rfl (hb hby own_d2_19) rfl (l' := #[.val (.long q0), .second, .val (.long q1), .second, .val (.long (9223372036854775807 : Int64)), .second]) rfl ?_
      show Steps p.tables e below (s₁.setTop (mkF m 21 #[.val (.long q0), .second, .val (.long q1), .second, .val (.long (9223372036854775807 : Int64)), .second] [])) _
      refine XS.goto X0.here hx rfl (pc0 := 21) (pc' := 45) rfl (hb hby own_d2_21) (by decide) (by decide) ?_
      show Steps p.tables e below (s₁.setTop (mkF m 45 #[.val (.long q0), .second, .val (.long q1), .second, .val (.long (9223372036854775807 : Int64)), .second] [])) _
      refine XS.lload X0.here hx rfl (hb hby own_d2_45) rfl ?_
      exact k
    refine own_End.go (fun t k => st3 _ k) ?_
    exact own_leafJ X0 hx Bd.notSynchronized Bd.returns (hb hby own_d2_47) ⟨congrArg (fun z => some (Value.long z)) (by
        simp only [own_F2, own_nb0, own_nb1, if_pos hc5_2]), rfl, e0⟩ (by decide) (by decide)
  · have st4 : ∀ t, Steps p.tables e below (s₁.setTop (mkF m 13 #[.val (.long q0), .second, .val (.long q1), .second, .unset, .unset] [(.int (lcmpW q1 (9223372036854775807 : Int64)))])) t → Steps p.tables e below (s₁.setTop (mkF m 5 #[.val (.long q0), .second, .val (.long q1), .second, .unset, .unset] [(.int (lcmpW q0 (9223372036854775807 : Int64)))])) t := by
      intro t k
      show Steps p.tables e below (s₁.setTop (mkF m 5 #[.val (.long q0), .second, .val (.long q1), .second, .unset, .unset] [(.int (lcmpW q0 (9223372036854775807 : Int64)))])) _
      refine XS.ifNo X0.here hx rfl (hb hby own_d2_5) rfl ((if0 _ _).trans (feq (mt (lw_eq q0 (9223372036854775807 : Int64)).mp hc5_2)).1) ?_
      show Steps p.tables e below (s₁.setTop (mkF m 8 #[.val (.long q0), .second, .val (.long q1), .second, .unset, .unset] [])) _
      refine XS.lloadN X0.here hx rfl (hb hby own_d2_8) rfl ?_
      show Steps p.tables e below (s₁.setTop (mkF m 9 #[.val (.long q0), .second, .val (.long q1), .second, .unset, .unset] [(.long q1)])) _
      refine X0.ldc2Long hx hown (mvT hZ (hw _ (List.mem_of_getElem? (i := 9) rfl))) (g := (mkF m 9 #[.val (.long q0), .second, .val (.long q1), .second, .unset, .unset] [(.long q1)])) rfl (hb hby own_d2_9) _ ?_
      show Steps p.tables e below (s₁.setTop (mkF m 12 #[.val (.long q0), .second, .val (.long q1), .second, .unset, .unset] [(.long (9223372036854775807 : Int64)), (.long q1)])) _
      refine XS.lcmp X0.here hx rfl (hb hby own_d2_12) rfl ?_
      exact k
    refine own_End.go (fun t k => st4 _ k) ?_
    by_cases hc13_5 : q1 = (9223372036854775807 : Int64)
    · have st6 : ∀ t, Steps p.tables e below (s₁.setTop (mkF m 47 #[.val (.long q0), .second, .val (.long q1), .second, .val (.long (9223372036854775807 : Int64)), .second] [(.long (9223372036854775807 : Int64))])) t → Steps p.tables e below (s₁.setTop (mkF m 13 #[.val (.long q0), .second, .val (.long q1), .second, .unset, .unset] [(.int (lcmpW q1 (9223372036854775807 : Int64)))])) t := by
        intro t k
        show Steps p.tables e below (s₁.setTop (mkF m 13 #[.val (.long q0), .second, .val (.long q1), .second, .unset, .unset] [(.int (lcmpW q1 (9223372036854775807 : Int64)))])) _
        refine XS.ifNo X0.here hx rfl (hb hby own_d2_13) rfl ((if0 _ _).trans (teq ((lw_eq q1 (9223372036854775807 : Int64)).mpr hc13_5)).2) ?_
        show Steps p.tables e below (s₁.setTop (mkF m 16 #[.val (.long q0), .second, .val (.long q1), .second, .unset, .unset] [])) _
        refine X0.ldc2Long hx hown (mvT hZ (hw _ (List.mem_of_getElem? (i := 9) rfl))) (g := (mkF m 16 #[.val (.long q0), .second, .val (.long q1), .second, .unset, .unset] [])) rfl (hb hby own_d2_16) _ ?_
        show Steps p.tables e below (s₁.setTop (mkF m 19 #[.val (.long q0), .second, .val (.long q1), .second, .unset, .unset] [(.long (9223372036854775807 : Int64))])) _
        refine XS.lstore X0.here hx rfl (hb hby own_d2_19) rfl (l' := #[.val (.long q0), .second, .val (.long q1), .second, .val (.long (9223372036854775807 : Int64)), .second]) rfl ?_
        show Steps p.tables e below (s₁.setTop (mkF m 21 #[.val (.long q0), .second, .val (.long q1), .second, .val (.long (9223372036854775807 : Int64)), .second] [])) _
        refine XS.goto X0.here hx rfl (pc0 := 21) (pc' := 45) rfl (hb hby own_d2_21) (by decide) (by decide) ?_
        show Steps p.tables e below (s₁.setTop (mkF m 45 #[.val (.long q0), .second, .val (.long q1), .second, .val (.long (9223372036854775807 : Int64)), .second] [])) _
        refine XS.lload X0.here hx rfl (hb hby own_d2_45) rfl ?_
        exact k
      refine own_End.go (fun t k => st6 _ k) ?_
      exact own_leafJ X0 hx Bd.notSynchronized Bd.returns (hb hby own_d2_47) ⟨congrArg (fun z => some (Value.long z)) (by
          simp only [own_F2, own_nb0, own_nb1, if_neg hc5_2, if_pos hc13_5]), rfl, e0⟩ (by decide) (by decide)
    · have st7 : ∀ t, Steps p.tables e below (s₁.setTop (mkF m 31 #[.val (.long q0), .second, .val (.long q1), .second, .unset, .unset] [(.int (lcmpW q0 ((9223372036854775806 : Int64) - q1)))])) t → Steps p.tables e below (s₁.setTop (mkF m 13 #[.val (.long q0), .second, .val (.long q1), .second, .unset, .unset] [(.int (lcmpW q1 (9223372036854775807 : Int64)))])) t := by
        intro t k
        show Steps p.tables e below (s₁.setTop (mkF m 13 #[.val (.long q0), .second, .val (.long q1), .second, .unset, .unset] [(.int (lcmpW q1 (9223372036854775807 : Int64)))])) _
        refine XS.ifYes X0.here hx rfl (pc0 := 13) (pc' := 24) rfl (hb hby own_d2_13) rfl ((if0 _ _).trans (feq (mt (lw_eq q1 (9223372036854775807 : Int64)).mp hc13_5)).2) (by decide) (by decide) ?_
        show Steps p.tables e below (s₁.setTop (mkF m 24 #[.val (.long q0), .second, .val (.long q1), .second, .unset, .unset] [])) _
        refine XS.lloadN X0.here hx rfl (hb hby own_d2_24) rfl ?_
        show Steps p.tables e below (s₁.setTop (mkF m 25 #[.val (.long q0), .second, .val (.long q1), .second, .unset, .unset] [(.long q0)])) _
        refine X0.ldc2Long hx hown (mvT hZ (hw _ (List.mem_of_getElem? (i := 10) rfl))) (g := (mkF m 25 #[.val (.long q0), .second, .val (.long q1), .second, .unset, .unset] [(.long q0)])) rfl (hb hby own_d2_25) _ ?_
        show Steps p.tables e below (s₁.setTop (mkF m 28 #[.val (.long q0), .second, .val (.long q1), .second, .unset, .unset] [(.long (9223372036854775806 : Int64)), (.long q0)])) _
        refine XS.lloadN X0.here hx rfl (hb hby own_d2_28) rfl ?_
        show Steps p.tables e below (s₁.setTop (mkF m 29 #[.val (.long q0), .second, .val (.long q1), .second, .unset, .unset] [(.long q1), (.long (9223372036854775806 : Int64)), (.long q0)])) _
        refine XS.lsub X0.here hx rfl (hb hby own_d2_29) rfl ?_
        show Steps p.tables e below (s₁.setTop (mkF m 30 #[.val (.long q0), .second, .val (.long q1), .second, .unset, .unset] [(.long ((9223372036854775806 : Int64) - q1)), (.long q0)])) _
        refine XS.lcmp X0.here hx rfl (hb hby own_d2_30) rfl ?_
        exact k
      obtain ⟨v11, hv11⟩ : ∃ z : Int64, z = (if ((9223372036854775806 : Int64) - q1) < q0 then (9223372036854775806 : Int64) else (q0 + q1)) := ⟨_, rfl⟩
      have st12 : ∀ t, Steps p.tables e below (s₁.setTop (mkF m 43 #[.val (.long q0), .second, .val (.long q1), .second, .unset, .unset] [(.long v11)])) t → Steps p.tables e below (s₁.setTop (mkF m 31 #[.val (.long q0), .second, .val (.long q1), .second, .unset, .unset] [(.int (lcmpW q0 ((9223372036854775806 : Int64) - q1)))])) t := by
        rw [hv11]
        by_cases hc31_8 : ((9223372036854775806 : Int64) - q1) < q0
        · repeat rw [if_pos hc31_8]
          have st9 : ∀ t, Steps p.tables e below (s₁.setTop (mkF m 43 #[.val (.long q0), .second, .val (.long q1), .second, .unset, .unset] [(.long (9223372036854775806 : Int64))])) t → Steps p.tables e below (s₁.setTop (mkF m 31 #[.val (.long q0), .second, .val (.long q1), .second, .unset, .unset] [(.int (lcmpW q0 ((9223372036854775806 : Int64) - q1)))])) t := by
            intro t k
            show Steps p.tables e below (s₁.setTop (mkF m 31 #[.val (.long q0), .second, .val (.long q1), .second, .unset, .unset] [(.int (lcmpW q0 ((9223372036854775806 : Int64) - q1)))])) _
            refine XS.ifNo X0.here hx rfl (hb hby own_d2_31) rfl ((if0 _ _).trans (tlt ((lw_gt q0 ((9223372036854775806 : Int64) - q1)).mpr hc31_8)).2.2.2) ?_
            show Steps p.tables e below (s₁.setTop (mkF m 34 #[.val (.long q0), .second, .val (.long q1), .second, .unset, .unset] [])) _
            refine X0.ldc2Long hx hown (mvT hZ (hw _ (List.mem_of_getElem? (i := 10) rfl))) (g := (mkF m 34 #[.val (.long q0), .second, .val (.long q1), .second, .unset, .unset] [])) rfl (hb hby own_d2_34) _ ?_
            show Steps p.tables e below (s₁.setTop (mkF m 37 #[.val (.long q0), .second, .val (.long q1), .second, .unset, .unset] [(.long (9223372036854775806 : Int64))])) _
            refine XS.goto X0.here hx rfl (pc0 := 37) (pc' := 43) rfl (hb hby own_d2_37) (by decide) (by decide) ?_
            exact k
          exact fun t k => st9 _ k
        · repeat rw [if_neg hc31_8]
          have st10 : ∀ t, Steps p.tables e below (s₁.setTop (mkF m 43 #[.val (.long q0), .second, .val (.long q1), .second, .unset, .unset] [(.long (q0 + q1))])) t → Steps p.tables e below (s₁.setTop (mkF m 31 #[.val (.long q0), .second, .val (.long q1), .second, .unset, .unset] [(.int (lcmpW q0 ((9223372036854775806 : Int64) - q1)))])) t := by
            intro t k
            show Steps p.tables e below (s₁.setTop (mkF m 31 #[.val (.long q0), .second, .val (.long q1), .second, .unset, .unset] [(.int (lcmpW q0 ((9223372036854775806 : Int64) - q1)))])) _
            refine XS.ifYes X0.here hx rfl (pc0 := 31) (pc' := 40) rfl (hb hby own_d2_31) rfl ((if0 _ _).trans (flt (mt (lw_gt q0 ((9223372036854775806 : Int64) - q1)).mp hc31_8)).2.2.2) (by decide) (by decide) ?_
            show Steps p.tables e below (s₁.setTop (mkF m 40 #[.val (.long q0), .second, .val (.long q1), .second, .unset, .unset] [])) _
            refine XS.lloadN X0.here hx rfl (hb hby own_d2_40) rfl ?_
            show Steps p.tables e below (s₁.setTop (mkF m 41 #[.val (.long q0), .second, .val (.long q1), .second, .unset, .unset] [(.long q0)])) _
            refine XS.lloadN X0.here hx rfl (hb hby own_d2_41) rfl ?_
            show Steps p.tables e below (s₁.setTop (mkF m 42 #[.val (.long q0), .second, .val (.long q1), .second, .unset, .unset] [(.long q1), (.long q0)])) _
            refine XS.ladd X0.here hx rfl (hb hby own_d2_42) rfl ?_
            exact k
          exact fun t k => st10 _ k
      have st13 : ∀ t, Steps p.tables e below (s₁.setTop (mkF m 47 #[.val (.long q0), .second, .val (.long q1), .second, .val (.long v11), .second] [(.long v11)])) t → Steps p.tables e below (s₁.setTop (mkF m 43 #[.val (.long q0), .second, .val (.long q1), .second, .unset, .unset] [(.long v11)])) t := by
        intro t k
        show Steps p.tables e below (s₁.setTop (mkF m 43 #[.val (.long q0), .second, .val (.long q1), .second, .unset, .unset] [(.long v11)])) _
        refine XS.lstore X0.here hx rfl (hb hby own_d2_43) rfl (l' := #[.val (.long q0), .second, .val (.long q1), .second, .val (.long v11), .second]) rfl ?_
        show Steps p.tables e below (s₁.setTop (mkF m 45 #[.val (.long q0), .second, .val (.long q1), .second, .val (.long v11), .second] [])) _
        refine XS.lload X0.here hx rfl (hb hby own_d2_45) rfl ?_
        exact k
      refine own_End.go (fun t k => st7 _ (st12 _ (st13 _ k))) ?_
      exact own_leafJ X0 hx Bd.notSynchronized Bd.returns (hb hby own_d2_47) ⟨congrArg (fun z => some (Value.long z)) (by
          subst hv11; simp only [own_F2, own_nb0, own_nb1, if_neg hc5_2, if_neg hc13_5]), rfl, e0⟩ (by decide) (by decide)
theorem own_pn0 : plainName "com/example/wireform/wireform/LeastSizePlusPinLaw" = true := by first | (simp [plainName, overriddenIn]; done) | decide +kernel
theorem own_ef0 (m : MethodId) (q0 : Int64) (q1 : Int64) (p2 : Int32) : entryFrame m #[(.long q0), (.long q1), (.int p2)] maxLocals = mkF m 0 #[.val (.long q0), .second, .val (.long q1), .second, .val (.int p2), .unset, .unset, .unset, .unset, .unset, .unset, .unset, .unset] [] := by first | (simp [entryFrame, mkF, argsToLocals, Value.category, maxLocals]; done) | rfl
def own_F0 (q0 : Int64) (q1 : Int64) (p2 : Int32) : Int32 :=
  let v3 : Int64 := (own_F1 q0 (p2 &&& (3 : Int32)))
  let v6 : Int64 := (own_F1 q1 ((p2 >>> ((2 : Int32) &&& 31)) &&& (3 : Int32)))
  let v23 : Int64 := (if v3 = (9223372036854775807 : Int64) then (9223372036854775807 : Int64) else (if v6 = (9223372036854775807 : Int64) then (9223372036854775807 : Int64) else (if (v3 + v6) < (0 : Int64) then (9223372036854775806 : Int64) else (if (v3 + v6) = (9223372036854775807 : Int64) then (9223372036854775806 : Int64) else (v3 + v6)))))
  let v27 : Int64 := (own_F2 v3 v6)
  if v27 = v23 then
    (1 : Int32)
  else
    (0 : Int32)
def own_Q0 (q0 : Int64) (q1 : Int64) (p2 : Int32) (h0 : Heap) (n0 : Nat) (v : Option Value) (h : Heap) (L : List Loc) : Prop :=  v = some (.int (own_F0 q0 q1 p2)) ∧ Fr n0 L
set_option maxRecDepth 65536 in
set_option maxHeartbeats 40000000 in
theorem own_rm0 (l : Launch) (Z : State) (a0 : Array Value) (hw : ∀ d ∈ tables_1, d.before a0 Z = true) (ws : List Jvm.Cond) (q0 : Int64) (q1 : Int64) (p2 : Int32) (h0 : Heap) (n0 : Nat) (Z0 : n0 ≤ h0.size) :
    MetFree l x (head1 (Jvm.Cond.code x code maxLocals ret :: ws) room_1) (fun a U => a = #[(.long q0), (.long q1), (.int p2)] ∧ Z.Warmed39 U.vm ∧ U.heap = h0) (fun _ _ _ _ _ => True) (fun _ U o U' => ∃ v L, o = .returned v ∧ own_Q0 q0 q1 p2 h0 n0 v U'.heap L ∧ FrameEnd U o U' L room_1.cells room_1.slots) := by
  refine MetFree.of_bodySF (plainFor_of_name own_pn0) hisR ?_
  intro p e s m args below meth c s₁ Bd hml0 hP hK
  obtain ⟨rfl, hZ, hh⟩ := hP
  have hx := Bd.exec
  have hby := Bd.bytes
  have hml : c.maxLocals = 13 := hml0
  have hown : s.vm.findClass "com/example/wireform/wireform/LeastSizePlusPinLaw" = some m.cls := findClass_of_methodNamed Bd.named
  have hnm := (name_of_methodNamed Bd.named Bd.method).1
  have X0 : Stand p l e room_1 s m #[(.long q0), (.long q1), (.int p2)] below meth c s₁ [] 0 0 := Stand.of_body Bd
  have e0 : s₁.heap = h0 := by rw [← hh, Bd.state]; rfl
  show own_End p e below s (fun v h L => v = some (.int (own_F0 q0 q1 p2)) ∧ Fr n0 L) room_1.cells room_1.slots s₁ (entryFrame m #[(.long q0), (.long q1), (.int p2)] maxLocals)
  refine own_End.go (fun t k => castTop (own_ef0 m q0 q1 p2) k) ?_
  show own_End p e below s _ _ _ s₁ (mkF m 0 #[.val (.long q0), .second, .val (.long q1), .second, .val (.int p2), .unset, .unset, .unset, .unset, .unset, .unset, .unset, .unset] [])
  have st1 : ∀ t, Steps p.tables e below (s₁.setTop (mkF m 5 #[.val (.long q0), .second, .val (.long q1), .second, .val (.int p2), .unset, .unset, .unset, .unset, .unset, .unset, .unset, .unset] [(.int (p2 &&& (3 : Int32))), (.long q0)])) t → Steps p.tables e below (s₁.setTop (mkF m 0 #[.val (.long q0), .second, .val (.long q1), .second, .val (.int p2), .unset, .unset, .unset, .unset, .unset, .unset, .unset, .unset] [])) t := by
    intro t k
    show Steps p.tables e below (s₁.setTop (mkF m 0 #[.val (.long q0), .second, .val (.long q1), .second, .val (.int p2), .unset, .unset, .unset, .unset, .unset, .unset, .unset, .unset] [])) _
    refine XS.lloadN X0.here hx rfl (hb hby at_0) rfl ?_
    show Steps p.tables e below (s₁.setTop (mkF m 1 #[.val (.long q0), .second, .val (.long q1), .second, .val (.int p2), .unset, .unset, .unset, .unset, .unset, .unset, .unset, .unset] [(.long q0)])) _
    refine XS.iload X0.here hx rfl (hb hby at_1) rfl ?_
    show Steps p.tables e below (s₁.setTop (mkF m 3 #[.val (.long q0), .second, .val (.long q1), .second, .val (.int p2), .unset, .unset, .unset, .unset, .unset, .unset, .unset, .unset] [(.int p2), (.long q0)])) _
    refine XS.iconst X0.here hx rfl (hb hby at_3) ?_
    show Steps p.tables e below (s₁.setTop (mkF m 4 #[.val (.long q0), .second, .val (.long q1), .second, .val (.int p2), .unset, .unset, .unset, .unset, .unset, .unset, .unset, .unset] [(.int (3 : Int32)), (.int p2), (.long q0)])) _
    refine XS.iand X0.here hx rfl (hb hby at_4) rfl ?_
    exact k
  obtain ⟨_, _, ⟨T2, L2, k2, n2⟩, -, X2, ⟨Lc2, hQ2, l2, y2, z2⟩, st2⟩ := Jvm.LawKit.callS X0 hx (y := (⟨"com/example/wireform/wireform/LeastSizePlusPinLaw", "pick", "(JI)J"⟩ : MethodName)) hown (mvT hZ (hw _ (List.mem_of_getElem? (i := 0) rfl))) (mvT hZ (hw _ (List.mem_of_getElem? (i := 1) rfl))) (mvT hZ (hw _ (List.mem_of_getElem? (i := 2) rfl))) (mvT hZ (hw _ (List.mem_of_getElem? (i := 3) rfl))) (by decide) (backOf (W := 0) (own_rm1 l Z a0 hw [] q0 (p2 &&& (3 : Int32)) h0) hZ (hw _ (List.mem_of_getElem? (i := 3) rfl)) (hw _ (List.mem_of_getElem? (i := 2) rfl)) (by decide) (by decide)) (g := (mkF m 5 #[.val (.long q0), .second, .val (.long q1), .second, .val (.int p2), .unset, .unset, .unset, .unset, .unset, .unset, .unset, .unset] [(.int (p2 &&& (3 : Int32))), (.long q0)])) rfl (by rw [hml]; rfl) (argsL := [(.long q0), (.int (p2 &&& (3 : Int32)))]) (rest := []) (lenOf own_pd0 rfl) rfl (by show 2 * 0 + _ ≤ _; exact Nat.le_of_eq rfl) (hb hby at_5) (fun _ _ => ⟨rfl, e0, (by decide : 0 + 0 ≤ _), (by decide : 0 + 0 ≤ _)⟩)
  dsimp only [Pt.U, Pt.locs, Pt.cells, Pt.slots] at X2 l2 y2 z2 st2 hQ2
  subst l2 y2 z2
  obtain ⟨rfl, rfl, e2⟩ := hQ2
  have X2' : Stand p l e room_1 s m #[(.long q0), (.long q1), (.int p2)] below meth c T2 [] 0 0 := by first | exact X2 | (rw [List.append_nil] at X2; exact X2)
  obtain ⟨v3, hv3⟩ : ∃ z : Int64, z = (own_F1 q0 (p2 &&& (3 : Int32))) := ⟨_, rfl⟩
  rw [← hv3] at st2
  have st4 : ∀ t, Steps p.tables e below (T2.setTop (mkF m 17 #[.val (.long q0), .second, .val (.long q1), .second, .val (.int p2), .val (.long v3), .second, .unset, .unset, .unset, .unset, .unset, .unset] [(.int ((p2 >>> ((2 : Int32) &&& 31)) &&& (3 : Int32))), (.long q1)])) t → Steps p.tables e below (T2.setTop (mkF m 8 #[.val (.long q0), .second, .val (.long q1), .second, .val (.int p2), .unset, .unset, .unset, .unset, .unset, .unset, .unset, .unset] [(.long v3)])) t := by
    intro t k
    show Steps p.tables e below (T2.setTop (mkF m 8 #[.val (.long q0), .second, .val (.long q1), .second, .val (.int p2), .unset, .unset, .unset, .unset, .unset, .unset, .unset, .unset] [(.long v3)])) _
    refine XS.lstore X2'.here hx rfl (hb hby at_8) rfl (l' := #[.val (.long q0), .second, .val (.long q1), .second, .val (.int p2), .val (.long v3), .second, .unset, .unset, .unset, .unset, .unset, .unset]) rfl ?_
    show Steps p.tables e below (T2.setTop (mkF m 10 #[.val (.long q0), .second, .val (.long q1), .second, .val (.int p2), .val (.long v3), .second, .unset, .unset, .unset, .unset, .unset, .unset] [])) _
    refine XS.lloadN X2'.here hx rfl (hb hby at_10) rfl ?_
    show Steps p.tables e below (T2.setTop (mkF m 11 #[.val (.long q0), .second, .val (.long q1), .second, .val (.int p2), .val (.long v3), .second, .unset, .unset, .unset, .unset, .unset, .unset] [(.long q1)])) _
    refine XS.iload X2'.here hx rfl (hb hby at_11) rfl ?_
    show Steps p.tables e below (T2.setTop (mkF m 13 #[.val (.long q0), .second, .val (.long q1), .second, .val (.int p2), .val (.long v3), .second, .unset, .unset, .unset, .unset, .unset, .unset] [(.int p2), (.long q1)])) _
    refine XS.iconst X2'.here hx rfl (hb hby at_13) ?_
    show Steps p.tables e below (T2.setTop (mkF m 14 #[.val (.long q0), .second, .val (.long q1), .second, .val (.int p2), .val (.long v3), .second, .unset, .unset, .unset, .unset, .unset, .unset] [(.int (2 : Int32)), (.int p2), (.long q1)])) _
    refine XS.ishr X2'.here hx rfl (hb hby at_14) rfl ?_
    show Steps p.tables e below (T2.setTop (mkF m 15 #[.val (.long q0), .second, .val (.long q1), .second, .val (.int p2), .val (.long v3), .second, .unset, .unset, .unset, .unset, .unset, .unset] [(.int (p2 >>> ((2 : Int32) &&& 31))), (.long q1)])) _
    refine XS.iconst X2'.here hx rfl (hb hby at_15) ?_
    show Steps p.tables e below (T2.setTop (mkF m 16 #[.val (.long q0), .second, .val (.long q1), .second, .val (.int p2), .val (.long v3), .second, .unset, .unset, .unset, .unset, .unset, .unset] [(.int (3 : Int32)), (.int (p2 >>> ((2 : Int32) &&& 31))), (.long q1)])) _
    refine XS.iand X2'.here hx rfl (hb hby at_16) rfl ?_
    exact k
  obtain ⟨_, _, ⟨T5, L5, k5, n5⟩, -, X5, ⟨Lc5, hQ5, l5, y5, z5⟩, st5⟩ := Jvm.LawKit.callS X2' hx (y := (⟨"com/example/wireform/wireform/LeastSizePlusPinLaw", "pick", "(JI)J"⟩ : MethodName)) hown (mvT hZ (hw _ (List.mem_of_getElem? (i := 0) rfl))) (mvT hZ (hw _ (List.mem_of_getElem? (i := 1) rfl))) (mvT hZ (hw _ (List.mem_of_getElem? (i := 2) rfl))) (mvT hZ (hw _ (List.mem_of_getElem? (i := 3) rfl))) (by decide) (backOf (W := 0) (own_rm1 l Z a0 hw [] q1 ((p2 >>> ((2 : Int32) &&& 31)) &&& (3 : Int32)) h0) hZ (hw _ (List.mem_of_getElem? (i := 3) rfl)) (hw _ (List.mem_of_getElem? (i := 2) rfl)) (by decide) (by decide)) (g := (mkF m 17 #[.val (.long q0), .second, .val (.long q1), .second, .val (.int p2), .val (.long v3), .second, .unset, .unset, .unset, .unset, .unset, .unset] [(.int ((p2 >>> ((2 : Int32) &&& 31)) &&& (3 : Int32))), (.long q1)])) rfl (by rw [hml]; rfl) (argsL := [(.long q1), (.int ((p2 >>> ((2 : Int32) &&& 31)) &&& (3 : Int32)))]) (rest := []) (lenOf own_pd0 rfl) rfl (by show 2 * 0 + _ ≤ _; exact Nat.le_of_eq rfl) (hb hby at_17) (fun _ _ => ⟨rfl, e2, (by decide : 0 + 0 ≤ _), (by decide : 0 + 0 ≤ _)⟩)
  dsimp only [Pt.U, Pt.locs, Pt.cells, Pt.slots] at X5 l5 y5 z5 st5 hQ5
  subst l5 y5 z5
  obtain ⟨rfl, rfl, e5⟩ := hQ5
  have X5' : Stand p l e room_1 s m #[(.long q0), (.long q1), (.int p2)] below meth c T5 [] 0 0 := by first | exact X5 | (rw [List.append_nil] at X5; exact X5)
  obtain ⟨v6, hv6⟩ : ∃ z : Int64, z = (own_F1 q1 ((p2 >>> ((2 : Int32) &&& 31)) &&& (3 : Int32))) := ⟨_, rfl⟩
  rw [← hv6] at st5
  have st7 : ∀ t, Steps p.tables e below (T5.setTop (mkF m 28 #[.val (.long q0), .second, .val (.long q1), .second, .val (.int p2), .val (.long v3), .second, .val (.long v6), .second, .unset, .unset, .unset, .unset] [(.int (lcmpW v3 (9223372036854775807 : Int64)))])) t → Steps p.tables e below (T5.setTop (mkF m 20 #[.val (.long q0), .second, .val (.long q1), .second, .val (.int p2), .val (.long v3), .second, .unset, .unset, .unset, .unset, .unset, .unset] [(.long v6)])) t := by
    intro t k
    show Steps p.tables e below (T5.setTop (mkF m 20 #[.val (.long q0), .second, .val (.long q1), .second, .val (.int p2), .val (.long v3), .second, .unset, .unset, .unset, .unset, .unset, .unset] [(.long v6)])) _
    refine XS.lstore X5'.here hx rfl (hb hby at_20) rfl (l' := #[.val (.long q0), .second, .val (.long q1), .second, .val (.int p2), .val (.long v3), .second, .val (.long v6), .second, .unset, .unset, .unset, .unset]) rfl ?_
    show Steps p.tables e below (T5.setTop (mkF m 22 #[.val (.long q0), .second, .val (.long q1), .second, .val (.int p2), .val (.long v3), .second, .val (.long v6), .second, .unset, .unset, .unset, .unset] [])) _
    refine XS.lload X5'.here hx rfl (hb hby at_22) rfl ?_
    show Steps p.tables e below (T5.setTop (mkF m 24 #[.val (.long q0), .second, .val (.long q1), .second, .val (.int p2), .val (.long v3), .second, .val (.long v6), .second, .unset, .unset, .unset, .unset] [(.long v3)])) _
    refine X5'.ldc2Long hx hown (mvT hZ (hw _ (List.mem_of_getElem? (i := 4) rfl))) (g := (mkF m 24 #[.val (.long q0), .second, .val (.long q1), .second, .val (.int p2), .val (.long v3), .second, .val (.long v6), .second, .unset, .unset, .unset, .unset] [(.long v3)])) rfl (hb hby at_24) _ ?_
    show Steps p.tables e below (T5.setTop (mkF m 27 #[.val (.long q0), .second, .val (.long q1), .second, .val (.int p2), .val (.long v3), .second, .val (.long v6), .second, .unset, .unset, .unset, .unset] [(.long (9223372036854775807 : Int64)), (.long v3)])) _
    refine XS.lcmp X5'.here hx rfl (hb hby at_27) rfl ?_
    exact k
  obtain ⟨v23, hv23⟩ : ∃ z : Int64, z = (if v3 = (9223372036854775807 : Int64) then (9223372036854775807 : Int64) else (if v6 = (9223372036854775807 : Int64) then (9223372036854775807 : Int64) else (if (v3 + v6) < (0 : Int64) then (9223372036854775806 : Int64) else (if (v3 + v6) = (9223372036854775807 : Int64) then (9223372036854775806 : Int64) else (v3 + v6))))) := ⟨_, rfl⟩
  have st24 : ∀ t, Steps p.tables e below (T5.setTop (mkF m 83 #[.val (.long q0), .second, .val (.long q1), .second, .val (.int p2), .val (.long v3), .second, .val (.long v6), .second, .val (.long v23), .second, (if v3 = (9223372036854775807 : Int64) then (.unset : Slot) else ((if v6 = (9223372036854775807 : Int64) then (.unset : Slot) else (.val (.long (v3 + v6)) : Slot)) : Slot)), (if v3 = (9223372036854775807 : Int64) then (.unset : Slot) else ((if v6 = (9223372036854775807 : Int64) then (.unset : Slot) else (.second : Slot)) : Slot))] [])) t → Steps p.tables e below (T5.setTop (mkF m 28 #[.val (.long q0), .second, .val (.long q1), .second, .val (.int p2), .val (.long v3), .second, .val (.long v6), .second, .unset, .unset, .unset, .unset] [(.int (lcmpW v3 (9223372036854775807 : Int64)))])) t := by
    rw [hv23]
    by_cases hc28_8 : v3 = (9223372036854775807 : Int64)
    · repeat rw [if_pos hc28_8]
      have st9 : ∀ t, Steps p.tables e below (T5.setTop (mkF m 83 #[.val (.long q0), .second, .val (.long q1), .second, .val (.int p2), .val (.long v3), .second, .val (.long v6), .second, .val (.long (9223372036854775807 : Int64)), .second, .unset, .unset] [])) t → Steps p.tables e below (T5.setTop (mkF m 28 #[.val (.long q0), .second, .val (.long q1), .second, .val (.int p2), .val (.long v3), .second, .val (.long v6), .second, .unset, .unset, .unset, .unset] [(.int (lcmpW v3 (9223372036854775807 : Int64)))])) t := by
        intro t k
        show Steps p.tables e below (T5.setTop (mkF m 28 #[.val (.long q0), .second, .val (.long q1), .second, .val (.int p2), .val (.long v3), .second, .val (.long v6), .second, .unset, .unset, .unset, .unset] [(.int (lcmpW v3 (9223372036854775807 : Int64)))])) _
        refine XS.ifYes X5'.here hx rfl (pc0 := 28) (pc' := 40) rfl (hb hby at_28) rfl ((if0 _ _).trans (teq ((lw_eq v3 (9223372036854775807 : Int64)).mpr hc28_8)).1) (by decide) (by decide) ?_
        show Steps p.tables e below (T5.setTop (mkF m 40 #[.val (.long q0), .second, .val (.long q1), .second, .val (.int p2), .val (.long v3), .second, .val (.long v6), .second, .unset, .unset, .unset, .unset] [])) _
        refine X5'.ldc2Long hx hown (mvT hZ (hw _ (List.mem_of_getElem? (i := 4) rfl))) (g := (mkF m 40 #[.val (.long q0), .second, .val (.long q1), .second, .val (.int p2), .val (.long v3), .second, .val (.long v6), .second, .unset, .unset, .unset, .unset] [])) rfl (hb hby at_40) _ ?_
        show Steps p.tables e below (T5.setTop (mkF m 43 #[.val (.long q0), .second, .val (.long q1), .second, .val (.int p2), .val (.long v3), .second, .val (.long v6), .second, .unset, .unset, .unset, .unset] [(.long (9223372036854775807 : Int64))])) _
        refine XS.lstore X5'.here hx rfl (hb hby at_43) rfl (l' := #[.val (.long q0), .second, .val (.long q1), .second, .val (.int p2), .val (.long v3), .second, .val (.long v6), .second, .val (.long (9223372036854775807 : Int64)), .second, .unset, .unset]) rfl ?_
        show Steps p.tables e below (T5.setTop (mkF m 45 #[.val (.long q0), .second, .val (.long q1), .second, .val (.int p2), .val (.long v3), .second, .val (.long v6), .second, .val (.long (9223372036854775807 : Int64)), .second, .unset, .unset] [])) _
        refine XS.goto X5'.here hx rfl (pc0 := 45) (pc' := 83) rfl (hb hby at_45) (by decide) (by decide) ?_
        exact k
      exact fun t k => st9 _ k
    · repeat rw [if_neg hc28_8]
      have st10 : ∀ t, Steps p.tables e below (T5.setTop (mkF m 37 #[.val (.long q0), .second, .val (.long q1), .second, .val (.int p2), .val (.long v3), .second, .val (.long v6), .second, .unset, .unset, .unset, .unset] [(.int (lcmpW v6 (9223372036854775807 : Int64)))])) t → Steps p.tables e below (T5.setTop (mkF m 28 #[.val (.long q0), .second, .val (.long q1), .second, .val (.int p2), .val (.long v3), .second, .val (.long v6), .second, .unset, .unset, .unset, .unset] [(.int (lcmpW v3 (9223372036854775807 : Int64)))])) t := by
        intro t k
        show Steps p.tables e below (T5.setTop (mkF m 28 #[.val (.long q0), .second, .val (.long q1), .second, .val (.int p2), .val (.long v3), .second, .val (.long v6), .second, .unset, .unset, .unset, .unset] [(.int (lcmpW v3 (9223372036854775807 : Int64)))])) _
        refine XS.ifNo X5'.here hx rfl (hb hby at_28) rfl ((if0 _ _).trans (feq (mt (lw_eq v3 (9223372036854775807 : Int64)).mp hc28_8)).1) ?_
        show Steps p.tables e below (T5.setTop (mkF m 31 #[.val (.long q0), .second, .val (.long q1), .second, .val (.int p2), .val (.long v3), .second, .val (.long v6), .second, .unset, .unset, .unset, .unset] [])) _
        refine XS.lload X5'.here hx rfl (hb hby at_31) rfl ?_
        show Steps p.tables e below (T5.setTop (mkF m 33 #[.val (.long q0), .second, .val (.long q1), .second, .val (.int p2), .val (.long v3), .second, .val (.long v6), .second, .unset, .unset, .unset, .unset] [(.long v6)])) _
        refine X5'.ldc2Long hx hown (mvT hZ (hw _ (List.mem_of_getElem? (i := 4) rfl))) (g := (mkF m 33 #[.val (.long q0), .second, .val (.long q1), .second, .val (.int p2), .val (.long v3), .second, .val (.long v6), .second, .unset, .unset, .unset, .unset] [(.long v6)])) rfl (hb hby at_33) _ ?_
        show Steps p.tables e below (T5.setTop (mkF m 36 #[.val (.long q0), .second, .val (.long q1), .second, .val (.int p2), .val (.long v3), .second, .val (.long v6), .second, .unset, .unset, .unset, .unset] [(.long (9223372036854775807 : Int64)), (.long v6)])) _
        refine XS.lcmp X5'.here hx rfl (hb hby at_36) rfl ?_
        exact k
      have st22 : ∀ t, Steps p.tables e below (T5.setTop (mkF m 83 #[.val (.long q0), .second, .val (.long q1), .second, .val (.int p2), .val (.long v3), .second, .val (.long v6), .second, .val (.long (if v6 = (9223372036854775807 : Int64) then (9223372036854775807 : Int64) else (if (v3 + v6) < (0 : Int64) then (9223372036854775806 : Int64) else (if (v3 + v6) = (9223372036854775807 : Int64) then (9223372036854775806 : Int64) else (v3 + v6))))), .second, (if v6 = (9223372036854775807 : Int64) then (.unset : Slot) else (.val (.long (v3 + v6)) : Slot)), (if v6 = (9223372036854775807 : Int64) then (.unset : Slot) else (.second : Slot))] [])) t → Steps p.tables e below (T5.setTop (mkF m 37 #[.val (.long q0), .second, .val (.long q1), .second, .val (.int p2), .val (.long v3), .second, .val (.long v6), .second, .unset, .unset, .unset, .unset] [(.int (lcmpW v6 (9223372036854775807 : Int64)))])) t := by
        by_cases hc37_11 : v6 = (9223372036854775807 : Int64)
        · repeat rw [if_pos hc37_11]
          have st12 : ∀ t, Steps p.tables e below (T5.setTop (mkF m 83 #[.val (.long q0), .second, .val (.long q1), .second, .val (.int p2), .val (.long v3), .second, .val (.long v6), .second, .val (.long (9223372036854775807 : Int64)), .second, .unset, .unset] [])) t → Steps p.tables e below (T5.setTop (mkF m 37 #[.val (.long q0), .second, .val (.long q1), .second, .val (.int p2), .val (.long v3), .second, .val (.long v6), .second, .unset, .unset, .unset, .unset] [(.int (lcmpW v6 (9223372036854775807 : Int64)))])) t := by
            intro t k
            show Steps p.tables e below (T5.setTop (mkF m 37 #[.val (.long q0), .second, .val (.long q1), .second, .val (.int p2), .val (.long v3), .second, .val (.long v6), .second, .unset, .unset, .unset, .unset] [(.int (lcmpW v6 (9223372036854775807 : Int64)))])) _
            refine XS.ifNo X5'.here hx rfl (hb hby at_37) rfl ((if0 _ _).trans (teq ((lw_eq v6 (9223372036854775807 : Int64)).mpr hc37_11)).2) ?_
            show Steps p.tables e below (T5.setTop (mkF m 40 #[.val (.long q0), .second, .val (.long q1), .second, .val (.int p2), .val (.long v3), .second, .val (.long v6), .second, .unset, .unset, .unset, .unset] [])) _
            refine X5'.ldc2Long hx hown (mvT hZ (hw _ (List.mem_of_getElem? (i := 4) rfl))) (g := (mkF m 40 #[.val (.long q0), .second, .val (.long q1), .second, .val (.int p2), .val (.long v3), .second, .val (.long v6), .second, .unset, .unset, .unset, .unset] [])) rfl (hb hby at_40) _ ?_
            show Steps p.tables e below (T5.setTop (mkF m 43 #[.val (.long q0), .second, .val (.long q1), .second, .val (.int p2), .val (.long v3), .second, .val (.long v6), .second, .unset, .unset, .unset, .unset] [(.long (9223372036854775807 : Int64))])) _
            refine XS.lstore X5'.here hx rfl (hb hby at_43) rfl (l' := #[.val (.long q0), .second, .val (.long q1), .second, .val (.int p2), .val (.long v3), .second, .val (.long v6), .second, .val (.long (9223372036854775807 : Int64)), .second, .unset, .unset]) rfl ?_
            show Steps p.tables e below (T5.setTop (mkF m 45 #[.val (.long q0), .second, .val (.long q1), .second, .val (.int p2), .val (.long v3), .second, .val (.long v6), .second, .val (.long (9223372036854775807 : Int64)), .second, .unset, .unset] [])) _
            refine XS.goto X5'.here hx rfl (pc0 := 45) (pc' := 83) rfl (hb hby at_45) (by decide) (by decide) ?_
            exact k
          exact fun t k => st12 _ k
        · repeat rw [if_neg hc37_11]
          have st13 : ∀ t, Steps p.tables e below (T5.setTop (mkF m 59 #[.val (.long q0), .second, .val (.long q1), .second, .val (.int p2), .val (.long v3), .second, .val (.long v6), .second, .unset, .unset, .val (.long (v3 + v6)), .second] [(.int (lcmpW (v3 + v6) (0 : Int64)))])) t → Steps p.tables e below (T5.setTop (mkF m 37 #[.val (.long q0), .second, .val (.long q1), .second, .val (.int p2), .val (.long v3), .second, .val (.long v6), .second, .unset, .unset, .unset, .unset] [(.int (lcmpW v6 (9223372036854775807 : Int64)))])) t := by
            intro t k
            show Steps p.tables e below (T5.setTop (mkF m 37 #[.val (.long q0), .second, .val (.long q1), .second, .val (.int p2), .val (.long v3), .second, .val (.long v6), .second, .unset, .unset, .unset, .unset] [(.int (lcmpW v6 (9223372036854775807 : Int64)))])) _
            refine XS.ifYes X5'.here hx rfl (pc0 := 37) (pc' := 48) rfl (hb hby at_37) rfl ((if0 _ _).trans (feq (mt (lw_eq v6 (9223372036854775807 : Int64)).mp hc37_11)).2) (by decide) (by decide) ?_
            show Steps p.tables e below (T5.setTop (mkF m 48 #[.val (.long q0), .second, .val (.long q1), .second, .val (.int p2), .val (.long v3), .second, .val (.long v6), .second, .unset, .unset, .unset, .unset] [])) _
            refine XS.lload X5'.here hx rfl (hb hby at_48) rfl ?_
            show Steps p.tables e below (T5.setTop (mkF m 50 #[.val (.long q0), .second, .val (.long q1), .second, .val (.int p2), .val (.long v3), .second, .val (.long v6), .second, .unset, .unset, .unset, .unset] [(.long v3)])) _
            refine XS.lload X5'.here hx rfl (hb hby at_50) rfl ?_
            show Steps p.tables e below (T5.setTop (mkF m 52 #[.val (.long q0), .second, .val (.long q1), .second, .val (.int p2), .val (.long v3), .second, .val (.long v6), .second, .unset, .unset, .unset, .unset] [(.long v6), (.long v3)])) _
            refine XS.ladd X5'.here hx rfl (hb hby at_52) rfl ?_
            show Steps p.tables e below (T5.setTop (mkF m 53 #[.val (.long q0), .second, .val (.long q1), .second, .val (.int p2), .val (.long v3), .second, .val (.long v6), .second, .unset, .unset, .unset, .unset] [(.long (v3 + v6))])) _
            refine XS.lstore X5'.here hx rfl (hb hby at_53) rfl (l' := #[.val (.long q0), .second, .val (.long q1), .second, .val (.int p2), .val (.long v3), .second, .val (.long v6), .second, .unset, .unset, .val (.long (v3 + v6)), .second]) rfl ?_
            show Steps p.tables e below (T5.setTop (mkF m 55 #[.val (.long q0), .second, .val (.long q1), .second, .val (.int p2), .val (.long v3), .second, .val (.long v6), .second, .unset, .unset, .val (.long (v3 + v6)), .second] [])) _
            refine XS.lload X5'.here hx rfl (hb hby at_55) rfl ?_
            show Steps p.tables e below (T5.setTop (mkF m 57 #[.val (.long q0), .second, .val (.long q1), .second, .val (.int p2), .val (.long v3), .second, .val (.long v6), .second, .unset, .unset, .val (.long (v3 + v6)), .second] [(.long (v3 + v6))])) _
            refine XS.lconst X5'.here hx rfl (hb hby at_57) ?_
            show Steps p.tables e below (T5.setTop (mkF m 58 #[.val (.long q0), .second, .val (.long q1), .second, .val (.int p2), .val (.long v3), .second, .val (.long v6), .second, .unset, .unset, .val (.long (v3 + v6)), .second] [(.long (0 : Int64)), (.long (v3 + v6))])) _
            refine XS.lcmp X5'.here hx rfl (hb hby at_58) rfl ?_
            exact k
          have st21 : ∀ t, Steps p.tables e below (T5.setTop (mkF m 83 #[.val (.long q0), .second, .val (.long q1), .second, .val (.int p2), .val (.long v3), .second, .val (.long v6), .second, .val (.long (if (v3 + v6) < (0 : Int64) then (9223372036854775806 : Int64) else (if (v3 + v6) = (9223372036854775807 : Int64) then (9223372036854775806 : Int64) else (v3 + v6)))), .second, .val (.long (v3 + v6)), .second] [])) t → Steps p.tables e below (T5.setTop (mkF m 59 #[.val (.long q0), .second, .val (.long q1), .second, .val (.int p2), .val (.long v3), .second, .val (.long v6), .second, .unset, .unset, .val (.long (v3 + v6)), .second] [(.int (lcmpW (v3 + v6) (0 : Int64)))])) t := by
            by_cases hc59_14 : (v3 + v6) < (0 : Int64)
            · repeat rw [if_pos hc59_14]
              have st15 : ∀ t, Steps p.tables e below (T5.setTop (mkF m 83 #[.val (.long q0), .second, .val (.long q1), .second, .val (.int p2), .val (.long v3), .second, .val (.long v6), .second, .val (.long (9223372036854775806 : Int64)), .second, .val (.long (v3 + v6)), .second] [])) t → Steps p.tables e below (T5.setTop (mkF m 59 #[.val (.long q0), .second, .val (.long q1), .second, .val (.int p2), .val (.long v3), .second, .val (.long v6), .second, .unset, .unset, .val (.long (v3 + v6)), .second] [(.int (lcmpW (v3 + v6) (0 : Int64)))])) t := by
                intro t k
                show Steps p.tables e below (T5.setTop (mkF m 59 #[.val (.long q0), .second, .val (.long q1), .second, .val (.int p2), .val (.long v3), .second, .val (.long v6), .second, .unset, .unset, .val (.long (v3 + v6)), .second] [(.int (lcmpW (v3 + v6) (0 : Int64)))])) _
                refine XS.ifYes X5'.here hx rfl (pc0 := 59) (pc' := 71) rfl (hb hby at_59) rfl ((if0 _ _).trans (tlt ((lw_lt (v3 + v6) (0 : Int64)).mpr hc59_14)).1) (by decide) (by decide) ?_
                show Steps p.tables e below (T5.setTop (mkF m 71 #[.val (.long q0), .second, .val (.long q1), .second, .val (.int p2), .val (.long v3), .second, .val (.long v6), .second, .unset, .unset, .val (.long (v3 + v6)), .second] [])) _
                refine X5'.ldc2Long hx hown (mvT hZ (hw _ (List.mem_of_getElem? (i := 12) rfl))) (g := (mkF m 71 #[.val (.long q0), .second, .val (.long q1), .second, .val (.int p2), .val (.long v3), .second, .val (.long v6), .second, .unset, .unset, .val (.long (v3 + v6)), .second] [])) rfl (hb hby at_71) _ ?_
                show Steps p.tables e below (T5.setTop (mkF m 74 #[.val (.long q0), .second, .val (.long q1), .second, .val (.int p2), .val (.long v3), .second, .val (.long v6), .second, .unset, .unset, .val (.long (v3 + v6)), .second] [(.long (9223372036854775806 : Int64))])) _
                refine XS.lstore X5'.here hx rfl (hb hby at_74) rfl (l' := #[.val (.long q0), .second, .val (.long q1), .second, .val (.int p2), .val (.long v3), .second, .val (.long v6), .second, .val (.long (9223372036854775806 : Int64)), .second, .val (.long (v3 + v6)), .second]) rfl ?_
                show Steps p.tables e below (T5.setTop (mkF m 76 #[.val (.long q0), .second, .val (.long q1), .second, .val (.int p2), .val (.long v3), .second, .val (.long v6), .second, .val (.long (9223372036854775806 : Int64)), .second, .val (.long (v3 + v6)), .second] [])) _
                refine XS.goto X5'.here hx rfl (pc0 := 76) (pc' := 83) rfl (hb hby at_76) (by decide) (by decide) ?_
                exact k
              exact fun t k => st15 _ k
            · repeat rw [if_neg hc59_14]
              have st16 : ∀ t, Steps p.tables e below (T5.setTop (mkF m 68 #[.val (.long q0), .second, .val (.long q1), .second, .val (.int p2), .val (.long v3), .second, .val (.long v6), .second, .unset, .unset, .val (.long (v3 + v6)), .second] [(.int (lcmpW (v3 + v6) (9223372036854775807 : Int64)))])) t → Steps p.tables e below (T5.setTop (mkF m 59 #[.val (.long q0), .second, .val (.long q1), .second, .val (.int p2), .val (.long v3), .second, .val (.long v6), .second, .unset, .unset, .val (.long (v3 + v6)), .second] [(.int (lcmpW (v3 + v6) (0 : Int64)))])) t := by
                intro t k
                show Steps p.tables e below (T5.setTop (mkF m 59 #[.val (.long q0), .second, .val (.long q1), .second, .val (.int p2), .val (.long v3), .second, .val (.long v6), .second, .unset, .unset, .val (.long (v3 + v6)), .second] [(.int (lcmpW (v3 + v6) (0 : Int64)))])) _
                refine XS.ifNo X5'.here hx rfl (hb hby at_59) rfl ((if0 _ _).trans (flt (mt (lw_lt (v3 + v6) (0 : Int64)).mp hc59_14)).1) ?_
                show Steps p.tables e below (T5.setTop (mkF m 62 #[.val (.long q0), .second, .val (.long q1), .second, .val (.int p2), .val (.long v3), .second, .val (.long v6), .second, .unset, .unset, .val (.long (v3 + v6)), .second] [])) _
                refine XS.lload X5'.here hx rfl (hb hby at_62) rfl ?_
                show Steps p.tables e below (T5.setTop (mkF m 64 #[.val (.long q0), .second, .val (.long q1), .second, .val (.int p2), .val (.long v3), .second, .val (.long v6), .second, .unset, .unset, .val (.long (v3 + v6)), .second] [(.long (v3 + v6))])) _
                refine X5'.ldc2Long hx hown (mvT hZ (hw _ (List.mem_of_getElem? (i := 4) rfl))) (g := (mkF m 64 #[.val (.long q0), .second, .val (.long q1), .second, .val (.int p2), .val (.long v3), .second, .val (.long v6), .second, .unset, .unset, .val (.long (v3 + v6)), .second] [(.long (v3 + v6))])) rfl (hb hby at_64) _ ?_
                show Steps p.tables e below (T5.setTop (mkF m 67 #[.val (.long q0), .second, .val (.long q1), .second, .val (.int p2), .val (.long v3), .second, .val (.long v6), .second, .unset, .unset, .val (.long (v3 + v6)), .second] [(.long (9223372036854775807 : Int64)), (.long (v3 + v6))])) _
                refine XS.lcmp X5'.here hx rfl (hb hby at_67) rfl ?_
                exact k
              have st20 : ∀ t, Steps p.tables e below (T5.setTop (mkF m 83 #[.val (.long q0), .second, .val (.long q1), .second, .val (.int p2), .val (.long v3), .second, .val (.long v6), .second, .val (.long (if (v3 + v6) = (9223372036854775807 : Int64) then (9223372036854775806 : Int64) else (v3 + v6))), .second, .val (.long (v3 + v6)), .second] [])) t → Steps p.tables e below (T5.setTop (mkF m 68 #[.val (.long q0), .second, .val (.long q1), .second, .val (.int p2), .val (.long v3), .second, .val (.long v6), .second, .unset, .unset, .val (.long (v3 + v6)), .second] [(.int (lcmpW (v3 + v6) (9223372036854775807 : Int64)))])) t := by
                by_cases hc68_17 : (v3 + v6) = (9223372036854775807 : Int64)
                · repeat rw [if_pos hc68_17]
                  have st18 : ∀ t, Steps p.tables e below (T5.setTop (mkF m 83 #[.val (.long q0), .second, .val (.long q1), .second, .val (.int p2), .val (.long v3), .second, .val (.long v6), .second, .val (.long (9223372036854775806 : Int64)), .second, .val (.long (v3 + v6)), .second] [])) t → Steps p.tables e below (T5.setTop (mkF m 68 #[.val (.long q0), .second, .val (.long q1), .second, .val (.int p2), .val (.long v3), .second, .val (.long v6), .second, .unset, .unset, .val (.long (v3 + v6)), .second] [(.int (lcmpW (v3 + v6) (9223372036854775807 : Int64)))])) t := by
                    intro t k
                    show Steps p.tables e below (T5.setTop (mkF m 68 #[.val (.long q0), .second, .val (.long q1), .second, .val (.int p2), .val (.long v3), .second, .val (.long v6), .second, .unset, .unset, .val (.long (v3 + v6)), .second] [(.int (lcmpW (v3 + v6) (9223372036854775807 : Int64)))])) _
                    refine XS.ifNo X5'.here hx rfl (hb hby at_68) rfl ((if0 _ _).trans (teq ((lw_eq (v3 + v6) (9223372036854775807 : Int64)).mpr hc68_17)).2) ?_
                    show Steps p.tables e below (T5.setTop (mkF m 71 #[.val (.long q0), .second, .val (.long q1), .second, .val (.int p2), .val (.long v3), .second, .val (.long v6), .second, .unset, .unset, .val (.long (v3 + v6)), .second] [])) _
                    refine X5'.ldc2Long hx hown (mvT hZ (hw _ (List.mem_of_getElem? (i := 12) rfl))) (g := (mkF m 71 #[.val (.long q0), .second, .val (.long q1), .second, .val (.int p2), .val (.long v3), .second, .val (.long v6), .second, .unset, .unset, .val (.long (v3 + v6)), .second] [])) rfl (hb hby at_71) _ ?_
                    show Steps p.tables e below (T5.setTop (mkF m 74 #[.val (.long q0), .second, .val (.long q1), .second, .val (.int p2), .val (.long v3), .second, .val (.long v6), .second, .unset, .unset, .val (.long (v3 + v6)), .second] [(.long (9223372036854775806 : Int64))])) _
                    refine XS.lstore X5'.here hx rfl (hb hby at_74) rfl (l' := #[.val (.long q0), .second, .val (.long q1), .second, .val (.int p2), .val (.long v3), .second, .val (.long v6), .second, .val (.long (9223372036854775806 : Int64)), .second, .val (.long (v3 + v6)), .second]) rfl ?_
                    show Steps p.tables e below (T5.setTop (mkF m 76 #[.val (.long q0), .second, .val (.long q1), .second, .val (.int p2), .val (.long v3), .second, .val (.long v6), .second, .val (.long (9223372036854775806 : Int64)), .second, .val (.long (v3 + v6)), .second] [])) _
                    refine XS.goto X5'.here hx rfl (pc0 := 76) (pc' := 83) rfl (hb hby at_76) (by decide) (by decide) ?_
                    exact k
                  exact fun t k => st18 _ k
                · repeat rw [if_neg hc68_17]
                  have st19 : ∀ t, Steps p.tables e below (T5.setTop (mkF m 83 #[.val (.long q0), .second, .val (.long q1), .second, .val (.int p2), .val (.long v3), .second, .val (.long v6), .second, .val (.long (v3 + v6)), .second, .val (.long (v3 + v6)), .second] [])) t → Steps p.tables e below (T5.setTop (mkF m 68 #[.val (.long q0), .second, .val (.long q1), .second, .val (.int p2), .val (.long v3), .second, .val (.long v6), .second, .unset, .unset, .val (.long (v3 + v6)), .second] [(.int (lcmpW (v3 + v6) (9223372036854775807 : Int64)))])) t := by
                    intro t k
                    show Steps p.tables e below (T5.setTop (mkF m 68 #[.val (.long q0), .second, .val (.long q1), .second, .val (.int p2), .val (.long v3), .second, .val (.long v6), .second, .unset, .unset, .val (.long (v3 + v6)), .second] [(.int (lcmpW (v3 + v6) (9223372036854775807 : Int64)))])) _
                    refine XS.ifYes X5'.here hx rfl (pc0 := 68) (pc' := 79) rfl (hb hby at_68) rfl ((if0 _ _).trans (feq (mt (lw_eq (v3 + v6) (9223372036854775807 : Int64)).mp hc68_17)).2) (by decide) (by decide) ?_
                    show Steps p.tables e below (T5.setTop (mkF m 79 #[.val (.long q0), .second, .val (.long q1), .second, .val (.int p2), .val (.long v3), .second, .val (.long v6), .second, .unset, .unset, .val (.long (v3 + v6)), .second] [])) _
                    refine XS.lload X5'.here hx rfl (hb hby at_79) rfl ?_
                    show Steps p.tables e below (T5.setTop (mkF m 81 #[.val (.long q0), .second, .val (.long q1), .second, .val (.int p2), .val (.long v3), .second, .val (.long v6), .second, .unset, .unset, .val (.long (v3 + v6)), .second] [(.long (v3 + v6))])) _
                    refine XS.lstore X5'.here hx rfl (hb hby at_81) rfl (l' := #[.val (.long q0), .second, .val (.long q1), .second, .val (.int p2), .val (.long v3), .second, .val (.long v6), .second, .val (.long (v3 + v6)), .second, .val (.long (v3 + v6)), .second]) rfl ?_
                    exact k
                  exact fun t k => st19 _ k
              exact fun t k => st16 _ (st20 _ k)
          exact fun t k => st13 _ (st21 _ k)
      exact fun t k => st10 _ (st22 _ k)
  have st25 : ∀ t, Steps p.tables e below (T5.setTop (mkF m 87 #[.val (.long q0), .second, .val (.long q1), .second, .val (.int p2), .val (.long v3), .second, .val (.long v6), .second, .val (.long v23), .second, (if v3 = (9223372036854775807 : Int64) then (.unset : Slot) else ((if v6 = (9223372036854775807 : Int64) then (.unset : Slot) else (.val (.long (v3 + v6)) : Slot)) : Slot)), (if v3 = (9223372036854775807 : Int64) then (.unset : Slot) else ((if v6 = (9223372036854775807 : Int64) then (.unset : Slot) else (.second : Slot)) : Slot))] [(.long v6), (.long v3)])) t → Steps p.tables e below (T5.setTop (mkF m 83 #[.val (.long q0), .second, .val (.long q1), .second, .val (.int p2), .val (.long v3), .second, .val (.long v6), .second, .val (.long v23), .second, (if v3 = (9223372036854775807 : Int64) then (.unset : Slot) else ((if v6 = (9223372036854775807 : Int64) then (.unset : Slot) else (.val (.long (v3 + v6)) : Slot)) : Slot)), (if v3 = (9223372036854775807 : Int64) then (.unset : Slot) else ((if v6 = (9223372036854775807 : Int64) then (.unset : Slot) else (.second : Slot)) : Slot))] [])) t := by
    intro t k
    show Steps p.tables e below (T5.setTop (mkF m 83 #[.val (.long q0), .second, .val (.long q1), .second, .val (.int p2), .val (.long v3), .second, .val (.long v6), .second, .val (.long v23), .second, (if v3 = (9223372036854775807 : Int64) then (.unset : Slot) else ((if v6 = (9223372036854775807 : Int64) then (.unset : Slot) else (.val (.long (v3 + v6)) : Slot)) : Slot)), (if v3 = (9223372036854775807 : Int64) then (.unset : Slot) else ((if v6 = (9223372036854775807 : Int64) then (.unset : Slot) else (.second : Slot)) : Slot))] [])) _
    refine XS.lload X5'.here hx rfl (hb hby at_83) rfl ?_
    show Steps p.tables e below (T5.setTop (mkF m 85 #[.val (.long q0), .second, .val (.long q1), .second, .val (.int p2), .val (.long v3), .second, .val (.long v6), .second, .val (.long v23), .second, (if v3 = (9223372036854775807 : Int64) then (.unset : Slot) else ((if v6 = (9223372036854775807 : Int64) then (.unset : Slot) else (.val (.long (v3 + v6)) : Slot)) : Slot)), (if v3 = (9223372036854775807 : Int64) then (.unset : Slot) else ((if v6 = (9223372036854775807 : Int64) then (.unset : Slot) else (.second : Slot)) : Slot))] [(.long v3)])) _
    refine XS.lload X5'.here hx rfl (hb hby at_85) rfl ?_
    exact k
  obtain ⟨_, _, ⟨T26, L26, k26, n26⟩, -, X26, ⟨Lc26, hQ26, l26, y26, z26⟩, st26⟩ := Jvm.LawKit.callS X5' hx (y := (⟨"com/example/wireform/wireform/LeastSize", "plus", "(JJ)J"⟩ : MethodName)) hown (mvT hZ (hw _ (List.mem_of_getElem? (i := 5) rfl))) (mvT hZ (hw _ (List.mem_of_getElem? (i := 6) rfl))) (mvT hZ (hw _ (List.mem_of_getElem? (i := 7) rfl))) (mvT hZ (hw _ (List.mem_of_getElem? (i := 8) rfl))) (by decide) (backOf (W := 0) (own_rm2 l Z a0 hw [] v3 v6 h0) hZ (hw _ (List.mem_of_getElem? (i := 8) rfl)) (hw _ (List.mem_of_getElem? (i := 7) rfl)) (by decide) (by decide)) (g := (mkF m 87 #[.val (.long q0), .second, .val (.long q1), .second, .val (.int p2), .val (.long v3), .second, .val (.long v6), .second, .val (.long v23), .second, (if v3 = (9223372036854775807 : Int64) then (.unset : Slot) else ((if v6 = (9223372036854775807 : Int64) then (.unset : Slot) else (.val (.long (v3 + v6)) : Slot)) : Slot)), (if v3 = (9223372036854775807 : Int64) then (.unset : Slot) else ((if v6 = (9223372036854775807 : Int64) then (.unset : Slot) else (.second : Slot)) : Slot))] [(.long v6), (.long v3)])) rfl (by rw [hml]; rfl) (argsL := [(.long v3), (.long v6)]) (rest := []) (lenOf own_pd1 rfl) rfl (by show 2 * 0 + _ ≤ _; exact Nat.le_of_eq rfl) (hb hby at_87) (fun _ _ => ⟨rfl, e5, (by decide : 0 + 0 ≤ _), (by decide : 0 + 0 ≤ _)⟩)
  dsimp only [Pt.U, Pt.locs, Pt.cells, Pt.slots] at X26 l26 y26 z26 st26 hQ26
  subst l26 y26 z26
  obtain ⟨rfl, rfl, e26⟩ := hQ26
  have X26' : Stand p l e room_1 s m #[(.long q0), (.long q1), (.int p2)] below meth c T26 [] 0 0 := by first | exact X26 | (rw [List.append_nil] at X26; exact X26)
  obtain ⟨v27, hv27⟩ : ∃ z : Int64, z = (own_F2 v3 v6) := ⟨_, rfl⟩
  rw [← hv27] at st26
  have st28 : ∀ t, Steps p.tables e below (T26.setTop (mkF m 93 #[.val (.long q0), .second, .val (.long q1), .second, .val (.int p2), .val (.long v3), .second, .val (.long v6), .second, .val (.long v23), .second, (if v3 = (9223372036854775807 : Int64) then (.unset : Slot) else ((if v6 = (9223372036854775807 : Int64) then (.unset : Slot) else (.val (.long (v3 + v6)) : Slot)) : Slot)), (if v3 = (9223372036854775807 : Int64) then (.unset : Slot) else ((if v6 = (9223372036854775807 : Int64) then (.unset : Slot) else (.second : Slot)) : Slot))] [(.int (lcmpW v27 v23))])) t → Steps p.tables e below (T26.setTop (mkF m 90 #[.val (.long q0), .second, .val (.long q1), .second, .val (.int p2), .val (.long v3), .second, .val (.long v6), .second, .val (.long v23), .second, (if v3 = (9223372036854775807 : Int64) then (.unset : Slot) else ((if v6 = (9223372036854775807 : Int64) then (.unset : Slot) else (.val (.long (v3 + v6)) : Slot)) : Slot)), (if v3 = (9223372036854775807 : Int64) then (.unset : Slot) else ((if v6 = (9223372036854775807 : Int64) then (.unset : Slot) else (.second : Slot)) : Slot))] [(.long v27)])) t := by
    intro t k
    show Steps p.tables e below (T26.setTop (mkF m 90 #[.val (.long q0), .second, .val (.long q1), .second, .val (.int p2), .val (.long v3), .second, .val (.long v6), .second, .val (.long v23), .second, (if v3 = (9223372036854775807 : Int64) then (.unset : Slot) else ((if v6 = (9223372036854775807 : Int64) then (.unset : Slot) else (.val (.long (v3 + v6)) : Slot)) : Slot)), (if v3 = (9223372036854775807 : Int64) then (.unset : Slot) else ((if v6 = (9223372036854775807 : Int64) then (.unset : Slot) else (.second : Slot)) : Slot))] [(.long v27)])) _
    refine XS.lload X26'.here hx rfl (hb hby at_90) rfl ?_
    show Steps p.tables e below (T26.setTop (mkF m 92 #[.val (.long q0), .second, .val (.long q1), .second, .val (.int p2), .val (.long v3), .second, .val (.long v6), .second, .val (.long v23), .second, (if v3 = (9223372036854775807 : Int64) then (.unset : Slot) else ((if v6 = (9223372036854775807 : Int64) then (.unset : Slot) else (.val (.long (v3 + v6)) : Slot)) : Slot)), (if v3 = (9223372036854775807 : Int64) then (.unset : Slot) else ((if v6 = (9223372036854775807 : Int64) then (.unset : Slot) else (.second : Slot)) : Slot))] [(.long v23), (.long v27)])) _
    refine XS.lcmp X26'.here hx rfl (hb hby at_92) rfl ?_
    exact k
  refine own_End.go (fun t k => st1 _ (st2 _ (st4 _ (st5 _ (st7 _ (st24 _ (st25 _ (st26 _ (st28 _ k))))))))) ?_
  by_cases hc93_29 : v27 = v23
  · have st30 : ∀ t, Steps p.tables e below (T26.setTop (mkF m 101 #[.val (.long q0), .second, .val (.long q1), .second, .val (.int p2), .val (.long v3), .second, .val (.long v6), .second, .val (.long v23), .second, (if v3 = (9223372036854775807 : Int64) then (.unset : Slot) else ((if v6 = (9223372036854775807 : Int64) then (.unset : Slot) else (.val (.long (v3 + v6)) : Slot)) : Slot)), (if v3 = (9223372036854775807 : Int64) then (.unset : Slot) else ((if v6 = (9223372036854775807 : Int64) then (.unset : Slot) else (.second : Slot)) : Slot))] [(.int (1 : Int32))])) t → Steps p.tables e below (T26.setTop (mkF m 93 #[.val (.long q0), .second, .val (.long q1), .second, .val (.int p2), .val (.long v3), .second, .val (.long v6), .second, .val (.long v23), .second, (if v3 = (9223372036854775807 : Int64) then (.unset : Slot) else ((if v6 = (9223372036854775807 : Int64) then (.unset : Slot) else (.val (.long (v3 + v6)) : Slot)) : Slot)), (if v3 = (9223372036854775807 : Int64) then (.unset : Slot) else ((if v6 = (9223372036854775807 : Int64) then (.unset : Slot) else (.second : Slot)) : Slot))] [(.int (lcmpW v27 v23))])) t := by
      intro t k
      show Steps p.tables e below (T26.setTop (mkF m 93 #[.val (.long q0), .second, .val (.long q1), .second, .val (.int p2), .val (.long v3), .second, .val (.long v6), .second, .val (.long v23), .second, (if v3 = (9223372036854775807 : Int64) then (.unset : Slot) else ((if v6 = (9223372036854775807 : Int64) then (.unset : Slot) else (.val (.long (v3 + v6)) : Slot)) : Slot)), (if v3 = (9223372036854775807 : Int64) then (.unset : Slot) else ((if v6 = (9223372036854775807 : Int64) then (.unset : Slot) else (.second : Slot)) : Slot))] [(.int (lcmpW v27 v23))])) _
      refine XS.ifNo X26'.here hx rfl (hb hby at_93) rfl ((if0 _ _).trans (teq ((lw_eq v27 v23).mpr hc93_29)).2) ?_
      show Steps p.tables e below (T26.setTop (mkF m 96 #[.val (.long q0), .second, .val (.long q1), .second, .val (.int p2), .val (.long v3), .second, .val (.long v6), .second, .val (.long v23), .second, (if v3 = (9223372036854775807 : Int64) then (.unset : Slot) else ((if v6 = (9223372036854775807 : Int64) then (.unset : Slot) else (.val (.long (v3 + v6)) : Slot)) : Slot)), (if v3 = (9223372036854775807 : Int64) then (.unset : Slot) else ((if v6 = (9223372036854775807 : Int64) then (.unset : Slot) else (.second : Slot)) : Slot))] [])) _
      refine XS.iconst X26'.here hx rfl (hb hby at_96) ?_
      show Steps p.tables e below (T26.setTop (mkF m 97 #[.val (.long q0), .second, .val (.long q1), .second, .val (.int p2), .val (.long v3), .second, .val (.long v6), .second, .val (.long v23), .second, (if v3 = (9223372036854775807 : Int64) then (.unset : Slot) else ((if v6 = (9223372036854775807 : Int64) then (.unset : Slot) else (.val (.long (v3 + v6)) : Slot)) : Slot)), (if v3 = (9223372036854775807 : Int64) then (.unset : Slot) else ((if v6 = (9223372036854775807 : Int64) then (.unset : Slot) else (.second : Slot)) : Slot))] [(.int (1 : Int32))])) _
      refine XS.goto X26'.here hx rfl (pc0 := 97) (pc' := 101) rfl (hb hby at_97) (by decide) (by decide) ?_
      exact k
    refine own_End.go (fun t k => st30 _ k) ?_
    exact own_leafN X26' hx Bd.notSynchronized (t := .boolean) Bd.returns (by simp) (hb hby at_101) ⟨congrArg (fun z => some (Value.int z)) (by
        subst hv3 hv6 hv23 hv27; simp only [own_F0, own_nb0, own_nb1, if_pos hc93_29]), Fr.nil n0⟩ (by decide) (by decide)
  · have st31 : ∀ t, Steps p.tables e below (T26.setTop (mkF m 101 #[.val (.long q0), .second, .val (.long q1), .second, .val (.int p2), .val (.long v3), .second, .val (.long v6), .second, .val (.long v23), .second, (if v3 = (9223372036854775807 : Int64) then (.unset : Slot) else ((if v6 = (9223372036854775807 : Int64) then (.unset : Slot) else (.val (.long (v3 + v6)) : Slot)) : Slot)), (if v3 = (9223372036854775807 : Int64) then (.unset : Slot) else ((if v6 = (9223372036854775807 : Int64) then (.unset : Slot) else (.second : Slot)) : Slot))] [(.int (0 : Int32))])) t → Steps p.tables e below (T26.setTop (mkF m 93 #[.val (.long q0), .second, .val (.long q1), .second, .val (.int p2), .val (.long v3), .second, .val (.long v6), .second, .val (.long v23), .second, (if v3 = (9223372036854775807 : Int64) then (.unset : Slot) else ((if v6 = (9223372036854775807 : Int64) then (.unset : Slot) else (.val (.long (v3 + v6)) : Slot)) : Slot)), (if v3 = (9223372036854775807 : Int64) then (.unset : Slot) else ((if v6 = (9223372036854775807 : Int64) then (.unset : Slot) else (.second : Slot)) : Slot))] [(.int (lcmpW v27 v23))])) t := by
      intro t k
      show Steps p.tables e below (T26.setTop (mkF m 93 #[.val (.long q0), .second, .val (.long q1), .second, .val (.int p2), .val (.long v3), .second, .val (.long v6), .second, .val (.long v23), .second, (if v3 = (9223372036854775807 : Int64) then (.unset : Slot) else ((if v6 = (9223372036854775807 : Int64) then (.unset : Slot) else (.val (.long (v3 + v6)) : Slot)) : Slot)), (if v3 = (9223372036854775807 : Int64) then (.unset : Slot) else ((if v6 = (9223372036854775807 : Int64) then (.unset : Slot) else (.second : Slot)) : Slot))] [(.int (lcmpW v27 v23))])) _
      refine XS.ifYes X26'.here hx rfl (pc0 := 93) (pc' := 100) rfl (hb hby at_93) rfl ((if0 _ _).trans (feq (mt (lw_eq v27 v23).mp hc93_29)).2) (by decide) (by decide) ?_
      show Steps p.tables e below (T26.setTop (mkF m 100 #[.val (.long q0), .second, .val (.long q1), .second, .val (.int p2), .val (.long v3), .second, .val (.long v6), .second, .val (.long v23), .second, (if v3 = (9223372036854775807 : Int64) then (.unset : Slot) else ((if v6 = (9223372036854775807 : Int64) then (.unset : Slot) else (.val (.long (v3 + v6)) : Slot)) : Slot)), (if v3 = (9223372036854775807 : Int64) then (.unset : Slot) else ((if v6 = (9223372036854775807 : Int64) then (.unset : Slot) else (.second : Slot)) : Slot))] [])) _
      refine XS.iconst X26'.here hx rfl (hb hby at_100) ?_
      exact k
    refine own_End.go (fun t k => st31 _ k) ?_
    exact own_leafN X26' hx Bd.notSynchronized (t := .boolean) Bd.returns (by simp) (hb hby at_101) ⟨congrArg (fun z => some (Value.int z)) (by
        subst hv3 hv6 hv23 hv27; simp only [own_F0, own_nb0, own_nb1, if_neg hc93_29]), Fr.nil n0⟩ (by decide) (by decide)
theorem own_pick (x : Int64) (k : Int32) : 0 ≤ (own_F1 x k).toInt := by
  have m1 : (x &&& (255 : Int64)).toInt = x.toInt % (2 ^ 8 : Nat) := c_maskL x 255 8 (by decide) (by decide)
  have m2 : (x &&& (9223372036854775807 : Int64)).toInt = x.toInt % (2 ^ 63 : Nat) := c_maskL x 9223372036854775807 63 (by decide) (by decide)
  have s1 := c_lsub 9223372036854775806 (x &&& (255 : Int64))
  have r1 := rng64 (9223372036854775806 - (x &&& (255 : Int64)))
  have y1 : (9223372036854775806 : Int64).toInt = 9223372036854775806 := by decide
  unfold own_F1
  split
  · decide
  · split
    · omega
    · split <;> omega
theorem own_plain (q0 q1 : Int64) (p2 : Int32) : own_F0 q0 q1 p2 = 1 := by
  unfold own_F0
  simp only []
  generalize ha : own_F1 q0 _ = a
  generalize hb : own_F1 q1 _ = b
  have pa : 0 ≤ a.toInt := ha ▸ own_pick _ _
  have pb : 0 ≤ b.toInt := hb ▸ own_pick _ _
  have ra := rng64 a
  have rb := rng64 b
  have a1 := c_ladd a b
  have r1 := rng64 (a + b)
  have s1 := c_lsub 9223372036854775806 b
  have r2 := rng64 (9223372036854775806 - b)
  have y0 : (0 : Int64).toInt = 0 := by decide
  have y1 : (9223372036854775806 : Int64).toInt = 9223372036854775806 := by decide
  have y2 : (9223372036854775807 : Int64).toInt = 9223372036854775807 := by decide
  unfold own_F2
  simp only []
  simp only [Int64.lt_iff_toInt_lt, ← Int64.toInt_inj, y0, y1, y2]
  repeat' split
  all_goals first | rfl | (exfalso; omega)

set_option maxRecDepth 65536 in
set_option maxHeartbeats 40000000 in
theorem comes_1 {Post : Tables → Env → Array Value → State → Outcome → State → Prop} (hpost : ∀ tb e args s v u, (limb_1_1.after args s (.returned v) u = true ∧ limb_1_2.after args s (.returned v) u = true ∧ True) → FrameEnd s (.returned v) u (Jvm.fieldLocs frame_1_writes args s ++ Jvm.arrayLocs frame_1_arrays args s ++ Jvm.staticLocs frame_1_statics s) 0 0 → Post tb e args s (.returned v) u) :
    ArmFor flags0 classFile x code maxLocals ret World_1 tables_1 room_1 Calls_1 rest_1 Pre_1 Post := by
  intro l hfl _ _ p e ha hc hk s m args below hf hA hF happ hP
  obtain ⟨hcalls, hrest, hpre⟩ := hP
  obtain ⟨-, -, -, hnamed, -, -, -, hat⟩ := (Spec.applies_iff hf).mp happ
  obtain ⟨hg, hn⟩ := and_e (Cond.before_iff.mp (show (Jvm.Cond.and given_1 narrow_1).before args s = true from hpre))
  obtain ⟨g1, g2⟩ := and_e hg
  obtain ⟨ga0, gb0⟩ := and_e g2
  obtain ⟨ga1, gb1⟩ := and_e gb0
  obtain ⟨w0, w1, w2, rfl⟩ : ∃ w0 w1 w2 : Value, args = #[w0, w1, w2] := by
    have hs : args.size = 3 := by simpa [Cond.value, given_1] using g1
    obtain ⟨L⟩ := args
    match L, hs with
    | [w0, w1, w2], _ => exact ⟨w0, w1, w2, rfl⟩
  have hw := fun d (hd : d ∈ tables_1) => atoms_spec (ws := Jvm.Cond.code x code maxLocals ret :: tables_1) hat d (List.mem_cons_of_mem _ hd)
  obtain ⟨i0, ei0⟩ := isL_v ga0
  obtain rfl : w0 = (.long i0) := Option.some.inj ei0
  obtain ⟨i1, ei1⟩ := isL_v ga1
  obtain rfl : w1 = (.long i1) := Option.some.inj ei1
  obtain ⟨i2, ei2⟩ := is_v gb1
  obtain rfl : w2 = (.int i2) := Option.some.inj ei2
  obtain ⟨n, o, h1, h2, h3, _, L, rfl, ⟨hv, N⟩, hq⟩ := own_rm0 l s _ hw tables_1 i0 i1 i2 s.heap s.heap.size (Nat.le_refl _) p e ha hc hk s m _ below hf ((Spec.applies_iff_loose hf).mp happ).1 ⟨rfl, State.Warmed39.refl s, rfl⟩ trivial
  rw [own_plain i0 i1 i2] at hv
  subst hv
  refine ⟨n, _, h1, h2, h3, hpost _ _ _ _ _ _ ⟨Cond.after_iff.mpr rfl, Cond.after_iff.mpr (eq_i res_at (Term.int_eval (1)) rfl), trivial⟩ ⟨hq.1, hq.2.1, (hq.2.2.sift fun y hy => Or.inr (N y hy)).mono (by decide) (by decide)⟩⟩
theorem main_1_1 : Claimed_1_1 := comes_1 fun _ _ _ _ _ _ h hF => ⟨h.1, hF⟩
theorem main_1_2 : Claimed_1_2 := comes_1 fun _ _ _ _ _ _ h hF => ⟨h.2.1, hF⟩
end Jvm.Pilot.@@N@@
namespace Jvm.Pilot.@@N@@
open Jvm Jvm.ClassFile Sem Op Lib Jvm.Free Jvm.Stand Jvm.Pilot.@@N@@.Jvm.D
/-! MADE BY PROGRAM (witnessworld.py) out of the Statement's table words and the real class files: 9 classes; the members and pool entries that the words name. The judged class is class 1, her method 2. -/
namespace start1
open Jvm.ClassFile
def u (s : String) : CpInfo := .utf8 (stringToUtf16 s)
/-- a pool by its gaps: so many unusable entries, then the entry; so many at the end -/
def gap : Nat → List CpInfo → List CpInfo
  | 0, r => r
  | n + 1, r => .unusable :: gap n r
def poolList (es : List (Nat × CpInfo)) (last : Nat) : List CpInfo := es.foldr (fun e r => gap e.1 (e.2 :: r)) (gap last [])
def pool (es : List (Nat × CpInfo)) (last : Nat) : Array CpInfo := ⟨poolList es last⟩
def fileOf (pool : Array CpInfo) (this : Nat) (attrs : Array Attribute := #[]) (ms : Array MethodInfo := #[]) (fl : Nat := 33) (sup : Nat := 0) (ifs : Array Nat := #[]) (fds : Array FieldInfo := #[]) : ClassFile where
  minorVersion := 0
  majorVersion := 65
  constantPool := pool
  accessFlags := fl
  thisClass := this
  superClass := sup
  interfaces := ifs
  fields := fds
  methods := ms
  attributes := attrs
def plain (name : String) (sup : Option ClassId) : Class where
  name := name
  kind := .ordinary
  loader := none
  accessFlags := 33
  super := sup
  interfaces := #[]
  cf := none
  fields := #[]
  methods := #[]
  instanceTypes := #[]
  staticTypes := #[]
  resolved := #[]
  callSites := []
  init := .initialized
  statics := none
  mirror := none

def pool0 : Array CpInfo := pool [(5, u "<init>"), (0, u "()V"), (1, .class_ 10), (1, u "java/lang/Object")] 113

def k0m0 : Method := { name := "<init>", desc := "()V", sig := { parameters := [], returnType := none }, accessFlags := 1, code := none }
/-- java/lang/Object -/
def k0 : Class := { plain "java/lang/Object" none with
  accessFlags := 33
  interfaces := #[]
  cf := some (fileOf pool0 8 #[] #[{ accessFlags := 1, nameIndex := 5, descriptorIndex := 6, attributes := #[] }] 33 0 #[] #[])
  fields := #[]
  methods := #[k0m0]
  instanceTypes := #[]
  staticTypes := #[]
  resolved := Array.replicate 124 none
  statics := none }

def pool1 : Array CpInfo := pool [(2, .class_ 4), (1, u "java/lang/Object"), (0, u "<init>"), (0, u "()V"), (0, .class_ 8), (0, u "com/example/wireform/wireform/LeastSizePlusPinLaw"), (0, .long 9223372036854775807), (1, .long 9223372036854775806), (1, .long 255), (1, .methodref 7 16), (0, .nameAndType 17 18), (0, u "pick"), (0, u "(JI)J"), (0, .methodref 20 21), (0, .class_ 22), (0, .nameAndType 23 24), (0, u "com/example/wireform/wireform/LeastSize"), (0, u "plus"), (0, u "(JJ)J"), (0, u "U"), (0, u "J"), (1, u "M"), (3, u "law"), (0, u "(JJI)Z")] 2

def k1m0 : Method := { name := "<init>", desc := "()V", sig := { parameters := [], returnType := none }, accessFlags := 1, code := none }
def k1c1 : Code := { maxStack := 6, maxLocals := 3, code := method_2_code, exceptionTable := #[], attributes := #[] }
def k1m1 : Method := { name := "pick", desc := "(JI)J", sig := { parameters := [.long, .int], returnType := some .long }, accessFlags := 10, code := some k1c1 }
def k1c2 : Code := { maxStack := 4, maxLocals := 13, code := code, exceptionTable := #[], attributes := #[] }
def k1m2 : Method := { name := "law", desc := "(JJI)Z", sig := { parameters := [.long, .long, .int], returnType := some .boolean }, accessFlags := 9, code := some k1c2 }
/-- com/example/wireform/wireform/LeastSizePlusPinLaw -/
def k1 : Class := { plain "com/example/wireform/wireform/LeastSizePlusPinLaw" (some 0) with
  accessFlags := 49
  interfaces := #[]
  cf := some (fileOf pool1 7 #[] #[{ accessFlags := 1, nameIndex := 5, descriptorIndex := 6, attributes := #[] }, { accessFlags := 10, nameIndex := 17, descriptorIndex := 18, attributes := #[] }, { accessFlags := 9, nameIndex := 32, descriptorIndex := 33, attributes := #[] }] 49 2 #[] #[{ accessFlags := 26, nameIndex := 25, descriptorIndex := 26, attributes := #[] }, { accessFlags := 26, nameIndex := 28, descriptorIndex := 26, attributes := #[] }])
  fields := #[{ name := "U", type := .long, accessFlags := 26, slot := 0, constantValue := 0 }, { name := "M", type := .long, accessFlags := 26, slot := 1, constantValue := 0 }]
  methods := #[k1m0, k1m1, k1m2]
  instanceTypes := #[]
  staticTypes := #[.long, .long]
  resolved := Array.replicate 36 none
  statics := none }

def pool2 : Array CpInfo := pool [(3, .class_ 4), (0, u "com/example/wireform/wireform/LeastSize"), (1, .class_ 8), (1, u "java/lang/Object"), (0, u "<init>"), (0, u "()V"), (0, .long 9223372036854775807), (1, .long 9223372036854775806), (1, u "UNBOUNDED"), (0, u "J"), (1, u "MOST"), (2, u "plus"), (0, u "(JJ)J")] 4

def k2m0 : Method := { name := "<init>", desc := "()V", sig := { parameters := [], returnType := none }, accessFlags := 2, code := none }
def k2c1 : Code := { maxStack := 6, maxLocals := 6, code := prog_40_method_2_code, exceptionTable := #[], attributes := #[] }
def k2m1 : Method := { name := "plus", desc := "(JJ)J", sig := { parameters := [.long, .long], returnType := some .long }, accessFlags := 8, code := some k2c1 }
/-- com/example/wireform/wireform/LeastSize -/
def k2 : Class := { plain "com/example/wireform/wireform/LeastSize" (some 0) with
  accessFlags := 48
  interfaces := #[]
  cf := some (fileOf pool2 3 #[] #[{ accessFlags := 2, nameIndex := 9, descriptorIndex := 10, attributes := #[] }, { accessFlags := 8, nameIndex := 21, descriptorIndex := 22, attributes := #[] }] 48 6 #[] #[{ accessFlags := 24, nameIndex := 15, descriptorIndex := 16, attributes := #[] }, { accessFlags := 24, nameIndex := 18, descriptorIndex := 16, attributes := #[] }])
  fields := #[{ name := "UNBOUNDED", type := .long, accessFlags := 24, slot := 0, constantValue := 0 }, { name := "MOST", type := .long, accessFlags := 24, slot := 1, constantValue := 0 }]
  methods := #[k2m0, k2m1]
  instanceTypes := #[]
  staticTypes := #[.long, .long]
  resolved := Array.replicate 27 none
  statics := none }

def pool3 : Array CpInfo := pool [(1, u "java/lang/Cloneable"), (0, .class_ 1), (0, u "java/lang/Object"), (0, .class_ 3)] 3

/-- java/lang/Cloneable -/
def k3 : Class := { plain "java/lang/Cloneable" (some 0) with
  accessFlags := 1537
  interfaces := #[]
  cf := some (fileOf pool3 2 #[] #[] 1537 4 #[] #[])
  fields := #[]
  methods := #[]
  instanceTypes := #[]
  staticTypes := #[]
  resolved := Array.replicate 8 none
  statics := none }

def pool4 : Array CpInfo := pool [(1, u "java/io/Serializable"), (0, .class_ 1), (0, u "java/lang/Object"), (0, .class_ 3)] 3

/-- java/io/Serializable -/
def k4 : Class := { plain "java/io/Serializable" (some 0) with
  accessFlags := 1537
  interfaces := #[]
  cf := some (fileOf pool4 2 #[] #[] 1537 4 #[] #[])
  fields := #[]
  methods := #[]
  instanceTypes := #[]
  staticTypes := #[]
  resolved := Array.replicate 8 none
  statics := none }

/-- the primitive byte -/
def k5 : Class := { plain "byte" none with kind := .primitive 'B', accessFlags := 0x411 }
/-- [B -/
def k6 : Class := { plain "[B" (some 0) with kind := .array 5 .byte, interfaces := #[3, 4], accessFlags := 1041 }

/-- the primitive int -/
def k7 : Class := { plain "int" none with kind := .primitive 'I', accessFlags := 0x411 }
/-- [I -/
def k8 : Class := { plain "[I" (some 0) with kind := .array 7 .int, interfaces := #[3, 4], accessFlags := 1041 }

def heap : Heap := #[]
def classes : Array Class := #[k0, k1, k2, k3, k4, k5, k6, k7, k8]
def interned : List (Array UInt16 × Addr) := []
def slotsUsed : Nat := 0
def theMethod : MethodId := ⟨1, 2⟩
def args0 : Array Value := #[.long 5, .long 5, .int 5]
def aboutOver (below : List Frame) : State where
  vm := { classes := classes, interned := interned.toArray }
  heap := heap
  slotsUsed := slotsUsed
  threads := #[{ frames := .invoking theMethod args0 :: below }]
def below0 : List Frame := [.native { method := ⟨0, 0⟩, args := #[] }]
def about1 : State := aboutOver below0
def p0 : Program := .bare "" "" ""
def e0 : Env := launch0.env 0 0 0
theorem w_frames : about1.frames = Frame.invoking theMethod args0 :: below0 := rfl
set_option maxRecDepth 65536 in
theorem w_args : argsFit about1.vm theMethod args0 = true := by decide +kernel
set_option maxRecDepth 65536 in
theorem w_heap : heapFits about1 = true := by decide +kernel
set_option maxRecDepth 65536 in
theorem w_runnable : about1.curStatus? = some .runnable := by decide +kernel
set_option maxRecDepth 65536 in
theorem w_alone : about1.alone = true := by decide +kernel
set_option maxRecDepth 65536 in
theorem w_named : about1.methodNamed? x = some theMethod := by decide +kernel
set_option maxRecDepth 65536 in
theorem w_hears : about1.hears theMethod below0 = true := by decide +kernel
set_option maxRecDepth 65536 in
theorem w_ripe : about1.ripe theMethod args0 below0 = true := by decide +kernel
theorem w_running : about1.status = .running := rfl
set_option maxRecDepth 65536 in
theorem w_room : about1.hasRoom e0.platform room_1 = true :=
  launch0.hasRoom_least _ room_1 (by decide +kernel) (by decide +kernel) (by decide +kernel) (by decide +kernel) (by decide +kernel) (by decide +kernel)
theorem allAtoms_all (ts : List Jvm.Cond) (a : Array Jvm.Value) (st : Jvm.State) : (allAtoms ts).before a st = ts.all (fun c => c.before a st) := by
  induction ts with
  | nil => rfl
  | cons c t ih =>
    show (Jvm.Cond.and c (allAtoms t)).before a st = _
    rw [Jvm.Cond.before_and, ih, List.all_cons]
def words1 : List Jvm.Cond := Jvm.Cond.code x code maxLocals ret :: tables_1
/-- a 'code' word, met by the world's own term for the bytes: nothing is compared byte by byte -/
theorem code_word {y : MethodName} {bytes : ByteArray} {mx : Nat} {rt : Option FieldType} {a : Array Value} {s : State} {m : MethodId} {meth : Method} {c : Code} (h1 : s.methodNamed? y = some m) (h2 : s.vm.method? m = some meth) (h3 : meth.code = some c) (h4 : c.code = bytes)
    (h5 : (c.maxLocals == mx && c.exceptionTable.isEmpty && decide (c.maxStack ≤ mostOperands) && decide (meth.sig.returnType = rt) && !meth.locks && decide (parseMethodDescriptor y.desc = some meth.sig)) = true) : (Jvm.Cond.code y bytes mx rt).before a s = true := by
  simp only [Bool.and_eq_true, beq_iff_eq, Bool.not_eq_true', decide_eq_true_eq] at h5
  obtain ⟨⟨⟨⟨⟨g1, g2⟩, g3⟩, g4⟩, g5⟩, g6⟩ := h5
  simp [Cond.before, Cond.holds, Cond.value, h1, h2, h3, h4, g1, g2, g3, g4, g5, g6]
def isCode : Jvm.Cond → Bool
  | .code _ _ _ _ => true
  | _ => false
theorem all_split {L : List Jvm.Cond} {P : Jvm.Cond → Bool} (h1 : L.all (fun c => isCode c || P c) = true) (h2 : ∀ c ∈ L.filter isCode, P c = true) : L.all P = true := by
  refine List.all_eq_true.mpr fun c hc => ?_
  have h := List.all_eq_true.mp h1 c hc
  rcases Bool.eq_false_or_eq_true (isCode c) with hi | hi
  · exact h2 c (List.mem_filter.mpr ⟨hc, hi⟩)
  · simpa [hi] using h
set_option maxRecDepth 65536 in
theorem w_c0 : (Jvm.Cond.code x code maxLocals ret).before args0 about1 = true := code_word (m := ⟨1, 2⟩) (meth := k1m2) (c := k1c2) (by decide +kernel) rfl rfl rfl (by decide +kernel)
set_option maxRecDepth 65536 in
theorem w_c1 : (Jvm.Cond.code ({ cls := "com/example/wireform/wireform/LeastSizePlusPinLaw", name := "pick", desc := "(JI)J" } : Jvm.MethodName) method_2_code (3 : Nat) (Option.some Jvm.ClassFile.FieldType.long)).before args0 about1 = true := code_word (m := ⟨1, 1⟩) (meth := k1m1) (c := k1c1) (by decide +kernel) rfl rfl rfl (by decide +kernel)
set_option maxRecDepth 65536 in
theorem w_c2 : (Jvm.Cond.code ({ cls := "com/example/wireform/wireform/LeastSize", name := "plus", desc := "(JJ)J" } : Jvm.MethodName) prog_40_method_2_code (6 : Nat) (Option.some Jvm.ClassFile.FieldType.long)).before args0 about1 = true := code_word (m := ⟨2, 1⟩) (meth := k2m1) (c := k2c1) (by decide +kernel) rfl rfl rfl (by decide +kernel)
def codes1 : List Jvm.Cond := [Jvm.Cond.code x code maxLocals ret, Jvm.Cond.code ({ cls := "com/example/wireform/wireform/LeastSizePlusPinLaw", name := "pick", desc := "(JI)J" } : Jvm.MethodName) method_2_code (3 : Nat) (Option.some Jvm.ClassFile.FieldType.long), Jvm.Cond.code ({ cls := "com/example/wireform/wireform/LeastSize", name := "plus", desc := "(JJ)J" } : Jvm.MethodName) prog_40_method_2_code (6 : Nat) (Option.some Jvm.ClassFile.FieldType.long)]
set_option maxRecDepth 65536 in
theorem codes_eq : words1.filter isCode = codes1 := rfl
theorem w_codes : ∀ c ∈ words1.filter isCode, c.before args0 about1 = true := by
  rw [codes_eq]
  intro c hc
  simp only [codes1, List.mem_cons, List.not_mem_nil, or_false] at hc
  rcases hc with rfl | rfl | rfl
  · exact w_c0
  · exact w_c1
  · exact w_c2
set_option maxRecDepth 65536 in
theorem w_t1 : words1.all (fun c => isCode c || c.before args0 about1) = true := by decide +kernel
theorem w_tables : (allAtoms (Jvm.Cond.code x code maxLocals ret :: tables_1)).before args0 about1 = true := by
  rw [allAtoms_all]
  show words1.all (fun c => c.before args0 about1) = true
  refine all_split ?_ w_codes
  rw [w_t1]
set_option maxRecDepth 65536 in
theorem w_case : (Jvm.Cond.and given_1 narrow_1).before args0 about1 = true := by decide +kernel
theorem w_applies : (headSpec (Jvm.Cond.code x code maxLocals ret :: tables_1) room_1).applies x e0.platform about1 = true :=
  (Spec.applies_iff w_frames).mpr ⟨w_running, w_runnable, w_alone, w_named, w_hears, w_ripe, w_room, w_tables⟩
theorem atStart : AtStart classFile x code maxLocals ret World_1 tables_1 room_1 Calls_1 rest_1 Pre_1 launch0 p0 e0 about1 theMethod args0 below0 :=
  ⟨lists_1, trivial, launch0.admits_env _ _ _, launch0.least_env, fairChoices_fair.cas, fairChoices_fair.clock, w_frames, w_args, w_heap, w_applies, trivial, trivial, w_case⟩
end start1
theorem witness_1 : WitnessClaimed_1 := ⟨start1.p0, start1.e0, start1.about1, start1.theMethod, start1.args0, start1.below0, start1.atStart⟩
end Jvm.Pilot.@@N@@
