import JvmDerived
import JvmDerived.Pilot.@@N@@Statement
import JvmDerived.Pilot.@@N@@Code
set_option linter.unusedVariables false
set_option linter.unusedSimpArgs false
namespace Jvm.RoadKit
open Sem ClassFile Op Lib Jvm.Stand Jvm.Free Jvm.LawKit
section New
variable {p : Program} {l : Launch} {e : Env} {R : Room} {s : State} {m : MethodId} {args : Array Value} {below : List Frame} {meth : Method} {c : Code} {T : State} {locs : List Loc} {cells slots : Nat}
theorem retI (X : Stand p l e R s m args below meth c T locs cells slots) (hx : p.tables.exec = Jvm.exec) {pc : Nat} {Ls : Array Slot} {z : Int32} {rest : List Value} (hret : meth.sig.returnType = some .int) (hd : decode c.code pc = .ok (.ireturn, 1)) {fs : List Frame}
    (hl : ∀ (f : JFrame) (acts : List Action), f.method = m → f.locked = none → f.entered = [] → (doReturn e (T.setTop f) acts (some (.int z))).1 = T.setFrames fs) : Steps p.tables e below (T.setTop (mkF m pc Ls (.int z :: rest))) (T.setFrames fs) := by
  have hm' : T.vm.method? m = some meth := X.method'
  have hn : narrow .int (.int z) = .int z := rfl
  show Steps p.tables e below (T.setTop { method := m, pc := pc, locals := Ls, stack := _ :: rest, locked := none }) _
  jvm_step X.here [X.here.top, hx, hd, hm', hret, hn]
  first | (intro acts; rw [hl _ acts rfl rfl rfl]) | rw [hl _ _ rfl rfl rfl]
  exact Steps.refl _
theorem retJ (X : Stand p l e R s m args below meth c T locs cells slots) (hx : p.tables.exec = Jvm.exec) {pc : Nat} {Ls : Array Slot} {z : Int64} {rest : List Value} (hret : meth.sig.returnType = some .long) (hd : decode c.code pc = .ok (.lreturn, 1)) {fs : List Frame}
    (hl : ∀ (f : JFrame) (acts : List Action), f.method = m → f.locked = none → f.entered = [] → (doReturn e (T.setTop f) acts (some (.long z))).1 = T.setFrames fs) : Steps p.tables e below (T.setTop (mkF m pc Ls (.long z :: rest))) (T.setFrames fs) := by
  have hm' : T.vm.method? m = some meth := X.method'
  show Steps p.tables e below (T.setTop { method := m, pc := pc, locals := Ls, stack := _ :: rest, locked := none }) _
  jvm_step X.here [X.here.top, hx, hd, hm', hret]
  first | (intro acts; rw [hl _ acts rfl rfl rfl]) | rw [hl _ _ rfl rfl rfl]
  exact Steps.refl _
theorem retR (X : Stand p l e R s m args below meth c T locs cells slots) (hx : p.tables.exec = Jvm.exec) {pc : Nat} {Ls : Array Slot} {z : Addr} {t : FieldType} {rest : List Value} (hret : meth.sig.returnType = some t) (ht : t.isReference = true) (hd : decode c.code pc = .ok (.areturn, 1)) {fs : List Frame}
    (hl : ∀ (f : JFrame) (acts : List Action), f.method = m → f.locked = none → f.entered = [] → (doReturn e (T.setTop f) acts (some (.ref z))).1 = T.setFrames fs) : Steps p.tables e below (T.setTop (mkF m pc Ls (.ref z :: rest))) (T.setFrames fs) := by
  have hm' : T.vm.method? m = some meth := X.method'
  show Steps p.tables e below (T.setTop { method := m, pc := pc, locals := Ls, stack := _ :: rest, locked := none }) _
  jvm_step X.here [X.here.top, hx, hd, hm', hret, Value.isRef, ht]
  first | (intro acts; rw [hl _ acts rfl rfl rfl]) | rw [hl _ _ rfl rfl rfl]
  exact Steps.refl _
end New
end Jvm.RoadKit
namespace Jvm.Pilot.@@N@@
open Jvm Jvm.ClassFile Sem Op Lib Jvm.Free Jvm.Stand Jvm.LawKit Jvm.RoadKit Bundle Jvm.Pilot.@@N@@.Jvm.D
/-- from the frame g, where T stands, the body comes to its end, and its end is as QQ says -/
def own_End (p : Program) (e : Env) (below : List Frame) (s : State) (QQ : Option Value → Heap → List Loc → Prop) (rc rs : Nat) (T : State) (g : JFrame) : Prop :=
  ∃ s₂ o, Steps p.tables e below (T.setTop g) s₂ ∧ s₂.status = .running ∧ Ended s₂ below o ∧ ∃ v L, o = .returned v ∧ QQ v s₂.heap L ∧ FrameEnd s o s₂ L rc rs
section Own
variable {p : Program} {l : Launch} {e : Env} {R : Room} {s : State} {m : MethodId} {args : Array Value} {below : List Frame} {meth : Method} {c : Code} {T T' : State} {locs : List Loc} {cells slots : Nat} {QQ : Option Value → Heap → List Loc → Prop} {rc rs : Nat}
theorem own_End.go {g g' : JFrame} (st : ∀ t, Steps p.tables e below (T'.setTop g') t → Steps p.tables e below (T.setTop g) t) (h : own_End p e below s QQ rc rs T' g') : own_End p e below s QQ rc rs T g := by
  obtain ⟨s2, o, a, b⟩ := h
  exact ⟨s2, o, st _ a, b⟩
theorem own_leafI (X : Stand p l e R s m args below meth c T locs cells slots) (hx : p.tables.exec = Jvm.exec) (hk : meth.locks = false) {pc : Nat} {Ls : Array Slot} {z : Int32} {rest : List Value} (hret : meth.sig.returnType = some .int) (hd : decode c.code pc = .ok (.ireturn, 1)) (hq : QQ (some (.int z)) T.heap locs) (h1 : cells ≤ rc) (h2 : slots ≤ rs) : own_End p e below s QQ rc rs T (mkF m pc Ls (.int z :: rest)) := by
  obtain ⟨fs, hr, hrun, hended, hW, hsame⟩ := X.leave (v := some (.int z)) (fun h => by rw [hret] at h; cases h) hk
  exact ⟨_, _, retI X hx hret hd hr, hrun, hended, _, _, rfl, hq, ⟨_, rfl⟩, hW, hsame.mono h1 h2⟩
theorem own_leafN (X : Stand p l e R s m args below meth c T locs cells slots) (hx : p.tables.exec = Jvm.exec) (hk : meth.locks = false) {pc : Nat} {Ls : Array Slot} {z : Int32} {t : FieldType} {rest : List Value} (hret : meth.sig.returnType = some t) (ht : t = .boolean ∨ t = .byte ∨ t = .char ∨ t = .short) (hd : decode c.code pc = .ok (.ireturn, 1)) (hq : QQ (some (.int (nar t z))) T.heap locs) (h1 : cells ≤ rc) (h2 : slots ≤ rs) : own_End p e below s QQ rc rs T (mkF m pc Ls (.int z :: rest)) := by
  obtain ⟨fs, hr, hrun, hended, hW, hsame⟩ := X.leave (v := some (.int (nar t z))) (fun h => by rw [hret] at h; cases h) hk
  exact ⟨_, _, retN X hx hret ht hd hr, hrun, hended, _, _, rfl, hq, ⟨_, rfl⟩, hW, hsame.mono h1 h2⟩
theorem own_leafJ (X : Stand p l e R s m args below meth c T locs cells slots) (hx : p.tables.exec = Jvm.exec) (hk : meth.locks = false) {pc : Nat} {Ls : Array Slot} {z : Int64} {rest : List Value} (hret : meth.sig.returnType = some .long) (hd : decode c.code pc = .ok (.lreturn, 1)) (hq : QQ (some (.long z)) T.heap locs) (h1 : cells ≤ rc) (h2 : slots ≤ rs) : own_End p e below s QQ rc rs T (mkF m pc Ls (.long z :: rest)) := by
  obtain ⟨fs, hr, hrun, hended, hW, hsame⟩ := X.leave (v := some (.long z)) (fun h => by rw [hret] at h; cases h) hk
  exact ⟨_, _, retJ X hx hret hd hr, hrun, hended, _, _, rfl, hq, ⟨_, rfl⟩, hW, hsame.mono h1 h2⟩
theorem own_leafR (X : Stand p l e R s m args below meth c T locs cells slots) (hx : p.tables.exec = Jvm.exec) (hk : meth.locks = false) {pc : Nat} {Ls : Array Slot} {z : Addr} {t : FieldType} {rest : List Value} (hret : meth.sig.returnType = some t) (ht : t.isReference = true) (hd : decode c.code pc = .ok (.areturn, 1)) (hq : QQ (some (.ref z)) T.heap locs) (h1 : cells ≤ rc) (h2 : slots ≤ rs) : own_End p e below s QQ rc rs T (mkF m pc Ls (.ref z :: rest)) := by
  obtain ⟨fs, hr, hrun, hended, hW, hsame⟩ := X.leave (v := some (.ref z)) (fun h => by rw [hret] at h; cases h) hk
  exact ⟨_, _, retR X hx hret ht hd hr, hrun, hended, _, _, rfl, hq, ⟨_, rfl⟩, hW, hsame.mono h1 h2⟩
theorem own_leafV (X : Stand p l e R s m args below meth c T locs cells slots) (hx : p.tables.exec = Jvm.exec) (hk : meth.locks = false) {pc : Nat} {Ls : Array Slot} (hret : meth.sig.returnType = none) (hd : decode c.code pc = .ok (.return_, 1)) (hq : QQ none T.heap locs) (h1 : cells ≤ rc) (h2 : slots ≤ rs) : own_End p e below s QQ rc rs T (mkF m pc Ls []) := by
  obtain ⟨fs, hr, hrun, hended, hW, hsame⟩ := X.leave (v := none) (fun _ => rfl) hk
  exact ⟨_, _, X.returnOut hx hret hd hr, hrun, hended, _, _, rfl, hq, ⟨_, rfl⟩, hW, hsame.mono h1 h2⟩
end Own
theorem own_nb0 : nar .boolean (0 : Int32) = 0 := by decide
theorem own_nb1 : nar .boolean (1 : Int32) = 1 := by decide
theorem own_oneif {P : Prop} [Decidable P] {x y : Slot} (hx : One x) (hy : One y) : One (if P then x else y) := by split <;> assumption

theorem own_pd0 : parseMethodDescriptor "(JJ)J" = some ⟨[.long, .long], some .long⟩ := by decide +kernel
theorem own_d1_0 : decode prog_40_method_3_code 0 = .ok (.lload_n 0, 1) := by decide +kernel
theorem own_d1_1 : decode prog_40_method_3_code 1 = .ok (.lconst 0, 1) := by decide +kernel
theorem own_d1_2 : decode prog_40_method_3_code 2 = .ok (.lcmp, 1) := by decide +kernel
theorem own_d1_3 : decode prog_40_method_3_code 3 = .ok (.ifCond .ne 9, 3) := by decide +kernel
theorem own_d1_6 : decode prog_40_method_3_code 6 = .ok (.lconst 0, 1) := by decide +kernel
theorem own_d1_7 : decode prog_40_method_3_code 7 = .ok (.lstore 4, 2) := by decide +kernel
theorem own_d1_9 : decode prog_40_method_3_code 9 = .ok (.goto 46, 3) := by decide +kernel
theorem own_d1_12 : decode prog_40_method_3_code 12 = .ok (.lload_n 2, 1) := by decide +kernel
theorem own_d1_13 : decode prog_40_method_3_code 13 = .ok (.ldc2_w 11, 3) := by decide +kernel
theorem own_d1_16 : decode prog_40_method_3_code 16 = .ok (.lcmp, 1) := by decide +kernel
theorem own_d1_17 : decode prog_40_method_3_code 17 = .ok (.ifCond .ne 11, 3) := by decide +kernel
theorem own_d1_20 : decode prog_40_method_3_code 20 = .ok (.ldc2_w 11, 3) := by decide +kernel
theorem own_d1_23 : decode prog_40_method_3_code 23 = .ok (.lstore 4, 2) := by decide +kernel
theorem own_d1_25 : decode prog_40_method_3_code 25 = .ok (.goto 30, 3) := by decide +kernel
theorem own_d1_28 : decode prog_40_method_3_code 28 = .ok (.lload_n 2, 1) := by decide +kernel
theorem own_d1_29 : decode prog_40_method_3_code 29 = .ok (.lconst 0, 1) := by decide +kernel
theorem own_d1_30 : decode prog_40_method_3_code 30 = .ok (.lcmp, 1) := by decide +kernel
theorem own_d1_31 : decode prog_40_method_3_code 31 = .ok (.ifCond .eq 19, 3) := by decide +kernel
theorem own_d1_34 : decode prog_40_method_3_code 34 = .ok (.lload_n 0, 1) := by decide +kernel
theorem own_d1_35 : decode prog_40_method_3_code 35 = .ok (.ldc2_w 13, 3) := by decide +kernel
theorem own_d1_38 : decode prog_40_method_3_code 38 = .ok (.lload_n 2, 1) := by decide +kernel
theorem own_d1_39 : decode prog_40_method_3_code 39 = .ok (.ldiv, 1) := by decide +kernel
theorem own_d1_40 : decode prog_40_method_3_code 40 = .ok (.lcmp, 1) := by decide +kernel
theorem own_d1_41 : decode prog_40_method_3_code 41 = .ok (.ifCond .le 9, 3) := by decide +kernel
theorem own_d1_44 : decode prog_40_method_3_code 44 = .ok (.ldc2_w 13, 3) := by decide +kernel
theorem own_d1_47 : decode prog_40_method_3_code 47 = .ok (.goto 6, 3) := by decide +kernel
theorem own_d1_50 : decode prog_40_method_3_code 50 = .ok (.lload_n 0, 1) := by decide +kernel
theorem own_d1_51 : decode prog_40_method_3_code 51 = .ok (.lload_n 2, 1) := by decide +kernel
theorem own_d1_52 : decode prog_40_method_3_code 52 = .ok (.lmul, 1) := by decide +kernel
theorem own_d1_53 : decode prog_40_method_3_code 53 = .ok (.lstore 4, 2) := by decide +kernel
theorem own_d1_55 : decode prog_40_method_3_code 55 = .ok (.lload 4, 2) := by decide +kernel
theorem own_d1_57 : decode prog_40_method_3_code 57 = .ok (.lreturn, 1) := by decide +kernel
theorem own_pn1 : plainName "com/example/wireform/wireform/LeastSize" = true := by first | (simp [plainName, overriddenIn]; done) | decide +kernel
theorem own_ef1 (m : MethodId) (q0 : Int64) (q1 : Int64) : entryFrame m #[(.long q0), (.long q1)] 6 = mkF m 0 #[.val (.long q0), .second, .val (.long q1), .second, .unset, .unset] [] := by first | (simp [entryFrame, mkF, argsToLocals, Value.category]; done) | rfl
abbrev own_R1 : Room := { frames := 0, cells := 0, slots := 0, locals := 0 }
def own_F1 (q0 : Int64) (q1 : Int64) : Int64 :=
  if q0 = (0 : Int64) then
    (0 : Int64)
  else
    if q1 = (9223372036854775807 : Int64) then
      (9223372036854775807 : Int64)
    else
      let v15 : Int64 := (if q1 = (0 : Int64) then (q0 * q1) else (if ((9223372036854775806 : Int64) / q1) < q0 then (9223372036854775806 : Int64) else (q0 * q1)))
      v15
def own_Q1 (q0 : Int64) (q1 : Int64) (h0 : Heap) (v : Option Value) (h : Heap) (L : List Loc) : Prop :=  v = some (.long (own_F1 q0 q1)) ∧ L = [] ∧ h = h0
set_option maxRecDepth 65536 in
set_option maxHeartbeats 40000000 in
theorem own_rm1 (l : Launch) (Z : State) (a0 : Array Value) (hw : ∀ d ∈ tables_1, d.before a0 Z = true) (ws : List Jvm.Cond) (q0 : Int64) (q1 : Int64) (h0 : Heap) :
    MetFree l (⟨"com/example/wireform/wireform/LeastSize", "times", "(JJ)J"⟩ : MethodName) (head1 (Jvm.Cond.code (⟨"com/example/wireform/wireform/LeastSize", "times", "(JJ)J"⟩ : MethodName) prog_40_method_3_code 6 (some .long) :: ws) own_R1) (fun a U => a = #[(.long q0), (.long q1)] ∧ Z.Warmed39 U.vm ∧ U.heap = h0) (fun _ _ _ _ _ => True) (fun _ U o U' => ∃ v L, o = .returned v ∧ own_Q1 q0 q1 h0 v U'.heap L ∧ FrameEnd U o U' L own_R1.cells own_R1.slots) := by
  refine MetFree.of_bodySF (plainFor_of_name own_pn1) hisR ?_
  intro p e s m args below meth c s₁ Bd hml0 hP hK
  obtain ⟨rfl, hZ, hh⟩ := hP
  have hx := Bd.exec
  have hby := Bd.bytes
  have hml : c.maxLocals = 6 := hml0
  have hown : s.vm.findClass "com/example/wireform/wireform/LeastSize" = some m.cls := findClass_of_methodNamed Bd.named
  have hnm := (name_of_methodNamed Bd.named Bd.method).1
  have X0 : Stand p l e own_R1 s m #[(.long q0), (.long q1)] below meth c s₁ [] 0 0 := Stand.of_body Bd
  have e0 : s₁.heap = h0 := by rw [← hh, Bd.state]; rfl
  show own_End p e below s (fun v h L => v = some (.long (own_F1 q0 q1)) ∧ L = [] ∧ h = h0) own_R1.cells own_R1.slots s₁ (entryFrame m #[(.long q0), (.long q1)] 6)
  refine own_End.go (fun t k => castTop (own_ef1 m q0 q1) k) ?_
  show own_End p e below s _ _ _ s₁ (mkF m 0 #[.val (.long q0), .second, .val (.long q1), .second, .unset, .unset] [])
  have st1 : ∀ t, Steps p.tables e below (s₁.setTop (mkF m 3 #[.val (.long q0), .second, .val (.long q1), .second, .unset, .unset] [(.int (lcmpW q0 (0 : Int64)))])) t → Steps p.tables e below (s₁.setTop (mkF m 0 #[.val (.long q0), .second, .val (.long q1), .second, .unset, .unset] [])) t := by
    intro t k
    show Steps p.tables e below (s₁.setTop (mkF m 0 #[.val (.long q0), .second, .val (.long q1), .second, .unset, .unset] [])) _
    refine XS.lloadN X0.here hx rfl (hb hby own_d1_0) rfl ?_
    show Steps p.tables e below (s₁.setTop (mkF m 1 #[.val (.long q0), .second, .val (.long q1), .second, .unset, .unset] [(.long q0)])) _
    refine XS.lconst X0.here hx rfl (hb hby own_d1_1) ?_
    show Steps p.tables e below (s₁.setTop (mkF m 2 #[.val (.long q0), .second, .val (.long q1), .second, .unset, .unset] [(.long (0 : Int64)), (.long q0)])) _
    refine XS.lcmp X0.here hx rfl (hb hby own_d1_2) rfl ?_
    exact k
  refine own_End.go (fun t k => st1 _ k) ?_
  by_cases hc3_2 : q0 = (0 : Int64)
  · have st3 : ∀ t, Steps p.tables e below (s₁.setTop (mkF m 57 #[.val (.long q0), .second, .val (.long q1), .second, .val (.long (0 : Int64)), .second] [(.long (0 : Int64))])) t → Steps p.tables e below (s₁.setTop (mkF m 3 #[.val (.long q0), .second, .val (.long q1), .second, .unset, .unset] [(.int (lcmpW q0 (0 : Int64)))])) t := by
      intro t k
      show Steps p.tables e below (s₁.setTop (mkF m 3 #[.val (.long q0), .second, .val (.long q1), .second, .unset, .unset] [(.int (lcmpW q0 (0 : Int64)))])) _
      refine XS.ifNo X0.here hx rfl (hb hby own_d1_3) rfl ((if0 _ _).trans (teq ((lw_eq q0 (0 : Int64)).mpr hc3_2)).2) ?_
      show Steps p.tables e below (s₁.setTop (mkF m 6 #[.val (.long q0), .second, .val (.long q1), .second, .unset, .unset] [])) _
      refine XS.lconst X0.here hx rfl (hb hby own_d1_6) ?_
      show Steps p.tables e below (s₁.setTop (mkF m 7 #[.val (.long q0), .second, .val (.long q1), .second, .unset, .unset] [(.long (0 : Int64))])) _
      refine XS.lstore X0.here hx rfl (hb hby own_d1_7) rfl (l' := #[.val (.long q0), .second, .val (.long q1), .second, .val (.long (0 : Int64)), .second]) rfl ?_
      show Steps p.tables e below (s₁.setTop (mkF m 9 #[.val (.long q0), .second, .val (.long q1), .second, .val (.long (0 : Int64)), .second] [])) _
      refine XS.goto X0.here hx rfl (pc0 := 9) (pc' := 55) rfl (hb hby own_d1_9) (by decide) (by decide) ?_
      show Steps p.tables e below (s₁.setTop (mkF m 55 #[.val (.long q0), .second, .val (.long q1), .second, .val (.long (0 : Int64)), .second] [])) _
      refine XS.lload X0.here hx rfl (hb hby own_d1_55) rfl ?_
      exact k
    refine own_End.go (fun t k => st3 _ k) ?_
    exact own_leafJ X0 hx Bd.notSynchronized Bd.returns (hb hby own_d1_57) ⟨congrArg (fun z => some (Value.long z)) (by
        simp only [own_F1, own_nb0, own_nb1, if_pos hc3_2]), rfl, e0⟩ (by decide) (by decide)
  · have st4 : ∀ t, Steps p.tables e below (s₁.setTop (mkF m 17 #[.val (.long q0), .second, .val (.long q1), .second, .unset, .unset] [(.int (lcmpW q1 (9223372036854775807 : Int64)))])) t → Steps p.tables e below (s₁.setTop (mkF m 3 #[.val (.long q0), .second, .val (.long q1), .second, .unset, .unset] [(.int (lcmpW q0 (0 : Int64)))])) t := by
      intro t k
      show Steps p.tables e below (s₁.setTop (mkF m 3 #[.val (.long q0), .second, .val (.long q1), .second, .unset, .unset] [(.int (lcmpW q0 (0 : Int64)))])) _
      refine XS.ifYes X0.here hx rfl (pc0 := 3) (pc' := 12) rfl (hb hby own_d1_3) rfl ((if0 _ _).trans (feq (mt (lw_eq q0 (0 : Int64)).mp hc3_2)).2) (by decide) (by decide) ?_
      show Steps p.tables e below (s₁.setTop (mkF m 12 #[.val (.long q0), .second, .val (.long q1), .second, .unset, .unset] [])) _
      refine XS.lloadN X0.here hx rfl (hb hby own_d1_12) rfl ?_
      show Steps p.tables e below (s₁.setTop (mkF m 13 #[.val (.long q0), .second, .val (.long q1), .second, .unset, .unset] [(.long q1)])) _
      refine X0.ldc2Long hx hown (mvT hZ (hw _ (List.mem_of_getElem? (i := 7) rfl))) (g := (mkF m 13 #[.val (.long q0), .second, .val (.long q1), .second, .unset, .unset] [(.long q1)])) rfl (hb hby own_d1_13) _ ?_
      show Steps p.tables e below (s₁.setTop (mkF m 16 #[.val (.long q0), .second, .val (.long q1), .second, .unset, .unset] [(.long (9223372036854775807 : Int64)), (.long q1)])) _
      refine XS.lcmp X0.here hx rfl (hb hby own_d1_16) rfl ?_
      exact k
    refine own_End.go (fun t k => st4 _ k) ?_
    by_cases hc17_5 : q1 = (9223372036854775807 : Int64)
    · have st6 : ∀ t, Steps p.tables e below (s₁.setTop (mkF m 57 #[.val (.long q0), .second, .val (.long q1), .second, .val (.long (9223372036854775807 : Int64)), .second] [(.long (9223372036854775807 : Int64))])) t → Steps p.tables e below (s₁.setTop (mkF m 17 #[.val (.long q0), .second, .val (.long q1), .second, .unset, .unset] [(.int (lcmpW q1 (9223372036854775807 : Int64)))])) t := by
        intro t k
        show Steps p.tables e below (s₁.setTop (mkF m 17 #[.val (.long q0), .second, .val (.long q1), .second, .unset, .unset] [(.int (lcmpW q1 (9223372036854775807 : Int64)))])) _
        refine XS.ifNo X0.here hx rfl (hb hby own_d1_17) rfl ((if0 _ _).trans (teq ((lw_eq q1 (9223372036854775807 : Int64)).mpr hc17_5)).2) ?_
        show Steps p.tables e below (s₁.setTop (mkF m 20 #[.val (.long q0), .second, .val (.long q1), .second, .unset, .unset] [])) _
        refine X0.ldc2Long hx hown (mvT hZ (hw _ (List.mem_of_getElem? (i := 7) rfl))) (g := (mkF m 20 #[.val (.long q0), .second, .val (.long q1), .second, .unset, .unset] [])) rfl (hb hby own_d1_20) _ ?_
        show Steps p.tables e below (s₁.setTop (mkF m 23 #[.val (.long q0), .second, .val (.long q1), .second, .unset, .unset] [(.long (9223372036854775807 : Int64))])) _
        refine XS.lstore X0.here hx rfl (hb hby own_d1_23) rfl (l' := #[.val (.long q0), .second, .val (.long q1), .second, .val (.long (9223372036854775807 : Int64)), .second]) rfl ?_
        show Steps p.tables e below (s₁.setTop (mkF m 25 #[.val (.long q0), .second, .val (.long q1), .second, .val (.long (9223372036854775807 : Int64)), .second] [])) _
        refine XS.goto X0.here hx rfl (pc0 := 25) (pc' := 55) rfl (hb hby own_d1_25) (by decide) (by decide) ?_
        show Steps p.tables e below (s₁.setTop (mkF m 55 #[.val (.long q0), .second, .val (.long q1), .second, .val (.long (9223372036854775807 : Int64)), .second] [])) _
        refine XS.lload X0.here hx rfl (hb hby own_d1_55) rfl ?_
        exact k
      refine own_End.go (fun t k => st6 _ k) ?_
      exact own_leafJ X0 hx Bd.notSynchronized Bd.returns (hb hby own_d1_57) ⟨congrArg (fun z => some (Value.long z)) (by
          simp only [own_F1, own_nb0, own_nb1, if_neg hc3_2, if_pos hc17_5]), rfl, e0⟩ (by decide) (by decide)
    · have st7 : ∀ t, Steps p.tables e below (s₁.setTop (mkF m 31 #[.val (.long q0), .second, .val (.long q1), .second, .unset, .unset] [(.int (lcmpW q1 (0 : Int64)))])) t → Steps p.tables e below (s₁.setTop (mkF m 17 #[.val (.long q0), .second, .val (.long q1), .second, .unset, .unset] [(.int (lcmpW q1 (9223372036854775807 : Int64)))])) t := by
        intro t k
        show Steps p.tables e below (s₁.setTop (mkF m 17 #[.val (.long q0), .second, .val (.long q1), .second, .unset, .unset] [(.int (lcmpW q1 (9223372036854775807 : Int64)))])) _
        refine XS.ifYes X0.here hx rfl (pc0 := 17) (pc' := 28) rfl (hb hby own_d1_17) rfl ((if0 _ _).trans (feq (mt (lw_eq q1 (9223372036854775807 : Int64)).mp hc17_5)).2) (by decide) (by decide) ?_
        show Steps p.tables e below (s₁.setTop (mkF m 28 #[.val (.long q0), .second, .val (.long q1), .second, .unset, .unset] [])) _
        refine XS.lloadN X0.here hx rfl (hb hby own_d1_28) rfl ?_
        show Steps p.tables e below (s₁.setTop (mkF m 29 #[.val (.long q0), .second, .val (.long q1), .second, .unset, .unset] [(.long q1)])) _
        refine XS.lconst X0.here hx rfl (hb hby own_d1_29) ?_
        show Steps p.tables e below (s₁.setTop (mkF m 30 #[.val (.long q0), .second, .val (.long q1), .second, .unset, .unset] [(.long (0 : Int64)), (.long q1)])) _
        refine XS.lcmp X0.here hx rfl (hb hby own_d1_30) rfl ?_
        exact k
      obtain ⟨v15, hv15⟩ : ∃ z : Int64, z = (if q1 = (0 : Int64) then (q0 * q1) else (if ((9223372036854775806 : Int64) / q1) < q0 then (9223372036854775806 : Int64) else (q0 * q1))) := ⟨_, rfl⟩
      have st16 : ∀ t, Steps p.tables e below (s₁.setTop (mkF m 53 #[.val (.long q0), .second, .val (.long q1), .second, .unset, .unset] [(.long v15)])) t → Steps p.tables e below (s₁.setTop (mkF m 31 #[.val (.long q0), .second, .val (.long q1), .second, .unset, .unset] [(.int (lcmpW q1 (0 : Int64)))])) t := by
        rw [hv15]
        by_cases hc31_8 : q1 = (0 : Int64)
        · repeat rw [if_pos hc31_8]
          have st9 : ∀ t, Steps p.tables e below (s₁.setTop (mkF m 53 #[.val (.long q0), .second, .val (.long q1), .second, .unset, .unset] [(.long (q0 * q1))])) t → Steps p.tables e below (s₁.setTop (mkF m 31 #[.val (.long q0), .second, .val (.long q1), .second, .unset, .unset] [(.int (lcmpW q1 (0 : Int64)))])) t := by
            intro t k
            show Steps p.tables e below (s₁.setTop (mkF m 31 #[.val (.long q0), .second, .val (.long q1), .second, .unset, .unset] [(.int (lcmpW q1 (0 : Int64)))])) _
            refine XS.ifYes X0.here hx rfl (pc0 := 31) (pc' := 50) rfl (hb hby own_d1_31) rfl ((if0 _ _).trans (teq ((lw_eq q1 (0 : Int64)).mpr hc31_8)).1) (by decide) (by decide) ?_
            show Steps p.tables e below (s₁.setTop (mkF m 50 #[.val (.long q0), .second, .val (.long q1), .second, .unset, .unset] [])) _
            refine XS.lloadN X0.here hx rfl (hb hby own_d1_50) rfl ?_
            show Steps p.tables e below (s₁.setTop (mkF m 51 #[.val (.long q0), .second, .val (.long q1), .second, .unset, .unset] [(.long q0)])) _
            refine XS.lloadN X0.here hx rfl (hb hby own_d1_51) rfl ?_
            show Steps p.tables e below (s₁.setTop (mkF m 52 #[.val (.long q0), .second, .val (.long q1), .second, .unset, .unset] [(.long q1), (.long q0)])) _
            refine XS.lmul X0.here hx rfl (hb hby own_d1_52) rfl ?_
            exact k
          exact fun t k => st9 _ k
        · repeat rw [if_neg hc31_8]
          have st10 : ∀ t, Steps p.tables e below (s₁.setTop (mkF m 41 #[.val (.long q0), .second, .val (.long q1), .second, .unset, .unset] [(.int (lcmpW q0 ((9223372036854775806 : Int64) / q1)))])) t → Steps p.tables e below (s₁.setTop (mkF m 31 #[.val (.long q0), .second, .val (.long q1), .second, .unset, .unset] [(.int (lcmpW q1 (0 : Int64)))])) t := by
            intro t k
            show Steps p.tables e below (s₁.setTop (mkF m 31 #[.val (.long q0), .second, .val (.long q1), .second, .unset, .unset] [(.int (lcmpW q1 (0 : Int64)))])) _
            refine XS.ifNo X0.here hx rfl (hb hby own_d1_31) rfl ((if0 _ _).trans (feq (mt (lw_eq q1 (0 : Int64)).mp hc31_8)).1) ?_
            show Steps p.tables e below (s₁.setTop (mkF m 34 #[.val (.long q0), .second, .val (.long q1), .second, .unset, .unset] [])) _
            refine XS.lloadN X0.here hx rfl (hb hby own_d1_34) rfl ?_
            show Steps p.tables e below (s₁.setTop (mkF m 35 #[.val (.long q0), .second, .val (.long q1), .second, .unset, .unset] [(.long q0)])) _
            refine X0.ldc2Long hx hown (mvT hZ (hw _ (List.mem_of_getElem? (i := 8) rfl))) (g := (mkF m 35 #[.val (.long q0), .second, .val (.long q1), .second, .unset, .unset] [(.long q0)])) rfl (hb hby own_d1_35) _ ?_
            show Steps p.tables e below (s₁.setTop (mkF m 38 #[.val (.long q0), .second, .val (.long q1), .second, .unset, .unset] [(.long (9223372036854775806 : Int64)), (.long q0)])) _
            refine XS.lloadN X0.here hx rfl (hb hby own_d1_38) rfl ?_
            show Steps p.tables e below (s₁.setTop (mkF m 39 #[.val (.long q0), .second, .val (.long q1), .second, .unset, .unset] [(.long q1), (.long (9223372036854775806 : Int64)), (.long q0)])) _
            refine XS.ldiv X0.here hx rfl (hb hby own_d1_39) rfl (by assumption) ?_
            show Steps p.tables e below (s₁.setTop (mkF m 40 #[.val (.long q0), .second, .val (.long q1), .second, .unset, .unset] [(.long ((9223372036854775806 : Int64) / q1)), (.long q0)])) _
            refine XS.lcmp X0.here hx rfl (hb hby own_d1_40) rfl ?_
            exact k
          have st14 : ∀ t, Steps p.tables e below (s₁.setTop (mkF m 53 #[.val (.long q0), .second, .val (.long q1), .second, .unset, .unset] [(.long (if ((9223372036854775806 : Int64) / q1) < q0 then (9223372036854775806 : Int64) else (q0 * q1)))])) t → Steps p.tables e below (s₁.setTop (mkF m 41 #[.val (.long q0), .second, .val (.long q1), .second, .unset, .unset] [(.int (lcmpW q0 ((9223372036854775806 : Int64) / q1)))])) t := by
            by_cases hc41_11 : ((9223372036854775806 : Int64) / q1) < q0
            · repeat rw [if_pos hc41_11]
              have st12 : ∀ t, Steps p.tables e below (s₁.setTop (mkF m 53 #[.val (.long q0), .second, .val (.long q1), .second, .unset, .unset] [(.long (9223372036854775806 : Int64))])) t → Steps p.tables e below (s₁.setTop (mkF m 41 #[.val (.long q0), .second, .val (.long q1), .second, .unset, .unset] [(.int (lcmpW q0 ((9223372036854775806 : Int64) / q1)))])) t := by
                intro t k
                show Steps p.tables e below (s₁.setTop (mkF m 41 #[.val (.long q0), .second, .val (.long q1), .second, .unset, .unset] [(.int (lcmpW q0 ((9223372036854775806 : Int64) / q1)))])) _
                refine XS.ifNo X0.here hx rfl (hb hby own_d1_41) rfl ((if0 _ _).trans (tlt ((lw_gt q0 ((9223372036854775806 : Int64) / q1)).mpr hc41_11)).2.2.2) ?_
                show Steps p.tables e below (s₁.setTop (mkF m 44 #[.val (.long q0), .second, .val (.long q1), .second, .unset, .unset] [])) _
                refine X0.ldc2Long hx hown (mvT hZ (hw _ (List.mem_of_getElem? (i := 8) rfl))) (g := (mkF m 44 #[.val (.long q0), .second, .val (.long q1), .second, .unset, .unset] [])) rfl (hb hby own_d1_44) _ ?_
                show Steps p.tables e below (s₁.setTop (mkF m 47 #[.val (.long q0), .second, .val (.long q1), .second, .unset, .unset] [(.long (9223372036854775806 : Int64))])) _
                refine XS.goto X0.here hx rfl (pc0 := 47) (pc' := 53) rfl (hb hby own_d1_47) (by decide) (by decide) ?_
                exact k
              exact fun t k => st12 _ k
            · repeat rw [if_neg hc41_11]
              have st13 : ∀ t, Steps p.tables e below (s₁.setTop (mkF m 53 #[.val (.long q0), .second, .val (.long q1), .second, .unset, .unset] [(.long (q0 * q1))])) t → Steps p.tables e below (s₁.setTop (mkF m 41 #[.val (.long q0), .second, .val (.long q1), .second, .unset, .unset] [(.int (lcmpW q0 ((9223372036854775806 : Int64) / q1)))])) t := by
                intro t k
                show Steps p.tables e below (s₁.setTop (mkF m 41 #[.val (.long q0), .second, .val (.long q1), .second, .unset, .unset] [(.int (lcmpW q0 ((9223372036854775806 : Int64) / q1)))])) _
                refine XS.ifYes X0.here hx rfl (pc0 := 41) (pc' := 50) rfl (hb hby own_d1_41) rfl ((if0 _ _).trans (flt (mt (lw_gt q0 ((9223372036854775806 : Int64) / q1)).mp hc41_11)).2.2.2) (by decide) (by decide) ?_
                show Steps p.tables e below (s₁.setTop (mkF m 50 #[.val (.long q0), .second, .val (.long q1), .second, .unset, .unset] [])) _
                refine XS.lloadN X0.here hx rfl (hb hby own_d1_50) rfl ?_
                show Steps p.tables e below (s₁.setTop (mkF m 51 #[.val (.long q0), .second, .val (.long q1), .second, .unset, .unset] [(.long q0)])) _
                refine XS.lloadN X0.here hx rfl (hb hby own_d1_51) rfl ?_
                show Steps p.tables e below (s₁.setTop (mkF m 52 #[.val (.long q0), .second, .val (.long q1), .second, .unset, .unset] [(.long q1), (.long q0)])) _
                refine XS.lmul X0.here hx rfl (hb hby own_d1_52) rfl ?_
                exact k
              exact fun t k => st13 _ k
          exact fun t k => st10 _ (st14 _ k)
      have st17 : ∀ t, Steps p.tables e below (s₁.setTop (mkF m 57 #[.val (.long q0), .second, .val (.long q1), .second, .val (.long v15), .second] [(.long v15)])) t → Steps p.tables e below (s₁.setTop (mkF m 53 #[.val (.long q0), .second, .val (.long q1), .second, .unset, .unset] [(.long v15)])) t := by
        intro t k
        show Steps p.tables e below (s₁.setTop (mkF m 53 #[.val (.long q0), .second, .val (.long q1), .second, .unset, .unset] [(.long v15)])) _
        refine XS.lstore X0.here hx rfl (hb hby own_d1_53) rfl (l' := #[.val (.long q0), .second, .val (.long q1), .second, .val (.long v15), .second]) rfl ?_
        show Steps p.tables e below (s₁.setTop (mkF m 55 #[.val (.long q0), .second, .val (.long q1), .second, .val (.long v15), .second] [])) _
        refine XS.lload X0.here hx rfl (hb hby own_d1_55) rfl ?_
        exact k
      refine own_End.go (fun t k => st7 _ (st16 _ (st17 _ k))) ?_
      exact own_leafJ X0 hx Bd.notSynchronized Bd.returns (hb hby own_d1_57) ⟨congrArg (fun z => some (Value.long z)) (by
          subst hv15; simp only [own_F1, own_nb0, own_nb1, if_neg hc3_2, if_neg hc17_5]), rfl, e0⟩ (by decide) (by decide)
theorem own_pn0 : plainName "com/example/wireform/wireform/LeastSizeTimesPinLaw" = true := by first | (simp [plainName, overriddenIn]; done) | decide +kernel
theorem own_ef0 (m : MethodId) (q0 : Int64) (q1 : Int64) (p2 : Int32) : entryFrame m #[(.long q0), (.long q1), (.int p2)] maxLocals = mkF m 0 #[.val (.long q0), .second, .val (.long q1), .second, .val (.int p2), .unset, .unset, .unset, .unset, .unset, .unset, .unset, .unset, .unset, .unset, .unset, .unset] [] := by first | (simp [entryFrame, mkF, argsToLocals, Value.category, maxLocals]; done) | rfl
def own_F0 (q0 : Int64) (q1 : Int64) (p2 : Int32) : Int32 :=
  let v1 : Int32 := (p2 &&& (3 : Int32))
  let v3 : Int32 := (((p2.toUInt32 >>> ((2 : Int32) &&& 31).toUInt32).toInt32) &&& (3 : Int32))
  let v13 : Int64 := (if v1 = (0 : Int32) then (0 : Int64) else (if v1 = (1 : Int32) then (q0 &&& (4294967295 : Int64)) else (q0 &&& (9223372036854775807 : Int64))))
  let v27 : Int64 := (if v3 = (0 : Int32) then (9223372036854775807 : Int64) else (if v3 = (1 : Int32) then (q1 &&& (4294967295 : Int64)) else (if v3 = (2 : Int32) then ((9223372036854775806 : Int64) - (q1 &&& (255 : Int64))) else (q1 &&& (9223372036854775807 : Int64)))))
  let v31 : Int64 := (own_F1 v13 v27)
  if v13 = (0 : Int64) then
    if v31 = (0 : Int64) then
      (1 : Int32)
    else
      (0 : Int32)
  else
    if v27 = (9223372036854775807 : Int64) then
      if v31 = (9223372036854775807 : Int64) then
        (1 : Int32)
      else
        (0 : Int32)
    else
      if v31 = (9223372036854775806 : Int64) then
        if (((9223372036854775806 : Int64) - (1 : Int64)) / v13) < v27 then
          (1 : Int32)
        else
          (0 : Int32)
      else
        if v31 < (0 : Int64) then
          (0 : Int32)
        else
          if (9223372036854775806 : Int64) < v31 then
            (0 : Int32)
          else
            if (v31 - (v31 / v13) * v13) = (0 : Int64) then
              if (v31 / v13) = v27 then
                (1 : Int32)
              else
                (0 : Int32)
            else
              (0 : Int32)
def own_Q0 (q0 : Int64) (q1 : Int64) (p2 : Int32) (h0 : Heap) (n0 : Nat) (v : Option Value) (h : Heap) (L : List Loc) : Prop :=  v = some (.int (own_F0 q0 q1 p2)) ∧ Fr n0 L
set_option maxRecDepth 65536 in
set_option maxHeartbeats 40000000 in
theorem own_rm0 (l : Launch) (Z : State) (a0 : Array Value) (hw : ∀ d ∈ tables_1, d.before a0 Z = true) (ws : List Jvm.Cond) (q0 : Int64) (q1 : Int64) (p2 : Int32) (h0 : Heap) (n0 : Nat) (Z0 : n0 ≤ h0.size) :
    MetFree l x (head1 (Jvm.Cond.code x code maxLocals ret :: ws) room_1) (fun a U => a = #[(.long q0), (.long q1), (.int p2)] ∧ Z.Warmed39 U.vm ∧ U.heap = h0) (fun _ _ _ _ _ => True) (fun _ U o U' => ∃ v L, o = .returned v ∧ own_Q0 q0 q1 p2 h0 n0 v U'.heap L ∧ FrameEnd U o U' L room_1.cells room_1.slots) := by
  refine MetFree.of_bodySF (plainFor_of_name own_pn0) hisR ?_
  intro p e s m args below meth c s₁ Bd hml0 hP hK
  obtain ⟨rfl, hZ, hh⟩ := hP
  have hx := Bd.exec
  have hby := Bd.bytes
  have hml : c.maxLocals = 17 := hml0
  have hown : s.vm.findClass "com/example/wireform/wireform/LeastSizeTimesPinLaw" = some m.cls := findClass_of_methodNamed Bd.named
  have hnm := (name_of_methodNamed Bd.named Bd.method).1
  have X0 : Stand p l e room_1 s m #[(.long q0), (.long q1), (.int p2)] below meth c s₁ [] 0 0 := Stand.of_body Bd
  have e0 : s₁.heap = h0 := by rw [← hh, Bd.state]; rfl
  show own_End p e below s (fun v h L => v = some (.int (own_F0 q0 q1 p2)) ∧ Fr n0 L) room_1.cells room_1.slots s₁ (entryFrame m #[(.long q0), (.long q1), (.int p2)] maxLocals)
  refine own_End.go (fun t k => castTop (own_ef0 m q0 q1 p2) k) ?_
  show own_End p e below s _ _ _ s₁ (mkF m 0 #[.val (.long q0), .second, .val (.long q1), .second, .val (.int p2), .unset, .unset, .unset, .unset, .unset, .unset, .unset, .unset, .unset, .unset, .unset, .unset] [])
  obtain ⟨v1, hv1⟩ : ∃ z : Int32, z = (p2 &&& (3 : Int32)) := ⟨_, rfl⟩
  have st2 : ∀ t, Steps p.tables e below (s₁.setTop (mkF m 16 #[.val (.long q0), .second, .val (.long q1), .second, .val (.int p2), .val (.long (9223372036854775807 : Int64)), .second, .val (.long (9223372036854775806 : Int64)), .second, .val (.int v1), .unset, .unset, .unset, .unset, .unset, .unset, .unset] [])) t → Steps p.tables e below (s₁.setTop (mkF m 0 #[.val (.long q0), .second, .val (.long q1), .second, .val (.int p2), .unset, .unset, .unset, .unset, .unset, .unset, .unset, .unset, .unset, .unset, .unset, .unset] [])) t := by
    rw [hv1]
    intro t k
    show Steps p.tables e below (s₁.setTop (mkF m 0 #[.val (.long q0), .second, .val (.long q1), .second, .val (.int p2), .unset, .unset, .unset, .unset, .unset, .unset, .unset, .unset, .unset, .unset, .unset, .unset] [])) _
    refine X0.ldc2Long hx hown (mvT hZ (hw _ (List.mem_of_getElem? (i := 0) rfl))) (g := (mkF m 0 #[.val (.long q0), .second, .val (.long q1), .second, .val (.int p2), .unset, .unset, .unset, .unset, .unset, .unset, .unset, .unset, .unset, .unset, .unset, .unset] [])) rfl (hb hby at_0) _ ?_
    show Steps p.tables e below (s₁.setTop (mkF m 3 #[.val (.long q0), .second, .val (.long q1), .second, .val (.int p2), .unset, .unset, .unset, .unset, .unset, .unset, .unset, .unset, .unset, .unset, .unset, .unset] [(.long (9223372036854775807 : Int64))])) _
    refine XS.lstore X0.here hx rfl (hb hby at_3) rfl (l' := #[.val (.long q0), .second, .val (.long q1), .second, .val (.int p2), .val (.long (9223372036854775807 : Int64)), .second, .unset, .unset, .unset, .unset, .unset, .unset, .unset, .unset, .unset, .unset]) rfl ?_
    show Steps p.tables e below (s₁.setTop (mkF m 5 #[.val (.long q0), .second, .val (.long q1), .second, .val (.int p2), .val (.long (9223372036854775807 : Int64)), .second, .unset, .unset, .unset, .unset, .unset, .unset, .unset, .unset, .unset, .unset] [])) _
    refine X0.ldc2Long hx hown (mvT hZ (hw _ (List.mem_of_getElem? (i := 1) rfl))) (g := (mkF m 5 #[.val (.long q0), .second, .val (.long q1), .second, .val (.int p2), .val (.long (9223372036854775807 : Int64)), .second, .unset, .unset, .unset, .unset, .unset, .unset, .unset, .unset, .unset, .unset] [])) rfl (hb hby at_5) _ ?_
    show Steps p.tables e below (s₁.setTop (mkF m 8 #[.val (.long q0), .second, .val (.long q1), .second, .val (.int p2), .val (.long (9223372036854775807 : Int64)), .second, .unset, .unset, .unset, .unset, .unset, .unset, .unset, .unset, .unset, .unset] [(.long (9223372036854775806 : Int64))])) _
    refine XS.lstore X0.here hx rfl (hb hby at_8) rfl (l' := #[.val (.long q0), .second, .val (.long q1), .second, .val (.int p2), .val (.long (9223372036854775807 : Int64)), .second, .val (.long (9223372036854775806 : Int64)), .second, .unset, .unset, .unset, .unset, .unset, .unset, .unset, .unset]) rfl ?_
    show Steps p.tables e below (s₁.setTop (mkF m 10 #[.val (.long q0), .second, .val (.long q1), .second, .val (.int p2), .val (.long (9223372036854775807 : Int64)), .second, .val (.long (9223372036854775806 : Int64)), .second, .unset, .unset, .unset, .unset, .unset, .unset, .unset, .unset] [])) _
    refine XS.iload X0.here hx rfl (hb hby at_10) rfl ?_
    show Steps p.tables e below (s₁.setTop (mkF m 12 #[.val (.long q0), .second, .val (.long q1), .second, .val (.int p2), .val (.long (9223372036854775807 : Int64)), .second, .val (.long (9223372036854775806 : Int64)), .second, .unset, .unset, .unset, .unset, .unset, .unset, .unset, .unset] [(.int p2)])) _
    refine XS.iconst X0.here hx rfl (hb hby at_12) ?_
    show Steps p.tables e below (s₁.setTop (mkF m 13 #[.val (.long q0), .second, .val (.long q1), .second, .val (.int p2), .val (.long (9223372036854775807 : Int64)), .second, .val (.long (9223372036854775806 : Int64)), .second, .unset, .unset, .unset, .unset, .unset, .unset, .unset, .unset] [(.int (3 : Int32)), (.int p2)])) _
    refine XS.iand X0.here hx rfl (hb hby at_13) rfl ?_
    show Steps p.tables e below (s₁.setTop (mkF m 14 #[.val (.long q0), .second, .val (.long q1), .second, .val (.int p2), .val (.long (9223372036854775807 : Int64)), .second, .val (.long (9223372036854775806 : Int64)), .second, .unset, .unset, .unset, .unset, .unset, .unset, .unset, .unset] [(.int (p2 &&& (3 : Int32)))])) _
    refine XS.istore X0.here hx rfl (hb hby at_14) rfl (l' := #[.val (.long q0), .second, .val (.long q1), .second, .val (.int p2), .val (.long (9223372036854775807 : Int64)), .second, .val (.long (9223372036854775806 : Int64)), .second, .val (.int (p2 &&& (3 : Int32))), .unset, .unset, .unset, .unset, .unset, .unset, .unset]) rfl ?_
    exact k
  obtain ⟨v3, hv3⟩ : ∃ z : Int32, z = (((p2.toUInt32 >>> ((2 : Int32) &&& 31).toUInt32).toInt32) &&& (3 : Int32)) := ⟨_, rfl⟩
  have st4 : ∀ t, Steps p.tables e below (s₁.setTop (mkF m 24 #[.val (.long q0), .second, .val (.long q1), .second, .val (.int p2), .val (.long (9223372036854775807 : Int64)), .second, .val (.long (9223372036854775806 : Int64)), .second, .val (.int v1), .val (.int v3), .unset, .unset, .unset, .unset, .unset, .unset] [])) t → Steps p.tables e below (s₁.setTop (mkF m 16 #[.val (.long q0), .second, .val (.long q1), .second, .val (.int p2), .val (.long (9223372036854775807 : Int64)), .second, .val (.long (9223372036854775806 : Int64)), .second, .val (.int v1), .unset, .unset, .unset, .unset, .unset, .unset, .unset] [])) t := by
    rw [hv3]
    intro t k
    show Steps p.tables e below (s₁.setTop (mkF m 16 #[.val (.long q0), .second, .val (.long q1), .second, .val (.int p2), .val (.long (9223372036854775807 : Int64)), .second, .val (.long (9223372036854775806 : Int64)), .second, .val (.int v1), .unset, .unset, .unset, .unset, .unset, .unset, .unset] [])) _
    refine XS.iload X0.here hx rfl (hb hby at_16) rfl ?_
    show Steps p.tables e below (s₁.setTop (mkF m 18 #[.val (.long q0), .second, .val (.long q1), .second, .val (.int p2), .val (.long (9223372036854775807 : Int64)), .second, .val (.long (9223372036854775806 : Int64)), .second, .val (.int v1), .unset, .unset, .unset, .unset, .unset, .unset, .unset] [(.int p2)])) _
    refine XS.iconst X0.here hx rfl (hb hby at_18) ?_
    show Steps p.tables e below (s₁.setTop (mkF m 19 #[.val (.long q0), .second, .val (.long q1), .second, .val (.int p2), .val (.long (9223372036854775807 : Int64)), .second, .val (.long (9223372036854775806 : Int64)), .second, .val (.int v1), .unset, .unset, .unset, .unset, .unset, .unset, .unset] [(.int (2 : Int32)), (.int p2)])) _
    refine XS.iushr X0.here hx rfl (hb hby at_19) rfl ?_
    show Steps p.tables e below (s₁.setTop (mkF m 20 #[.val (.long q0), .second, .val (.long q1), .second, .val (.int p2), .val (.long (9223372036854775807 : Int64)), .second, .val (.long (9223372036854775806 : Int64)), .second, .val (.int v1), .unset, .unset, .unset, .unset, .unset, .unset, .unset] [(.int ((p2.toUInt32 >>> ((2 : Int32) &&& 31).toUInt32).toInt32))])) _
    refine XS.iconst X0.here hx rfl (hb hby at_20) ?_
    show Steps p.tables e below (s₁.setTop (mkF m 21 #[.val (.long q0), .second, .val (.long q1), .second, .val (.int p2), .val (.long (9223372036854775807 : Int64)), .second, .val (.long (9223372036854775806 : Int64)), .second, .val (.int v1), .unset, .unset, .unset, .unset, .unset, .unset, .unset] [(.int (3 : Int32)), (.int ((p2.toUInt32 >>> ((2 : Int32) &&& 31).toUInt32).toInt32))])) _
    refine XS.iand X0.here hx rfl (hb hby at_21) rfl ?_
    show Steps p.tables e below (s₁.setTop (mkF m 22 #[.val (.long q0), .second, .val (.long q1), .second, .val (.int p2), .val (.long (9223372036854775807 : Int64)), .second, .val (.long (9223372036854775806 : Int64)), .second, .val (.int v1), .unset, .unset, .unset, .unset, .unset, .unset, .unset] [(.int (((p2.toUInt32 >>> ((2 : Int32) &&& 31).toUInt32).toInt32) &&& (3 : Int32)))])) _
    refine XS.istore X0.here hx rfl (hb hby at_22) rfl (l' := #[.val (.long q0), .second, .val (.long q1), .second, .val (.int p2), .val (.long (9223372036854775807 : Int64)), .second, .val (.long (9223372036854775806 : Int64)), .second, .val (.int v1), .val (.int (((p2.toUInt32 >>> ((2 : Int32) &&& 31).toUInt32).toInt32) &&& (3 : Int32))), .unset, .unset, .unset, .unset, .unset, .unset]) rfl ?_
    exact k
  have st5 : ∀ t, Steps p.tables e below (s₁.setTop (mkF m 26 #[.val (.long q0), .second, .val (.long q1), .second, .val (.int p2), .val (.long (9223372036854775807 : Int64)), .second, .val (.long (9223372036854775806 : Int64)), .second, .val (.int v1), .val (.int v3), .unset, .unset, .unset, .unset, .unset, .unset] [(.int v1)])) t → Steps p.tables e below (s₁.setTop (mkF m 24 #[.val (.long q0), .second, .val (.long q1), .second, .val (.int p2), .val (.long (9223372036854775807 : Int64)), .second, .val (.long (9223372036854775806 : Int64)), .second, .val (.int v1), .val (.int v3), .unset, .unset, .unset, .unset, .unset, .unset] [])) t := by
    intro t k
    show Steps p.tables e below (s₁.setTop (mkF m 24 #[.val (.long q0), .second, .val (.long q1), .second, .val (.int p2), .val (.long (9223372036854775807 : Int64)), .second, .val (.long (9223372036854775806 : Int64)), .second, .val (.int v1), .val (.int v3), .unset, .unset, .unset, .unset, .unset, .unset] [])) _
    refine XS.iload X0.here hx rfl (hb hby at_24) rfl ?_
    exact k
  obtain ⟨v13, hv13⟩ : ∃ z : Int64, z = (if v1 = (0 : Int32) then (0 : Int64) else (if v1 = (1 : Int32) then (q0 &&& (4294967295 : Int64)) else (q0 &&& (9223372036854775807 : Int64)))) := ⟨_, rfl⟩
  have st14 : ∀ t, Steps p.tables e below (s₁.setTop (mkF m 58 #[.val (.long q0), .second, .val (.long q1), .second, .val (.int p2), .val (.long (9223372036854775807 : Int64)), .second, .val (.long (9223372036854775806 : Int64)), .second, .val (.int v1), .val (.int v3), .val (.long v13), .second, .unset, .unset, .unset, .unset] [])) t → Steps p.tables e below (s₁.setTop (mkF m 26 #[.val (.long q0), .second, .val (.long q1), .second, .val (.int p2), .val (.long (9223372036854775807 : Int64)), .second, .val (.long (9223372036854775806 : Int64)), .second, .val (.int v1), .val (.int v3), .unset, .unset, .unset, .unset, .unset, .unset] [(.int v1)])) t := by
    rw [hv13]
    by_cases hc26_6 : v1 = (0 : Int32)
    · repeat rw [if_pos hc26_6]
      have st7 : ∀ t, Steps p.tables e below (s₁.setTop (mkF m 58 #[.val (.long q0), .second, .val (.long q1), .second, .val (.int p2), .val (.long (9223372036854775807 : Int64)), .second, .val (.long (9223372036854775806 : Int64)), .second, .val (.int v1), .val (.int v3), .val (.long (0 : Int64)), .second, .unset, .unset, .unset, .unset] [])) t → Steps p.tables e below (s₁.setTop (mkF m 26 #[.val (.long q0), .second, .val (.long q1), .second, .val (.int p2), .val (.long (9223372036854775807 : Int64)), .second, .val (.long (9223372036854775806 : Int64)), .second, .val (.int v1), .val (.int v3), .unset, .unset, .unset, .unset, .unset, .unset] [(.int v1)])) t := by
        intro t k
        show Steps p.tables e below (s₁.setTop (mkF m 26 #[.val (.long q0), .second, .val (.long q1), .second, .val (.int p2), .val (.long (9223372036854775807 : Int64)), .second, .val (.long (9223372036854775806 : Int64)), .second, .val (.int v1), .val (.int v3), .unset, .unset, .unset, .unset, .unset, .unset] [(.int v1)])) _
        refine XS.ifNo X0.here hx rfl (hb hby at_26) rfl ((if0 _ _).trans (teq hc26_6).2) ?_
        show Steps p.tables e below (s₁.setTop (mkF m 29 #[.val (.long q0), .second, .val (.long q1), .second, .val (.int p2), .val (.long (9223372036854775807 : Int64)), .second, .val (.long (9223372036854775806 : Int64)), .second, .val (.int v1), .val (.int v3), .unset, .unset, .unset, .unset, .unset, .unset] [])) _
        refine XS.lconst X0.here hx rfl (hb hby at_29) ?_
        show Steps p.tables e below (s₁.setTop (mkF m 30 #[.val (.long q0), .second, .val (.long q1), .second, .val (.int p2), .val (.long (9223372036854775807 : Int64)), .second, .val (.long (9223372036854775806 : Int64)), .second, .val (.int v1), .val (.int v3), .unset, .unset, .unset, .unset, .unset, .unset] [(.long (0 : Int64))])) _
        refine XS.lstore X0.here hx rfl (hb hby at_30) rfl (l' := #[.val (.long q0), .second, .val (.long q1), .second, .val (.int p2), .val (.long (9223372036854775807 : Int64)), .second, .val (.long (9223372036854775806 : Int64)), .second, .val (.int v1), .val (.int v3), .val (.long (0 : Int64)), .second, .unset, .unset, .unset, .unset]) rfl ?_
        show Steps p.tables e below (s₁.setTop (mkF m 32 #[.val (.long q0), .second, .val (.long q1), .second, .val (.int p2), .val (.long (9223372036854775807 : Int64)), .second, .val (.long (9223372036854775806 : Int64)), .second, .val (.int v1), .val (.int v3), .val (.long (0 : Int64)), .second, .unset, .unset, .unset, .unset] [])) _
        refine XS.goto X0.here hx rfl (pc0 := 32) (pc' := 58) rfl (hb hby at_32) (by decide) (by decide) ?_
        exact k
      exact fun t k => st7 _ k
    · repeat rw [if_neg hc26_6]
      have st8 : ∀ t, Steps p.tables e below (s₁.setTop (mkF m 38 #[.val (.long q0), .second, .val (.long q1), .second, .val (.int p2), .val (.long (9223372036854775807 : Int64)), .second, .val (.long (9223372036854775806 : Int64)), .second, .val (.int v1), .val (.int v3), .unset, .unset, .unset, .unset, .unset, .unset] [(.int (1 : Int32)), (.int v1)])) t → Steps p.tables e below (s₁.setTop (mkF m 26 #[.val (.long q0), .second, .val (.long q1), .second, .val (.int p2), .val (.long (9223372036854775807 : Int64)), .second, .val (.long (9223372036854775806 : Int64)), .second, .val (.int v1), .val (.int v3), .unset, .unset, .unset, .unset, .unset, .unset] [(.int v1)])) t := by
        intro t k
        show Steps p.tables e below (s₁.setTop (mkF m 26 #[.val (.long q0), .second, .val (.long q1), .second, .val (.int p2), .val (.long (9223372036854775807 : Int64)), .second, .val (.long (9223372036854775806 : Int64)), .second, .val (.int v1), .val (.int v3), .unset, .unset, .unset, .unset, .unset, .unset] [(.int v1)])) _
        refine XS.ifYes X0.here hx rfl (pc0 := 26) (pc' := 35) rfl (hb hby at_26) rfl ((if0 _ _).trans (feq hc26_6).2) (by decide) (by decide) ?_
        show Steps p.tables e below (s₁.setTop (mkF m 35 #[.val (.long q0), .second, .val (.long q1), .second, .val (.int p2), .val (.long (9223372036854775807 : Int64)), .second, .val (.long (9223372036854775806 : Int64)), .second, .val (.int v1), .val (.int v3), .unset, .unset, .unset, .unset, .unset, .unset] [])) _
        refine XS.iload X0.here hx rfl (hb hby at_35) rfl ?_
        show Steps p.tables e below (s₁.setTop (mkF m 37 #[.val (.long q0), .second, .val (.long q1), .second, .val (.int p2), .val (.long (9223372036854775807 : Int64)), .second, .val (.long (9223372036854775806 : Int64)), .second, .val (.int v1), .val (.int v3), .unset, .unset, .unset, .unset, .unset, .unset] [(.int v1)])) _
        refine XS.iconst X0.here hx rfl (hb hby at_37) ?_
        exact k
      have st12 : ∀ t, Steps p.tables e below (s₁.setTop (mkF m 58 #[.val (.long q0), .second, .val (.long q1), .second, .val (.int p2), .val (.long (9223372036854775807 : Int64)), .second, .val (.long (9223372036854775806 : Int64)), .second, .val (.int v1), .val (.int v3), .val (.long (if v1 = (1 : Int32) then (q0 &&& (4294967295 : Int64)) else (q0 &&& (9223372036854775807 : Int64)))), .second, .unset, .unset, .unset, .unset] [])) t → Steps p.tables e below (s₁.setTop (mkF m 38 #[.val (.long q0), .second, .val (.long q1), .second, .val (.int p2), .val (.long (9223372036854775807 : Int64)), .second, .val (.long (9223372036854775806 : Int64)), .second, .val (.int v1), .val (.int v3), .unset, .unset, .unset, .unset, .unset, .unset] [(.int (1 : Int32)), (.int v1)])) t := by
        by_cases hc38_9 : v1 = (1 : Int32)
        · repeat rw [if_pos hc38_9]
          have st10 : ∀ t, Steps p.tables e below (s₁.setTop (mkF m 58 #[.val (.long q0), .second, .val (.long q1), .second, .val (.int p2), .val (.long (9223372036854775807 : Int64)), .second, .val (.long (9223372036854775806 : Int64)), .second, .val (.int v1), .val (.int v3), .val (.long (q0 &&& (4294967295 : Int64))), .second, .unset, .unset, .unset, .unset] [])) t → Steps p.tables e below (s₁.setTop (mkF m 38 #[.val (.long q0), .second, .val (.long q1), .second, .val (.int p2), .val (.long (9223372036854775807 : Int64)), .second, .val (.long (9223372036854775806 : Int64)), .second, .val (.int v1), .val (.int v3), .unset, .unset, .unset, .unset, .unset, .unset] [(.int (1 : Int32)), (.int v1)])) t := by
            intro t k
            show Steps p.tables e below (s₁.setTop (mkF m 38 #[.val (.long q0), .second, .val (.long q1), .second, .val (.int p2), .val (.long (9223372036854775807 : Int64)), .second, .val (.long (9223372036854775806 : Int64)), .second, .val (.int v1), .val (.int v3), .unset, .unset, .unset, .unset, .unset, .unset] [(.int (1 : Int32)), (.int v1)])) _
            refine XS.icmpNo X0.here hx rfl (hb hby at_38) rfl (teq hc38_9).2 ?_
            show Steps p.tables e below (s₁.setTop (mkF m 41 #[.val (.long q0), .second, .val (.long q1), .second, .val (.int p2), .val (.long (9223372036854775807 : Int64)), .second, .val (.long (9223372036854775806 : Int64)), .second, .val (.int v1), .val (.int v3), .unset, .unset, .unset, .unset, .unset, .unset] [])) _
            refine XS.lloadN X0.here hx rfl (hb hby at_41) rfl ?_
            show Steps p.tables e below (s₁.setTop (mkF m 42 #[.val (.long q0), .second, .val (.long q1), .second, .val (.int p2), .val (.long (9223372036854775807 : Int64)), .second, .val (.long (9223372036854775806 : Int64)), .second, .val (.int v1), .val (.int v3), .unset, .unset, .unset, .unset, .unset, .unset] [(.long q0)])) _
            refine X0.ldc2Long hx hown (mvT hZ (hw _ (List.mem_of_getElem? (i := 6) rfl))) (g := (mkF m 42 #[.val (.long q0), .second, .val (.long q1), .second, .val (.int p2), .val (.long (9223372036854775807 : Int64)), .second, .val (.long (9223372036854775806 : Int64)), .second, .val (.int v1), .val (.int v3), .unset, .unset, .unset, .unset, .unset, .unset] [(.long q0)])) rfl (hb hby at_42) _ ?_
            show Steps p.tables e below (s₁.setTop (mkF m 45 #[.val (.long q0), .second, .val (.long q1), .second, .val (.int p2), .val (.long (9223372036854775807 : Int64)), .second, .val (.long (9223372036854775806 : Int64)), .second, .val (.int v1), .val (.int v3), .unset, .unset, .unset, .unset, .unset, .unset] [(.long (4294967295 : Int64)), (.long q0)])) _
            refine XS.land X0.here hx rfl (hb hby at_45) rfl ?_
            show Steps p.tables e below (s₁.setTop (mkF m 46 #[.val (.long q0), .second, .val (.long q1), .second, .val (.int p2), .val (.long (9223372036854775807 : Int64)), .second, .val (.long (9223372036854775806 : Int64)), .second, .val (.int v1), .val (.int v3), .unset, .unset, .unset, .unset, .unset, .unset] [(.long (q0 &&& (4294967295 : Int64)))])) _
            refine XS.lstore X0.here hx rfl (hb hby at_46) rfl (l' := #[.val (.long q0), .second, .val (.long q1), .second, .val (.int p2), .val (.long (9223372036854775807 : Int64)), .second, .val (.long (9223372036854775806 : Int64)), .second, .val (.int v1), .val (.int v3), .val (.long (q0 &&& (4294967295 : Int64))), .second, .unset, .unset, .unset, .unset]) rfl ?_
            show Steps p.tables e below (s₁.setTop (mkF m 48 #[.val (.long q0), .second, .val (.long q1), .second, .val (.int p2), .val (.long (9223372036854775807 : Int64)), .second, .val (.long (9223372036854775806 : Int64)), .second, .val (.int v1), .val (.int v3), .val (.long (q0 &&& (4294967295 : Int64))), .second, .unset, .unset, .unset, .unset] [])) _
            refine XS.goto X0.here hx rfl (pc0 := 48) (pc' := 58) rfl (hb hby at_48) (by decide) (by decide) ?_
            exact k
          exact fun t k => st10 _ k
        · repeat rw [if_neg hc38_9]
          have st11 : ∀ t, Steps p.tables e below (s₁.setTop (mkF m 58 #[.val (.long q0), .second, .val (.long q1), .second, .val (.int p2), .val (.long (9223372036854775807 : Int64)), .second, .val (.long (9223372036854775806 : Int64)), .second, .val (.int v1), .val (.int v3), .val (.long (q0 &&& (9223372036854775807 : Int64))), .second, .unset, .unset, .unset, .unset] [])) t → Steps p.tables e below (s₁.setTop (mkF m 38 #[.val (.long q0), .second, .val (.long q1), .second, .val (.int p2), .val (.long (9223372036854775807 : Int64)), .second, .val (.long (9223372036854775806 : Int64)), .second, .val (.int v1), .val (.int v3), .unset, .unset, .unset, .unset, .unset, .unset] [(.int (1 : Int32)), (.int v1)])) t := by
            intro t k
            show Steps p.tables e below (s₁.setTop (mkF m 38 #[.val (.long q0), .second, .val (.long q1), .second, .val (.int p2), .val (.long (9223372036854775807 : Int64)), .second, .val (.long (9223372036854775806 : Int64)), .second, .val (.int v1), .val (.int v3), .unset, .unset, .unset, .unset, .unset, .unset] [(.int (1 : Int32)), (.int v1)])) _
            refine XS.icmpYes X0.here hx rfl (pc0 := 38) (pc' := 51) rfl (hb hby at_38) rfl (feq hc38_9).2 (by decide) (by decide) ?_
            show Steps p.tables e below (s₁.setTop (mkF m 51 #[.val (.long q0), .second, .val (.long q1), .second, .val (.int p2), .val (.long (9223372036854775807 : Int64)), .second, .val (.long (9223372036854775806 : Int64)), .second, .val (.int v1), .val (.int v3), .unset, .unset, .unset, .unset, .unset, .unset] [])) _
            refine XS.lloadN X0.here hx rfl (hb hby at_51) rfl ?_
            show Steps p.tables e below (s₁.setTop (mkF m 52 #[.val (.long q0), .second, .val (.long q1), .second, .val (.int p2), .val (.long (9223372036854775807 : Int64)), .second, .val (.long (9223372036854775806 : Int64)), .second, .val (.int v1), .val (.int v3), .unset, .unset, .unset, .unset, .unset, .unset] [(.long q0)])) _
            refine X0.ldc2Long hx hown (mvT hZ (hw _ (List.mem_of_getElem? (i := 0) rfl))) (g := (mkF m 52 #[.val (.long q0), .second, .val (.long q1), .second, .val (.int p2), .val (.long (9223372036854775807 : Int64)), .second, .val (.long (9223372036854775806 : Int64)), .second, .val (.int v1), .val (.int v3), .unset, .unset, .unset, .unset, .unset, .unset] [(.long q0)])) rfl (hb hby at_52) _ ?_
            show Steps p.tables e below (s₁.setTop (mkF m 55 #[.val (.long q0), .second, .val (.long q1), .second, .val (.int p2), .val (.long (9223372036854775807 : Int64)), .second, .val (.long (9223372036854775806 : Int64)), .second, .val (.int v1), .val (.int v3), .unset, .unset, .unset, .unset, .unset, .unset] [(.long (9223372036854775807 : Int64)), (.long q0)])) _
            refine XS.land X0.here hx rfl (hb hby at_55) rfl ?_
            show Steps p.tables e below (s₁.setTop (mkF m 56 #[.val (.long q0), .second, .val (.long q1), .second, .val (.int p2), .val (.long (9223372036854775807 : Int64)), .second, .val (.long (9223372036854775806 : Int64)), .second, .val (.int v1), .val (.int v3), .unset, .unset, .unset, .unset, .unset, .unset] [(.long (q0 &&& (9223372036854775807 : Int64)))])) _
            refine XS.lstore X0.here hx rfl (hb hby at_56) rfl (l' := #[.val (.long q0), .second, .val (.long q1), .second, .val (.int p2), .val (.long (9223372036854775807 : Int64)), .second, .val (.long (9223372036854775806 : Int64)), .second, .val (.int v1), .val (.int v3), .val (.long (q0 &&& (9223372036854775807 : Int64))), .second, .unset, .unset, .unset, .unset]) rfl ?_
            exact k
          exact fun t k => st11 _ k
      exact fun t k => st8 _ (st12 _ k)
  have st15 : ∀ t, Steps p.tables e below (s₁.setTop (mkF m 60 #[.val (.long q0), .second, .val (.long q1), .second, .val (.int p2), .val (.long (9223372036854775807 : Int64)), .second, .val (.long (9223372036854775806 : Int64)), .second, .val (.int v1), .val (.int v3), .val (.long v13), .second, .unset, .unset, .unset, .unset] [(.int v3)])) t → Steps p.tables e below (s₁.setTop (mkF m 58 #[.val (.long q0), .second, .val (.long q1), .second, .val (.int p2), .val (.long (9223372036854775807 : Int64)), .second, .val (.long (9223372036854775806 : Int64)), .second, .val (.int v1), .val (.int v3), .val (.long v13), .second, .unset, .unset, .unset, .unset] [])) t := by
    intro t k
    show Steps p.tables e below (s₁.setTop (mkF m 58 #[.val (.long q0), .second, .val (.long q1), .second, .val (.int p2), .val (.long (9223372036854775807 : Int64)), .second, .val (.long (9223372036854775806 : Int64)), .second, .val (.int v1), .val (.int v3), .val (.long v13), .second, .unset, .unset, .unset, .unset] [])) _
    refine XS.iload X0.here hx rfl (hb hby at_58) rfl ?_
    exact k
  obtain ⟨v27, hv27⟩ : ∃ z : Int64, z = (if v3 = (0 : Int32) then (9223372036854775807 : Int64) else (if v3 = (1 : Int32) then (q1 &&& (4294967295 : Int64)) else (if v3 = (2 : Int32) then ((9223372036854775806 : Int64) - (q1 &&& (255 : Int64))) else (q1 &&& (9223372036854775807 : Int64))))) := ⟨_, rfl⟩
  have st28 : ∀ t, Steps p.tables e below (s₁.setTop (mkF m 112 #[.val (.long q0), .second, .val (.long q1), .second, .val (.int p2), .val (.long (9223372036854775807 : Int64)), .second, .val (.long (9223372036854775806 : Int64)), .second, .val (.int v1), .val (.int v3), .val (.long v13), .second, .val (.long v27), .second, .unset, .unset] [])) t → Steps p.tables e below (s₁.setTop (mkF m 60 #[.val (.long q0), .second, .val (.long q1), .second, .val (.int p2), .val (.long (9223372036854775807 : Int64)), .second, .val (.long (9223372036854775806 : Int64)), .second, .val (.int v1), .val (.int v3), .val (.long v13), .second, .unset, .unset, .unset, .unset] [(.int v3)])) t := by
    rw [hv27]
    by_cases hc60_16 : v3 = (0 : Int32)
    · repeat rw [if_pos hc60_16]
      have st17 : ∀ t, Steps p.tables e below (s₁.setTop (mkF m 112 #[.val (.long q0), .second, .val (.long q1), .second, .val (.int p2), .val (.long (9223372036854775807 : Int64)), .second, .val (.long (9223372036854775806 : Int64)), .second, .val (.int v1), .val (.int v3), .val (.long v13), .second, .val (.long (9223372036854775807 : Int64)), .second, .unset, .unset] [])) t → Steps p.tables e below (s₁.setTop (mkF m 60 #[.val (.long q0), .second, .val (.long q1), .second, .val (.int p2), .val (.long (9223372036854775807 : Int64)), .second, .val (.long (9223372036854775806 : Int64)), .second, .val (.int v1), .val (.int v3), .val (.long v13), .second, .unset, .unset, .unset, .unset] [(.int v3)])) t := by
        intro t k
        show Steps p.tables e below (s₁.setTop (mkF m 60 #[.val (.long q0), .second, .val (.long q1), .second, .val (.int p2), .val (.long (9223372036854775807 : Int64)), .second, .val (.long (9223372036854775806 : Int64)), .second, .val (.int v1), .val (.int v3), .val (.long v13), .second, .unset, .unset, .unset, .unset] [(.int v3)])) _
        refine XS.ifNo X0.here hx rfl (hb hby at_60) rfl ((if0 _ _).trans (teq hc60_16).2) ?_
        show Steps p.tables e below (s₁.setTop (mkF m 63 #[.val (.long q0), .second, .val (.long q1), .second, .val (.int p2), .val (.long (9223372036854775807 : Int64)), .second, .val (.long (9223372036854775806 : Int64)), .second, .val (.int v1), .val (.int v3), .val (.long v13), .second, .unset, .unset, .unset, .unset] [])) _
        refine XS.lload X0.here hx rfl (hb hby at_63) rfl ?_
        show Steps p.tables e below (s₁.setTop (mkF m 65 #[.val (.long q0), .second, .val (.long q1), .second, .val (.int p2), .val (.long (9223372036854775807 : Int64)), .second, .val (.long (9223372036854775806 : Int64)), .second, .val (.int v1), .val (.int v3), .val (.long v13), .second, .unset, .unset, .unset, .unset] [(.long (9223372036854775807 : Int64))])) _
        refine XS.lstore X0.here hx rfl (hb hby at_65) rfl (l' := #[.val (.long q0), .second, .val (.long q1), .second, .val (.int p2), .val (.long (9223372036854775807 : Int64)), .second, .val (.long (9223372036854775806 : Int64)), .second, .val (.int v1), .val (.int v3), .val (.long v13), .second, .val (.long (9223372036854775807 : Int64)), .second, .unset, .unset]) rfl ?_
        show Steps p.tables e below (s₁.setTop (mkF m 67 #[.val (.long q0), .second, .val (.long q1), .second, .val (.int p2), .val (.long (9223372036854775807 : Int64)), .second, .val (.long (9223372036854775806 : Int64)), .second, .val (.int v1), .val (.int v3), .val (.long v13), .second, .val (.long (9223372036854775807 : Int64)), .second, .unset, .unset] [])) _
        refine XS.goto X0.here hx rfl (pc0 := 67) (pc' := 112) rfl (hb hby at_67) (by decide) (by decide) ?_
        exact k
      exact fun t k => st17 _ k
    · repeat rw [if_neg hc60_16]
      have st18 : ∀ t, Steps p.tables e below (s₁.setTop (mkF m 73 #[.val (.long q0), .second, .val (.long q1), .second, .val (.int p2), .val (.long (9223372036854775807 : Int64)), .second, .val (.long (9223372036854775806 : Int64)), .second, .val (.int v1), .val (.int v3), .val (.long v13), .second, .unset, .unset, .unset, .unset] [(.int (1 : Int32)), (.int v3)])) t → Steps p.tables e below (s₁.setTop (mkF m 60 #[.val (.long q0), .second, .val (.long q1), .second, .val (.int p2), .val (.long (9223372036854775807 : Int64)), .second, .val (.long (9223372036854775806 : Int64)), .second, .val (.int v1), .val (.int v3), .val (.long v13), .second, .unset, .unset, .unset, .unset] [(.int v3)])) t := by
        intro t k
        show Steps p.tables e below (s₁.setTop (mkF m 60 #[.val (.long q0), .second, .val (.long q1), .second, .val (.int p2), .val (.long (9223372036854775807 : Int64)), .second, .val (.long (9223372036854775806 : Int64)), .second, .val (.int v1), .val (.int v3), .val (.long v13), .second, .unset, .unset, .unset, .unset] [(.int v3)])) _
        refine XS.ifYes X0.here hx rfl (pc0 := 60) (pc' := 70) rfl (hb hby at_60) rfl ((if0 _ _).trans (feq hc60_16).2) (by decide) (by decide) ?_
        show Steps p.tables e below (s₁.setTop (mkF m 70 #[.val (.long q0), .second, .val (.long q1), .second, .val (.int p2), .val (.long (9223372036854775807 : Int64)), .second, .val (.long (9223372036854775806 : Int64)), .second, .val (.int v1), .val (.int v3), .val (.long v13), .second, .unset, .unset, .unset, .unset] [])) _
        refine XS.iload X0.here hx rfl (hb hby at_70) rfl ?_
        show Steps p.tables e below (s₁.setTop (mkF m 72 #[.val (.long q0), .second, .val (.long q1), .second, .val (.int p2), .val (.long (9223372036854775807 : Int64)), .second, .val (.long (9223372036854775806 : Int64)), .second, .val (.int v1), .val (.int v3), .val (.long v13), .second, .unset, .unset, .unset, .unset] [(.int v3)])) _
        refine XS.iconst X0.here hx rfl (hb hby at_72) ?_
        exact k
      have st26 : ∀ t, Steps p.tables e below (s₁.setTop (mkF m 112 #[.val (.long q0), .second, .val (.long q1), .second, .val (.int p2), .val (.long (9223372036854775807 : Int64)), .second, .val (.long (9223372036854775806 : Int64)), .second, .val (.int v1), .val (.int v3), .val (.long v13), .second, .val (.long (if v3 = (1 : Int32) then (q1 &&& (4294967295 : Int64)) else (if v3 = (2 : Int32) then ((9223372036854775806 : Int64) - (q1 &&& (255 : Int64))) else (q1 &&& (9223372036854775807 : Int64))))), .second, .unset, .unset] [])) t → Steps p.tables e below (s₁.setTop (mkF m 73 #[.val (.long q0), .second, .val (.long q1), .second, .val (.int p2), .val (.long (9223372036854775807 : Int64)), .second, .val (.long (9223372036854775806 : Int64)), .second, .val (.int v1), .val (.int v3), .val (.long v13), .second, .unset, .unset, .unset, .unset] [(.int (1 : Int32)), (.int v3)])) t := by
        by_cases hc73_19 : v3 = (1 : Int32)
        · repeat rw [if_pos hc73_19]
          have st20 : ∀ t, Steps p.tables e below (s₁.setTop (mkF m 112 #[.val (.long q0), .second, .val (.long q1), .second, .val (.int p2), .val (.long (9223372036854775807 : Int64)), .second, .val (.long (9223372036854775806 : Int64)), .second, .val (.int v1), .val (.int v3), .val (.long v13), .second, .val (.long (q1 &&& (4294967295 : Int64))), .second, .unset, .unset] [])) t → Steps p.tables e below (s₁.setTop (mkF m 73 #[.val (.long q0), .second, .val (.long q1), .second, .val (.int p2), .val (.long (9223372036854775807 : Int64)), .second, .val (.long (9223372036854775806 : Int64)), .second, .val (.int v1), .val (.int v3), .val (.long v13), .second, .unset, .unset, .unset, .unset] [(.int (1 : Int32)), (.int v3)])) t := by
            intro t k
            show Steps p.tables e below (s₁.setTop (mkF m 73 #[.val (.long q0), .second, .val (.long q1), .second, .val (.int p2), .val (.long (9223372036854775807 : Int64)), .second, .val (.long (9223372036854775806 : Int64)), .second, .val (.int v1), .val (.int v3), .val (.long v13), .second, .unset, .unset, .unset, .unset] [(.int (1 : Int32)), (.int v3)])) _
            refine XS.icmpNo X0.here hx rfl (hb hby at_73) rfl (teq hc73_19).2 ?_
            show Steps p.tables e below (s₁.setTop (mkF m 76 #[.val (.long q0), .second, .val (.long q1), .second, .val (.int p2), .val (.long (9223372036854775807 : Int64)), .second, .val (.long (9223372036854775806 : Int64)), .second, .val (.int v1), .val (.int v3), .val (.long v13), .second, .unset, .unset, .unset, .unset] [])) _
            refine XS.lloadN X0.here hx rfl (hb hby at_76) rfl ?_
            show Steps p.tables e below (s₁.setTop (mkF m 77 #[.val (.long q0), .second, .val (.long q1), .second, .val (.int p2), .val (.long (9223372036854775807 : Int64)), .second, .val (.long (9223372036854775806 : Int64)), .second, .val (.int v1), .val (.int v3), .val (.long v13), .second, .unset, .unset, .unset, .unset] [(.long q1)])) _
            refine X0.ldc2Long hx hown (mvT hZ (hw _ (List.mem_of_getElem? (i := 6) rfl))) (g := (mkF m 77 #[.val (.long q0), .second, .val (.long q1), .second, .val (.int p2), .val (.long (9223372036854775807 : Int64)), .second, .val (.long (9223372036854775806 : Int64)), .second, .val (.int v1), .val (.int v3), .val (.long v13), .second, .unset, .unset, .unset, .unset] [(.long q1)])) rfl (hb hby at_77) _ ?_
            show Steps p.tables e below (s₁.setTop (mkF m 80 #[.val (.long q0), .second, .val (.long q1), .second, .val (.int p2), .val (.long (9223372036854775807 : Int64)), .second, .val (.long (9223372036854775806 : Int64)), .second, .val (.int v1), .val (.int v3), .val (.long v13), .second, .unset, .unset, .unset, .unset] [(.long (4294967295 : Int64)), (.long q1)])) _
            refine XS.land X0.here hx rfl (hb hby at_80) rfl ?_
            show Steps p.tables e below (s₁.setTop (mkF m 81 #[.val (.long q0), .second, .val (.long q1), .second, .val (.int p2), .val (.long (9223372036854775807 : Int64)), .second, .val (.long (9223372036854775806 : Int64)), .second, .val (.int v1), .val (.int v3), .val (.long v13), .second, .unset, .unset, .unset, .unset] [(.long (q1 &&& (4294967295 : Int64)))])) _
            refine XS.lstore X0.here hx rfl (hb hby at_81) rfl (l' := #[.val (.long q0), .second, .val (.long q1), .second, .val (.int p2), .val (.long (9223372036854775807 : Int64)), .second, .val (.long (9223372036854775806 : Int64)), .second, .val (.int v1), .val (.int v3), .val (.long v13), .second, .val (.long (q1 &&& (4294967295 : Int64))), .second, .unset, .unset]) rfl ?_
            show Steps p.tables e below (s₁.setTop (mkF m 83 #[.val (.long q0), .second, .val (.long q1), .second, .val (.int p2), .val (.long (9223372036854775807 : Int64)), .second, .val (.long (9223372036854775806 : Int64)), .second, .val (.int v1), .val (.int v3), .val (.long v13), .second, .val (.long (q1 &&& (4294967295 : Int64))), .second, .unset, .unset] [])) _
            refine XS.goto X0.here hx rfl (pc0 := 83) (pc' := 112) rfl (hb hby at_83) (by decide) (by decide) ?_
            exact k
          exact fun t k => st20 _ k
        · repeat rw [if_neg hc73_19]
          have st21 : ∀ t, Steps p.tables e below (s₁.setTop (mkF m 89 #[.val (.long q0), .second, .val (.long q1), .second, .val (.int p2), .val (.long (9223372036854775807 : Int64)), .second, .val (.long (9223372036854775806 : Int64)), .second, .val (.int v1), .val (.int v3), .val (.long v13), .second, .unset, .unset, .unset, .unset] [(.int (2 : Int32)), (.int v3)])) t → Steps p.tables e below (s₁.setTop (mkF m 73 #[.val (.long q0), .second, .val (.long q1), .second, .val (.int p2), .val (.long (9223372036854775807 : Int64)), .second, .val (.long (9223372036854775806 : Int64)), .second, .val (.int v1), .val (.int v3), .val (.long v13), .second, .unset, .unset, .unset, .unset] [(.int (1 : Int32)), (.int v3)])) t := by
            intro t k
            show Steps p.tables e below (s₁.setTop (mkF m 73 #[.val (.long q0), .second, .val (.long q1), .second, .val (.int p2), .val (.long (9223372036854775807 : Int64)), .second, .val (.long (9223372036854775806 : Int64)), .second, .val (.int v1), .val (.int v3), .val (.long v13), .second, .unset, .unset, .unset, .unset] [(.int (1 : Int32)), (.int v3)])) _
            refine XS.icmpYes X0.here hx rfl (pc0 := 73) (pc' := 86) rfl (hb hby at_73) rfl (feq hc73_19).2 (by decide) (by decide) ?_
            show Steps p.tables e below (s₁.setTop (mkF m 86 #[.val (.long q0), .second, .val (.long q1), .second, .val (.int p2), .val (.long (9223372036854775807 : Int64)), .second, .val (.long (9223372036854775806 : Int64)), .second, .val (.int v1), .val (.int v3), .val (.long v13), .second, .unset, .unset, .unset, .unset] [])) _
            refine XS.iload X0.here hx rfl (hb hby at_86) rfl ?_
            show Steps p.tables e below (s₁.setTop (mkF m 88 #[.val (.long q0), .second, .val (.long q1), .second, .val (.int p2), .val (.long (9223372036854775807 : Int64)), .second, .val (.long (9223372036854775806 : Int64)), .second, .val (.int v1), .val (.int v3), .val (.long v13), .second, .unset, .unset, .unset, .unset] [(.int v3)])) _
            refine XS.iconst X0.here hx rfl (hb hby at_88) ?_
            exact k
          have st25 : ∀ t, Steps p.tables e below (s₁.setTop (mkF m 112 #[.val (.long q0), .second, .val (.long q1), .second, .val (.int p2), .val (.long (9223372036854775807 : Int64)), .second, .val (.long (9223372036854775806 : Int64)), .second, .val (.int v1), .val (.int v3), .val (.long v13), .second, .val (.long (if v3 = (2 : Int32) then ((9223372036854775806 : Int64) - (q1 &&& (255 : Int64))) else (q1 &&& (9223372036854775807 : Int64)))), .second, .unset, .unset] [])) t → Steps p.tables e below (s₁.setTop (mkF m 89 #[.val (.long q0), .second, .val (.long q1), .second, .val (.int p2), .val (.long (9223372036854775807 : Int64)), .second, .val (.long (9223372036854775806 : Int64)), .second, .val (.int v1), .val (.int v3), .val (.long v13), .second, .unset, .unset, .unset, .unset] [(.int (2 : Int32)), (.int v3)])) t := by
            by_cases hc89_22 : v3 = (2 : Int32)
            · repeat rw [if_pos hc89_22]
              have st23 : ∀ t, Steps p.tables e below (s₁.setTop (mkF m 112 #[.val (.long q0), .second, .val (.long q1), .second, .val (.int p2), .val (.long (9223372036854775807 : Int64)), .second, .val (.long (9223372036854775806 : Int64)), .second, .val (.int v1), .val (.int v3), .val (.long v13), .second, .val (.long ((9223372036854775806 : Int64) - (q1 &&& (255 : Int64)))), .second, .unset, .unset] [])) t → Steps p.tables e below (s₁.setTop (mkF m 89 #[.val (.long q0), .second, .val (.long q1), .second, .val (.int p2), .val (.long (9223372036854775807 : Int64)), .second, .val (.long (9223372036854775806 : Int64)), .second, .val (.int v1), .val (.int v3), .val (.long v13), .second, .unset, .unset, .unset, .unset] [(.int (2 : Int32)), (.int v3)])) t := by
                intro t k
                show Steps p.tables e below (s₁.setTop (mkF m 89 #[.val (.long q0), .second, .val (.long q1), .second, .val (.int p2), .val (.long (9223372036854775807 : Int64)), .second, .val (.long (9223372036854775806 : Int64)), .second, .val (.int v1), .val (.int v3), .val (.long v13), .second, .unset, .unset, .unset, .unset] [(.int (2 : Int32)), (.int v3)])) _
                refine XS.icmpNo X0.here hx rfl (hb hby at_89) rfl (teq hc89_22).2 ?_
                show Steps p.tables e below (s₁.setTop (mkF m 92 #[.val (.long q0), .second, .val (.long q1), .second, .val (.int p2), .val (.long (9223372036854775807 : Int64)), .second, .val (.long (9223372036854775806 : Int64)), .second, .val (.int v1), .val (.int v3), .val (.long v13), .second, .unset, .unset, .unset, .unset] [])) _
                refine XS.lload X0.here hx rfl (hb hby at_92) rfl ?_
                show Steps p.tables e below (s₁.setTop (mkF m 94 #[.val (.long q0), .second, .val (.long q1), .second, .val (.int p2), .val (.long (9223372036854775807 : Int64)), .second, .val (.long (9223372036854775806 : Int64)), .second, .val (.int v1), .val (.int v3), .val (.long v13), .second, .unset, .unset, .unset, .unset] [(.long (9223372036854775806 : Int64))])) _
                refine XS.lloadN X0.here hx rfl (hb hby at_94) rfl ?_
                show Steps p.tables e below (s₁.setTop (mkF m 95 #[.val (.long q0), .second, .val (.long q1), .second, .val (.int p2), .val (.long (9223372036854775807 : Int64)), .second, .val (.long (9223372036854775806 : Int64)), .second, .val (.int v1), .val (.int v3), .val (.long v13), .second, .unset, .unset, .unset, .unset] [(.long q1), (.long (9223372036854775806 : Int64))])) _
                refine X0.ldc2Long hx hown (mvT hZ (hw _ (List.mem_of_getElem? (i := 9) rfl))) (g := (mkF m 95 #[.val (.long q0), .second, .val (.long q1), .second, .val (.int p2), .val (.long (9223372036854775807 : Int64)), .second, .val (.long (9223372036854775806 : Int64)), .second, .val (.int v1), .val (.int v3), .val (.long v13), .second, .unset, .unset, .unset, .unset] [(.long q1), (.long (9223372036854775806 : Int64))])) rfl (hb hby at_95) _ ?_
                show Steps p.tables e below (s₁.setTop (mkF m 98 #[.val (.long q0), .second, .val (.long q1), .second, .val (.int p2), .val (.long (9223372036854775807 : Int64)), .second, .val (.long (9223372036854775806 : Int64)), .second, .val (.int v1), .val (.int v3), .val (.long v13), .second, .unset, .unset, .unset, .unset] [(.long (255 : Int64)), (.long q1), (.long (9223372036854775806 : Int64))])) _
                refine XS.land X0.here hx rfl (hb hby at_98) rfl ?_
                show Steps p.tables e below (s₁.setTop (mkF m 99 #[.val (.long q0), .second, .val (.long q1), .second, .val (.int p2), .val (.long (9223372036854775807 : Int64)), .second, .val (.long (9223372036854775806 : Int64)), .second, .val (.int v1), .val (.int v3), .val (.long v13), .second, .unset, .unset, .unset, .unset] [(.long (q1 &&& (255 : Int64))), (.long (9223372036854775806 : Int64))])) _
                refine XS.lsub X0.here hx rfl (hb hby at_99) rfl ?_
                show Steps p.tables e below (s₁.setTop (mkF m 100 #[.val (.long q0), .second, .val (.long q1), .second, .val (.int p2), .val (.long (9223372036854775807 : Int64)), .second, .val (.long (9223372036854775806 : Int64)), .second, .val (.int v1), .val (.int v3), .val (.long v13), .second, .unset, .unset, .unset, .unset] [(.long ((9223372036854775806 : Int64) - (q1 &&& (255 : Int64))))])) _
                refine XS.lstore X0.here hx rfl (hb hby at_100) rfl (l' := #[.val (.long q0), .second, .val (.long q1), .second, .val (.int p2), .val (.long (9223372036854775807 : Int64)), .second, .val (.long (9223372036854775806 : Int64)), .second, .val (.int v1), .val (.int v3), .val (.long v13), .second, .val (.long ((9223372036854775806 : Int64) - (q1 &&& (255 : Int64)))), .second, .unset, .unset]) rfl ?_
                show Steps p.tables e below (s₁.setTop (mkF m 102 #[.val (.long q0), .second, .val (.long q1), .second, .val (.int p2), .val (.long (9223372036854775807 : Int64)), .second, .val (.long (9223372036854775806 : Int64)), .second, .val (.int v1), .val (.int v3), .val (.long v13), .second, .val (.long ((9223372036854775806 : Int64) - (q1 &&& (255 : Int64)))), .second, .unset, .unset] [])) _
                refine XS.goto X0.here hx rfl (pc0 := 102) (pc' := 112) rfl (hb hby at_102) (by decide) (by decide) ?_
                exact k
              exact fun t k => st23 _ k
            · repeat rw [if_neg hc89_22]
              have st24 : ∀ t, Steps p.tables e below (s₁.setTop (mkF m 112 #[.val (.long q0), .second, .val (.long q1), .second, .val (.int p2), .val (.long (9223372036854775807 : Int64)), .second, .val (.long (9223372036854775806 : Int64)), .second, .val (.int v1), .val (.int v3), .val (.long v13), .second, .val (.long (q1 &&& (9223372036854775807 : Int64))), .second, .unset, .unset] [])) t → Steps p.tables e below (s₁.setTop (mkF m 89 #[.val (.long q0), .second, .val (.long q1), .second, .val (.int p2), .val (.long (9223372036854775807 : Int64)), .second, .val (.long (9223372036854775806 : Int64)), .second, .val (.int v1), .val (.int v3), .val (.long v13), .second, .unset, .unset, .unset, .unset] [(.int (2 : Int32)), (.int v3)])) t := by
                intro t k
                show Steps p.tables e below (s₁.setTop (mkF m 89 #[.val (.long q0), .second, .val (.long q1), .second, .val (.int p2), .val (.long (9223372036854775807 : Int64)), .second, .val (.long (9223372036854775806 : Int64)), .second, .val (.int v1), .val (.int v3), .val (.long v13), .second, .unset, .unset, .unset, .unset] [(.int (2 : Int32)), (.int v3)])) _
                refine XS.icmpYes X0.here hx rfl (pc0 := 89) (pc' := 105) rfl (hb hby at_89) rfl (feq hc89_22).2 (by decide) (by decide) ?_
                show Steps p.tables e below (s₁.setTop (mkF m 105 #[.val (.long q0), .second, .val (.long q1), .second, .val (.int p2), .val (.long (9223372036854775807 : Int64)), .second, .val (.long (9223372036854775806 : Int64)), .second, .val (.int v1), .val (.int v3), .val (.long v13), .second, .unset, .unset, .unset, .unset] [])) _
                refine XS.lloadN X0.here hx rfl (hb hby at_105) rfl ?_
                show Steps p.tables e below (s₁.setTop (mkF m 106 #[.val (.long q0), .second, .val (.long q1), .second, .val (.int p2), .val (.long (9223372036854775807 : Int64)), .second, .val (.long (9223372036854775806 : Int64)), .second, .val (.int v1), .val (.int v3), .val (.long v13), .second, .unset, .unset, .unset, .unset] [(.long q1)])) _
                refine X0.ldc2Long hx hown (mvT hZ (hw _ (List.mem_of_getElem? (i := 0) rfl))) (g := (mkF m 106 #[.val (.long q0), .second, .val (.long q1), .second, .val (.int p2), .val (.long (9223372036854775807 : Int64)), .second, .val (.long (9223372036854775806 : Int64)), .second, .val (.int v1), .val (.int v3), .val (.long v13), .second, .unset, .unset, .unset, .unset] [(.long q1)])) rfl (hb hby at_106) _ ?_
                show Steps p.tables e below (s₁.setTop (mkF m 109 #[.val (.long q0), .second, .val (.long q1), .second, .val (.int p2), .val (.long (9223372036854775807 : Int64)), .second, .val (.long (9223372036854775806 : Int64)), .second, .val (.int v1), .val (.int v3), .val (.long v13), .second, .unset, .unset, .unset, .unset] [(.long (9223372036854775807 : Int64)), (.long q1)])) _
                refine XS.land X0.here hx rfl (hb hby at_109) rfl ?_
                show Steps p.tables e below (s₁.setTop (mkF m 110 #[.val (.long q0), .second, .val (.long q1), .second, .val (.int p2), .val (.long (9223372036854775807 : Int64)), .second, .val (.long (9223372036854775806 : Int64)), .second, .val (.int v1), .val (.int v3), .val (.long v13), .second, .unset, .unset, .unset, .unset] [(.long (q1 &&& (9223372036854775807 : Int64)))])) _
                refine XS.lstore X0.here hx rfl (hb hby at_110) rfl (l' := #[.val (.long q0), .second, .val (.long q1), .second, .val (.int p2), .val (.long (9223372036854775807 : Int64)), .second, .val (.long (9223372036854775806 : Int64)), .second, .val (.int v1), .val (.int v3), .val (.long v13), .second, .val (.long (q1 &&& (9223372036854775807 : Int64))), .second, .unset, .unset]) rfl ?_
                exact k
              exact fun t k => st24 _ k
          exact fun t k => st21 _ (st25 _ k)
      exact fun t k => st18 _ (st26 _ k)
  have st29 : ∀ t, Steps p.tables e below (s₁.setTop (mkF m 116 #[.val (.long q0), .second, .val (.long q1), .second, .val (.int p2), .val (.long (9223372036854775807 : Int64)), .second, .val (.long (9223372036854775806 : Int64)), .second, .val (.int v1), .val (.int v3), .val (.long v13), .second, .val (.long v27), .second, .unset, .unset] [(.long v27), (.long v13)])) t → Steps p.tables e below (s₁.setTop (mkF m 112 #[.val (.long q0), .second, .val (.long q1), .second, .val (.int p2), .val (.long (9223372036854775807 : Int64)), .second, .val (.long (9223372036854775806 : Int64)), .second, .val (.int v1), .val (.int v3), .val (.long v13), .second, .val (.long v27), .second, .unset, .unset] [])) t := by
    intro t k
    show Steps p.tables e below (s₁.setTop (mkF m 112 #[.val (.long q0), .second, .val (.long q1), .second, .val (.int p2), .val (.long (9223372036854775807 : Int64)), .second, .val (.long (9223372036854775806 : Int64)), .second, .val (.int v1), .val (.int v3), .val (.long v13), .second, .val (.long v27), .second, .unset, .unset] [])) _
    refine XS.lload X0.here hx rfl (hb hby at_112) rfl ?_
    show Steps p.tables e below (s₁.setTop (mkF m 114 #[.val (.long q0), .second, .val (.long q1), .second, .val (.int p2), .val (.long (9223372036854775807 : Int64)), .second, .val (.long (9223372036854775806 : Int64)), .second, .val (.int v1), .val (.int v3), .val (.long v13), .second, .val (.long v27), .second, .unset, .unset] [(.long v13)])) _
    refine XS.lload X0.here hx rfl (hb hby at_114) rfl ?_
    exact k
  obtain ⟨_, _, ⟨T30, L30, k30, n30⟩, -, X30, ⟨Lc30, hQ30, l30, y30, z30⟩, st30⟩ := Jvm.LawKit.callS X0 hx (y := (⟨"com/example/wireform/wireform/LeastSize", "times", "(JJ)J"⟩ : MethodName)) hown (mvT hZ (hw _ (List.mem_of_getElem? (i := 2) rfl))) (mvT hZ (hw _ (List.mem_of_getElem? (i := 3) rfl))) (mvT hZ (hw _ (List.mem_of_getElem? (i := 4) rfl))) (mvT hZ (hw _ (List.mem_of_getElem? (i := 5) rfl))) (by decide) (backOf (W := 0) (own_rm1 l Z a0 hw [] v13 v27 h0) hZ (hw _ (List.mem_of_getElem? (i := 5) rfl)) (hw _ (List.mem_of_getElem? (i := 4) rfl)) (by decide) (by decide)) (g := (mkF m 116 #[.val (.long q0), .second, .val (.long q1), .second, .val (.int p2), .val (.long (9223372036854775807 : Int64)), .second, .val (.long (9223372036854775806 : Int64)), .second, .val (.int v1), .val (.int v3), .val (.long v13), .second, .val (.long v27), .second, .unset, .unset] [(.long v27), (.long v13)])) rfl (by rw [hml]; rfl) (argsL := [(.long v13), (.long v27)]) (rest := []) (lenOf own_pd0 rfl) rfl (by show 2 * 0 + _ ≤ _; exact Nat.le_of_eq rfl) (hb hby at_116) (fun _ _ => ⟨rfl, e0, (by decide : 0 + 0 ≤ _), (by decide : 0 + 0 ≤ _)⟩)
  dsimp only [Pt.U, Pt.locs, Pt.cells, Pt.slots] at X30 l30 y30 z30 st30 hQ30
  subst l30 y30 z30
  obtain ⟨rfl, rfl, e30⟩ := hQ30
  have X30' : Stand p l e room_1 s m #[(.long q0), (.long q1), (.int p2)] below meth c T30 [] 0 0 := by first | exact X30 | (rw [List.append_nil] at X30; exact X30)
  obtain ⟨v31, hv31⟩ : ∃ z : Int64, z = (own_F1 v13 v27) := ⟨_, rfl⟩
  rw [← hv31] at st30
  have st32 : ∀ t, Steps p.tables e below (T30.setTop (mkF m 125 #[.val (.long q0), .second, .val (.long q1), .second, .val (.int p2), .val (.long (9223372036854775807 : Int64)), .second, .val (.long (9223372036854775806 : Int64)), .second, .val (.int v1), .val (.int v3), .val (.long v13), .second, .val (.long v27), .second, .val (.long v31), .second] [(.int (lcmpW v13 (0 : Int64)))])) t → Steps p.tables e below (T30.setTop (mkF m 119 #[.val (.long q0), .second, .val (.long q1), .second, .val (.int p2), .val (.long (9223372036854775807 : Int64)), .second, .val (.long (9223372036854775806 : Int64)), .second, .val (.int v1), .val (.int v3), .val (.long v13), .second, .val (.long v27), .second, .unset, .unset] [(.long v31)])) t := by
    intro t k
    show Steps p.tables e below (T30.setTop (mkF m 119 #[.val (.long q0), .second, .val (.long q1), .second, .val (.int p2), .val (.long (9223372036854775807 : Int64)), .second, .val (.long (9223372036854775806 : Int64)), .second, .val (.int v1), .val (.int v3), .val (.long v13), .second, .val (.long v27), .second, .unset, .unset] [(.long v31)])) _
    refine XS.lstore X30'.here hx rfl (hb hby at_119) rfl (l' := #[.val (.long q0), .second, .val (.long q1), .second, .val (.int p2), .val (.long (9223372036854775807 : Int64)), .second, .val (.long (9223372036854775806 : Int64)), .second, .val (.int v1), .val (.int v3), .val (.long v13), .second, .val (.long v27), .second, .val (.long v31), .second]) rfl ?_
    show Steps p.tables e below (T30.setTop (mkF m 121 #[.val (.long q0), .second, .val (.long q1), .second, .val (.int p2), .val (.long (9223372036854775807 : Int64)), .second, .val (.long (9223372036854775806 : Int64)), .second, .val (.int v1), .val (.int v3), .val (.long v13), .second, .val (.long v27), .second, .val (.long v31), .second] [])) _
    refine XS.lload X30'.here hx rfl (hb hby at_121) rfl ?_
    show Steps p.tables e below (T30.setTop (mkF m 123 #[.val (.long q0), .second, .val (.long q1), .second, .val (.int p2), .val (.long (9223372036854775807 : Int64)), .second, .val (.long (9223372036854775806 : Int64)), .second, .val (.int v1), .val (.int v3), .val (.long v13), .second, .val (.long v27), .second, .val (.long v31), .second] [(.long v13)])) _
    refine XS.lconst X30'.here hx rfl (hb hby at_123) ?_
    show Steps p.tables e below (T30.setTop (mkF m 124 #[.val (.long q0), .second, .val (.long q1), .second, .val (.int p2), .val (.long (9223372036854775807 : Int64)), .second, .val (.long (9223372036854775806 : Int64)), .second, .val (.int v1), .val (.int v3), .val (.long v13), .second, .val (.long v27), .second, .val (.long v31), .second] [(.long (0 : Int64)), (.long v13)])) _
    refine XS.lcmp X30'.here hx rfl (hb hby at_124) rfl ?_
    exact k
  refine own_End.go (fun t k => st2 _ (st4 _ (st5 _ (st14 _ (st15 _ (st28 _ (st29 _ (st30 _ (st32 _ k))))))))) ?_
  by_cases hc125_33 : v13 = (0 : Int64)
  · have st34 : ∀ t, Steps p.tables e below (T30.setTop (mkF m 132 #[.val (.long q0), .second, .val (.long q1), .second, .val (.int p2), .val (.long (9223372036854775807 : Int64)), .second, .val (.long (9223372036854775806 : Int64)), .second, .val (.int v1), .val (.int v3), .val (.long v13), .second, .val (.long v27), .second, .val (.long v31), .second] [(.int (lcmpW v31 (0 : Int64)))])) t → Steps p.tables e below (T30.setTop (mkF m 125 #[.val (.long q0), .second, .val (.long q1), .second, .val (.int p2), .val (.long (9223372036854775807 : Int64)), .second, .val (.long (9223372036854775806 : Int64)), .second, .val (.int v1), .val (.int v3), .val (.long v13), .second, .val (.long v27), .second, .val (.long v31), .second] [(.int (lcmpW v13 (0 : Int64)))])) t := by
      intro t k
      show Steps p.tables e below (T30.setTop (mkF m 125 #[.val (.long q0), .second, .val (.long q1), .second, .val (.int p2), .val (.long (9223372036854775807 : Int64)), .second, .val (.long (9223372036854775806 : Int64)), .second, .val (.int v1), .val (.int v3), .val (.long v13), .second, .val (.long v27), .second, .val (.long v31), .second] [(.int (lcmpW v13 (0 : Int64)))])) _
      refine XS.ifNo X30'.here hx rfl (hb hby at_125) rfl ((if0 _ _).trans (teq ((lw_eq v13 (0 : Int64)).mpr hc125_33)).2) ?_
      show Steps p.tables e below (T30.setTop (mkF m 128 #[.val (.long q0), .second, .val (.long q1), .second, .val (.int p2), .val (.long (9223372036854775807 : Int64)), .second, .val (.long (9223372036854775806 : Int64)), .second, .val (.int v1), .val (.int v3), .val (.long v13), .second, .val (.long v27), .second, .val (.long v31), .second] [])) _
      refine XS.lload X30'.here hx rfl (hb hby at_128) rfl ?_
      show Steps p.tables e below (T30.setTop (mkF m 130 #[.val (.long q0), .second, .val (.long q1), .second, .val (.int p2), .val (.long (9223372036854775807 : Int64)), .second, .val (.long (9223372036854775806 : Int64)), .second, .val (.int v1), .val (.int v3), .val (.long v13), .second, .val (.long v27), .second, .val (.long v31), .second] [(.long v31)])) _
      refine XS.lconst X30'.here hx rfl (hb hby at_130) ?_
      show Steps p.tables e below (T30.setTop (mkF m 131 #[.val (.long q0), .second, .val (.long q1), .second, .val (.int p2), .val (.long (9223372036854775807 : Int64)), .second, .val (.long (9223372036854775806 : Int64)), .second, .val (.int v1), .val (.int v3), .val (.long v13), .second, .val (.long v27), .second, .val (.long v31), .second] [(.long (0 : Int64)), (.long v31)])) _
      refine XS.lcmp X30'.here hx rfl (hb hby at_131) rfl ?_
      exact k
    refine own_End.go (fun t k => st34 _ k) ?_
    by_cases hc132_35 : v31 = (0 : Int64)
    · have st36 : ∀ t, Steps p.tables e below (T30.setTop (mkF m 140 #[.val (.long q0), .second, .val (.long q1), .second, .val (.int p2), .val (.long (9223372036854775807 : Int64)), .second, .val (.long (9223372036854775806 : Int64)), .second, .val (.int v1), .val (.int v3), .val (.long v13), .second, .val (.long v27), .second, .val (.long v31), .second] [(.int (1 : Int32))])) t → Steps p.tables e below (T30.setTop (mkF m 132 #[.val (.long q0), .second, .val (.long q1), .second, .val (.int p2), .val (.long (9223372036854775807 : Int64)), .second, .val (.long (9223372036854775806 : Int64)), .second, .val (.int v1), .val (.int v3), .val (.long v13), .second, .val (.long v27), .second, .val (.long v31), .second] [(.int (lcmpW v31 (0 : Int64)))])) t := by
        intro t k
        show Steps p.tables e below (T30.setTop (mkF m 132 #[.val (.long q0), .second, .val (.long q1), .second, .val (.int p2), .val (.long (9223372036854775807 : Int64)), .second, .val (.long (9223372036854775806 : Int64)), .second, .val (.int v1), .val (.int v3), .val (.long v13), .second, .val (.long v27), .second, .val (.long v31), .second] [(.int (lcmpW v31 (0 : Int64)))])) _
        refine XS.ifNo X30'.here hx rfl (hb hby at_132) rfl ((if0 _ _).trans (teq ((lw_eq v31 (0 : Int64)).mpr hc132_35)).2) ?_
        show Steps p.tables e below (T30.setTop (mkF m 135 #[.val (.long q0), .second, .val (.long q1), .second, .val (.int p2), .val (.long (9223372036854775807 : Int64)), .second, .val (.long (9223372036854775806 : Int64)), .second, .val (.int v1), .val (.int v3), .val (.long v13), .second, .val (.long v27), .second, .val (.long v31), .second] [])) _
        refine XS.iconst X30'.here hx rfl (hb hby at_135) ?_
        show Steps p.tables e below (T30.setTop (mkF m 136 #[.val (.long q0), .second, .val (.long q1), .second, .val (.int p2), .val (.long (9223372036854775807 : Int64)), .second, .val (.long (9223372036854775806 : Int64)), .second, .val (.int v1), .val (.int v3), .val (.long v13), .second, .val (.long v27), .second, .val (.long v31), .second] [(.int (1 : Int32))])) _
        refine XS.goto X30'.here hx rfl (pc0 := 136) (pc' := 140) rfl (hb hby at_136) (by decide) (by decide) ?_
        exact k
      refine own_End.go (fun t k => st36 _ k) ?_
      exact own_leafN X30' hx Bd.notSynchronized (t := .boolean) Bd.returns (by simp) (hb hby at_140) ⟨congrArg (fun z => some (Value.int z)) (by
          subst hv1 hv3 hv13 hv27 hv31; simp only [own_F0, own_nb0, own_nb1, if_pos hc125_33, if_pos hc132_35]), Fr.nil n0⟩ (by decide) (by decide)
    · have st37 : ∀ t, Steps p.tables e below (T30.setTop (mkF m 140 #[.val (.long q0), .second, .val (.long q1), .second, .val (.int p2), .val (.long (9223372036854775807 : Int64)), .second, .val (.long (9223372036854775806 : Int64)), .second, .val (.int v1), .val (.int v3), .val (.long v13), .second, .val (.long v27), .second, .val (.long v31), .second] [(.int (0 : Int32))])) t → Steps p.tables e below (T30.setTop (mkF m 132 #[.val (.long q0), .second, .val (.long q1), .second, .val (.int p2), .val (.long (9223372036854775807 : Int64)), .second, .val (.long (9223372036854775806 : Int64)), .second, .val (.int v1), .val (.int v3), .val (.long v13), .second, .val (.long v27), .second, .val (.long v31), .second] [(.int (lcmpW v31 (0 : Int64)))])) t := by
        intro t k
        show Steps p.tables e below (T30.setTop (mkF m 132 #[.val (.long q0), .second, .val (.long q1), .second, .val (.int p2), .val (.long (9223372036854775807 : Int64)), .second, .val (.long (9223372036854775806 : Int64)), .second, .val (.int v1), .val (.int v3), .val (.long v13), .second, .val (.long v27), .second, .val (.long v31), .second] [(.int (lcmpW v31 (0 : Int64)))])) _
        refine XS.ifYes X30'.here hx rfl (pc0 := 132) (pc' := 139) rfl (hb hby at_132) rfl ((if0 _ _).trans (feq (mt (lw_eq v31 (0 : Int64)).mp hc132_35)).2) (by decide) (by decide) ?_
        show Steps p.tables e below (T30.setTop (mkF m 139 #[.val (.long q0), .second, .val (.long q1), .second, .val (.int p2), .val (.long (9223372036854775807 : Int64)), .second, .val (.long (9223372036854775806 : Int64)), .second, .val (.int v1), .val (.int v3), .val (.long v13), .second, .val (.long v27), .second, .val (.long v31), .second] [])) _
        refine XS.iconst X30'.here hx rfl (hb hby at_139) ?_
        exact k
      refine own_End.go (fun t k => st37 _ k) ?_
      exact own_leafN X30' hx Bd.notSynchronized (t := .boolean) Bd.returns (by simp) (hb hby at_140) ⟨congrArg (fun z => some (Value.int z)) (by
          subst hv1 hv3 hv13 hv27 hv31; simp only [own_F0, own_nb0, own_nb1, if_pos hc125_33, if_neg hc132_35]), Fr.nil n0⟩ (by decide) (by decide)
  · have st38 : ∀ t, Steps p.tables e below (T30.setTop (mkF m 146 #[.val (.long q0), .second, .val (.long q1), .second, .val (.int p2), .val (.long (9223372036854775807 : Int64)), .second, .val (.long (9223372036854775806 : Int64)), .second, .val (.int v1), .val (.int v3), .val (.long v13), .second, .val (.long v27), .second, .val (.long v31), .second] [(.int (lcmpW v27 (9223372036854775807 : Int64)))])) t → Steps p.tables e below (T30.setTop (mkF m 125 #[.val (.long q0), .second, .val (.long q1), .second, .val (.int p2), .val (.long (9223372036854775807 : Int64)), .second, .val (.long (9223372036854775806 : Int64)), .second, .val (.int v1), .val (.int v3), .val (.long v13), .second, .val (.long v27), .second, .val (.long v31), .second] [(.int (lcmpW v13 (0 : Int64)))])) t := by
      intro t k
      show Steps p.tables e below (T30.setTop (mkF m 125 #[.val (.long q0), .second, .val (.long q1), .second, .val (.int p2), .val (.long (9223372036854775807 : Int64)), .second, .val (.long (9223372036854775806 : Int64)), .second, .val (.int v1), .val (.int v3), .val (.long v13), .second, .val (.long v27), .second, .val (.long v31), .second] [(.int (lcmpW v13 (0 : Int64)))])) _
      refine XS.ifYes X30'.here hx rfl (pc0 := 125) (pc' := 141) rfl (hb hby at_125) rfl ((if0 _ _).trans (feq (mt (lw_eq v13 (0 : Int64)).mp hc125_33)).2) (by decide) (by decide) ?_
      show Steps p.tables e below (T30.setTop (mkF m 141 #[.val (.long q0), .second, .val (.long q1), .second, .val (.int p2), .val (.long (9223372036854775807 : Int64)), .second, .val (.long (9223372036854775806 : Int64)), .second, .val (.int v1), .val (.int v3), .val (.long v13), .second, .val (.long v27), .second, .val (.long v31), .second] [])) _
      refine XS.lload X30'.here hx rfl (hb hby at_141) rfl ?_
      show Steps p.tables e below (T30.setTop (mkF m 143 #[.val (.long q0), .second, .val (.long q1), .second, .val (.int p2), .val (.long (9223372036854775807 : Int64)), .second, .val (.long (9223372036854775806 : Int64)), .second, .val (.int v1), .val (.int v3), .val (.long v13), .second, .val (.long v27), .second, .val (.long v31), .second] [(.long v27)])) _
      refine XS.lload X30'.here hx rfl (hb hby at_143) rfl ?_
      show Steps p.tables e below (T30.setTop (mkF m 145 #[.val (.long q0), .second, .val (.long q1), .second, .val (.int p2), .val (.long (9223372036854775807 : Int64)), .second, .val (.long (9223372036854775806 : Int64)), .second, .val (.int v1), .val (.int v3), .val (.long v13), .second, .val (.long v27), .second, .val (.long v31), .second] [(.long (9223372036854775807 : Int64)), (.long v27)])) _
      refine XS.lcmp X30'.here hx rfl (hb hby at_145) rfl ?_
      exact k
    refine own_End.go (fun t k => st38 _ k) ?_
    by_cases hc146_39 : v27 = (9223372036854775807 : Int64)
    · have st40 : ∀ t, Steps p.tables e below (T30.setTop (mkF m 154 #[.val (.long q0), .second, .val (.long q1), .second, .val (.int p2), .val (.long (9223372036854775807 : Int64)), .second, .val (.long (9223372036854775806 : Int64)), .second, .val (.int v1), .val (.int v3), .val (.long v13), .second, .val (.long v27), .second, .val (.long v31), .second] [(.int (lcmpW v31 (9223372036854775807 : Int64)))])) t → Steps p.tables e below (T30.setTop (mkF m 146 #[.val (.long q0), .second, .val (.long q1), .second, .val (.int p2), .val (.long (9223372036854775807 : Int64)), .second, .val (.long (9223372036854775806 : Int64)), .second, .val (.int v1), .val (.int v3), .val (.long v13), .second, .val (.long v27), .second, .val (.long v31), .second] [(.int (lcmpW v27 (9223372036854775807 : Int64)))])) t := by
        intro t k
        show Steps p.tables e below (T30.setTop (mkF m 146 #[.val (.long q0), .second, .val (.long q1), .second, .val (.int p2), .val (.long (9223372036854775807 : Int64)), .second, .val (.long (9223372036854775806 : Int64)), .second, .val (.int v1), .val (.int v3), .val (.long v13), .second, .val (.long v27), .second, .val (.long v31), .second] [(.int (lcmpW v27 (9223372036854775807 : Int64)))])) _
        refine XS.ifNo X30'.here hx rfl (hb hby at_146) rfl ((if0 _ _).trans (teq ((lw_eq v27 (9223372036854775807 : Int64)).mpr hc146_39)).2) ?_
        show Steps p.tables e below (T30.setTop (mkF m 149 #[.val (.long q0), .second, .val (.long q1), .second, .val (.int p2), .val (.long (9223372036854775807 : Int64)), .second, .val (.long (9223372036854775806 : Int64)), .second, .val (.int v1), .val (.int v3), .val (.long v13), .second, .val (.long v27), .second, .val (.long v31), .second] [])) _
        refine XS.lload X30'.here hx rfl (hb hby at_149) rfl ?_
        show Steps p.tables e below (T30.setTop (mkF m 151 #[.val (.long q0), .second, .val (.long q1), .second, .val (.int p2), .val (.long (9223372036854775807 : Int64)), .second, .val (.long (9223372036854775806 : Int64)), .second, .val (.int v1), .val (.int v3), .val (.long v13), .second, .val (.long v27), .second, .val (.long v31), .second] [(.long v31)])) _
        refine XS.lload X30'.here hx rfl (hb hby at_151) rfl ?_
        show Steps p.tables e below (T30.setTop (mkF m 153 #[.val (.long q0), .second, .val (.long q1), .second, .val (.int p2), .val (.long (9223372036854775807 : Int64)), .second, .val (.long (9223372036854775806 : Int64)), .second, .val (.int v1), .val (.int v3), .val (.long v13), .second, .val (.long v27), .second, .val (.long v31), .second] [(.long (9223372036854775807 : Int64)), (.long v31)])) _
        refine XS.lcmp X30'.here hx rfl (hb hby at_153) rfl ?_
        exact k
      refine own_End.go (fun t k => st40 _ k) ?_
      by_cases hc154_41 : v31 = (9223372036854775807 : Int64)
      · have st42 : ∀ t, Steps p.tables e below (T30.setTop (mkF m 162 #[.val (.long q0), .second, .val (.long q1), .second, .val (.int p2), .val (.long (9223372036854775807 : Int64)), .second, .val (.long (9223372036854775806 : Int64)), .second, .val (.int v1), .val (.int v3), .val (.long v13), .second, .val (.long v27), .second, .val (.long v31), .second] [(.int (1 : Int32))])) t → Steps p.tables e below (T30.setTop (mkF m 154 #[.val (.long q0), .second, .val (.long q1), .second, .val (.int p2), .val (.long (9223372036854775807 : Int64)), .second, .val (.long (9223372036854775806 : Int64)), .second, .val (.int v1), .val (.int v3), .val (.long v13), .second, .val (.long v27), .second, .val (.long v31), .second] [(.int (lcmpW v31 (9223372036854775807 : Int64)))])) t := by
          intro t k
          show Steps p.tables e below (T30.setTop (mkF m 154 #[.val (.long q0), .second, .val (.long q1), .second, .val (.int p2), .val (.long (9223372036854775807 : Int64)), .second, .val (.long (9223372036854775806 : Int64)), .second, .val (.int v1), .val (.int v3), .val (.long v13), .second, .val (.long v27), .second, .val (.long v31), .second] [(.int (lcmpW v31 (9223372036854775807 : Int64)))])) _
          refine XS.ifNo X30'.here hx rfl (hb hby at_154) rfl ((if0 _ _).trans (teq ((lw_eq v31 (9223372036854775807 : Int64)).mpr hc154_41)).2) ?_
          show Steps p.tables e below (T30.setTop (mkF m 157 #[.val (.long q0), .second, .val (.long q1), .second, .val (.int p2), .val (.long (9223372036854775807 : Int64)), .second, .val (.long (9223372036854775806 : Int64)), .second, .val (.int v1), .val (.int v3), .val (.long v13), .second, .val (.long v27), .second, .val (.long v31), .second] [])) _
          refine XS.iconst X30'.here hx rfl (hb hby at_157) ?_
          show Steps p.tables e below (T30.setTop (mkF m 158 #[.val (.long q0), .second, .val (.long q1), .second, .val (.int p2), .val (.long (9223372036854775807 : Int64)), .second, .val (.long (9223372036854775806 : Int64)), .second, .val (.int v1), .val (.int v3), .val (.long v13), .second, .val (.long v27), .second, .val (.long v31), .second] [(.int (1 : Int32))])) _
          refine XS.goto X30'.here hx rfl (pc0 := 158) (pc' := 162) rfl (hb hby at_158) (by decide) (by decide) ?_
          exact k
        refine own_End.go (fun t k => st42 _ k) ?_
        exact own_leafN X30' hx Bd.notSynchronized (t := .boolean) Bd.returns (by simp) (hb hby at_162) ⟨congrArg (fun z => some (Value.int z)) (by
            subst hv1 hv3 hv13 hv27 hv31; simp only [own_F0, own_nb0, own_nb1, if_neg hc125_33, if_pos hc146_39, if_pos hc154_41]), Fr.nil n0⟩ (by decide) (by decide)
      · have st43 : ∀ t, Steps p.tables e below (T30.setTop (mkF m 162 #[.val (.long q0), .second, .val (.long q1), .second, .val (.int p2), .val (.long (9223372036854775807 : Int64)), .second, .val (.long (9223372036854775806 : Int64)), .second, .val (.int v1), .val (.int v3), .val (.long v13), .second, .val (.long v27), .second, .val (.long v31), .second] [(.int (0 : Int32))])) t → Steps p.tables e below (T30.setTop (mkF m 154 #[.val (.long q0), .second, .val (.long q1), .second, .val (.int p2), .val (.long (9223372036854775807 : Int64)), .second, .val (.long (9223372036854775806 : Int64)), .second, .val (.int v1), .val (.int v3), .val (.long v13), .second, .val (.long v27), .second, .val (.long v31), .second] [(.int (lcmpW v31 (9223372036854775807 : Int64)))])) t := by
          intro t k
          show Steps p.tables e below (T30.setTop (mkF m 154 #[.val (.long q0), .second, .val (.long q1), .second, .val (.int p2), .val (.long (9223372036854775807 : Int64)), .second, .val (.long (9223372036854775806 : Int64)), .second, .val (.int v1), .val (.int v3), .val (.long v13), .second, .val (.long v27), .second, .val (.long v31), .second] [(.int (lcmpW v31 (9223372036854775807 : Int64)))])) _
          refine XS.ifYes X30'.here hx rfl (pc0 := 154) (pc' := 161) rfl (hb hby at_154) rfl ((if0 _ _).trans (feq (mt (lw_eq v31 (9223372036854775807 : Int64)).mp hc154_41)).2) (by decide) (by decide) ?_
          show Steps p.tables e below (T30.setTop (mkF m 161 #[.val (.long q0), .second, .val (.long q1), .second, .val (.int p2), .val (.long (9223372036854775807 : Int64)), .second, .val (.long (9223372036854775806 : Int64)), .second, .val (.int v1), .val (.int v3), .val (.long v13), .second, .val (.long v27), .second, .val (.long v31), .second] [])) _
          refine XS.iconst X30'.here hx rfl (hb hby at_161) ?_
          exact k
        refine own_End.go (fun t k => st43 _ k) ?_
        exact own_leafN X30' hx Bd.notSynchronized (t := .boolean) Bd.returns (by simp) (hb hby at_162) ⟨congrArg (fun z => some (Value.int z)) (by
            subst hv1 hv3 hv13 hv27 hv31; simp only [own_F0, own_nb0, own_nb1, if_neg hc125_33, if_pos hc146_39, if_neg hc154_41]), Fr.nil n0⟩ (by decide) (by decide)
    · have st44 : ∀ t, Steps p.tables e below (T30.setTop (mkF m 168 #[.val (.long q0), .second, .val (.long q1), .second, .val (.int p2), .val (.long (9223372036854775807 : Int64)), .second, .val (.long (9223372036854775806 : Int64)), .second, .val (.int v1), .val (.int v3), .val (.long v13), .second, .val (.long v27), .second, .val (.long v31), .second] [(.int (lcmpW v31 (9223372036854775806 : Int64)))])) t → Steps p.tables e below (T30.setTop (mkF m 146 #[.val (.long q0), .second, .val (.long q1), .second, .val (.int p2), .val (.long (9223372036854775807 : Int64)), .second, .val (.long (9223372036854775806 : Int64)), .second, .val (.int v1), .val (.int v3), .val (.long v13), .second, .val (.long v27), .second, .val (.long v31), .second] [(.int (lcmpW v27 (9223372036854775807 : Int64)))])) t := by
        intro t k
        show Steps p.tables e below (T30.setTop (mkF m 146 #[.val (.long q0), .second, .val (.long q1), .second, .val (.int p2), .val (.long (9223372036854775807 : Int64)), .second, .val (.long (9223372036854775806 : Int64)), .second, .val (.int v1), .val (.int v3), .val (.long v13), .second, .val (.long v27), .second, .val (.long v31), .second] [(.int (lcmpW v27 (9223372036854775807 : Int64)))])) _
        refine XS.ifYes X30'.here hx rfl (pc0 := 146) (pc' := 163) rfl (hb hby at_146) rfl ((if0 _ _).trans (feq (mt (lw_eq v27 (9223372036854775807 : Int64)).mp hc146_39)).2) (by decide) (by decide) ?_
        show Steps p.tables e below (T30.setTop (mkF m 163 #[.val (.long q0), .second, .val (.long q1), .second, .val (.int p2), .val (.long (9223372036854775807 : Int64)), .second, .val (.long (9223372036854775806 : Int64)), .second, .val (.int v1), .val (.int v3), .val (.long v13), .second, .val (.long v27), .second, .val (.long v31), .second] [])) _
        refine XS.lload X30'.here hx rfl (hb hby at_163) rfl ?_
        show Steps p.tables e below (T30.setTop (mkF m 165 #[.val (.long q0), .second, .val (.long q1), .second, .val (.int p2), .val (.long (9223372036854775807 : Int64)), .second, .val (.long (9223372036854775806 : Int64)), .second, .val (.int v1), .val (.int v3), .val (.long v13), .second, .val (.long v27), .second, .val (.long v31), .second] [(.long v31)])) _
        refine XS.lload X30'.here hx rfl (hb hby at_165) rfl ?_
        show Steps p.tables e below (T30.setTop (mkF m 167 #[.val (.long q0), .second, .val (.long q1), .second, .val (.int p2), .val (.long (9223372036854775807 : Int64)), .second, .val (.long (9223372036854775806 : Int64)), .second, .val (.int v1), .val (.int v3), .val (.long v13), .second, .val (.long v27), .second, .val (.long v31), .second] [(.long (9223372036854775806 : Int64)), (.long v31)])) _
        refine XS.lcmp X30'.here hx rfl (hb hby at_167) rfl ?_
        exact k
      refine own_End.go (fun t k => st44 _ k) ?_
      by_cases hc168_45 : v31 = (9223372036854775806 : Int64)
      · have st46 : ∀ t, Steps p.tables e below (T30.setTop (mkF m 181 #[.val (.long q0), .second, .val (.long q1), .second, .val (.int p2), .val (.long (9223372036854775807 : Int64)), .second, .val (.long (9223372036854775806 : Int64)), .second, .val (.int v1), .val (.int v3), .val (.long v13), .second, .val (.long v27), .second, .val (.long v31), .second] [(.int (lcmpW v27 (((9223372036854775806 : Int64) - (1 : Int64)) / v13)))])) t → Steps p.tables e below (T30.setTop (mkF m 168 #[.val (.long q0), .second, .val (.long q1), .second, .val (.int p2), .val (.long (9223372036854775807 : Int64)), .second, .val (.long (9223372036854775806 : Int64)), .second, .val (.int v1), .val (.int v3), .val (.long v13), .second, .val (.long v27), .second, .val (.long v31), .second] [(.int (lcmpW v31 (9223372036854775806 : Int64)))])) t := by
          intro t k
          show Steps p.tables e below (T30.setTop (mkF m 168 #[.val (.long q0), .second, .val (.long q1), .second, .val (.int p2), .val (.long (9223372036854775807 : Int64)), .second, .val (.long (9223372036854775806 : Int64)), .second, .val (.int v1), .val (.int v3), .val (.long v13), .second, .val (.long v27), .second, .val (.long v31), .second] [(.int (lcmpW v31 (9223372036854775806 : Int64)))])) _
          refine XS.ifNo X30'.here hx rfl (hb hby at_168) rfl ((if0 _ _).trans (teq ((lw_eq v31 (9223372036854775806 : Int64)).mpr hc168_45)).2) ?_
          show Steps p.tables e below (T30.setTop (mkF m 171 #[.val (.long q0), .second, .val (.long q1), .second, .val (.int p2), .val (.long (9223372036854775807 : Int64)), .second, .val (.long (9223372036854775806 : Int64)), .second, .val (.int v1), .val (.int v3), .val (.long v13), .second, .val (.long v27), .second, .val (.long v31), .second] [])) _
          refine XS.lload X30'.here hx rfl (hb hby at_171) rfl ?_
          show Steps p.tables e below (T30.setTop (mkF m 173 #[.val (.long q0), .second, .val (.long q1), .second, .val (.int p2), .val (.long (9223372036854775807 : Int64)), .second, .val (.long (9223372036854775806 : Int64)), .second, .val (.int v1), .val (.int v3), .val (.long v13), .second, .val (.long v27), .second, .val (.long v31), .second] [(.long v27)])) _
          refine XS.lload X30'.here hx rfl (hb hby at_173) rfl ?_
          show Steps p.tables e below (T30.setTop (mkF m 175 #[.val (.long q0), .second, .val (.long q1), .second, .val (.int p2), .val (.long (9223372036854775807 : Int64)), .second, .val (.long (9223372036854775806 : Int64)), .second, .val (.int v1), .val (.int v3), .val (.long v13), .second, .val (.long v27), .second, .val (.long v31), .second] [(.long (9223372036854775806 : Int64)), (.long v27)])) _
          refine XS.lconst X30'.here hx rfl (hb hby at_175) ?_
          show Steps p.tables e below (T30.setTop (mkF m 176 #[.val (.long q0), .second, .val (.long q1), .second, .val (.int p2), .val (.long (9223372036854775807 : Int64)), .second, .val (.long (9223372036854775806 : Int64)), .second, .val (.int v1), .val (.int v3), .val (.long v13), .second, .val (.long v27), .second, .val (.long v31), .second] [(.long (1 : Int64)), (.long (9223372036854775806 : Int64)), (.long v27)])) _
          refine XS.lsub X30'.here hx rfl (hb hby at_176) rfl ?_
          show Steps p.tables e below (T30.setTop (mkF m 177 #[.val (.long q0), .second, .val (.long q1), .second, .val (.int p2), .val (.long (9223372036854775807 : Int64)), .second, .val (.long (9223372036854775806 : Int64)), .second, .val (.int v1), .val (.int v3), .val (.long v13), .second, .val (.long v27), .second, .val (.long v31), .second] [(.long ((9223372036854775806 : Int64) - (1 : Int64))), (.long v27)])) _
          refine XS.lload X30'.here hx rfl (hb hby at_177) rfl ?_
          show Steps p.tables e below (T30.setTop (mkF m 179 #[.val (.long q0), .second, .val (.long q1), .second, .val (.int p2), .val (.long (9223372036854775807 : Int64)), .second, .val (.long (9223372036854775806 : Int64)), .second, .val (.int v1), .val (.int v3), .val (.long v13), .second, .val (.long v27), .second, .val (.long v31), .second] [(.long v13), (.long ((9223372036854775806 : Int64) - (1 : Int64))), (.long v27)])) _
          refine XS.ldiv X30'.here hx rfl (hb hby at_179) rfl (by assumption) ?_
          show Steps p.tables e below (T30.setTop (mkF m 180 #[.val (.long q0), .second, .val (.long q1), .second, .val (.int p2), .val (.long (9223372036854775807 : Int64)), .second, .val (.long (9223372036854775806 : Int64)), .second, .val (.int v1), .val (.int v3), .val (.long v13), .second, .val (.long v27), .second, .val (.long v31), .second] [(.long (((9223372036854775806 : Int64) - (1 : Int64)) / v13)), (.long v27)])) _
          refine XS.lcmp X30'.here hx rfl (hb hby at_180) rfl ?_
          exact k
        refine own_End.go (fun t k => st46 _ k) ?_
        by_cases hc181_47 : (((9223372036854775806 : Int64) - (1 : Int64)) / v13) < v27
        · have st48 : ∀ t, Steps p.tables e below (T30.setTop (mkF m 189 #[.val (.long q0), .second, .val (.long q1), .second, .val (.int p2), .val (.long (9223372036854775807 : Int64)), .second, .val (.long (9223372036854775806 : Int64)), .second, .val (.int v1), .val (.int v3), .val (.long v13), .second, .val (.long v27), .second, .val (.long v31), .second] [(.int (1 : Int32))])) t → Steps p.tables e below (T30.setTop (mkF m 181 #[.val (.long q0), .second, .val (.long q1), .second, .val (.int p2), .val (.long (9223372036854775807 : Int64)), .second, .val (.long (9223372036854775806 : Int64)), .second, .val (.int v1), .val (.int v3), .val (.long v13), .second, .val (.long v27), .second, .val (.long v31), .second] [(.int (lcmpW v27 (((9223372036854775806 : Int64) - (1 : Int64)) / v13)))])) t := by
            intro t k
            show Steps p.tables e below (T30.setTop (mkF m 181 #[.val (.long q0), .second, .val (.long q1), .second, .val (.int p2), .val (.long (9223372036854775807 : Int64)), .second, .val (.long (9223372036854775806 : Int64)), .second, .val (.int v1), .val (.int v3), .val (.long v13), .second, .val (.long v27), .second, .val (.long v31), .second] [(.int (lcmpW v27 (((9223372036854775806 : Int64) - (1 : Int64)) / v13)))])) _
            refine XS.ifNo X30'.here hx rfl (hb hby at_181) rfl ((if0 _ _).trans (tlt ((lw_gt v27 (((9223372036854775806 : Int64) - (1 : Int64)) / v13)).mpr hc181_47)).2.2.2) ?_
            show Steps p.tables e below (T30.setTop (mkF m 184 #[.val (.long q0), .second, .val (.long q1), .second, .val (.int p2), .val (.long (9223372036854775807 : Int64)), .second, .val (.long (9223372036854775806 : Int64)), .second, .val (.int v1), .val (.int v3), .val (.long v13), .second, .val (.long v27), .second, .val (.long v31), .second] [])) _
            refine XS.iconst X30'.here hx rfl (hb hby at_184) ?_
            show Steps p.tables e below (T30.setTop (mkF m 185 #[.val (.long q0), .second, .val (.long q1), .second, .val (.int p2), .val (.long (9223372036854775807 : Int64)), .second, .val (.long (9223372036854775806 : Int64)), .second, .val (.int v1), .val (.int v3), .val (.long v13), .second, .val (.long v27), .second, .val (.long v31), .second] [(.int (1 : Int32))])) _
            refine XS.goto X30'.here hx rfl (pc0 := 185) (pc' := 189) rfl (hb hby at_185) (by decide) (by decide) ?_
            exact k
          refine own_End.go (fun t k => st48 _ k) ?_
          exact own_leafN X30' hx Bd.notSynchronized (t := .boolean) Bd.returns (by simp) (hb hby at_189) ⟨congrArg (fun z => some (Value.int z)) (by
              subst hv1 hv3 hv13 hv27 hv31; simp only [own_F0, own_nb0, own_nb1, if_neg hc125_33, if_neg hc146_39, if_pos hc168_45, if_pos hc181_47]), Fr.nil n0⟩ (by decide) (by decide)
        · have st49 : ∀ t, Steps p.tables e below (T30.setTop (mkF m 189 #[.val (.long q0), .second, .val (.long q1), .second, .val (.int p2), .val (.long (9223372036854775807 : Int64)), .second, .val (.long (9223372036854775806 : Int64)), .second, .val (.int v1), .val (.int v3), .val (.long v13), .second, .val (.long v27), .second, .val (.long v31), .second] [(.int (0 : Int32))])) t → Steps p.tables e below (T30.setTop (mkF m 181 #[.val (.long q0), .second, .val (.long q1), .second, .val (.int p2), .val (.long (9223372036854775807 : Int64)), .second, .val (.long (9223372036854775806 : Int64)), .second, .val (.int v1), .val (.int v3), .val (.long v13), .second, .val (.long v27), .second, .val (.long v31), .second] [(.int (lcmpW v27 (((9223372036854775806 : Int64) - (1 : Int64)) / v13)))])) t := by
            intro t k
            show Steps p.tables e below (T30.setTop (mkF m 181 #[.val (.long q0), .second, .val (.long q1), .second, .val (.int p2), .val (.long (9223372036854775807 : Int64)), .second, .val (.long (9223372036854775806 : Int64)), .second, .val (.int v1), .val (.int v3), .val (.long v13), .second, .val (.long v27), .second, .val (.long v31), .second] [(.int (lcmpW v27 (((9223372036854775806 : Int64) - (1 : Int64)) / v13)))])) _
            refine XS.ifYes X30'.here hx rfl (pc0 := 181) (pc' := 188) rfl (hb hby at_181) rfl ((if0 _ _).trans (flt (mt (lw_gt v27 (((9223372036854775806 : Int64) - (1 : Int64)) / v13)).mp hc181_47)).2.2.2) (by decide) (by decide) ?_
            show Steps p.tables e below (T30.setTop (mkF m 188 #[.val (.long q0), .second, .val (.long q1), .second, .val (.int p2), .val (.long (9223372036854775807 : Int64)), .second, .val (.long (9223372036854775806 : Int64)), .second, .val (.int v1), .val (.int v3), .val (.long v13), .second, .val (.long v27), .second, .val (.long v31), .second] [])) _
            refine XS.iconst X30'.here hx rfl (hb hby at_188) ?_
            exact k
          refine own_End.go (fun t k => st49 _ k) ?_
          exact own_leafN X30' hx Bd.notSynchronized (t := .boolean) Bd.returns (by simp) (hb hby at_189) ⟨congrArg (fun z => some (Value.int z)) (by
              subst hv1 hv3 hv13 hv27 hv31; simp only [own_F0, own_nb0, own_nb1, if_neg hc125_33, if_neg hc146_39, if_pos hc168_45, if_neg hc181_47]), Fr.nil n0⟩ (by decide) (by decide)
      · have st50 : ∀ t, Steps p.tables e below (T30.setTop (mkF m 194 #[.val (.long q0), .second, .val (.long q1), .second, .val (.int p2), .val (.long (9223372036854775807 : Int64)), .second, .val (.long (9223372036854775806 : Int64)), .second, .val (.int v1), .val (.int v3), .val (.long v13), .second, .val (.long v27), .second, .val (.long v31), .second] [(.int (lcmpW v31 (0 : Int64)))])) t → Steps p.tables e below (T30.setTop (mkF m 168 #[.val (.long q0), .second, .val (.long q1), .second, .val (.int p2), .val (.long (9223372036854775807 : Int64)), .second, .val (.long (9223372036854775806 : Int64)), .second, .val (.int v1), .val (.int v3), .val (.long v13), .second, .val (.long v27), .second, .val (.long v31), .second] [(.int (lcmpW v31 (9223372036854775806 : Int64)))])) t := by
          intro t k
          show Steps p.tables e below (T30.setTop (mkF m 168 #[.val (.long q0), .second, .val (.long q1), .second, .val (.int p2), .val (.long (9223372036854775807 : Int64)), .second, .val (.long (9223372036854775806 : Int64)), .second, .val (.int v1), .val (.int v3), .val (.long v13), .second, .val (.long v27), .second, .val (.long v31), .second] [(.int (lcmpW v31 (9223372036854775806 : Int64)))])) _
          refine XS.ifYes X30'.here hx rfl (pc0 := 168) (pc' := 190) rfl (hb hby at_168) rfl ((if0 _ _).trans (feq (mt (lw_eq v31 (9223372036854775806 : Int64)).mp hc168_45)).2) (by decide) (by decide) ?_
          show Steps p.tables e below (T30.setTop (mkF m 190 #[.val (.long q0), .second, .val (.long q1), .second, .val (.int p2), .val (.long (9223372036854775807 : Int64)), .second, .val (.long (9223372036854775806 : Int64)), .second, .val (.int v1), .val (.int v3), .val (.long v13), .second, .val (.long v27), .second, .val (.long v31), .second] [])) _
          refine XS.lload X30'.here hx rfl (hb hby at_190) rfl ?_
          show Steps p.tables e below (T30.setTop (mkF m 192 #[.val (.long q0), .second, .val (.long q1), .second, .val (.int p2), .val (.long (9223372036854775807 : Int64)), .second, .val (.long (9223372036854775806 : Int64)), .second, .val (.int v1), .val (.int v3), .val (.long v13), .second, .val (.long v27), .second, .val (.long v31), .second] [(.long v31)])) _
          refine XS.lconst X30'.here hx rfl (hb hby at_192) ?_
          show Steps p.tables e below (T30.setTop (mkF m 193 #[.val (.long q0), .second, .val (.long q1), .second, .val (.int p2), .val (.long (9223372036854775807 : Int64)), .second, .val (.long (9223372036854775806 : Int64)), .second, .val (.int v1), .val (.int v3), .val (.long v13), .second, .val (.long v27), .second, .val (.long v31), .second] [(.long (0 : Int64)), (.long v31)])) _
          refine XS.lcmp X30'.here hx rfl (hb hby at_193) rfl ?_
          exact k
        refine own_End.go (fun t k => st50 _ k) ?_
        by_cases hc194_51 : v31 < (0 : Int64)
        · have st52 : ∀ t, Steps p.tables e below (T30.setTop (mkF m 206 #[.val (.long q0), .second, .val (.long q1), .second, .val (.int p2), .val (.long (9223372036854775807 : Int64)), .second, .val (.long (9223372036854775806 : Int64)), .second, .val (.int v1), .val (.int v3), .val (.long v13), .second, .val (.long v27), .second, .val (.long v31), .second] [(.int (0 : Int32))])) t → Steps p.tables e below (T30.setTop (mkF m 194 #[.val (.long q0), .second, .val (.long q1), .second, .val (.int p2), .val (.long (9223372036854775807 : Int64)), .second, .val (.long (9223372036854775806 : Int64)), .second, .val (.int v1), .val (.int v3), .val (.long v13), .second, .val (.long v27), .second, .val (.long v31), .second] [(.int (lcmpW v31 (0 : Int64)))])) t := by
            intro t k
            show Steps p.tables e below (T30.setTop (mkF m 194 #[.val (.long q0), .second, .val (.long q1), .second, .val (.int p2), .val (.long (9223372036854775807 : Int64)), .second, .val (.long (9223372036854775806 : Int64)), .second, .val (.int v1), .val (.int v3), .val (.long v13), .second, .val (.long v27), .second, .val (.long v31), .second] [(.int (lcmpW v31 (0 : Int64)))])) _
            refine XS.ifYes X30'.here hx rfl (pc0 := 194) (pc' := 205) rfl (hb hby at_194) rfl ((if0 _ _).trans (tlt ((lw_lt v31 (0 : Int64)).mpr hc194_51)).1) (by decide) (by decide) ?_
            show Steps p.tables e below (T30.setTop (mkF m 205 #[.val (.long q0), .second, .val (.long q1), .second, .val (.int p2), .val (.long (9223372036854775807 : Int64)), .second, .val (.long (9223372036854775806 : Int64)), .second, .val (.int v1), .val (.int v3), .val (.long v13), .second, .val (.long v27), .second, .val (.long v31), .second] [])) _
            refine XS.iconst X30'.here hx rfl (hb hby at_205) ?_
            exact k
          refine own_End.go (fun t k => st52 _ k) ?_
          exact own_leafN X30' hx Bd.notSynchronized (t := .boolean) Bd.returns (by simp) (hb hby at_206) ⟨congrArg (fun z => some (Value.int z)) (by
              subst hv1 hv3 hv13 hv27 hv31; simp only [own_F0, own_nb0, own_nb1, if_neg hc125_33, if_neg hc146_39, if_neg hc168_45, if_pos hc194_51]), Fr.nil n0⟩ (by decide) (by decide)
        · have st53 : ∀ t, Steps p.tables e below (T30.setTop (mkF m 202 #[.val (.long q0), .second, .val (.long q1), .second, .val (.int p2), .val (.long (9223372036854775807 : Int64)), .second, .val (.long (9223372036854775806 : Int64)), .second, .val (.int v1), .val (.int v3), .val (.long v13), .second, .val (.long v27), .second, .val (.long v31), .second] [(.int (lcmpW v31 (9223372036854775806 : Int64)))])) t → Steps p.tables e below (T30.setTop (mkF m 194 #[.val (.long q0), .second, .val (.long q1), .second, .val (.int p2), .val (.long (9223372036854775807 : Int64)), .second, .val (.long (9223372036854775806 : Int64)), .second, .val (.int v1), .val (.int v3), .val (.long v13), .second, .val (.long v27), .second, .val (.long v31), .second] [(.int (lcmpW v31 (0 : Int64)))])) t := by
            intro t k
            show Steps p.tables e below (T30.setTop (mkF m 194 #[.val (.long q0), .second, .val (.long q1), .second, .val (.int p2), .val (.long (9223372036854775807 : Int64)), .second, .val (.long (9223372036854775806 : Int64)), .second, .val (.int v1), .val (.int v3), .val (.long v13), .second, .val (.long v27), .second, .val (.long v31), .second] [(.int (lcmpW v31 (0 : Int64)))])) _
            refine XS.ifNo X30'.here hx rfl (hb hby at_194) rfl ((if0 _ _).trans (flt (mt (lw_lt v31 (0 : Int64)).mp hc194_51)).1) ?_
            show Steps p.tables e below (T30.setTop (mkF m 197 #[.val (.long q0), .second, .val (.long q1), .second, .val (.int p2), .val (.long (9223372036854775807 : Int64)), .second, .val (.long (9223372036854775806 : Int64)), .second, .val (.int v1), .val (.int v3), .val (.long v13), .second, .val (.long v27), .second, .val (.long v31), .second] [])) _
            refine XS.lload X30'.here hx rfl (hb hby at_197) rfl ?_
            show Steps p.tables e below (T30.setTop (mkF m 199 #[.val (.long q0), .second, .val (.long q1), .second, .val (.int p2), .val (.long (9223372036854775807 : Int64)), .second, .val (.long (9223372036854775806 : Int64)), .second, .val (.int v1), .val (.int v3), .val (.long v13), .second, .val (.long v27), .second, .val (.long v31), .second] [(.long v31)])) _
            refine XS.lload X30'.here hx rfl (hb hby at_199) rfl ?_
            show Steps p.tables e below (T30.setTop (mkF m 201 #[.val (.long q0), .second, .val (.long q1), .second, .val (.int p2), .val (.long (9223372036854775807 : Int64)), .second, .val (.long (9223372036854775806 : Int64)), .second, .val (.int v1), .val (.int v3), .val (.long v13), .second, .val (.long v27), .second, .val (.long v31), .second] [(.long (9223372036854775806 : Int64)), (.long v31)])) _
            refine XS.lcmp X30'.here hx rfl (hb hby at_201) rfl ?_
            exact k
          refine own_End.go (fun t k => st53 _ k) ?_
          by_cases hc202_54 : (9223372036854775806 : Int64) < v31
          · have st55 : ∀ t, Steps p.tables e below (T30.setTop (mkF m 206 #[.val (.long q0), .second, .val (.long q1), .second, .val (.int p2), .val (.long (9223372036854775807 : Int64)), .second, .val (.long (9223372036854775806 : Int64)), .second, .val (.int v1), .val (.int v3), .val (.long v13), .second, .val (.long v27), .second, .val (.long v31), .second] [(.int (0 : Int32))])) t → Steps p.tables e below (T30.setTop (mkF m 202 #[.val (.long q0), .second, .val (.long q1), .second, .val (.int p2), .val (.long (9223372036854775807 : Int64)), .second, .val (.long (9223372036854775806 : Int64)), .second, .val (.int v1), .val (.int v3), .val (.long v13), .second, .val (.long v27), .second, .val (.long v31), .second] [(.int (lcmpW v31 (9223372036854775806 : Int64)))])) t := by
              intro t k
              show Steps p.tables e below (T30.setTop (mkF m 202 #[.val (.long q0), .second, .val (.long q1), .second, .val (.int p2), .val (.long (9223372036854775807 : Int64)), .second, .val (.long (9223372036854775806 : Int64)), .second, .val (.int v1), .val (.int v3), .val (.long v13), .second, .val (.long v27), .second, .val (.long v31), .second] [(.int (lcmpW v31 (9223372036854775806 : Int64)))])) _
              refine XS.ifNo X30'.here hx rfl (hb hby at_202) rfl ((if0 _ _).trans (tlt ((lw_gt v31 (9223372036854775806 : Int64)).mpr hc202_54)).2.2.2) ?_
              show Steps p.tables e below (T30.setTop (mkF m 205 #[.val (.long q0), .second, .val (.long q1), .second, .val (.int p2), .val (.long (9223372036854775807 : Int64)), .second, .val (.long (9223372036854775806 : Int64)), .second, .val (.int v1), .val (.int v3), .val (.long v13), .second, .val (.long v27), .second, .val (.long v31), .second] [])) _
              refine XS.iconst X30'.here hx rfl (hb hby at_205) ?_
              exact k
            refine own_End.go (fun t k => st55 _ k) ?_
            exact own_leafN X30' hx Bd.notSynchronized (t := .boolean) Bd.returns (by simp) (hb hby at_206) ⟨congrArg (fun z => some (Value.int z)) (by
                subst hv1 hv3 hv13 hv27 hv31; simp only [own_F0, own_nb0, own_nb1, if_neg hc125_33, if_neg hc146_39, if_neg hc168_45, if_neg hc194_51, if_pos hc202_54]), Fr.nil n0⟩ (by decide) (by decide)
          · have st56 : ∀ t, Steps p.tables e below (T30.setTop (mkF m 214 #[.val (.long q0), .second, .val (.long q1), .second, .val (.int p2), .val (.long (9223372036854775807 : Int64)), .second, .val (.long (9223372036854775806 : Int64)), .second, .val (.int v1), .val (.int v3), .val (.long v13), .second, .val (.long v27), .second, .val (.long v31), .second] [(.int (lcmpW (v31 - (v31 / v13) * v13) (0 : Int64)))])) t → Steps p.tables e below (T30.setTop (mkF m 202 #[.val (.long q0), .second, .val (.long q1), .second, .val (.int p2), .val (.long (9223372036854775807 : Int64)), .second, .val (.long (9223372036854775806 : Int64)), .second, .val (.int v1), .val (.int v3), .val (.long v13), .second, .val (.long v27), .second, .val (.long v31), .second] [(.int (lcmpW v31 (9223372036854775806 : Int64)))])) t := by
              intro t k
              show Steps p.tables e below (T30.setTop (mkF m 202 #[.val (.long q0), .second, .val (.long q1), .second, .val (.int p2), .val (.long (9223372036854775807 : Int64)), .second, .val (.long (9223372036854775806 : Int64)), .second, .val (.int v1), .val (.int v3), .val (.long v13), .second, .val (.long v27), .second, .val (.long v31), .second] [(.int (lcmpW v31 (9223372036854775806 : Int64)))])) _
              refine XS.ifYes X30'.here hx rfl (pc0 := 202) (pc' := 207) rfl (hb hby at_202) rfl ((if0 _ _).trans (flt (mt (lw_gt v31 (9223372036854775806 : Int64)).mp hc202_54)).2.2.2) (by decide) (by decide) ?_
              show Steps p.tables e below (T30.setTop (mkF m 207 #[.val (.long q0), .second, .val (.long q1), .second, .val (.int p2), .val (.long (9223372036854775807 : Int64)), .second, .val (.long (9223372036854775806 : Int64)), .second, .val (.int v1), .val (.int v3), .val (.long v13), .second, .val (.long v27), .second, .val (.long v31), .second] [])) _
              refine XS.lload X30'.here hx rfl (hb hby at_207) rfl ?_
              show Steps p.tables e below (T30.setTop (mkF m 209 #[.val (.long q0), .second, .val (.long q1), .second, .val (.int p2), .val (.long (9223372036854775807 : Int64)), .second, .val (.long (9223372036854775806 : Int64)), .second, .val (.int v1), .val (.int v3), .val (.long v13), .second, .val (.long v27), .second, .val (.long v31), .second] [(.long v31)])) _
              refine XS.lload X30'.here hx rfl (hb hby at_209) rfl ?_
              show Steps p.tables e below (T30.setTop (mkF m 211 #[.val (.long q0), .second, .val (.long q1), .second, .val (.int p2), .val (.long (9223372036854775807 : Int64)), .second, .val (.long (9223372036854775806 : Int64)), .second, .val (.int v1), .val (.int v3), .val (.long v13), .second, .val (.long v27), .second, .val (.long v31), .second] [(.long v13), (.long v31)])) _
              refine XS.lrem X30'.here hx rfl (hb hby at_211) rfl (by assumption) ?_
              show Steps p.tables e below (T30.setTop (mkF m 212 #[.val (.long q0), .second, .val (.long q1), .second, .val (.int p2), .val (.long (9223372036854775807 : Int64)), .second, .val (.long (9223372036854775806 : Int64)), .second, .val (.int v1), .val (.int v3), .val (.long v13), .second, .val (.long v27), .second, .val (.long v31), .second] [(.long (v31 - (v31 / v13) * v13))])) _
              refine XS.lconst X30'.here hx rfl (hb hby at_212) ?_
              show Steps p.tables e below (T30.setTop (mkF m 213 #[.val (.long q0), .second, .val (.long q1), .second, .val (.int p2), .val (.long (9223372036854775807 : Int64)), .second, .val (.long (9223372036854775806 : Int64)), .second, .val (.int v1), .val (.int v3), .val (.long v13), .second, .val (.long v27), .second, .val (.long v31), .second] [(.long (0 : Int64)), (.long (v31 - (v31 / v13) * v13))])) _
              refine XS.lcmp X30'.here hx rfl (hb hby at_213) rfl ?_
              exact k
            refine own_End.go (fun t k => st56 _ k) ?_
            by_cases hc214_57 : (v31 - (v31 / v13) * v13) = (0 : Int64)
            · have st58 : ∀ t, Steps p.tables e below (T30.setTop (mkF m 225 #[.val (.long q0), .second, .val (.long q1), .second, .val (.int p2), .val (.long (9223372036854775807 : Int64)), .second, .val (.long (9223372036854775806 : Int64)), .second, .val (.int v1), .val (.int v3), .val (.long v13), .second, .val (.long v27), .second, .val (.long v31), .second] [(.int (lcmpW (v31 / v13) v27))])) t → Steps p.tables e below (T30.setTop (mkF m 214 #[.val (.long q0), .second, .val (.long q1), .second, .val (.int p2), .val (.long (9223372036854775807 : Int64)), .second, .val (.long (9223372036854775806 : Int64)), .second, .val (.int v1), .val (.int v3), .val (.long v13), .second, .val (.long v27), .second, .val (.long v31), .second] [(.int (lcmpW (v31 - (v31 / v13) * v13) (0 : Int64)))])) t := by
                intro t k
                show Steps p.tables e below (T30.setTop (mkF m 214 #[.val (.long q0), .second, .val (.long q1), .second, .val (.int p2), .val (.long (9223372036854775807 : Int64)), .second, .val (.long (9223372036854775806 : Int64)), .second, .val (.int v1), .val (.int v3), .val (.long v13), .second, .val (.long v27), .second, .val (.long v31), .second] [(.int (lcmpW (v31 - (v31 / v13) * v13) (0 : Int64)))])) _
                refine XS.ifNo X30'.here hx rfl (hb hby at_214) rfl ((if0 _ _).trans (teq ((lw_eq (v31 - (v31 / v13) * v13) (0 : Int64)).mpr hc214_57)).2) ?_
                show Steps p.tables e below (T30.setTop (mkF m 217 #[.val (.long q0), .second, .val (.long q1), .second, .val (.int p2), .val (.long (9223372036854775807 : Int64)), .second, .val (.long (9223372036854775806 : Int64)), .second, .val (.int v1), .val (.int v3), .val (.long v13), .second, .val (.long v27), .second, .val (.long v31), .second] [])) _
                refine XS.lload X30'.here hx rfl (hb hby at_217) rfl ?_
                show Steps p.tables e below (T30.setTop (mkF m 219 #[.val (.long q0), .second, .val (.long q1), .second, .val (.int p2), .val (.long (9223372036854775807 : Int64)), .second, .val (.long (9223372036854775806 : Int64)), .second, .val (.int v1), .val (.int v3), .val (.long v13), .second, .val (.long v27), .second, .val (.long v31), .second] [(.long v31)])) _
                refine XS.lload X30'.here hx rfl (hb hby at_219) rfl ?_
                show Steps p.tables e below (T30.setTop (mkF m 221 #[.val (.long q0), .second, .val (.long q1), .second, .val (.int p2), .val (.long (9223372036854775807 : Int64)), .second, .val (.long (9223372036854775806 : Int64)), .second, .val (.int v1), .val (.int v3), .val (.long v13), .second, .val (.long v27), .second, .val (.long v31), .second] [(.long v13), (.long v31)])) _
                refine XS.ldiv X30'.here hx rfl (hb hby at_221) rfl (by assumption) ?_
                show Steps p.tables e below (T30.setTop (mkF m 222 #[.val (.long q0), .second, .val (.long q1), .second, .val (.int p2), .val (.long (9223372036854775807 : Int64)), .second, .val (.long (9223372036854775806 : Int64)), .second, .val (.int v1), .val (.int v3), .val (.long v13), .second, .val (.long v27), .second, .val (.long v31), .second] [(.long (v31 / v13))])) _
                refine XS.lload X30'.here hx rfl (hb hby at_222) rfl ?_
                show Steps p.tables e below (T30.setTop (mkF m 224 #[.val (.long q0), .second, .val (.long q1), .second, .val (.int p2), .val (.long (9223372036854775807 : Int64)), .second, .val (.long (9223372036854775806 : Int64)), .second, .val (.int v1), .val (.int v3), .val (.long v13), .second, .val (.long v27), .second, .val (.long v31), .second] [(.long v27), (.long (v31 / v13))])) _
                refine XS.lcmp X30'.here hx rfl (hb hby at_224) rfl ?_
                exact k
              refine own_End.go (fun t k => st58 _ k) ?_
              by_cases hc225_59 : (v31 / v13) = v27
              · have st60 : ∀ t, Steps p.tables e below (T30.setTop (mkF m 233 #[.val (.long q0), .second, .val (.long q1), .second, .val (.int p2), .val (.long (9223372036854775807 : Int64)), .second, .val (.long (9223372036854775806 : Int64)), .second, .val (.int v1), .val (.int v3), .val (.long v13), .second, .val (.long v27), .second, .val (.long v31), .second] [(.int (1 : Int32))])) t → Steps p.tables e below (T30.setTop (mkF m 225 #[.val (.long q0), .second, .val (.long q1), .second, .val (.int p2), .val (.long (9223372036854775807 : Int64)), .second, .val (.long (9223372036854775806 : Int64)), .second, .val (.int v1), .val (.int v3), .val (.long v13), .second, .val (.long v27), .second, .val (.long v31), .second] [(.int (lcmpW (v31 / v13) v27))])) t := by
                  intro t k
                  show Steps p.tables e below (T30.setTop (mkF m 225 #[.val (.long q0), .second, .val (.long q1), .second, .val (.int p2), .val (.long (9223372036854775807 : Int64)), .second, .val (.long (9223372036854775806 : Int64)), .second, .val (.int v1), .val (.int v3), .val (.long v13), .second, .val (.long v27), .second, .val (.long v31), .second] [(.int (lcmpW (v31 / v13) v27))])) _
                  refine XS.ifNo X30'.here hx rfl (hb hby at_225) rfl ((if0 _ _).trans (teq ((lw_eq (v31 / v13) v27).mpr hc225_59)).2) ?_
                  show Steps p.tables e below (T30.setTop (mkF m 228 #[.val (.long q0), .second, .val (.long q1), .second, .val (.int p2), .val (.long (9223372036854775807 : Int64)), .second, .val (.long (9223372036854775806 : Int64)), .second, .val (.int v1), .val (.int v3), .val (.long v13), .second, .val (.long v27), .second, .val (.long v31), .second] [])) _
                  refine XS.iconst X30'.here hx rfl (hb hby at_228) ?_
                  show Steps p.tables e below (T30.setTop (mkF m 229 #[.val (.long q0), .second, .val (.long q1), .second, .val (.int p2), .val (.long (9223372036854775807 : Int64)), .second, .val (.long (9223372036854775806 : Int64)), .second, .val (.int v1), .val (.int v3), .val (.long v13), .second, .val (.long v27), .second, .val (.long v31), .second] [(.int (1 : Int32))])) _
                  refine XS.goto X30'.here hx rfl (pc0 := 229) (pc' := 233) rfl (hb hby at_229) (by decide) (by decide) ?_
                  exact k
                refine own_End.go (fun t k => st60 _ k) ?_
                exact own_leafN X30' hx Bd.notSynchronized (t := .boolean) Bd.returns (by simp) (hb hby at_233) ⟨congrArg (fun z => some (Value.int z)) (by
                    subst hv1 hv3 hv13 hv27 hv31; simp only [own_F0, own_nb0, own_nb1, if_neg hc125_33, if_neg hc146_39, if_neg hc168_45, if_neg hc194_51, if_neg hc202_54, if_pos hc214_57, if_pos hc225_59]), Fr.nil n0⟩ (by decide) (by decide)
              · have st61 : ∀ t, Steps p.tables e below (T30.setTop (mkF m 233 #[.val (.long q0), .second, .val (.long q1), .second, .val (.int p2), .val (.long (9223372036854775807 : Int64)), .second, .val (.long (9223372036854775806 : Int64)), .second, .val (.int v1), .val (.int v3), .val (.long v13), .second, .val (.long v27), .second, .val (.long v31), .second] [(.int (0 : Int32))])) t → Steps p.tables e below (T30.setTop (mkF m 225 #[.val (.long q0), .second, .val (.long q1), .second, .val (.int p2), .val (.long (9223372036854775807 : Int64)), .second, .val (.long (9223372036854775806 : Int64)), .second, .val (.int v1), .val (.int v3), .val (.long v13), .second, .val (.long v27), .second, .val (.long v31), .second] [(.int (lcmpW (v31 / v13) v27))])) t := by
                  intro t k
                  show Steps p.tables e below (T30.setTop (mkF m 225 #[.val (.long q0), .second, .val (.long q1), .second, .val (.int p2), .val (.long (9223372036854775807 : Int64)), .second, .val (.long (9223372036854775806 : Int64)), .second, .val (.int v1), .val (.int v3), .val (.long v13), .second, .val (.long v27), .second, .val (.long v31), .second] [(.int (lcmpW (v31 / v13) v27))])) _
                  refine XS.ifYes X30'.here hx rfl (pc0 := 225) (pc' := 232) rfl (hb hby at_225) rfl ((if0 _ _).trans (feq (mt (lw_eq (v31 / v13) v27).mp hc225_59)).2) (by decide) (by decide) ?_
                  show Steps p.tables e below (T30.setTop (mkF m 232 #[.val (.long q0), .second, .val (.long q1), .second, .val (.int p2), .val (.long (9223372036854775807 : Int64)), .second, .val (.long (9223372036854775806 : Int64)), .second, .val (.int v1), .val (.int v3), .val (.long v13), .second, .val (.long v27), .second, .val (.long v31), .second] [])) _
                  refine XS.iconst X30'.here hx rfl (hb hby at_232) ?_
                  exact k
                refine own_End.go (fun t k => st61 _ k) ?_
                exact own_leafN X30' hx Bd.notSynchronized (t := .boolean) Bd.returns (by simp) (hb hby at_233) ⟨congrArg (fun z => some (Value.int z)) (by
                    subst hv1 hv3 hv13 hv27 hv31; simp only [own_F0, own_nb0, own_nb1, if_neg hc125_33, if_neg hc146_39, if_neg hc168_45, if_neg hc194_51, if_neg hc202_54, if_pos hc214_57, if_neg hc225_59]), Fr.nil n0⟩ (by decide) (by decide)
            · have st62 : ∀ t, Steps p.tables e below (T30.setTop (mkF m 233 #[.val (.long q0), .second, .val (.long q1), .second, .val (.int p2), .val (.long (9223372036854775807 : Int64)), .second, .val (.long (9223372036854775806 : Int64)), .second, .val (.int v1), .val (.int v3), .val (.long v13), .second, .val (.long v27), .second, .val (.long v31), .second] [(.int (0 : Int32))])) t → Steps p.tables e below (T30.setTop (mkF m 214 #[.val (.long q0), .second, .val (.long q1), .second, .val (.int p2), .val (.long (9223372036854775807 : Int64)), .second, .val (.long (9223372036854775806 : Int64)), .second, .val (.int v1), .val (.int v3), .val (.long v13), .second, .val (.long v27), .second, .val (.long v31), .second] [(.int (lcmpW (v31 - (v31 / v13) * v13) (0 : Int64)))])) t := by
                intro t k
                show Steps p.tables e below (T30.setTop (mkF m 214 #[.val (.long q0), .second, .val (.long q1), .second, .val (.int p2), .val (.long (9223372036854775807 : Int64)), .second, .val (.long (9223372036854775806 : Int64)), .second, .val (.int v1), .val (.int v3), .val (.long v13), .second, .val (.long v27), .second, .val (.long v31), .second] [(.int (lcmpW (v31 - (v31 / v13) * v13) (0 : Int64)))])) _
                refine XS.ifYes X30'.here hx rfl (pc0 := 214) (pc' := 232) rfl (hb hby at_214) rfl ((if0 _ _).trans (feq (mt (lw_eq (v31 - (v31 / v13) * v13) (0 : Int64)).mp hc214_57)).2) (by decide) (by decide) ?_
                show Steps p.tables e below (T30.setTop (mkF m 232 #[.val (.long q0), .second, .val (.long q1), .second, .val (.int p2), .val (.long (9223372036854775807 : Int64)), .second, .val (.long (9223372036854775806 : Int64)), .second, .val (.int v1), .val (.int v3), .val (.long v13), .second, .val (.long v27), .second, .val (.long v31), .second] [])) _
                refine XS.iconst X30'.here hx rfl (hb hby at_232) ?_
                exact k
              refine own_End.go (fun t k => st62 _ k) ?_
              exact own_leafN X30' hx Bd.notSynchronized (t := .boolean) Bd.returns (by simp) (hb hby at_233) ⟨congrArg (fun z => some (Value.int z)) (by
                  subst hv1 hv3 hv13 hv27 hv31; simp only [own_F0, own_nb0, own_nb1, if_neg hc125_33, if_neg hc146_39, if_neg hc168_45, if_neg hc194_51, if_neg hc202_54, if_neg hc214_57]), Fr.nil n0⟩ (by decide) (by decide)
theorem own_div_lt {c s k : Int} (hc : 0 < c) (h : k < s * c) : k / c < s := by
  exact Int.ediv_lt_of_lt_mul hc h
theorem own_core (c s : Int64) (hc : 0 ≤ c.toInt) (hs : 0 ≤ s.toInt) :
    (if c = (0 : Int64) then
      if (own_F1 c s) = (0 : Int64) then (1 : Int32) else (0 : Int32)
    else
    if s = (9223372036854775807 : Int64) then
      if (own_F1 c s) = (9223372036854775807 : Int64) then (1 : Int32) else (0 : Int32)
    else
      if (own_F1 c s) = (9223372036854775806 : Int64) then
        if (((9223372036854775806 : Int64) - (1 : Int64)) / c) < s then (1 : Int32) else (0 : Int32)
      else
        if (own_F1 c s) < (0 : Int64) then (0 : Int32)
        else
          if (9223372036854775806 : Int64) < (own_F1 c s) then (0 : Int32)
          else
            if ((own_F1 c s) - ((own_F1 c s) / c) * c) = (0 : Int64) then
              if ((own_F1 c s) / c) = s then (1 : Int32) else (0 : Int32)
            else (0 : Int32)) = 1 := by
  have y0 : (0 : Int64).toInt = 0 := by decide
  have y1 : (9223372036854775806 : Int64).toInt = 9223372036854775806 := by decide
  have y2 : (9223372036854775807 : Int64).toInt = 9223372036854775807 := by decide
  have y3 : ((9223372036854775806 : Int64) - (1 : Int64)).toInt = 9223372036854775805 := by decide
  have rc := rng64 c
  have rs := rng64 s
  by_cases c0 : c = 0
  · subst c0
    simp [own_F1]
  · rw [if_neg c0]
    have c0' : ¬ c.toInt = 0 := fun q => c0 (Int64.toInt_inj.mp (by rw [q, y0]))
    by_cases sU : s = 9223372036854775807
    · subst sU
      simp [own_F1, c0]
    · rw [if_neg sU]
      have sU' : ¬ s.toInt = 9223372036854775807 := fun q => sU (Int64.toInt_inj.mp (by rw [q, y2]))
      have e3 : ((((9223372036854775806 : Int64) - (1 : Int64)) / c)).toInt = 9223372036854775805 / c.toInt := by
        have := (c_ldiv ((9223372036854775806 : Int64) - (1 : Int64)) c c.toInt rfl (fun q => by rw [q] at hc; revert hc; decide)).1 (by rw [y3]; decide)
        rw [this, y3]
      have hcp : 0 < c.toInt := by omega
      -- what the product is where it fits
      have fit : c.toInt * s.toInt ≤ 9223372036854775806 → (c * s).toInt = c.toInt * s.toInt := fun h => by
        have m := c_lmul c s
        have r := rng64 (c * s)
        have nn : 0 ≤ c.toInt * s.toInt := Int.mul_nonneg hc hs
        generalize c.toInt * s.toInt = P at *
        omega
      -- the law where the answer is the product
      have low : c.toInt * s.toInt ≤ 9223372036854775806 → own_F1 c s = c * s →
          (if (own_F1 c s) = (9223372036854775806 : Int64) then
            if (((9223372036854775806 : Int64) - (1 : Int64)) / c) < s then (1 : Int32) else (0 : Int32)
          else
            if (own_F1 c s) < (0 : Int64) then (0 : Int32)
            else
              if (9223372036854775806 : Int64) < (own_F1 c s) then (0 : Int32)
              else
                if ((own_F1 c s) - ((own_F1 c s) / c) * c) = (0 : Int64) then
                  if ((own_F1 c s) / c) = s then (1 : Int32) else (0 : Int32)
                else (0 : Int32)) = 1 := fun h e => by
        have ev := fit h
        have nn : 0 ≤ c.toInt * s.toInt := Int.mul_nonneg hc hs
        rw [e]
        by_cases q : c * s = 9223372036854775806
        · rw [if_pos q]
          have q' : c.toInt * s.toInt = 9223372036854775806 := by rw [← ev, q, y1]
          have : (((9223372036854775806 : Int64) - (1 : Int64)) / c) < s := by
            rw [Int64.lt_iff_toInt_lt, e3]
            exact own_div_lt hcp (by rw [Int.mul_comm, q']; decide)
          rw [if_pos this]
        · rw [if_neg q]
          have n1 : ¬ c * s < 0 := by rw [Int64.lt_iff_toInt_lt, ev, y0]; omega
          have n2 : ¬ (9223372036854775806 : Int64) < c * s := by rw [Int64.lt_iff_toInt_lt, ev, y1]; omega
          have d1 : ((c * s) / c).toInt = s.toInt := by
            have := (c_ldiv (c * s) c c.toInt rfl (fun q => by rw [q] at hc; revert hc; decide)).1 (by rw [ev]; exact nn)
            rw [this, ev]
            exact Int.mul_ediv_cancel_left _ c0'
          have d2 : ((c * s) - ((c * s) / c) * c).toInt = 0 := by
            have := (c_lrem (c * s) c c.toInt rfl).1 (by rw [ev]; exact nn)
            rw [this, ev]
            exact Int.mul_emod_right _ _
          rw [if_neg n1, if_neg n2, if_pos (Int64.toInt_inj.mp (by rw [d2, y0])), if_pos (Int64.toInt_inj.mp d1)]
      by_cases s0 : s = 0
      · refine low ?_ ?_
        · rw [s0, y0]; simp
        · simp [own_F1, c0, s0]
      · have s0' : ¬ s.toInt = 0 := fun q => s0 (Int64.toInt_inj.mp (by rw [q, y0]))
        have hsp : 0 < s.toInt := by omega
        have e4 : (((9223372036854775806 : Int64)) / s).toInt = 9223372036854775806 / s.toInt := by
          have := (c_ldiv ((9223372036854775806 : Int64)) s s.toInt rfl (fun q => by rw [q] at hs; revert hs; decide)).1 (by rw [y1]; decide)
          rw [this, y1]
        by_cases big : (9223372036854775806 : Int64) / s < c
        · have e : own_F1 c s = 9223372036854775806 := by
            unfold own_F1
            simp only [if_neg c0, if_neg sU, if_neg s0, if_pos big]
          rw [e, if_pos rfl]
          rw [Int64.lt_iff_toInt_lt, e4] at big
          have big' : 9223372036854775806 < c.toInt * s.toInt := Int.lt_mul_of_ediv_lt hsp big
          have : (((9223372036854775806 : Int64) - (1 : Int64)) / c) < s := by
            rw [Int64.lt_iff_toInt_lt, e3]
            refine own_div_lt hcp ?_
            rw [Int.mul_comm]
            omega
          rw [if_pos this]
        · have e : own_F1 c s = c * s := by
            unfold own_F1
            simp only [if_neg c0, if_neg sU, if_neg s0, if_neg big]
          rw [Int64.lt_iff_toInt_lt, e4] at big
          have big' : c.toInt * s.toInt ≤ 9223372036854775806 := by
            have := Int.mul_le_of_le_ediv hsp (Int.not_lt.mp big)
            exact this
          exact low big' e
theorem own_mk (q m : Int64) (k : Nat) (hk : k ≤ 63) (hm : m.toBitVec.toNat = 2 ^ k - 1) : 0 ≤ (q &&& m).toInt := by
  rw [c_maskL q m k hk hm]
  exact Int.emod_nonneg _ (by have : 0 < 2 ^ k := Nat.two_pow_pos k; omega)
theorem own_near (q : Int64) : 0 ≤ ((9223372036854775806 : Int64) - (q &&& (255 : Int64))).toInt := by
  have n2 : (q &&& (255 : Int64)).toInt = q.toInt % (2 ^ 8 : Nat) := c_maskL q 255 8 (by decide) (by decide)
  have s1 := c_lsub 9223372036854775806 (q &&& (255 : Int64))
  have r1 := rng64 (9223372036854775806 - (q &&& (255 : Int64)))
  have y1 : (9223372036854775806 : Int64).toInt = 9223372036854775806 := by decide
  omega
theorem own_plain (q0 q1 : Int64) (p2 : Int32) : own_F0 q0 q1 p2 = 1 := by
  unfold own_F0
  simp only []
  refine own_core _ _ ?_ ?_
  · split
    · decide
    · split
      · exact own_mk _ _ 32 (by decide) (by decide)
      · exact own_mk _ _ 63 (by decide) (by decide)
  · split
    · decide
    · split
      · exact own_mk _ _ 32 (by decide) (by decide)
      · split
        · exact own_near _
        · exact own_mk _ _ 63 (by decide) (by decide)

set_option maxRecDepth 65536 in
set_option maxHeartbeats 40000000 in
theorem comes_1 {Post : Tables → Env → Array Value → State → Outcome → State → Prop} (hpost : ∀ tb e args s v u, (limb_1_1.after args s (.returned v) u = true ∧ limb_1_2.after args s (.returned v) u = true ∧ True) → FrameEnd s (.returned v) u (Jvm.fieldLocs frame_1_writes args s ++ Jvm.arrayLocs frame_1_arrays args s ++ Jvm.staticLocs frame_1_statics s) 0 0 → Post tb e args s (.returned v) u) :
    ArmFor flags0 classFile x code maxLocals ret World_1 tables_1 room_1 Calls_1 rest_1 Pre_1 Post := by
  intro l hfl _ _ p e ha hc hk s m args below hf hA hF happ hP
  obtain ⟨hcalls, hrest, hpre⟩ := hP
  obtain ⟨-, -, -, hnamed, -, -, -, hat⟩ := (Spec.applies_iff hf).mp happ
  obtain ⟨hg, hn⟩ := and_e (Cond.before_iff.mp (show (Jvm.Cond.and given_1 narrow_1).before args s = true from hpre))
  obtain ⟨g1, g2⟩ := and_e hg
  obtain ⟨ga0, gb0⟩ := and_e g2
  obtain ⟨ga1, gb1⟩ := and_e gb0
  obtain ⟨w0, w1, w2, rfl⟩ : ∃ w0 w1 w2 : Value, args = #[w0, w1, w2] := by
    have hs : args.size = 3 := by simpa [Cond.value, given_1] using g1
    obtain ⟨L⟩ := args
    match L, hs with
    | [w0, w1, w2], _ => exact ⟨w0, w1, w2, rfl⟩
  have hw := fun d (hd : d ∈ tables_1) => atoms_spec (ws := Jvm.Cond.code x code maxLocals ret :: tables_1) hat d (List.mem_cons_of_mem _ hd)
  obtain ⟨i0, ei0⟩ := isL_v ga0
  obtain rfl : w0 = (.long i0) := Option.some.inj ei0
  obtain ⟨i1, ei1⟩ := isL_v ga1
  obtain rfl : w1 = (.long i1) := Option.some.inj ei1
  obtain ⟨i2, ei2⟩ := is_v gb1
  obtain rfl : w2 = (.int i2) := Option.some.inj ei2
  obtain ⟨n, o, h1, h2, h3, _, L, rfl, ⟨hv, N⟩, hq⟩ := own_rm0 l s _ hw tables_1 i0 i1 i2 s.heap s.heap.size (Nat.le_refl _) p e ha hc hk s m _ below hf ((Spec.applies_iff_loose hf).mp happ).1 ⟨rfl, State.Warmed39.refl s, rfl⟩ trivial
  rw [own_plain i0 i1 i2] at hv
  subst hv
  refine ⟨n, _, h1, h2, h3, hpost _ _ _ _ _ _ ⟨Cond.after_iff.mpr rfl, Cond.after_iff.mpr (eq_i res_at (Term.int_eval (1)) rfl), trivial⟩ ⟨hq.1, hq.2.1, (hq.2.2.sift fun y hy => Or.inr (N y hy)).mono (by decide) (by decide)⟩⟩
theorem main_1_1 : Claimed_1_1 := comes_1 fun _ _ _ _ _ _ h hF => ⟨h.1, hF⟩
theorem main_1_2 : Claimed_1_2 := comes_1 fun _ _ _ _ _ _ h hF => ⟨h.2.1, hF⟩
end Jvm.Pilot.@@N@@
namespace Jvm.Pilot.@@N@@
open Jvm Jvm.ClassFile Sem Op Lib Jvm.Free Jvm.Stand Jvm.Pilot.@@N@@.Jvm.D
/-! MADE BY PROGRAM (witnessworld.py) out of the Statement's table words and the real class files: 9 classes; the members and pool entries that the words name. The judged class is class 1, her method 1. -/
namespace start1
open Jvm.ClassFile
def u (s : String) : CpInfo := .utf8 (stringToUtf16 s)
/-- a pool by its gaps: so many unusable entries, then the entry; so many at the end -/
def gap : Nat → List CpInfo → List CpInfo
  | 0, r => r
  | n + 1, r => .unusable :: gap n r
def poolList (es : List (Nat × CpInfo)) (last : Nat) : List CpInfo := es.foldr (fun e r => gap e.1 (e.2 :: r)) (gap last [])
def pool (es : List (Nat × CpInfo)) (last : Nat) : Array CpInfo := ⟨poolList es last⟩
def fileOf (pool : Array CpInfo) (this : Nat) (attrs : Array Attribute := #[]) (ms : Array MethodInfo := #[]) (fl : Nat := 33) (sup : Nat := 0) (ifs : Array Nat := #[]) (fds : Array FieldInfo := #[]) : ClassFile where
  minorVersion := 0
  majorVersion := 65
  constantPool := pool
  accessFlags := fl
  thisClass := this
  superClass := sup
  interfaces := ifs
  fields := fds
  methods := ms
  attributes := attrs
def plain (name : String) (sup : Option ClassId) : Class where
  name := name
  kind := .ordinary
  loader := none
  accessFlags := 33
  super := sup
  interfaces := #[]
  cf := none
  fields := #[]
  methods := #[]
  instanceTypes := #[]
  staticTypes := #[]
  resolved := #[]
  callSites := []
  init := .initialized
  statics := none
  mirror := none

def pool0 : Array CpInfo := pool [(5, u "<init>"), (0, u "()V"), (1, .class_ 10), (1, u "java/lang/Object")] 113

def k0m0 : Method := { name := "<init>", desc := "()V", sig := { parameters := [], returnType := none }, accessFlags := 1, code := none }
/-- java/lang/Object -/
def k0 : Class := { plain "java/lang/Object" none with
  accessFlags := 33
  interfaces := #[]
  cf := some (fileOf pool0 8 #[] #[{ accessFlags := 1, nameIndex := 5, descriptorIndex := 6, attributes := #[] }] 33 0 #[] #[])
  fields := #[]
  methods := #[k0m0]
  instanceTypes := #[]
  staticTypes := #[]
  resolved := Array.replicate 124 none
  statics := none }

def pool1 : Array CpInfo := pool [(2, .class_ 4), (1, u "java/lang/Object"), (0, u "<init>"), (0, u "()V"), (0, .class_ 8), (0, u "com/example/wireform/wireform/LeastSize"), (0, .long 9223372036854775807), (1, .long 9223372036854775806), (1, .long 4294967295), (3, .long 255), (1, .methodref 7 20), (0, .nameAndType 21 22), (0, u "times"), (0, u "(JJ)J"), (0, .class_ 24), (0, u "com/example/wireform/wireform/LeastSizeTimesPinLaw"), (2, u "law"), (0, u "(JJI)Z")] 3

def k1m0 : Method := { name := "<init>", desc := "()V", sig := { parameters := [], returnType := none }, accessFlags := 2, code := none }
def k1c1 : Code := { maxStack := 6, maxLocals := 17, code := code, exceptionTable := #[], attributes := #[] }
def k1m1 : Method := { name := "law", desc := "(JJI)Z", sig := { parameters := [.long, .long, .int], returnType := some .boolean }, accessFlags := 9, code := some k1c1 }
/-- com/example/wireform/wireform/LeastSizeTimesPinLaw -/
def k1 : Class := { plain "com/example/wireform/wireform/LeastSizeTimesPinLaw" (some 0) with
  accessFlags := 49
  interfaces := #[]
  cf := some (fileOf pool1 23 #[] #[{ accessFlags := 2, nameIndex := 5, descriptorIndex := 6, attributes := #[] }, { accessFlags := 9, nameIndex := 27, descriptorIndex := 28, attributes := #[] }] 49 2 #[] #[])
  fields := #[]
  methods := #[k1m0, k1m1]
  instanceTypes := #[]
  staticTypes := #[]
  resolved := Array.replicate 32 none
  statics := none }

def pool2 : Array CpInfo := pool [(3, .class_ 4), (0, u "com/example/wireform/wireform/LeastSize"), (1, .class_ 8), (1, u "java/lang/Object"), (0, u "<init>"), (0, u "()V"), (0, .long 9223372036854775807), (1, .long 9223372036854775806), (1, u "UNBOUNDED"), (0, u "J"), (1, u "MOST"), (3, u "(JJ)J"), (1, u "times")] 2

def k2m0 : Method := { name := "<init>", desc := "()V", sig := { parameters := [], returnType := none }, accessFlags := 2, code := none }
def k2c1 : Code := { maxStack := 6, maxLocals := 6, code := prog_40_method_3_code, exceptionTable := #[], attributes := #[] }
def k2m1 : Method := { name := "times", desc := "(JJ)J", sig := { parameters := [.long, .long], returnType := some .long }, accessFlags := 8, code := some k2c1 }
/-- com/example/wireform/wireform/LeastSize -/
def k2 : Class := { plain "com/example/wireform/wireform/LeastSize" (some 0) with
  accessFlags := 48
  interfaces := #[]
  cf := some (fileOf pool2 3 #[] #[{ accessFlags := 2, nameIndex := 9, descriptorIndex := 10, attributes := #[] }, { accessFlags := 8, nameIndex := 24, descriptorIndex := 22, attributes := #[] }] 48 6 #[] #[{ accessFlags := 24, nameIndex := 15, descriptorIndex := 16, attributes := #[] }, { accessFlags := 24, nameIndex := 18, descriptorIndex := 16, attributes := #[] }])
  fields := #[{ name := "UNBOUNDED", type := .long, accessFlags := 24, slot := 0, constantValue := 0 }, { name := "MOST", type := .long, accessFlags := 24, slot := 1, constantValue := 0 }]
  methods := #[k2m0, k2m1]
  instanceTypes := #[]
  staticTypes := #[.long, .long]
  resolved := Array.replicate 27 none
  statics := none }

def pool3 : Array CpInfo := pool [(1, u "java/lang/Cloneable"), (0, .class_ 1), (0, u "java/lang/Object"), (0, .class_ 3)] 3

/-- java/lang/Cloneable -/
def k3 : Class := { plain "java/lang/Cloneable" (some 0) with
  accessFlags := 1537
  interfaces := #[]
  cf := some (fileOf pool3 2 #[] #[] 1537 4 #[] #[])
  fields := #[]
  methods := #[]
  instanceTypes := #[]
  staticTypes := #[]
  resolved := Array.replicate 8 none
  statics := none }

def pool4 : Array CpInfo := pool [(1, u "java/io/Serializable"), (0, .class_ 1), (0, u "java/lang/Object"), (0, .class_ 3)] 3

/-- java/io/Serializable -/
def k4 : Class := { plain "java/io/Serializable" (some 0) with
  accessFlags := 1537
  interfaces := #[]
  cf := some (fileOf pool4 2 #[] #[] 1537 4 #[] #[])
  fields := #[]
  methods := #[]
  instanceTypes := #[]
  staticTypes := #[]
  resolved := Array.replicate 8 none
  statics := none }

/-- the primitive byte -/
def k5 : Class := { plain "byte" none with kind := .primitive 'B', accessFlags := 0x411 }
/-- [B -/
def k6 : Class := { plain "[B" (some 0) with kind := .array 5 .byte, interfaces := #[3, 4], accessFlags := 1041 }

/-- the primitive int -/
def k7 : Class := { plain "int" none with kind := .primitive 'I', accessFlags := 0x411 }
/-- [I -/
def k8 : Class := { plain "[I" (some 0) with kind := .array 7 .int, interfaces := #[3, 4], accessFlags := 1041 }

def heap : Heap := #[]
def classes : Array Class := #[k0, k1, k2, k3, k4, k5, k6, k7, k8]
def interned : List (Array UInt16 × Addr) := []
def slotsUsed : Nat := 0
def theMethod : MethodId := ⟨1, 1⟩
def args0 : Array Value := #[.long 5, .long 5, .int 5]
def aboutOver (below : List Frame) : State where
  vm := { classes := classes, interned := interned.toArray }
  heap := heap
  slotsUsed := slotsUsed
  threads := #[{ frames := .invoking theMethod args0 :: below }]
def below0 : List Frame := [.native { method := ⟨0, 0⟩, args := #[] }]
def about1 : State := aboutOver below0
def p0 : Program := .bare "" "" ""
def e0 : Env := launch0.env 0 0 0
theorem w_frames : about1.frames = Frame.invoking theMethod args0 :: below0 := rfl
set_option maxRecDepth 65536 in
theorem w_args : argsFit about1.vm theMethod args0 = true := by decide +kernel
set_option maxRecDepth 65536 in
theorem w_heap : heapFits about1 = true := by decide +kernel
set_option maxRecDepth 65536 in
theorem w_runnable : about1.curStatus? = some .runnable := by decide +kernel
set_option maxRecDepth 65536 in
theorem w_alone : about1.alone = true := by decide +kernel
set_option maxRecDepth 65536 in
theorem w_named : about1.methodNamed? x = some theMethod := by decide +kernel
set_option maxRecDepth 65536 in
theorem w_hears : about1.hears theMethod below0 = true := by decide +kernel
set_option maxRecDepth 65536 in
theorem w_ripe : about1.ripe theMethod args0 below0 = true := by decide +kernel
theorem w_running : about1.status = .running := rfl
set_option maxRecDepth 65536 in
theorem w_room : about1.hasRoom e0.platform room_1 = true :=
  launch0.hasRoom_least _ room_1 (by decide +kernel) (by decide +kernel) (by decide +kernel) (by decide +kernel) (by decide +kernel) (by decide +kernel)
theorem allAtoms_all (ts : List Jvm.Cond) (a : Array Jvm.Value) (st : Jvm.State) : (allAtoms ts).before a st = ts.all (fun c => c.before a st) := by
  induction ts with
  | nil => rfl
  | cons c t ih =>
    show (Jvm.Cond.and c (allAtoms t)).before a st = _
    rw [Jvm.Cond.before_and, ih, List.all_cons]
def words1 : List Jvm.Cond := Jvm.Cond.code x code maxLocals ret :: tables_1
/-- a 'code' word, met by the world's own term for the bytes: nothing is compared byte by byte -/
theorem code_word {y : MethodName} {bytes : ByteArray} {mx : Nat} {rt : Option FieldType} {a : Array Value} {s : State} {m : MethodId} {meth : Method} {c : Code} (h1 : s.methodNamed? y = some m) (h2 : s.vm.method? m = some meth) (h3 : meth.code = some c) (h4 : c.code = bytes)
    (h5 : (c.maxLocals == mx && c.exceptionTable.isEmpty && decide (c.maxStack ≤ mostOperands) && decide (meth.sig.returnType = rt) && !meth.locks && decide (parseMethodDescriptor y.desc = some meth.sig)) = true) : (Jvm.Cond.code y bytes mx rt).before a s = true := by
  simp only [Bool.and_eq_true, beq_iff_eq, Bool.not_eq_true', decide_eq_true_eq] at h5
  obtain ⟨⟨⟨⟨⟨g1, g2⟩, g3⟩, g4⟩, g5⟩, g6⟩ := h5
  simp [Cond.before, Cond.holds, Cond.value, h1, h2, h3, h4, g1, g2, g3, g4, g5, g6]
def isCode : Jvm.Cond → Bool
  | .code _ _ _ _ => true
  | _ => false
theorem all_split {L : List Jvm.Cond} {P : Jvm.Cond → Bool} (h1 : L.all (fun c => isCode c || P c) = true) (h2 : ∀ c ∈ L.filter isCode, P c = true) : L.all P = true := by
  refine List.all_eq_true.mpr fun c hc => ?_
  have h := List.all_eq_true.mp h1 c hc
  rcases Bool.eq_false_or_eq_true (isCode c) with hi | hi
  · exact h2 c (List.mem_filter.mpr ⟨hc, hi⟩)
  · simpa [hi] using h
set_option maxRecDepth 65536 in
theorem w_c0 : (Jvm.Cond.code x code maxLocals ret).before args0 about1 = true := code_word (m := ⟨1, 1⟩) (meth := k1m1) (c := k1c1) (by decide +kernel) rfl rfl rfl (by decide +kernel)
set_option maxRecDepth 65536 in
theorem w_c1 : (Jvm.Cond.code ({ cls := "com/example/wireform/wireform/LeastSize", name := "times", desc := "(JJ)J" } : Jvm.MethodName) prog_40_method_3_code (6 : Nat) (Option.some Jvm.ClassFile.FieldType.long)).before args0 about1 = true := code_word (m := ⟨2, 1⟩) (meth := k2m1) (c := k2c1) (by decide +kernel) rfl rfl rfl (by decide +kernel)
def codes1 : List Jvm.Cond := [Jvm.Cond.code x code maxLocals ret, Jvm.Cond.code ({ cls := "com/example/wireform/wireform/LeastSize", name := "times", desc := "(JJ)J" } : Jvm.MethodName) prog_40_method_3_code (6 : Nat) (Option.some Jvm.ClassFile.FieldType.long)]
set_option maxRecDepth 65536 in
theorem codes_eq : words1.filter isCode = codes1 := rfl
theorem w_codes : ∀ c ∈ words1.filter isCode, c.before args0 about1 = true := by
  rw [codes_eq]
  intro c hc
  simp only [codes1, List.mem_cons, List.not_mem_nil, or_false] at hc
  rcases hc with rfl | rfl
  · exact w_c0
  · exact w_c1
set_option maxRecDepth 65536 in
theorem w_t1 : words1.all (fun c => isCode c || c.before args0 about1) = true := by decide +kernel
theorem w_tables : (allAtoms (Jvm.Cond.code x code maxLocals ret :: tables_1)).before args0 about1 = true := by
  rw [allAtoms_all]
  show words1.all (fun c => c.before args0 about1) = true
  refine all_split ?_ w_codes
  rw [w_t1]
set_option maxRecDepth 65536 in
theorem w_case : (Jvm.Cond.and given_1 narrow_1).before args0 about1 = true := by decide +kernel
theorem w_applies : (headSpec (Jvm.Cond.code x code maxLocals ret :: tables_1) room_1).applies x e0.platform about1 = true :=
  (Spec.applies_iff w_frames).mpr ⟨w_running, w_runnable, w_alone, w_named, w_hears, w_ripe, w_room, w_tables⟩
theorem atStart : AtStart classFile x code maxLocals ret World_1 tables_1 room_1 Calls_1 rest_1 Pre_1 launch0 p0 e0 about1 theMethod args0 below0 :=
  ⟨lists_1, trivial, launch0.admits_env _ _ _, launch0.least_env, fairChoices_fair.cas, fairChoices_fair.clock, w_frames, w_args, w_heap, w_applies, trivial, trivial, w_case⟩
end start1
theorem witness_1 : WitnessClaimed_1 := ⟨start1.p0, start1.e0, start1.about1, start1.theMethod, start1.args0, start1.below0, start1.atStart⟩
end Jvm.Pilot.@@N@@
